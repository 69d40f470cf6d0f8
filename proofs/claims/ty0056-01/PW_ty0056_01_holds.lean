import PyProof.Rows.All
import Wide.All
import OpenK.AllK
import Wide.FinOn
import PySem.Sre
import PySem.Builtin.Re_Pattern.W2All
import PySem.Challenge.RW_ty0056_01
set_option Elab.async false
set_option compiler.extract_closed false
set_option linter.unusedVariables false
set_option linter.unusedSimpArgs false
section
open PySem PySem.W PyProof.Rows
set_option maxRecDepth 100000
set_option maxHeartbeats 8000000
namespace Mine
/-- the row's program without the statements that its view leaves out -/
noncomputable abbrev hdPick {a0 a1 a2 a3 a4 a5 a6 a7 a8 a9 a10 a11 a12 a13 a14 a15 a16 a17 a18 a19 a20 a21 a22 a23 a24 a25 a26 a27 a28 a29 a30 a31 : Stmt} (_ : PySem.Challenge.pw_ty0056_01.main.body = [a0, a1, a2, a3, a4, a5, a6, a7, a8, a9, a10, a11, a12, a13, a14, a15, a16, a17, a18, a19, a20, a21, a22, a23, a24, a25, a26, a27, a28, a29, a30, a31]) : Program := { PySem.Challenge.pw_ty0056_01 with main := { PySem.Challenge.pw_ty0056_01.main with body := [a0, a1, a3, a4, a5, a7, a9, a10, a11, a12, a13, a14, a15, a16, a18, a19, a20, a21, a23, a24, a25, a26, a27, a28, a29, a30, a31] } }
noncomputable def hdView : Program := hdPick (rfl : PySem.Challenge.pw_ty0056_01.main.body = [_, _, _, _, _, _, _, _, _, _, _, _, _, _, _, _, _, _, _, _, _, _, _, _, _, _, _, _, _, _, _, _])
abbrev hdLoose : List Str := [Str.ofString "tspecials", Str.ofString "_name_disallowed_re", Str.ofString "_value_disallowed_re", Str.ofString "_formatparam", Str.ofString "ONE_THIRD", Str.ofString "ONE_SIXTH", Str.ofString "TWO_THIRD"]
abbrev hdLv : List (Str × WData) := [(Str.ofString "ONE_THIRD", WData.float 4599676419421066581), (Str.ofString "ONE_SIXTH", WData.float 4595172819793696085), (Str.ofString "TWO_THIRD", WData.float 4604180019048437077)]
local macro_rules | `(tactic| o_law) => `(tactic| refine holds_law (by decide +kernel) fun said => ?_)
local macro_rules | `(tactic| o_head $H) => do
  let (hl, hw, hc) := (Lean.mkIdent `hl, Lean.mkIdent `hw, Lean.mkIdent `hc)
  `(tactic| (refine holds_open (q := hdView) (loose := hdLoose) (Xt := fun s => xlAt hdView hdLv s && recOk (RowW.records (PySem.Challenge.rw_ty0056_01.row.toRowW)) s) (XP := XL hdView hdLv) (Yf := Hook.obs $H) (Ya := Hook.val $H) (YP := Hook.says $H) (N := 3492) ?$hl (Hook.of $H) (Hook.keeps $H) (fun s e => xl_of s (Bool.and_eq_true_iff.mp e).1) XL.keeps (by rfl) (by rfl) (by rfl) (fun s e => recFacts_of (Bool.and_eq_true_iff.mp e).2) (by rfl) (by first | assumption | decide +kernel) (by decide +kernel) ⟨rfl, rfl, rfl, rfl, rfl, by decide +kernel⟩ ?$hw ?$hc
             (case _ => (intro w; kernel_rfl!))))
open_top hd for PySem.Challenge.rw_ty0056_01
end Mine
end
local macro_rules | `(tactic| walk_at $s:str) => `(tactic| k_extra $s)
local macro_rules | `(tactic| k_all) => `(tactic| k_extra "k_all")
local macro_rules | `(tactic| k_mem) => `(tactic| k_extra "k_mem")
local macro_rules | `(tactic| k_ne) => `(tactic| k_extra "k_ne")
section
open PySem PySem.W PyProof.Rows PySem.Calls
set_option maxRecDepth 100000
namespace Mine
/-- every sign c of a text replaced by the text z -/
noncomputable def repl (c : Nat) (z : Str) (x : Str) : Str := ⟨(x.cps.toList.flatMap fun a => if a = c then z.cps.toList else [a]).toArray⟩

theorem flat_free (c : Nat) (z : List Nat) : ∀ l : List Nat, c ∉ l → (l.flatMap fun a => if a = c then z else [a]) = l
  | [], _ => rfl
  | a :: r, h => by
    have h1 : a ≠ c := fun e => h (e ▸ List.mem_cons_self)
    have h2 : c ∉ r := fun e => h (List.mem_cons_of_mem _ e)
    rw [List.flatMap_cons, flat_free c z r h2, if_neg h1]; rfl

theorem joinL (sep : Str) : ∀ (rest : List Str) (acc : Array Nat), (rest.foldl (fun acc p => acc ++ sep.cps ++ p.cps) acc).toList = acc.toList ++ rest.flatMap fun p => sep.cps.toList ++ p.cps.toList
  | [], acc => by simp
  | p :: r, acc => by
    rw [List.foldl_cons, joinL sep r, List.flatMap_cons]
    simp [List.append_assoc]

theorem glued_toList (sep : Str) (p : Str) (r : List Str) : (Builtin.Str.glued sep (p :: r)).cps.toList = p.cps.toList ++ r.flatMap fun q => sep.cps.toList ++ q.cps.toList := by
  show (r.foldl (fun acc p => acc ++ sep.cps ++ p.cps) p.cps).toList = _
  rw [joinL]

theorem flat_join (c : Nat) (z : Str) : ∀ (r : List Str), (∀ p ∈ r, c ∉ p.cps.toList) →
    ((r.flatMap fun q => (⟨#[c]⟩ : Str).cps.toList ++ q.cps.toList).flatMap fun a => if a = c then z.cps.toList else [a]) = r.flatMap fun q => z.cps.toList ++ q.cps.toList
  | [], _ => rfl
  | p :: r, h => by
    have h1 := h p List.mem_cons_self
    have ih := flat_join c z r fun q hq => h q (List.mem_cons_of_mem _ hq)
    rw [List.flatMap_cons, List.flatMap_append, ih, List.flatMap_cons, List.flatMap_append, flat_free c _ _ h1]
    congr 1
    simp

theorem replace_repl (x z : Str) (c : Nat) : Txt.replace x ⟨#[c]⟩ z = repl c z x := by
  rw [StrLaws.replace_one]
  have hj := StrLaws.join_split x ⟨#[c]⟩
  have hf := StrLaws.split_free x c
  apply Str.ext'
  apply Array.ext'
  show _ = (x.cps.toList.flatMap fun a => if a = c then z.cps.toList else [a])
  cases hs : Txt.split x ⟨#[c]⟩ with
  | nil =>
    rw [hs] at hj
    rw [← hj]
    rfl
  | cons p r =>
    rw [hs] at hj hf
    have hx : x.cps.toList = p.cps.toList ++ r.flatMap fun q => (⟨#[c]⟩ : Str).cps.toList ++ q.cps.toList := by
      conv => lhs; rw [← hj]
      rw [← StrLaws.glued_eq_join, glued_toList]
    rw [hx, List.flatMap_append, flat_join c z r fun q hq => hf q (List.mem_cons_of_mem _ hq), flat_free c _ _ (hf p List.mem_cons_self)]
    rw [← StrLaws.glued_eq_join, glued_toList]
end Mine
end
section
open PySem PySem.W PyProof.Rows PySem.Calls
set_option maxRecDepth 100000
namespace Mine
noncomputable def Stop (P : Prop) : Prop := P
theorem Stop.mk {P : Prop} (h : Stop P) : P := h
/-- the inner loop of the reader: amp; after an ampersand -/
noncomputable def ampS : Nat → Str → Str → Int → Option (Str × Int)
  | 0, _, _, _ => none
  | k + 1, sg, t, n => if (sg == Str.ofString "&") = true then (if (Txt.slice t none (some 4) == Str.ofString "amp;") = true then ampS k sg (Txt.slice t (some 4) none) (n + 1) else some (t, n)) else some (t, n)
noncomputable def finS (sg t : Str) (n : Int) : Str × Str × Int :=
  if (sg == Str.ofString "&") = true then
    (if (Txt.slice t none (some 3) == Str.ofString "lt;") = true then (Str.ofString "<", Txt.slice t (some 3) none, n + 1)
     else if (Txt.slice t none (some 3) == Str.ofString "gt;") = true then (Str.ofString ">", Txt.slice t (some 3) none, n + 1)
     else (sg, t, n))
  else (sg, t, n)
noncomputable def readS : Nat → Str → Option (List (Str × Int))
  | 0, _ => none
  | k + 1, x => if (x != Str.ofString "") = true then
      (match ampS k (Txt.item x 0) (Txt.slice x (some 1) none) 0 with
        | none => none
        | some (t, n) => (readS k (finS (Txt.item x 0) t n).2.1).map (((finS (Txt.item x 0) t n).1, (finS (Txt.item x 0) t n).2.2) :: ·))
      else some []
noncomputable def rowDat (r : List (Str × Int)) : List Dat := r.map fun p => .tuple [.str p.1, .int p.2]
end Mine
end
section
open PySem PySem.W PyProof.Rows PySem.Calls PySem.Flt
set_option maxRecDepth 100000
namespace Mine
noncomputable def fLt (x y : UInt64) : Bool := Float64.cmp x y == some .lt
/-- max and min of three floats, as CPython's loop picks them -/
noncomputable def max3 (a b c : UInt64) : UInt64 := if fLt a b = true then (if fLt b c = true then c else b) else (if fLt a c = true then c else a)
noncomputable def min3 (a b c : UInt64) : UInt64 := if fLt b a = true then (if fLt c b = true then c else b) else (if fLt c a = true then c else a)
section
variable {prog : Program} {w : World} {A : Around} {E : Value → Shared → Prop} {s : Shared} {Q : Value → Shared → Prop} {a b c : UInt64} {t u x : Tok} {h₀ : Heap} {L : Addr} {m : Str → Option Value} {news : List (Addr × Obj)}
theorem max_three_f (hh : A.handled = none) (F : Fr h₀ L s.heap m) (N : News h₀ L s.heap news)
    (h : ∀ h' tk v, Fr h₀ L h' m → News h₀ L h' news → Q (.float (max3 a b c) v) { s with heap := h', toks := tk }) :
    wpAny (model prog w) A (call (.builtin "max") [.float a t, .float b u, .float c x]) Q E s := by
  have hT : (s.heap.push { cls := .type "tuple", data := .seq #[.float a t, .float b u, .float c x] }).IsTuple s.heap.objs.size #[.float a t, .float b u, .float c x] := ⟨_, Heap.get?_push_size _ rfl, rfl, 0, rfl⟩
  refine call_max_three (wpAny_pyIter_tuple hT ?_)
  have hsz : (s.heap.push { cls := .type "tuple", data := .seq #[.float a t, .float b u, .float c x] }).objs.size = s.heap.objs.size + 1 := Heap.size_push ..
  refine ⟨_, [_, s.heap.objs.size], [_], _, _, _, _, rfl, Walks.tuple (A := A.in1) hh _ s.heap.objs.size (by rw [hsz]; exact Nat.ne_of_lt (Nat.lt_succ_self _)) #[.float a t, .float b u, .float c x],
    ⟨⟨_, Heap.get?_push_size _ rfl, rfl, rfl⟩, hT.push _⟩, fun d hd => ?_, by simp, cmpOf_gt #[.float a t, .float b u, .float c x] (by intro v hv; simp at hv; rcases hv with rfl | rfl | rfl <;> exact .float _ _), fun v h' tk hP hk => ?_⟩
  · show d < ((s.heap.push _).push _).objs.size
    rw [Heap.size_push, hsz]
    rcases List.mem_cons.mp hd with rfl | hd
    · rw [hsz]; exact Nat.lt_succ_self _
    · rcases List.mem_cons.mp hd with rfl | hd
      · exact Nat.lt_succ_of_lt (Nat.lt_succ_self _)
      · cases hd
  · have hold : ∀ d o, s.heap.get? d = some o → h'.get? d = some o := fun d o e => by
      refine hk d o (fun hm => ?_) (Heap.get?_push_of_some _ (Heap.get?_push_of_some _ e))
      rcases List.mem_cons.mp hm with e1 | hm
      · have := Heap.lt_size e; rw [e1, hsz] at this; exact Nat.lt_irrefl _ (Nat.lt_of_succ_lt this)
      · cases hm
    have hv : ∃ k, v = .float (max3 a b c) k := by
      unfold max3 fLt
      cases h1 : (Float64.cmp a b == some .lt) <;> cases h2 : (Float64.cmp b c == some .lt) <;> cases h3 : (Float64.cmp a c == some .lt) <;>
        (simp [argBest, ltV, h1, h2, h3] at hP; exact ⟨_, hP.symm⟩)
    obtain ⟨k, rfl⟩ := hv
    exact h h' tk k (F.grownK hold) (N.grown hold)
theorem min_three_f (hh : A.handled = none) (F : Fr h₀ L s.heap m) (N : News h₀ L s.heap news)
    (h : ∀ h' tk v, Fr h₀ L h' m → News h₀ L h' news → Q (.float (min3 a b c) v) { s with heap := h', toks := tk }) :
    wpAny (model prog w) A (call (.builtin "min") [.float a t, .float b u, .float c x]) Q E s := by
  have hT : (s.heap.push { cls := .type "tuple", data := .seq #[.float a t, .float b u, .float c x] }).IsTuple s.heap.objs.size #[.float a t, .float b u, .float c x] := ⟨_, Heap.get?_push_size _ rfl, rfl, 0, rfl⟩
  refine call_min_three (wpAny_pyIter_tuple hT ?_)
  have hsz : (s.heap.push { cls := .type "tuple", data := .seq #[.float a t, .float b u, .float c x] }).objs.size = s.heap.objs.size + 1 := Heap.size_push ..
  refine ⟨_, [_, s.heap.objs.size], [_], _, _, _, _, rfl, Walks.tuple (A := A.in1) hh _ s.heap.objs.size (by rw [hsz]; exact Nat.ne_of_lt (Nat.lt_succ_self _)) #[.float a t, .float b u, .float c x],
    ⟨⟨_, Heap.get?_push_size _ rfl, rfl, rfl⟩, hT.push _⟩, fun d hd => ?_, by simp, cmpOf_lt #[.float a t, .float b u, .float c x] (by intro v hv; simp at hv; rcases hv with rfl | rfl | rfl <;> exact .float _ _), fun v h' tk hP hk => ?_⟩
  · show d < ((s.heap.push _).push _).objs.size
    rw [Heap.size_push, hsz]
    rcases List.mem_cons.mp hd with rfl | hd
    · rw [hsz]; exact Nat.lt_succ_self _
    · rcases List.mem_cons.mp hd with rfl | hd
      · exact Nat.lt_succ_of_lt (Nat.lt_succ_self _)
      · cases hd
  · have hold : ∀ d o, s.heap.get? d = some o → h'.get? d = some o := fun d o e => by
      refine hk d o (fun hm => ?_) (Heap.get?_push_of_some _ (Heap.get?_push_of_some _ e))
      rcases List.mem_cons.mp hm with e1 | hm
      · have := Heap.lt_size e; rw [e1, hsz] at this; exact Nat.lt_irrefl _ (Nat.lt_of_succ_lt this)
      · cases hm
    have hv : ∃ k, v = .float (min3 a b c) k := by
      unfold min3 fLt
      cases h1 : (Float64.cmp b a == some .lt) <;> cases h2 : (Float64.cmp c b == some .lt) <;> cases h3 : (Float64.cmp c a == some .lt) <;>
        (simp [argBest, ltV, h1, h2, h3] at hP; exact ⟨_, hP.symm⟩)
    obtain ⟨k, rfl⟩ := hv
    exact h h' tk k (F.grownK hold) (N.grown hold)
end
end Mine
end
section
open PySem PySem.W PyProof.Rows PySem.Calls PySem.Flt
set_option maxRecDepth 100000
namespace Mine
noncomputable def fEq (x y : UInt64) : Bool := Float64.cmp x y == some .eq
noncomputable def divO (a b : UInt64) : Option UInt64 := if Float64.isZero b = true then none else some (Float64.div a b)
/-- colorsys, as CPython's floats reckon it; none where it raises -/
noncomputable def vF (m1 m2 hue : UInt64) : UInt64 :=
  if (Float64.cmp (Float64.divmod hue 4607182418800017408).snd 4595172819793696085 == some Ordering.lt) = true then
    Float64.add m1 (Float64.mul (Float64.mul (Float64.sub m2 m1) (Float64.divmod hue 4607182418800017408).snd) 4618441417868443648)
  else if (Float64.cmp (Float64.divmod hue 4607182418800017408).snd 4602678819172646912 == some Ordering.lt) = true then m2
  else if (Float64.cmp (Float64.divmod hue 4607182418800017408).snd 4604180019048437077 == some Ordering.lt) = true then
    Float64.add m1 (Float64.mul (Float64.mul (Float64.sub m2 m1) (Float64.sub 4604180019048437077 (Float64.divmod hue 4607182418800017408).snd)) 4618441417868443648)
  else m1
noncomputable def hlsRgbF (h l s : UInt64) : UInt64 × UInt64 × UInt64 :=
  if (Float64.cmp s 0 == some Ordering.eq) = true then (l, l, l)
  else if (Float64.cmp l 4602678819172646912 == some Ordering.lt || Float64.cmp l 4602678819172646912 == some Ordering.eq) = true then
    (let m2 := Float64.mul l (Float64.add 4607182418800017408 s)
     let m1 := Float64.sub (Float64.mul 4611686018427387904 l) m2
     (vF m1 m2 (Float64.add h 4599676419421066581), vF m1 m2 h, vF m1 m2 (Float64.sub h 4599676419421066581)))
  else
    (let m2 := Float64.sub (Float64.add l s) (Float64.mul l s)
     let m1 := Float64.sub (Float64.mul 4611686018427387904 l) m2
     (vF m1 m2 (Float64.add h 4599676419421066581), vF m1 m2 h, vF m1 m2 (Float64.sub h 4599676419421066581)))
noncomputable def hueOf (x y _z mx rc gc bc : UInt64) : UInt64 :=
  if (Float64.cmp x mx == some Ordering.eq) = true then (Float64.divmod (Float64.div (Float64.sub bc gc) 4618441417868443648) 4607182418800017408).snd
  else if (Float64.cmp y mx == some Ordering.eq) = true then (Float64.divmod (Float64.div (Float64.sub (Float64.add 4611686018427387904 rc) bc) 4618441417868443648) 4607182418800017408).snd
  else (Float64.divmod (Float64.div (Float64.sub (Float64.add 4616189618054758400 gc) rc) 4618441417868443648) 4607182418800017408).snd
noncomputable def rgbHlsF (x y z : UInt64) : Option (UInt64 × UInt64 × UInt64) :=
  let mx := max3 x y z
  let mn := min3 x y z
  let l := Float64.div (Float64.add mx mn) 4611686018427387904
  if (Float64.cmp mn mx == some Ordering.eq) = true then some (0, l, 0)
  else if Float64.isZero (Float64.sub mx mn) = true then none
  else
    let h := hueOf x y z mx (Float64.div (Float64.sub mx x) (Float64.sub mx mn)) (Float64.div (Float64.sub mx y) (Float64.sub mx mn)) (Float64.div (Float64.sub mx z) (Float64.sub mx mn))
    if (Float64.cmp l 4602678819172646912 == some Ordering.lt || Float64.cmp l 4602678819172646912 == some Ordering.eq) = true then
      (if Float64.isZero (Float64.add mx mn) = true then none else some (h, l, Float64.div (Float64.sub mx mn) (Float64.add mx mn)))
    else (if Float64.isZero (Float64.sub (Float64.sub 4611686018427387904 mx) mn) = true then none else some (h, l, Float64.div (Float64.sub mx mn) (Float64.sub (Float64.sub 4611686018427387904 mx) mn)))
noncomputable def rgbHsvF (x y z : UInt64) : Option (UInt64 × UInt64 × UInt64) :=
  let mx := max3 x y z
  let mn := min3 x y z
  if (Float64.cmp mn mx == some Ordering.eq) = true then some (0, 0, mx)
  else if Float64.isZero (Float64.sub mx mn) = true then none
  else if Float64.isZero mx = true then none
  else
    some (hueOf x y z mx (Float64.div (Float64.sub mx x) (Float64.sub mx mn)) (Float64.div (Float64.sub mx y) (Float64.sub mx mn)) (Float64.div (Float64.sub mx z) (Float64.sub mx mn)), Float64.div (Float64.sub mx mn) mx, mx)
end Mine
namespace Mine
open PySem PySem.Flt
noncomputable def hsvRgbF (h s v : UInt64) : UInt64 × UInt64 × UInt64 :=
  if (Float64.cmp s 0 == some Ordering.eq) = true then (v, v, v)
  else
    let k := Float64.mul h 4618441417868443648
    let i := Flt.toInt Float64.truncOf k
    let f := Float64.sub k (Float64.ofInt i)
    let p := Float64.mul v (Float64.sub 4607182418800017408 s)
    let q := Float64.mul v (Float64.sub 4607182418800017408 (Float64.mul s f))
    let t := Float64.mul v (Float64.sub 4607182418800017408 (Float64.mul s (Float64.sub 4607182418800017408 f)))
    if i.fmod 6 = 0 then (v, t, p) else if i.fmod 6 = 1 then (q, v, p) else if i.fmod 6 = 2 then (p, v, t) else if i.fmod 6 = 3 then (p, q, v) else if i.fmod 6 = 4 then (t, p, v) else if i.fmod 6 = 5 then (v, p, q) else (0, 0, 0)
/-- the hue times six is a number of a small whole part -/
noncomputable def hsvOk (h : UInt64) : Bool := !(Float64.isNaN (Float64.mul h 4618441417868443648)) && !(Float64.isInf (Float64.mul h 4618441417868443648)) && decide ((Flt.toInt Float64.truncOf (Float64.mul h 4618441417868443648)).natAbs < 1000)
theorem big_no {n : Nat} (h : 2 ^ 1024 - 2 ^ 970 ≤ n) (h2 : n < 1000) : False := absurd (Nat.lt_of_le_of_lt h h2) (by decide +kernel)
theorem fmod6 (i : Int) (h0 : i.fmod 6 ≠ 0) (h1 : i.fmod 6 ≠ 1) (h2 : i.fmod 6 ≠ 2) (h3 : i.fmod 6 ≠ 3) (h4 : i.fmod 6 ≠ 4) (h5 : i.fmod 6 ≠ 5) : False := by
  have a := Int.fmod_nonneg_of_pos i (b := 6) (by decide)
  have b := Int.fmod_lt_of_pos i (b := 6) (by decide)
  omega
end Mine
end
section
open PySem PySem.W PyProof.Rows PySem.Calls PySem.Sre
set_option maxRecDepth 100000
namespace Mine
noncomputable def nameCode : Array Nat := #[14, 10, 4, 1, 1, 22, 0, 31, 16, 127, 0, 13, 7, 22, 0, 31, 16, 127, 0, 1]
noncomputable def valCode : Array Nat := #[14, 14, 4, 1, 1, 9, 4294966783, 0, 0, 2147483648, 0, 0, 0, 0, 0, 13, 11, 9, 4294966783, 0, 0, 2147483648, 0, 0, 0, 0, 0, 1]
noncomputable def OkC (c : Nat) : Prop := 32 ≤ c ∧ c < 127
noncomputable def OkT (x : Str) : Prop := ∀ c ∈ x.cps.toList, OkC c
theorem name_two : nameCode.getD 2 0 = 4 := rfl
theorem val_two : valCode.getD 2 0 = 4 := rfl
theorem name_info : ops[nameCode.getD 0 0]? = some .INFO := rfl
theorem val_info : ops[valCode.getD 0 0]? = some .INFO := rfl
/-- a set that takes none of the plain signs -/
noncomputable def Shuts (code : Array Nat) : Prop := ∀ c, OkC c → ∀ seen, ∃ seen', inSet code c code.size 5 true seen = .ok (false, seen')
theorem name_shuts : Shuts nameCode := by
  rintro c ⟨h1, h2⟩ seen
  refine ⟨((seen.add 22).add 16).add 0, ?_⟩
  show inSet nameCode c 20 5 true seen = _
  unfold inSet
  show (if (0 ≤ c && c ≤ 31) = true then _ else inSet nameCode c 19 8 true (seen.add 22)) = _
  rw [if_neg (by simp; omega)]
  unfold inSet
  show (if (c == 127) = true then _ else inSet nameCode c 18 10 true ((seen.add 22).add 16)) = _
  rw [if_neg (by simp; omega)]
  unfold inSet
  rfl
theorem val_bits : ∀ c < 127, 32 ≤ c → (valCode.getD (5 + (1 + c / 32)) 0).testBit (c % 32) = false := by decide +kernel
theorem val_shuts : Shuts valCode := by
  rintro c ⟨h1, h2⟩ seen
  refine ⟨(seen.add 9).add 0, ?_⟩
  show inSet valCode c 28 5 true seen = _
  unfold inSet
  show (if (c < 256 && (valCode.getD (5 + (1 + c / 32)) 0).testBit (c % 32)) = true then _ else inSet valCode c 27 14 true (seen.add 9)) = _
  rw [if_neg (by rw [val_bits c h2 h1]; simp)]
  unfold inSet
  rfl
theorem admitted_none {m : M} (hc : Shuts m.code) (ht : ∀ i, i < m.lim → OkC (m.text.getD i 0)) : ∀ fuel s seen, ∃ seen', m.admitted fuel s seen = .ok (none, seen')
  | 0, s, seen => ⟨seen, rfl⟩
  | fuel + 1, s, seen => by
    unfold M.admitted
    by_cases h : s ≥ m.lim
    · exact ⟨seen, by rw [if_pos h]⟩
    · rw [if_neg h]
      obtain ⟨s', e⟩ := hc _ (ht s (by omega)) seen
      rw [e]
      exact admitted_none hc ht fuel (s + 1) s'
theorem attempt_no {code text : Array Nat} (hc : Shuts code) (h4 : code.getD 2 0 = 4) (h0 : ops[code.getD 0 0]? = some .INFO) (ht : ∀ i, i < text.size → OkC (text.getD i 0)) (m : M) (e1 : m.code = code) (e2 : m.text = text) (e3 : m.lim = text.size) (e4 : m.frames = []) (e5 : m.outcome = none) :
    (m.attemptFrom 0 true).answer = some false ∧ (m.attemptFrom 0 true).frames = [] ∧ (m.attemptFrom 0 true).outcome = none := by
  unfold M.attemptFrom
  have hf : m.hasFirstSet = true := by
    unfold M.hasFirstSet
    rw [e1, h0, h4]; rfl
  rw [hf]
  obtain ⟨s', e⟩ := admitted_none (m := m) (by rw [e1]; exact hc) (by rw [e2, e3]; exact ht) (m.lim + 1 - 0) 0 m.seen
  simp only [Bool.not_true, Bool.false_eq_true, if_false]
  rw [e]
  exact ⟨rfl, e4, e5⟩
/-- the search's machine before its first turn: it has said no -/
theorem search_says {code text : Array Nat} (hc : Shuts code) (h4 : code.getD 2 0 = 4) (h0 : ops[code.getD 0 0]? = some .INFO) (ht : ∀ i, i < text.size → OkC (text.getD i 0)) :
    (forSearch code text 0 0 text.size false).answer = some false ∧ (forSearch code text 0 0 text.size false).frames = [] ∧ (forSearch code text 0 0 text.size false).outcome = none := by
  unfold forSearch
  dsimp only
  split
  · exact ⟨rfl, rfl, rfl⟩
  · exact attempt_no hc h4 h0 ht _ rfl rfl rfl rfl rfl
theorem says_no {m : M} (h1 : m.answer = some false) (h2 : m.frames = []) (h3 : m.outcome = none) : (m.runFor 4).outcome = some .failed := by
  unfold M.runFor
  rw [h3]
  have hs : m.step.outcome = some .failed := by
    unfold M.step
    rw [h3, h1, h2]; rfl
  simp only [Option.isSome_none, Bool.false_eq_true, if_false]
  unfold M.runFor
  rw [hs]
  simp only [Option.isSome_some, if_true]
  exact hs
section
variable {M' : Model} {A : Around} {E : Value → Shared → Prop} {s : Shared}
theorem drive_no {m : M} {Q : M → Shared → Prop} (h1 : m.answer = some false) (h2 : m.frames = []) (h3 : m.outcome = none) (h : Q (m.runFor 4) s) : wpAny M' A (Builtin.Re.reDrive (2 ^ 64) m) Q E s := by
  have e : (2 ^ 64 : Nat) = (2 ^ 64 - 1) + 1 := by decide
  rw [e]
  unfold Builtin.Re.reDrive
  show wpAny M' A (if (m.runFor Builtin.Re.reTurnSteps).outcome.isSome = true then _ else _) Q E s
  rw [if_pos (by show (m.runFor 4).outcome.isSome = true; rw [says_no h1 h2 h3]; rfl)]
  exact wpAny_pure h
theorem forIn_still {α : Type} {f : α → PUnit → Sem (ForInStep PUnit)} {Q : PUnit → Shared → Prop} (hf : ∀ a, wpAny M' A (f a ⟨⟩) (fun r s' => r = .yield ⟨⟩ ∧ s' = s) E s) (l : List α) (h : Q ⟨⟩ s) : wpAny M' A (forIn l PUnit.unit f) Q E s := by
  induction l with
  | nil =>
    rw [List.forIn_nil]
    exact wpAny_pure h
  | cons a l ih =>
    rw [List.forIn_cons]
    refine wpAny_bind (wpAny_mono (hf a) (fun r s' e => ?_) fun _ _ e => e)
    obtain ⟨rfl, rfl⟩ := e
    exact ih
theorem run_no {m : M} {Q : Option M → Shared → Prop} (h1 : m.answer = some false) (h2 : m.frames = []) (h3 : m.outcome = none) (h : Q none s) : wpAny M' A (Builtin.Re.reRunToEnd m) Q E s := by
  unfold Builtin.Re.reRunToEnd
  refine wpAny_bind (drive_no h1 h2 h3 ?_)
  refine wpAny_bind (forIn_still (fun i => ?_) _ ?_)
  · by_cases hi : (m.runFor 4).seen.has i = true
    · simp only [hi, if_true]
      exact wpAny_bind (wpAny_rule (wpAny_pure ⟨rfl, rfl⟩))
    · simp only [hi, if_false]
      exact wpAny_bind (wpAny_pure (wpAny_pure ⟨rfl, rfl⟩))
  · rw [says_no h1 h2 h3]
    exact wpAny_pure h
theorem slot_pat_search : Slot "re.Pattern" "search" "re.Pattern.search" :=
  .of (owner := "re.Pattern") (n := "search") (by rw [typeLookup_type, builtinLookup_eq_fast]; kernel_rfl) (by decide +kernel) (by decide +kernel) (by decide +kernel)
    (by first | exact .inl (by decide +kernel) | exact .inr (by decide +kernel)) (by rw [isSubtype_type]; kernel_rfl)
theorem entry_pat_search : entryFor table "re.Pattern.search" = some Builtin.«re.Pattern.search» := entryFor_of_fast (by kernel_rfl)
theorem args_pat_search (a b : Value) : argsOk "re.Pattern.search" ⟨[a, b], []⟩ := by unfold argsOk; kernel_rfl
theorem pat_getattribute : typeLookup (.type "re.Pattern") "__getattribute__" = pure (some (.builtin "object.__getattribute__")) := by rw [typeLookup_type, builtinLookup_eq_fast]; kernel_rfl
theorem canon_object_ga : (Manifest.canonical "object.__getattribute__" != "object.__getattribute__") = false := by decide +kernel
theorem pat_getattr_none : typeLookup (.type "re.Pattern") "__getattr__" = pure none := by rw [typeLookup_type, builtinLookup_eq_fast]; kernel_rfl
theorem type_pat_search : typeOf (.builtin "re.Pattern.search") = pure (.type "method_descriptor") := by show builtinType _ = _; rw [builtinType_eq_fast]; kernel_rfl
theorem getMethod_search {P : Addr} {o : Obj} {pl : Sem Bool} {Q : Value × List Value → Shared → Prop} (ho : s.heap.get? P = some o) (hc : o.cls = .type "re.Pattern") (hd : o.dict = none)
    (h : Q (.builtin "re.Pattern.search", [.ref P]) s) : wpAny M' A (getMethod (.ref P) "search" pl) Q E s := by
  have hT : s.TypeIs (.ref P) "re.Pattern" := ⟨o, ho, hc⟩
  unfold getMethod
  refine wpAny_bind (wpAny_specialOf hT pat_getattribute ?_)
  show wpAny M' A (if (Manifest.canonical "object.__getattribute__" != "object.__getattribute__") = true then _ else _) Q E s
  rw [canon_object_ga, if_neg Bool.false_ne_true]
  refine wpAny_bind (wpAny_specialOf hT pat_getattr_none ?_)
  refine wpAny_bind (wpAny_specialOf hT slot_pat_search.lookup ?_)
  refine wpAny_bind (wpAny_of_eq type_pat_search ?_)
  refine wpAny_bind (wpAny_loadPart ho ?_)
  rw [hd]
  exact wpAny_bind (wpAny_rule (wpAny_pure h))
end
section
variable {prog : Program} {w : World} {A : Around} {E : Value → Shared → Prop} {s : Shared}
theorem call_search {P C : Addr} {o oc : Obj} {vs cv : Array Value} {n : Nat} {code : Array Nat} {x : Str} {t : Tok} {Q : Value → Shared → Prop}
    (ho : s.heap.get? P = some o) (hc : o.cls = .type "re.Pattern") (hd : o.data = .fields vs) (h5 : vs.getD 5 .none = .ref C) (h6 : Builtin.Re.reRawNat (vs.getD 6 .none) = 0) (h2 : Builtin.Re.reRawNat (vs.getD 2 .none) = 0)
    (hoc : s.heap.get? C = some oc) (hcd : oc.data = .seq cv n) (hcv : (cv.map Builtin.Re.reRawOf).map (·.toNat) = code)
    (hs : Shuts code) (hc4 : code.getD 2 0 = 4) (hc0 : ops[code.getD 0 0]? = some .INFO) (hx : OkT x) (hl : x.length ≤ 1000)
    (h : Q .none s) : wpAny (model prog w) A (call (.builtin "re.Pattern.search") [.ref P, .str x t]) Q E s := by
  refine wpAny_call_entry slot_pat_search ⟨o, ho, hc⟩ entry_pat_search ?_ (args_pat_search _ _)
  unfold Builtin.«re.Pattern.search»
  have hcl : ∀ i : Nat, i < x.cps.size → OkC (x.cps.getD i 0) := fun i hi => hx _ (by simp [Array.getD, hi])
  have say := search_says (text := x.cps) hs hc4 hc0 hcl
  refine wpAny_bind (m := Builtin.Re.reTarget _ _ _) ?_
  unfold Builtin.Re.reTarget
  have en : Builtin.Re.reNamed "re.Pattern.search" "search" ["string", "pos", "endpos"] 1 [.str x t] [] = pure [some (.str x t), none, none] := by with_unfolding_all rfl
  show wpAny _ _ (Builtin.Re.reNamed "re.Pattern.search" "search" ["string", "pos", "endpos"] 1 [.str x t] [] >>= _) _ _ s
  rw [en]
  refine wpAny_bind (wpAny_pure ?_)
  refine wpAny_bind (wpAny_pure ?_)
  refine wpAny_bind (wpAny_pure ?_)
  refine wpAny_bind ?_
  unfold fieldsOf
  refine wpAny_bind (wpAny_load ho ?_)
  rw [hd]
  refine wpAny_pure ?_
  refine wpAny_bind ?_
  unfold Builtin.Re.reTextOf
  refine wpAny_bind (wpAny_pure ?_)
  refine wpAny_pure ?_
  simp only [h6]
  rw [if_neg (by decide), if_neg (by decide)]
  refine wpAny_bind (m := Builtin.Re.reNoCollectionInside (.str x t) 0) (wpAny_pure ?_)
  refine wpAny_bind ?_
  unfold Builtin.Re.reRawItems
  rw [h5]
  refine wpAny_bind ?_
  unfold seqItems?
  refine wpAny_bind (wpAny_load hoc ?_)
  rw [hcd]
  refine wpAny_pure (wpAny_pure ?_)
  refine wpAny_pure ?_
  have emin : min (2 ^ 63 - 1 : Int).toNat x.cps.size = x.cps.size := by
    have : x.cps.size ≤ 1000 := hl
    apply Nat.min_eq_right
    have e : (2 ^ 63 - 1 : Int).toNat = 9223372036854775807 := by decide
    rw [e]; omega
  have emin0 : min (Int.toNat 0) x.cps.size = 0 := by simp
  dsimp only [Option.getD]
  rw [hcv, h2, emin, emin0]
  unfold Builtin.Re.reAnswer
  refine wpAny_bind (run_no say.1 say.2.1 say.2.2 ?_)
  exact wpAny_pure ⟨_, rfl, h⟩
end
end Mine
end
section
open PySem PySem.Spec PySem.W PyProof.Rows PySem.Calls
set_option maxRecDepth 100000
set_option maxHeartbeats 2000000
namespace Mine
open PyProof.Rows.LCg PyProof.Rows.LCt
section
variable {prog : Program} {w : World} {A : Around} {E : Value → Shared → Prop} {s : Shared} {h₀ : Heap} {L : Addr} {m : Str → Option Value} {env : Env}
theorem CompEnd.monoR {I C D : Addr} {s₁ : Shared} {oI oC oD : Obj} {S : List (Addr × Obj) → Prop} {r r' : Value → List (Addr × Obj) → Prop} {y : Value} {s₂ : Shared}
    (h : CompEnd h₀ L m s₁ I oI C oC D oD S r y s₂) (k : ∀ y n, r y n → r' y n) : CompEnd h₀ L m s₁ I oI C oC D oD S r' y s₂ := by
  obtain ⟨h', tk, news', e, F, N, off, hS, q⟩ := h
  exact ⟨h', tk, news', e, F, N, off, hS, k _ _ q⟩
/-- a comprehension with one test, by what holds between the turns -/
theorem comp_ind_T {ct elt : Expr} {x : Str} {scope : Scope} {cl : List (Str × Addr)} {S : List (Addr × Obj) → Prop} {P : Nat → Value → Prop} {Fin : List Value → List (Addr × Obj) → Prop} (n : Nat)
    (J : Nat → List Value → List (Addr × Obj) → Prop)
    (turn : ∀ i ys news v I oI C oC D m₂ h tk (E' : Value → Shared → Prop), i < n → J i ys news → P i v → NsObj oC m₂ → m₂ x = some v → Fr h₀ L h m → News h₀ L h ((I, oI) :: (C, oC) :: (D, lst ys) :: news) → Off3 I C D news → ((@Ne Nat I C) ∧ (@Ne Nat I D) ∧ (@Ne Nat C D)) →
      wpAny (model prog w) A (isTrue ct (compEnvC scope cl C env) (eval ct (compEnvC scope cl C env))) (fun ok s' => if ok = true then
        wpAny (model prog w) A (eval elt (compEnvC scope cl C env)) (CompEnd h₀ L m { s with heap := h, toks := tk } I oI C oC D (lst ys) S (fun y news' => J (i + 1) (ys ++ [y]) news')) E' s'
        else CompEnd h₀ L m { s with heap := h, toks := tk } I oI C oC D (lst ys) S (fun _ news' => J (i + 1) ys news') Value.none s') E' { s with heap := h, toks := tk })
    (fin : ∀ ys news, J n ys news → Fin ys news) : ∀ k i ys news, i + k = n → J i ys news → CompRestT prog w A h₀ L m env ct elt x scope cl s S P Fin k i ys news
  | 0, i, ys, news, e, hJ => by
    have : i = n := e
    subst this
    exact CompRestT.zero (fin ys news hJ)
  | k + 1, i, ys, news, e, hJ => by
    refine CompRestT.succ fun v I oI C oC D m₂ h tk E' hP hN hm F N off hne => ?_
    refine wpAny_mono (turn i ys news v I oI C oC D m₂ h tk E' (by omega) hJ hP hN hm F N off hne) (fun ok s' q => ?_) fun _ _ q => q
    cases ok with
    | true =>
      simp only [if_true] at q ⊢
      exact wpAny_mono q (fun y s'' z => CompEnd.monoR z fun y' n' hj => comp_ind_T n J turn fin k (i + 1) _ _ (by omega) hj) fun _ _ q => q
    | false =>
      simp only [Bool.false_eq_true, if_false] at q ⊢
      exact CompEnd.monoR q fun y' n' hj => comp_ind_T n J turn fin k (i + 1) _ _ (by omega) hj
theorem comp_ind_U {elt : Expr} {x : Str} {scope : Scope} {cl : List (Str × Addr)} {S : List (Addr × Obj) → Prop} {P : Nat → Value → Prop} {Fin : List Value → List (Addr × Obj) → Prop} (n : Nat)
    (J : Nat → List Value → List (Addr × Obj) → Prop)
    (turn : ∀ i ys news v I oI C oC D m₂ h tk (E' : Value → Shared → Prop), i < n → J i ys news → P i v → NsObj oC m₂ → m₂ x = some v → Fr h₀ L h m → News h₀ L h ((I, oI) :: (C, oC) :: (D, lst ys) :: news) → Off3 I C D news → ((@Ne Nat I C) ∧ (@Ne Nat I D) ∧ (@Ne Nat C D)) →
      wpAny (model prog w) A (eval elt (compEnvC scope cl C env)) (CompEnd h₀ L m { s with heap := h, toks := tk } I oI C oC D (lst ys) S (fun y news' => J (i + 1) (ys ++ [y]) news')) E' { s with heap := h, toks := tk })
    (fin : ∀ ys news, J n ys news → Fin ys news) : ∀ k i ys news, i + k = n → J i ys news → CompRest prog w A h₀ L m env elt x scope cl s S P Fin k i ys news
  | 0, i, ys, news, e, hJ => by
    have : i = n := e
    subst this
    exact CompRest.zero (fin ys news hJ)
  | k + 1, i, ys, news, e, hJ => by
    refine CompRest.succ fun v I oI C oC D m₂ h tk E' hP hN hm F N off hne => ?_
    exact wpAny_mono (turn i ys news v I oI C oC D m₂ h tk E' (by omega) hJ hP hN hm F N off hne) (fun y s'' z => CompEnd.monoR z fun y' n' hj => comp_ind_U n J turn fin k (i + 1) _ _ (by omega) hj) fun _ _ q => q
end

noncomputable def ForPost (h₀ : Heap) (L : Addr) (I : Addr) (oI : Obj) (J' : (Str → Option Value) → List (Addr × Obj) → Prop) (s : Shared) (Q : Flow → Shared → Prop) (f : Flow) (s' : Shared) : Prop :=
  match f with
  | .ret v => Q (.ret v) s'
  | .brk => Q .next s'
  | _ => ∃ h' tk' m' nw', s' = { s with heap := h', toks := tk' } ∧ Fr h₀ L h' m' ∧ News h₀ L h' ((I, oI) :: nw') ∧ (∀ p ∈ nw', p.1 ≠ I) ∧ J' m' nw'
section
variable {prog : Program} {w : World} {A : Around} {E : Value → Shared → Prop} {s : Shared} {env : Env} {h₀ : Heap} {Q : Flow → Shared → Prop}
theorem ForPost.intro {L I : Addr} {oI : Obj} {J' : (Str → Option Value) → List (Addr × Obj) → Prop} {h' : Heap} {tk' : Nat} {m' : Str → Option Value} {all : List (Addr × Obj)} (nw' : List (Addr × Obj))
    (F : Fr h₀ L h' m') (N : News h₀ L h' all) (sub : ∀ p ∈ (I, oI) :: nw', p ∈ all) (off : ∀ p ∈ nw', p.1 ≠ I) (hJ : J' m' nw') : ForPost h₀ L I oI J' s Q .next { s with heap := h', toks := tk' } :=
  ⟨h', tk', m', nw', rfl, F, fun p hp => N p (sub p hp), off, hJ⟩
theorem list_get {h : Heap} {l : Addr} {items : Array Value} (x : h.IsList l items) : ∃ o, h.get? l = some o := let ⟨o, e, _⟩ := x; ⟨o, e⟩
/-- a loop over a list, whatever its target, by what holds between the turns -/
theorem for_list {target : Expr} {body : List Stmt} {l : Addr} {items : List Value} {m : Str → Option Value} {news : List (Addr × Obj)}
    (J : Nat → (Str → Option Value) → List (Addr × Obj) → Prop)
    (hh : A.handled = none) (F : Fr h₀ env.locals s.heap m) (N : News h₀ env.locals s.heap news) (h0 : J 0 m news)
    (hS : ∀ i m₁ nw, J i m₁ nw → SrcAt h₀ l items.toArray nw)
    (go : ∀ v ∈ items, (∀ it, letOwnedTupleGo target it v = pure ()) ∨ ((∃ T, v = .ref T) ∧ ∃ es k p, target = .Tuple es k p))
    (hE : PassesOwn (model prog w) A env E)
    (turn : ∀ i v m₁ nw I oI h tk, items[i]? = some v → J i m₁ nw → Fr h₀ env.locals h m₁ → News h₀ env.locals h ((I, oI) :: nw) → (∀ p ∈ nw, p.1 ≠ I) →
      wpAny (model prog w) A (assign target env v) (fun _ s₂ => wpAny (model prog w) A (execs body env) (ForPost h₀ env.locals I oI (J (i + 1)) { s with heap := h, toks := tk } Q) E s₂) E { s with heap := h, toks := tk })
    (done : ∀ m₁ nw h tk, J items.length m₁ nw → Fr h₀ env.locals h m₁ → News h₀ env.locals h nw → Q .next { s with heap := h, toks := tk }) :
    wpAny (model prog w) A (pyIter (.ref l)) (fun it s₂ => codeAny (model prog w) A (.forLoop target it body [] env) (fun r s' => match r with | .ok f => Q f s' | .error e => cameBackBy (model prog w) A env E e s') s₂) E s := by
  have hls : s.heap.IsList l items.toArray := (hS 0 m news h0).list F.keep N
  refine wpAny_pyIter_list hls ?_
  obtain ⟨It, hIt⟩ : ∃ It, It = s.heap.objs.size := ⟨_, rfl⟩
  rw [← hIt]
  have hItL : env.locals ≠ It := hIt ▸ Nat.ne_of_lt F.ns.lt
  have hIt0 : h₀.get? It = none := hIt ▸ next_is_new F
  have hlIt : ∀ {h : Heap} {i m₁ nw}, J i m₁ nw → (∀ p ∈ nw, p.1 ≠ It) → l ≠ It := fun {h i m₁ nw} hJ off => by
    rcases hS i m₁ nw hJ with x | ⟨o, hm, _⟩
    · intro e
      obtain ⟨o, x, _⟩ := x
      rw [e, hIt0] at x; cases x
    · exact off _ hm
  refine codeAny_forLoop_any
    (fun k s' => ∃ h' tk m' nw i, s' = { s with heap := h', toks := tk } ∧ h'.IsListIter It l i ∧ Fr h₀ env.locals h' m' ∧ News h₀ env.locals h' nw ∧ (∀ p ∈ nw, p.1 ≠ It) ∧ J i m' nw ∧ i ≤ items.length ∧ k = items.length + 1 - i) ?_ (items.length + 1)
    ⟨s.heap.push { cls := .type "list_iterator", data := .fields #[.ref l, .int 0 0] }, s.toks, m, news, 0, rfl, ⟨_, hIt ▸ Heap.get?_push_size _ rfl, rfl, rfl⟩, F.push _, (fun p hp => ⟨Heap.get?_push_of_some _ (N p hp).1, (N p hp).2⟩), (fun p hp => hIt ▸ Nat.ne_of_lt (Heap.lt_size (N p hp).1)), h0, Nat.zero_le _, rfl⟩
  rintro k s' ⟨h', tk, m', nw, i, rfl, hit, F', N', off, hJ, hi, rfl⟩
  have hl' : h'.IsList l items.toArray := (hS i m' nw hJ).list F'.keep N'
  have hlne := hlIt (h := h') hJ off
  by_cases hlt : i < items.length
  · refine wpAny_passesOwn hE (wpAny_pyNext_list_item hit hl' (x := items[i]) (by simp [hlt]) fun h₁ hit₁ hs₁ => ?_)
    have F₁ : Fr h₀ env.locals h₁ m' := F'.change hs₁ (Ne.symm hItL) hIt0
    have N₁ : News h₀ env.locals h₁ nw := fun p hp => ⟨(hs₁.2 p.1 (off p hp)).trans (N' p hp).1, (N' p hp).2⟩
    obtain ⟨oI, hoI, hc, hd⟩ := id hit₁
    have NI : News h₀ env.locals h₁ ((It, oI) :: nw) := by
      intro p hp
      rcases List.mem_cons.mp hp with rfl | hp
      · exact ⟨hoI, Ne.symm hItL, hIt0⟩
      · exact N₁ p hp
    have key : wpAny (model prog w) A (assign target env items[i]) (fun _ s₂ => wpAny (model prog w) A (execs body env) (fun f s₃ => match f with
            | .next | .cont => ∃ m, m < items.length + 1 - i ∧ ∃ h' tk m' nw i, s₃ = { s with heap := h', toks := tk } ∧ h'.IsListIter It l i ∧ Fr h₀ env.locals h' m' ∧ News h₀ env.locals h' nw ∧ (∀ p ∈ nw, p.1 ≠ It) ∧ J i m' nw ∧ i ≤ items.length ∧ m = items.length + 1 - i
            | .brk => Q .next s₃
            | .ret v => Q (.ret v) s₃) (notedBy (model prog w) A env (cameBackBy (model prog w) A env E)) s₂) (notedBy (model prog w) A env (cameBackBy (model prog w) A env E)) { s with heap := h₁, toks := tk } := by
      refine wpAny_passesOwn hE (wpAny_mono (turn i items[i] m' nw It oI h₁ tk (by simp [hlt]) hJ F₁ NI off) (fun _ s₂ q => ?_) fun _ _ e => e)
      refine wpAny_passesOwn hE (wpAny_mono q (fun f s₃ z => ?_) fun _ _ e => e)
      have fin : (∃ h' tk' m' nw', s₃ = { s with heap := h', toks := tk' } ∧ Fr h₀ env.locals h' m' ∧ News h₀ env.locals h' ((It, oI) :: nw') ∧ (∀ p ∈ nw', p.1 ≠ It) ∧ J (i + 1) m' nw') →
          ∃ m, m < items.length + 1 - i ∧ ∃ h' tk m' nw i, s₃ = { s with heap := h', toks := tk } ∧ h'.IsListIter It l i ∧ Fr h₀ env.locals h' m' ∧ News h₀ env.locals h' nw ∧ (∀ p ∈ nw, p.1 ≠ It) ∧ J i m' nw ∧ i ≤ items.length ∧ m = items.length + 1 - i := by
        rintro ⟨h3, tk3, m3, nw3, rfl, F3, N3, off3, J3⟩
        exact ⟨items.length + 1 - (i + 1), by omega, h3, tk3, m3, nw3, i + 1, rfl, ⟨oI, (N3 _ List.mem_cons_self).1, hc, hd⟩, F3, fun p hp => N3 p (List.mem_cons_of_mem _ hp), off3, J3, hlt, rfl⟩
      cases f with
      | ret v => exact z
      | brk => exact z
      | next => exact fin z
      | cont => exact fin z
    rcases go items[i] (List.getElem_mem hlt) with q | ⟨⟨T, hT⟩, es, kk, pp, rfl⟩
    · exact wpAny_of_eq (q _) key
    · rw [hT] at key ⊢
      exact wpAny_letOwnedTupleGo_listiter hit₁ key
  · have hin : i = items.length := by omega
    subst hin
    refine wpAny_passesOwn hE (wpAny_pyNext_list_end hh hit hl' (by simp) fun h₁ he₁ => wpAny_execs_nil ?_)
    refine done m' nw h₁ tk hJ ⟨F'.ns.at' fun o e => he₁ _ o hItL e, fun b o e => he₁ b o (fun q => by rw [q, hIt0] at e; cases e) (F'.keep b o e), F'.above⟩ fun p hp => ⟨he₁ _ _ (off p hp) (N' p hp).1, (N' p hp).2⟩
end

section
variable {prog : Program} {w : World} {A : Around} {E : Value → Shared → Prop} {s : Shared} {env : Env} {h₀ : Heap} {Q : Unit → Shared → Prop}
theorem store_one {a : Str} {p1 : Pos} {v1 : Value} {m : Str → Option Value} {nw : List (Addr × Obj)}
    (F : Fr h₀ env.locals s.heap m) (N : News h₀ env.locals s.heap nw) (ha : env.kindOf a = some .local) (hp : (env.scope.kind == .class || (env.scope.kind == .module && env.locals != env.globals)) = false)
    (h : ∀ h' tk', Fr h₀ env.locals h' (fun z => if z = a then some v1 else m z) → News h₀ env.locals h' nw → Q () { s with heap := h', toks := tk' }) :
    wpAny (model prog w) A (assign (.Name a p1) env v1) Q E s :=
  wpAny_assign_Name (wpAny_storeName_local ha F.ns (fun h' hn hs => h h' _ (F.set hn hs) (N.set hs)) hp)
theorem assign_two {a b : Str} {p1 p2 pos : Pos} {k : Nat} {T : Addr} {v1 v2 : Value} {m : Str → Option Value} {nw : List (Addr × Obj)} {n : Nat}
    (hh : A.handled = none) (F : Fr h₀ env.locals s.heap m) (N : News h₀ env.locals s.heap nw) (hT : (T, ({ cls := .type "tuple", data := .seq #[v1, v2] n } : Obj)) ∈ nw)
    (ha : env.kindOf a = some .local) (hb : env.kindOf b = some .local) (hp : (env.scope.kind == .class || (env.scope.kind == .module && env.locals != env.globals)) = false)
    (h : ∀ h' tk', Fr h₀ env.locals h' (fun z => if z = b then some v2 else if z = a then some v1 else m z) → News h₀ env.locals h' nw → Q () { s with heap := h', toks := tk' }) :
    wpAny (model prog w) A (assign (.Tuple [.Name a p1, .Name b p2] k pos) env (.ref T)) Q E s := by
  refine wpAny_assign_Tuple (items := #[v1, v2]) hh ⟨_, (N _ hT).1, rfl, n, rfl⟩ rfl rfl fun h' he => ?_
  have hold : ∀ d o, s.heap.get? d = some o → h'.get? d = some o := fun d o e => he d o (Nat.ne_of_lt (Heap.lt_size e)) e
  refine wpAny_bind (wpAny_holding (store_one (F.grownK hold) (N.grown hold) ha hp fun h1 t1 F1 N1 => ?_))
  refine wpAny_bind (wpAny_holding (store_one F1 N1 hb hp fun h2 t2 F2 N2 => ?_))
  exact wpAny_pure (h h2 t2 F2 N2)
end
end Mine
end
section
open PySem PySem.Spec PySem.W PyProof.Rows PySem.Calls
set_option maxRecDepth 100000
set_option maxHeartbeats 2000000
namespace Mine
mutual
theorem datIn_sift {news news' : List (Addr × Obj)} (hs : ∀ p ∈ news, p.2.cls = .type "tuple" ∨ p.2.cls = .type "list" → p ∈ news') : ∀ {v : Value} {d : Dat}, DatIn news v d → DatIn news' v d
  | _, _, .none => .none
  | _, _, .bool b => .bool b
  | _, _, .int i t => .int i t
  | _, _, .str x t => .str x t
  | _, _, .bytes b t => .bytes b t
  | _, _, .tuple h r => .tuple (hs _ h (.inl rfl)) (datAll_sift hs r)
  | _, _, .list h r => .list (hs _ h (.inr rfl)) (datAll_sift hs r)
theorem datAll_sift {news news' : List (Addr × Obj)} (hs : ∀ p ∈ news, p.2.cls = .type "tuple" ∨ p.2.cls = .type "list" → p ∈ news') : ∀ {vs : List Value} {ds : List Dat}, DatAll news vs ds → DatAll news' vs ds
  | _, _, .nil => .nil
  | _, _, .cons h r => .cons (datIn_sift hs h) (datAll_sift hs r)
end
theorem sift_out {I : Addr} {oI : Obj} {pre post : List (Addr × Obj)} (ho : oI.cls = .type "range_iterator") : ∀ p ∈ pre ++ (I, oI) :: post, p.2.cls = .type "tuple" ∨ p.2.cls = .type "list" → p ∈ pre ++ post := by
  intro p hp hc
  rcases List.mem_append.mp hp with q | q
  · exact List.mem_append.mpr (.inl q)
  · rcases List.mem_cons.mp q with rfl | q
    · rw [ho] at hc
      rcases hc with e | e <;> exact absurd e (by decide)
    · exact List.mem_append.mpr (.inr q)
open PyProof.Rows.LCg PyProof.Rows.LCt
section
variable {prog : Program} {w : World} {A : Around} {E : Value → Shared → Prop} {s : Shared} {env : Env} {h₀ : Heap} {Q : Flow → Shared → Prop}
theorem small_of {a b : Int} (ha : -1000000 ≤ a) (ha' : a ≤ 1000000) (hb : -1000000 ≤ b) (hb' : b ≤ 1000000) : Builtin.Range.small a b 1 = true := by
  unfold Builtin.Range.small Builtin.Range.rangeSize
  simp only [Builtin.Range.rangeFitsLong, Bool.and_eq_true, Bool.or_eq_true, decide_eq_true_eq, beq_iff_eq, show (1 : Int) > 0 by decide, if_true]
  split <;> omega
theorem size_of {a b : Int} {n : Nat} (h : b = a + n) : Builtin.Range.rangeSize a b 1 = n := by
  unfold Builtin.Range.rangeSize
  simp only [show (1 : Int) > 0 by decide, if_true]
  split <;> omega
/-- a loop over a range by one, by what holds between the turns -/
theorem for_range {x : Str} {px : Pos} {body : List Stmt} {r : Addr} {a b : Int} {t u v : Tok} {m : Str → Option Value} {news : List (Addr × Obj)} (n : Nat)
    (J : Nat → (Str → Option Value) → List (Addr × Obj) → Prop)
    (hh : A.handled = none) (F : Fr h₀ env.locals s.heap m) (N : News h₀ env.locals s.heap news) (h0 : J 0 m news)
    (hr : IsRange s.heap r a b 1 t u v) (hn : Builtin.Range.rangeSize a b 1 = n) (hsmall : Builtin.Range.small a b 1 = true)
    (hx : env.kindOf x = some .local) (hp : (env.scope.kind == .class || (env.scope.kind == .module && env.locals != env.globals)) = false)
    (hE : PassesOwn (model prog w) A env E)
    (turn : ∀ i ti m₁ nw I oI h tk, i < n → J i m₁ nw → 1 ≤ tk → Fr h₀ env.locals h (fun z => if z = x then some (.int (a + (i : Int)) ti) else m₁ z) → News h₀ env.locals h ((I, oI) :: nw) → (∀ p ∈ nw, p.1 ≠ I) → oI.cls = .type "range_iterator" →
      wpAny (model prog w) A (execs body env) (ForPost h₀ env.locals I oI (J (i + 1)) { s with heap := h, toks := tk } Q) E { s with heap := h, toks := tk })
    (done : ∀ m₁ nw h tk, J n m₁ nw → Fr h₀ env.locals h m₁ → News h₀ env.locals h nw → Q .next { s with heap := h, toks := tk }) :
    wpAny (model prog w) A (pyIter (.ref r)) (fun it s₂ => codeAny (model prog w) A (.forLoop (.Name x px) it body [] env) (fun r s' => match r with | .ok f => Q f s' | .error e => cameBackBy (model prog w) A env E e s') s₂) E s := by
  refine wpAny_pyIter_range hr hsmall ?_
  rw [hn]
  obtain ⟨It, hIt⟩ : ∃ It, It = s.heap.objs.size := ⟨_, rfl⟩
  rw [← hIt]
  have hItL : env.locals ≠ It := hIt ▸ Nat.ne_of_lt F.ns.lt
  have hIt0 : h₀.get? It = none := hIt ▸ next_is_new F
  refine codeAny_forLoop_any
    (fun k s' => ∃ h' tk m' nw i, s' = { s with heap := h', toks := tk } ∧ IsRangeIter h' It (a + ((i : Nat) : Int) * 1) ((n : Int) - (i : Nat)) 1 ∧ Fr h₀ env.locals h' m' ∧ News h₀ env.locals h' nw ∧ (∀ p ∈ nw, p.1 ≠ It) ∧ J i m' nw ∧ i ≤ n ∧ k = n + 1 - i) ?_ (n + 1)
    ⟨s.heap.push { cls := .type "range_iterator", data := .fields #[rawInt a, rawInt n, rawInt 1] }, s.toks, m, news, 0, rfl, ?_, F.push _, (fun p hp => ⟨Heap.get?_push_of_some _ (N p hp).1, (N p hp).2⟩), (fun p hp => hIt ▸ Nat.ne_of_lt (Heap.lt_size (N p hp).1)), h0, Nat.zero_le _, rfl⟩
  · rintro k s' ⟨h', tk, m', nw, i, rfl, hit, F', N', off, hJ, hi, rfl⟩
    by_cases hlt : i < n
    · refine wpAny_passesOwn hE (wpAny_pyNext_range_item hit (by omega) fun h₁ hit₁ hs₁ => ?_)
      have F₁ : Fr h₀ env.locals h₁ m' := F'.change hs₁ (Ne.symm hItL) hIt0
      have N₁ : News h₀ env.locals h₁ nw := fun p hp => ⟨(hs₁.2 p.1 (off p hp)).trans (N' p hp).1, (N' p hp).2⟩
      have NI : News h₀ env.locals h₁ ((It, { cls := .type "range_iterator", dict := none, data := .fields #[rawInt (a + ((i : Nat) : Int) * 1 + 1), rawInt ((n : Int) - (i : Nat) - 1), rawInt 1], slots := #[] }) :: nw) := by
        intro p hp
        rcases List.mem_cons.mp hp with rfl | hp
        · exact ⟨hit₁, Ne.symm hItL, hIt0⟩
        · exact N₁ p hp
      refine wpAny_of_eq (a := ()) (by first | rfl | exact letOwnedTupleGo_name ..) ?_
      refine wpAny_assign_Name (wpAny_storeName_local hx F₁.ns (fun h₂ hn₂ hs₂ => ?_) hp)
      have F₂ := F₁.set hn₂ hs₂
      have N₂ := NI.set hs₂
      have key := turn i tk m' nw It _ h₂ (tk + 1 + 1) hlt hJ (Nat.le_add_left 1 _) (by rw [Int.mul_one] at F₂; exact F₂) N₂ off rfl
      refine wpAny_passesOwn hE (wpAny_mono key (fun f s₃ z => ?_) fun _ _ e => e)
      have fin : (∃ h' tk' m' nw', s₃ = { s with heap := h', toks := tk' } ∧ Fr h₀ env.locals h' m' ∧ News h₀ env.locals h' ((It, { cls := .type "range_iterator", dict := none, data := .fields #[rawInt (a + ((i : Nat) : Int) * 1 + 1), rawInt ((n : Int) - (i : Nat) - 1), rawInt 1], slots := #[] }) :: nw') ∧ (∀ p ∈ nw', p.1 ≠ It) ∧ J (i + 1) m' nw') →
          ∃ m, m < n + 1 - i ∧ ∃ h' tk m' nw i, s₃ = { s with heap := h', toks := tk } ∧ IsRangeIter h' It (a + ((i : Nat) : Int) * 1) ((n : Int) - (i : Nat)) 1 ∧ Fr h₀ env.locals h' m' ∧ News h₀ env.locals h' nw ∧ (∀ p ∈ nw, p.1 ≠ It) ∧ J i m' nw ∧ i ≤ n ∧ m = n + 1 - i := by
        rintro ⟨h3, tk3, m3, nw3, rfl, F3, N3, off3, J3⟩
        refine ⟨n + 1 - (i + 1), by omega, h3, tk3, m3, nw3, i + 1, rfl, ?_, F3, fun p hp => N3 p (List.mem_cons_of_mem _ hp), off3, J3, hlt, rfl⟩
        have e1 : a + ((i + 1 : Nat) : Int) * 1 = a + (i : Int) * 1 + 1 := by push_cast; omega
        have e2 : (n : Int) - ((i + 1 : Nat) : Int) = (n : Int) - (i : Int) - 1 := by push_cast; omega
        rw [e1, e2]
        exact (N3 _ List.mem_cons_self).1
      cases f with
      | ret v => exact z
      | brk => exact z
      | next => exact fin z
      | cont => exact fin z
    · have hin : i = n := by omega
      subst hin
      refine wpAny_passesOwn hE (wpAny_pyNext_range_end hh hit (by omega) fun h₁ he₁ => wpAny_execs_nil ?_)
      refine done m' nw h₁ tk hJ ⟨F'.ns.at' fun o e => he₁ _ o hItL e, fun b o e => he₁ b o (fun q => by rw [q, hIt0] at e; cases e) (F'.keep b o e), F'.above⟩ fun p hp => ⟨he₁ _ _ (off p hp) (N' p hp).1, (N' p hp).2⟩
  · rw [hIt]
    have := Heap.get?_push_size (h := s.heap) (o := { cls := .type "range_iterator", data := .fields #[rawInt a, rawInt (n : Int), rawInt 1] }) rfl
    simpa using this
theorem for_led {target : Expr} {body : List Stmt} {l : Addr} {items : List Value} {n : Nat} {m : Str → Option Value} {news : List (Addr × Obj)} (hm : (l, W.listOf items.toArray n) ∈ news)
    (J : Nat → (Str → Option Value) → List (Addr × Obj) → Prop)
    (hh : A.handled = none) (F : Fr h₀ env.locals s.heap m) (N : News h₀ env.locals s.heap news) (h0 : J 0 m news)
    (hS : ∀ i m₁ nw, J i m₁ nw → (l, W.listOf items.toArray n) ∈ nw)
    (go : ∀ v ∈ items, (∀ it, letOwnedTupleGo target it v = pure ()) ∨ ((∃ T, v = .ref T) ∧ ∃ es k p, target = .Tuple es k p))
    (hE : PassesOwn (model prog w) A env E)
    (turn : ∀ i v m₁ nw I oI h tk, items[i]? = some v → J i m₁ nw → Fr h₀ env.locals h m₁ → News h₀ env.locals h ((I, oI) :: nw) → (∀ p ∈ nw, p.1 ≠ I) →
      wpAny (model prog w) A (assign target env v) (fun _ s₂ => wpAny (model prog w) A (execs body env) (ForPost h₀ env.locals I oI (J (i + 1)) { s with heap := h, toks := tk } Q) E s₂) E { s with heap := h, toks := tk })
    (done : ∀ m₁ nw h tk, J items.length m₁ nw → Fr h₀ env.locals h m₁ → News h₀ env.locals h nw → Q .next { s with heap := h, toks := tk }) :
    wpAny (model prog w) A (pyIter (.ref l)) (fun it s₂ => codeAny (model prog w) A (.forLoop target it body [] env) (fun r s' => match r with | .ok f => Q f s' | .error e => cameBackBy (model prog w) A env E e s') s₂) E s :=
  for_list J hh F N h0 (fun i m₁ nw hJ => .inr ⟨_, hS i m₁ nw hJ, rfl, _, rfl⟩) go hE turn done
end
end Mine
end
section
open PySem PySem.W PyProof.Rows PySem.Calls
set_option maxRecDepth 100000
namespace Mine
theorem form1 {m0 m' : Str → Option Value} {a1 : Str} {v1 : Option Value} (h1 : m' a1 = v1) (h : ∀ z, z ≠ a1 → m' z = m0 z) :
    m' = fun z => if z = a1 then v1 else m0 z := by
  funext z
  split
  · next e => rw [e, h1]
  exact h z (by assumption)
theorem form2 {m0 m' : Str → Option Value} {a1 a2 : Str} {v1 v2 : Option Value} (h1 : m' a1 = v1) (h2 : m' a2 = v2) (h : ∀ z, z ≠ a1 → z ≠ a2 → m' z = m0 z) :
    m' = fun z => if z = a1 then v1 else if z = a2 then v2 else m0 z := by
  funext z
  split
  · next e => rw [e, h1]
  split
  · next e => rw [e, h2]
  exact h z (by assumption) (by assumption)
theorem form3 {m0 m' : Str → Option Value} {a1 a2 a3 : Str} {v1 v2 v3 : Option Value} (h1 : m' a1 = v1) (h2 : m' a2 = v2) (h3 : m' a3 = v3) (h : ∀ z, z ≠ a1 → z ≠ a2 → z ≠ a3 → m' z = m0 z) :
    m' = fun z => if z = a1 then v1 else if z = a2 then v2 else if z = a3 then v3 else m0 z := by
  funext z
  split
  · next e => rw [e, h1]
  split
  · next e => rw [e, h2]
  split
  · next e => rw [e, h3]
  exact h z (by assumption) (by assumption) (by assumption)
theorem form4 {m0 m' : Str → Option Value} {a1 a2 a3 a4 : Str} {v1 v2 v3 v4 : Option Value} (h1 : m' a1 = v1) (h2 : m' a2 = v2) (h3 : m' a3 = v3) (h4 : m' a4 = v4) (h : ∀ z, z ≠ a1 → z ≠ a2 → z ≠ a3 → z ≠ a4 → m' z = m0 z) :
    m' = fun z => if z = a1 then v1 else if z = a2 then v2 else if z = a3 then v3 else if z = a4 then v4 else m0 z := by
  funext z
  split
  · next e => rw [e, h1]
  split
  · next e => rw [e, h2]
  split
  · next e => rw [e, h3]
  split
  · next e => rw [e, h4]
  exact h z (by assumption) (by assumption) (by assumption) (by assumption)
theorem form5 {m0 m' : Str → Option Value} {a1 a2 a3 a4 a5 : Str} {v1 v2 v3 v4 v5 : Option Value} (h1 : m' a1 = v1) (h2 : m' a2 = v2) (h3 : m' a3 = v3) (h4 : m' a4 = v4) (h5 : m' a5 = v5) (h : ∀ z, z ≠ a1 → z ≠ a2 → z ≠ a3 → z ≠ a4 → z ≠ a5 → m' z = m0 z) :
    m' = fun z => if z = a1 then v1 else if z = a2 then v2 else if z = a3 then v3 else if z = a4 then v4 else if z = a5 then v5 else m0 z := by
  funext z
  split
  · next e => rw [e, h1]
  split
  · next e => rw [e, h2]
  split
  · next e => rw [e, h3]
  split
  · next e => rw [e, h4]
  split
  · next e => rw [e, h5]
  exact h z (by assumption) (by assumption) (by assumption) (by assumption) (by assumption)
theorem form6 {m0 m' : Str → Option Value} {a1 a2 a3 a4 a5 a6 : Str} {v1 v2 v3 v4 v5 v6 : Option Value} (h1 : m' a1 = v1) (h2 : m' a2 = v2) (h3 : m' a3 = v3) (h4 : m' a4 = v4) (h5 : m' a5 = v5) (h6 : m' a6 = v6) (h : ∀ z, z ≠ a1 → z ≠ a2 → z ≠ a3 → z ≠ a4 → z ≠ a5 → z ≠ a6 → m' z = m0 z) :
    m' = fun z => if z = a1 then v1 else if z = a2 then v2 else if z = a3 then v3 else if z = a4 then v4 else if z = a5 then v5 else if z = a6 then v6 else m0 z := by
  funext z
  split
  · next e => rw [e, h1]
  split
  · next e => rw [e, h2]
  split
  · next e => rw [e, h3]
  split
  · next e => rw [e, h4]
  split
  · next e => rw [e, h5]
  split
  · next e => rw [e, h6]
  exact h z (by assumption) (by assumption) (by assumption) (by assumption) (by assumption) (by assumption)
theorem form7 {m0 m' : Str → Option Value} {a1 a2 a3 a4 a5 a6 a7 : Str} {v1 v2 v3 v4 v5 v6 v7 : Option Value} (h1 : m' a1 = v1) (h2 : m' a2 = v2) (h3 : m' a3 = v3) (h4 : m' a4 = v4) (h5 : m' a5 = v5) (h6 : m' a6 = v6) (h7 : m' a7 = v7) (h : ∀ z, z ≠ a1 → z ≠ a2 → z ≠ a3 → z ≠ a4 → z ≠ a5 → z ≠ a6 → z ≠ a7 → m' z = m0 z) :
    m' = fun z => if z = a1 then v1 else if z = a2 then v2 else if z = a3 then v3 else if z = a4 then v4 else if z = a5 then v5 else if z = a6 then v6 else if z = a7 then v7 else m0 z := by
  funext z
  split
  · next e => rw [e, h1]
  split
  · next e => rw [e, h2]
  split
  · next e => rw [e, h3]
  split
  · next e => rw [e, h4]
  split
  · next e => rw [e, h5]
  split
  · next e => rw [e, h6]
  split
  · next e => rw [e, h7]
  exact h z (by assumption) (by assumption) (by assumption) (by assumption) (by assumption) (by assumption) (by assumption)

theorem off1_ne {D : Addr} : ∀ {l : List (Addr × Obj)}, LCg.Off1 D l → ∀ p ∈ l, p.1 ≠ D
  | [], _, _, hp => nomatch hp
  | q :: r, h, p, hp => by
    rcases List.mem_cons.mp hp with rfl | hp
    · exact h.1
    · exact off1_ne h.2 p hp
end Mine
end
section
open PySem PySem.W PyProof.Rows PySem.Calls
set_option maxRecDepth 100000
namespace Mine
theorem slice_txt (x : Str) (l u : Option Int) : Txt.slice x l u = StrLaws.sliceText x l u := rfl
theorem sl_take (x : Str) (k : Nat) : Txt.slice x none (some (k : Int)) = ⟨(x.cps.toList.take k).toArray⟩ := by
  have hl : x.length = x.cps.toList.length := by simp [Str.length]
  by_cases h : k ≤ x.length
  · rw [slice_txt, StrLaws.sliceText_to ⟨by omega, by omega⟩]
    simp
  · rw [slice_to_beyond (by omega), slice_txt, StrLaws.sliceText_to ⟨by omega, by omega⟩]
    congr 1
    congr 1
    rw [List.drop_zero, List.take_of_length_le (by omega), List.take_of_length_le (by omega)]
theorem sl_drop (x : Str) (k : Nat) : Txt.slice x (some (k : Int)) none = ⟨(x.cps.toList.drop k).toArray⟩ := by
  have hl : x.length = x.cps.toList.length := by simp [Str.length]
  by_cases h : k ≤ x.length
  · rw [slice_txt, StrLaws.sliceText_from ⟨by omega, by omega⟩]
    congr 1
    congr 1
    rw [List.take_of_length_le (by rw [List.length_drop]; omega), Int.toNat_natCast]
  · rw [slice_from_beyond (by omega)]
    congr 1
    rw [List.drop_of_length_le (by omega)]
noncomputable def T (l : List Nat) : Str := ⟨l.toArray⟩
theorem T_list (l : List Nat) : (T l).cps.toList = l := by simp [T]
theorem T_take (l : List Nat) (k : Nat) : Txt.slice (T l) none (some (k : Int)) = T (l.take k) := by rw [sl_take, T_list]; rfl
theorem T_drop (l : List Nat) (k : Nat) : Txt.slice (T l) (some (k : Int)) none = T (l.drop k) := by rw [sl_drop, T_list]; rfl
theorem T_inj {a b : List Nat} (h : T a = T b) : a = b := by rw [← T_list a, h, T_list]
theorem T_beq (a b : List Nat) : (T a == T b) = decide (a = b) := by
  by_cases h : a = b
  · subst h; simp
  · have : T a ≠ T b := fun e => h (T_inj e)
    simp [h, this]
theorem T_item (a : Nat) (l : List Nat) : Txt.item (T (a :: l)) 0 = T [a] := by
  unfold Txt.item Txt.charAt seqIndex? T
  simp [Str.length]
theorem T_append (a b : List Nat) : T a ++ T b = T (a ++ b) := by
  show (⟨(T a).cps ++ (T b).cps⟩ : Str) = _
  unfold T
  congr 1
  simp
theorem e_amp : Str.ofString "&" = T [38] := by decide
theorem e_lt : Str.ofString "<" = T [60] := by decide
theorem e_gt : Str.ofString ">" = T [62] := by decide
theorem e_ampt : Str.ofString "amp;" = T [97, 109, 112, 59] := by decide
theorem e_ltt : Str.ofString "lt;" = T [108, 116, 59] := by decide
theorem e_gtt : Str.ofString "gt;" = T [103, 116, 59] := by decide
theorem e_empty : Str.ofString "" = T [] := by decide
noncomputable def ampL : Nat → List Nat
  | 0 => []
  | n + 1 => [97, 109, 112, 59] ++ ampL n
noncomputable def sgT (c : Nat) : Nat → List Nat
  | n => if c = 38 then 38 :: ampL n else match n with
    | 0 => [c]
    | n + 1 => 38 :: (ampL n ++ (if c = 60 then [108, 116, 59] else [103, 116, 59]))
noncomputable def sgn (c : Nat) : Prop := c = 38 ∨ c = 60 ∨ c = 62
noncomputable def fine (r : List Nat) : Prop := ∀ a r', r = a :: r' → a ≠ 97 ∧ a ≠ 108 ∧ a ≠ 103
theorem ampS_amp (r : List Nat) (h : ∀ a r', r = a :: r' → a ≠ 97) : ∀ (m k : Nat) (n : Int), ampS (m + 1 + k) (T [38]) (T (ampL m ++ r)) n = some (T r, n + m)
  | 0, k, n => by
    rw [show 0 + 1 + k = k + 1 by omega]
    unfold ampS
    rw [e_amp, T_beq, e_ampt, show (4 : Int) = ((4 : Nat) : Int) from rfl, T_take, T_beq]
    have : decide (List.take 4 (ampL 0 ++ r) = [97, 109, 112, 59]) = false := by
      refine decide_eq_false fun e => ?_
      cases r with
      | nil => cases e
      | cons a r' =>
        have := h a r' rfl
        simp [ampL] at e
        exact this e.1
    rw [this]
    simp [ampL]
  | m + 1, k, n => by
    rw [show m + 1 + 1 + k = (m + 1 + k) + 1 by omega]
    unfold ampS
    rw [e_amp, T_beq, e_ampt, show (4 : Int) = ((4 : Nat) : Int) from rfl, T_take, T_beq, T_drop]
    have e1 : List.take 4 (ampL (m + 1) ++ r) = [97, 109, 112, 59] := by simp [ampL]
    have e2 : List.drop 4 (ampL (m + 1) ++ r) = ampL m ++ r := by simp [ampL]
    rw [e1, e2]
    have ih := ampS_amp r h m k (n + 1)
    simp only [decide_true, if_true]
    rw [ih]
    congr 2
    push_cast
    omega
theorem ampS_no {c : Nat} (h : c ≠ 38) (k : Nat) (t : Str) (n : Int) : ampS (k + 1) (T [c]) t n = some (t, n) := by
  unfold ampS
  rw [e_amp, T_beq]
  have : decide ([c] = [38]) = false := decide_eq_false fun e => h (by simpa using e)
  rw [this]; rfl

theorem finS_lt (r : List Nat) (n : Int) : finS (T [38]) (T ([108, 116, 59] ++ r)) n = (T [60], T r, n + 1) := by
  unfold finS
  rw [e_amp, T_beq, e_ltt, show (3 : Int) = ((3 : Nat) : Int) from rfl, T_take, T_beq, T_drop]
  simp [e_lt]
theorem finS_gt (r : List Nat) (n : Int) : finS (T [38]) (T ([103, 116, 59] ++ r)) n = (T [62], T r, n + 1) := by
  unfold finS
  rw [e_amp, T_beq, e_ltt, e_gtt, show (3 : Int) = ((3 : Nat) : Int) from rfl, T_take, T_beq, T_drop, T_beq]
  simp [e_gt]
theorem finS_amp (r : List Nat) (h : fine r) (n : Int) : finS (T [38]) (T r) n = (T [38], T r, n) := by
  unfold finS
  rw [e_amp, T_beq, e_ltt, e_gtt, show (3 : Int) = ((3 : Nat) : Int) from rfl, T_take, T_beq, T_drop, T_beq]
  have h1 : decide (List.take 3 r = [108, 116, 59]) = false := by
    refine decide_eq_false fun e => ?_
    cases r with
    | nil => cases e
    | cons a r' => have := (h a r' rfl).2.1; simp at e; exact this e.1
  have h2 : decide (List.take 3 r = [103, 116, 59]) = false := by
    refine decide_eq_false fun e => ?_
    cases r with
    | nil => cases e
    | cons a r' => have := (h a r' rfl).2.2; simp at e; exact this e.1
  rw [h1, h2]
  simp
theorem finS_no {c : Nat} (h : c ≠ 38) (t : Str) (n : Int) : finS (T [c]) t n = (T [c], t, n) := by
  unfold finS
  rw [e_amp, T_beq]
  have : decide ([c] = [38]) = false := decide_eq_false fun e => h (by simpa using e)
  rw [this]; rfl
theorem read_step {c n : Nat} (hc : sgn c) (r : List Nat) (hr : fine r) (k : Nat) (hk : n + 1 ≤ k) : readS (k + 1) (T (sgT c n ++ r)) = (readS k (T r)).map ((T [c], (n : Int)) :: ·) := by
  have key : ∀ a l, sgT c n ++ r = a :: l → ∀ t m, ampS k (T [a]) (T l) 0 = some (t, m) → finS (T [a]) t m = (T [c], T r, (n : Int)) → readS (k + 1) (T (sgT c n ++ r)) = (readS k (T r)).map ((T [c], (n : Int)) :: ·) := by
    intro a l e t m h1 h2
    conv => lhs; unfold readS
    rw [e, e_empty, T_item, show (1 : Int) = ((1 : Nat) : Int) from rfl, T_drop, List.drop_succ_cons, List.drop_zero, h1]
    have hne : (T (a :: l) != T []) = true := by
      unfold bne; rw [T_beq]; simp
    rw [if_pos hne]
    show (readS k (finS (T [a]) t m).2.1).map (((finS (T [a]) t m).1, (finS (T [a]) t m).2.2) :: ·) = _
    rw [h2]
  obtain ⟨k', rfl⟩ : ∃ k', k = n + 1 + k' := ⟨k - (n + 1), by omega⟩
  rcases hc with rfl | rfl | rfl
  · refine key 38 (ampL n ++ r) (by simp [sgT]) (T r) (0 + n) (ampS_amp r (fun a r' e => (hr a r' e).1) n k' 0) ?_
    rw [Int.zero_add]; exact finS_amp r hr _
  · cases n with
    | zero =>
      refine key 60 r (by simp [sgT]) (T r) 0 ?_ (finS_no (by decide) _ _)
      rw [show 0 + 1 + k' = k' + 1 by omega]; exact ampS_no (by decide) _ _ _
    | succ m =>
      refine key 38 (ampL m ++ ([108, 116, 59] ++ r)) (by simp [sgT]) (T ([108, 116, 59] ++ r)) (0 + m) ?_ ?_
      · rw [show m + 1 + 1 + k' = m + 1 + (k' + 1) by omega]
        exact ampS_amp _ (fun a r' e => by simp at e; rw [← e.1]; decide) m (k' + 1) 0
      · rw [finS_lt]; congr 3; push_cast; omega
  · cases n with
    | zero =>
      refine key 62 r (by simp [sgT]) (T r) 0 ?_ (finS_no (by decide) _ _)
      rw [show 0 + 1 + k' = k' + 1 by omega]; exact ampS_no (by decide) _ _ _
    | succ m =>
      refine key 38 (ampL m ++ ([103, 116, 59] ++ r)) (by simp [sgT]) (T ([103, 116, 59] ++ r)) (0 + m) ?_ ?_
      · rw [show m + 1 + 1 + k' = m + 1 + (k' + 1) by omega]
        exact ampS_amp _ (fun a r' e => by simp at e; rw [← e.1]; decide) m (k' + 1) 0
      · rw [finS_gt]; congr 3; push_cast; omega
noncomputable def rowT (l : List (Nat × Nat)) : List Nat := l.flatMap fun p => sgT p.1 p.2
noncomputable def rowR (l : List (Nat × Nat)) : List (Str × Int) := l.map fun p => (T [p.1], (p.2 : Int))
theorem sgT_head {c n : Nat} (hc : sgn c) : ∃ a l, sgT c n = a :: l ∧ sgn a := by
  unfold sgT
  split
  · exact ⟨38, _, rfl, .inl rfl⟩
  · cases n with
    | zero => exact ⟨c, _, rfl, hc⟩
    | succ m => exact ⟨38, _, rfl, .inl rfl⟩
theorem rowT_fine : ∀ (l : List (Nat × Nat)), (∀ p ∈ l, sgn p.1) → fine (rowT l)
  | [], _, a, r', e => by cases e
  | p :: r, h, a, r', e => by
    obtain ⟨b, q, e2, hb⟩ := sgT_head (n := p.2) (h p List.mem_cons_self)
    have : rowT (p :: r) = b :: (q ++ rowT r) := by simp [rowT, e2]
    rw [this] at e
    obtain ⟨rfl, _⟩ := List.cons.inj e
    rcases hb with rfl | rfl | rfl <;> decide
theorem read_row : ∀ (l : List (Nat × Nat)) (k : Nat), (∀ p ∈ l, sgn p.1 ∧ p.2 ≤ 100) → l.length + 102 ≤ k → readS k (T (rowT l)) = some (rowR l)
  | [], k, _, hk => by
    obtain ⟨k', rfl⟩ : ∃ k', k = k' + 1 := ⟨k - 1, by simp at hk; omega⟩
    unfold readS
    rw [e_empty]
    simp [rowT, rowR]
  | p :: r, k, h, hk => by
    have hk' : r.length + 1 + 102 ≤ k := hk
    obtain ⟨k', rfl⟩ : ∃ k', k = k' + 1 := ⟨k - 1, by omega⟩
    have hp := h p List.mem_cons_self
    have hr : ∀ q ∈ r, sgn q.1 ∧ q.2 ≤ 100 := fun q hq => h q (List.mem_cons_of_mem _ hq)
    have e : rowT (p :: r) = sgT p.1 p.2 ++ rowT r := by simp [rowT]
    rw [e, read_step hp.1 (rowT r) (rowT_fine r fun q hq => (hr q hq).1) k' (by omega), read_row r k' hr (by omega)]
    rfl
end Mine
end
section
open PySem PySem.W PyProof.Rows PySem.Calls
set_option maxRecDepth 100000
namespace Mine
section
variable {news : List (Addr × Obj)} {v : Value} {vs : List Value} {d : Dat} {ds : List Dat}
theorem datTup (h : DatIn news v (.tuple ds)) : ∃ T ws n, v = .ref T ∧ (T, ({ cls := .type "tuple", data := .seq ws.toArray n } : Obj)) ∈ news ∧ DatAll news ws ds := by
  cases h with
  | tuple hm hd => exact ⟨_, _, _, rfl, hm, hd⟩
theorem datCons (h : DatAll news vs (d :: ds)) : ∃ x r, vs = x :: r ∧ DatIn news x d ∧ DatAll news r ds := by
  cases h with
  | cons h1 h2 => exact ⟨_, _, rfl, h1, h2⟩
theorem datNil (h : DatAll news vs []) : vs = [] := by
  cases h; rfl
theorem datInt {i : Int} (h : DatIn news v (.int i)) : ∃ t, v = .int i t := by
  cases h; exact ⟨_, rfl⟩
theorem datStr {x : Str} (h : DatIn news v (.str x)) : ∃ t, v = .str x t := by
  cases h; exact ⟨_, rfl⟩
theorem datTwo {a b : Dat} (h : DatIn news v (.tuple [a, b])) : ∃ T x y n, v = .ref T ∧ (T, ({ cls := .type "tuple", data := .seq #[x, y] n } : Obj)) ∈ news ∧ DatIn news x a ∧ DatIn news y b := by
  obtain ⟨T, ws, n, e, hm, hd⟩ := datTup h
  obtain ⟨x, r, rfl, h1, hd⟩ := datCons hd
  obtain ⟨y, r, rfl, h2, hd⟩ := datCons hd
  obtain rfl := datNil hd
  exact ⟨T, x, y, n, e, hm, h1, h2⟩
end
end Mine
end
section
open PySem PySem.W PyProof.Rows PySem.Calls
set_option maxRecDepth 100000
namespace Mine
theorem fm_bd (x : Int) {m : Int} (h : 0 < m) : 0 ≤ x.fmod m ∧ x.fmod m < m := ⟨Int.fmod_nonneg_of_pos x h, Int.fmod_lt_of_pos x h⟩
/-- one turn of the cutting: what is held, and the triangles (law 01) -/
noncomputable def cutK (p : Int × Int) (x : Int) : Int := p.1 + 1 + x.fmod (p.2 - p.1 - 1)
noncomputable def cutNew (p : Int × Int) (k : Int) : List (Int × Int) := (if 1 < k - p.1 then [(p.1, k)] else []) ++ (if 1 < p.2 - k then [(k, p.2)] else [])
noncomputable def triStep (st : List (Int × Int) × List (Int × Int × Int)) (x : Int) : List (Int × Int) × List (Int × Int × Int) :=
  match st.1 with
  | [] => st
  | p :: r => (r ++ cutNew p (cutK p x), st.2 ++ [(p.1, cutK p x, p.2)])
noncomputable def triS (last : Int) (cz : List Int) : List (Int × Int) × List (Int × Int × Int) := cz.foldl triStep ([(0, last)], [])
noncomputable def pairDat (p : Int × Int) : Dat := .tuple [.int p.1, .int p.2]
noncomputable def triDat (p : Int × Int × Int) : Dat := .tuple [.int p.1, .int p.2.1, .int p.2.2]
/-- what holds of the held pairs between the turns -/
noncomputable def HeldOk (last : Int) (n : Nat) (st : List (Int × Int) × List (Int × Int × Int)) : Prop :=
  (∀ p ∈ st.1, 0 ≤ p.1 ∧ p.1 + 2 ≤ p.2 ∧ p.2 ≤ last) ∧ ((st.1.map fun p => p.2 - p.1 - 1).sum = (n : Int)) ∧ n ≤ 8
theorem sum_pos : ∀ (l : List (Int × Int)), (∀ p ∈ l, 0 ≤ p.1 ∧ p.1 + 2 ≤ p.2 ∧ p.2 ≤ last) → (l.length : Int) ≤ (l.map fun p => p.2 - p.1 - 1).sum
  | [], _ => Int.le_refl _
  | p :: r, h => by
    have h1 := h p List.mem_cons_self
    have ih := sum_pos r fun q hq => h q (List.mem_cons_of_mem _ hq)
    simp only [List.map_cons, List.sum_cons, List.length_cons]
    push_cast
    omega
theorem cutK_in {p : Int × Int} (h : p.1 + 2 ≤ p.2) (x : Int) : p.1 < cutK p x ∧ cutK p x < p.2 := by
  have h1 := Int.fmod_nonneg_of_pos x (b := p.2 - p.1 - 1) (by omega)
  have h2 := Int.fmod_lt_of_pos x (b := p.2 - p.1 - 1) (by omega)
  unfold cutK
  omega
theorem cutNew_ok {last : Int} {p : Int × Int} {k : Int} (hp : 0 ≤ p.1 ∧ p.1 + 2 ≤ p.2 ∧ p.2 ≤ last) (hk : p.1 < k ∧ k < p.2) :
    (∀ q ∈ cutNew p k, 0 ≤ q.1 ∧ q.1 + 2 ≤ q.2 ∧ q.2 ≤ last) ∧ ((cutNew p k).map fun q => q.2 - q.1 - 1).sum = p.2 - p.1 - 2 ∧ (cutNew p k).length ≤ 2 := by
  unfold cutNew
  by_cases h1 : 1 < k - p.1 <;> by_cases h2 : 1 < p.2 - k
  · simp [h1, h2]; omega
  · simp [h1, h2]; omega
  · simp [h1, h2]; omega
  · simp [h1, h2]; omega
theorem held_step {last : Int} (hl : last ≤ 8) {n : Nat} {p : Int × Int} {r : List (Int × Int)} {t : List (Int × Int × Int)} (x : Int) (h : HeldOk last (n + 1) (p :: r, t)) : HeldOk last n (triStep (p :: r, t) x) := by
  obtain ⟨h1, h2, h3⟩ := h
  have hp := h1 p List.mem_cons_self
  have hk := cutK_in hp.2.1 x
  obtain ⟨c1, c2, c3⟩ := cutNew_ok hp hk
  have hs : ((r ++ cutNew p (cutK p x)).map fun q => q.2 - q.1 - 1).sum = (n : Int) := by
    simp only [List.map_cons, List.sum_cons] at h2
    rw [List.map_append, List.sum_append, c2]
    push_cast at h2
    omega
  have ha : ∀ q ∈ r ++ cutNew p (cutK p x), 0 ≤ q.1 ∧ q.1 + 2 ≤ q.2 ∧ q.2 ≤ last := fun q hq => (List.mem_append.mp hq).elim (fun z => h1 q (List.mem_cons_of_mem _ z)) (c1 q)
  exact ⟨ha, hs, by omega⟩
theorem held_len {last : Int} {n : Nat} {st : List (Int × Int) × List (Int × Int × Int)} (h : HeldOk last n st) : st.1.length ≤ 8 := by
  have := sum_pos st.1 h.1
  have h2 := h.2.1
  have h3 := h.2.2
  omega
theorem held_cons {last : Int} {n : Nat} {st : List (Int × Int) × List (Int × Int × Int)} (h : HeldOk last (n + 1) st) : ∃ p r, st.1 = p :: r := by
  obtain ⟨l, t⟩ := st
  cases l with
  | nil => have := h.2.1; simp at this; omega
  | cons p r => exact ⟨p, r, rfl⟩
theorem tri_next {last : Int} {cz : List Int} {i : Nat} {c : Int} (h : cz[i]? = some c) : triS last (cz.take (i + 1)) = triStep (triS last (cz.take i)) c := by
  unfold triS
  rw [List.take_add_one, h, List.foldl_append]; rfl
theorem tri_held {last : Int} (h1 : 2 ≤ last) (h2 : last ≤ 8) {cz : List Int} {n : Nat} (hn : cz.length = n) (hl : (n : Int) = last - 1) : ∀ i ≤ n, HeldOk last (n - i) (triS last (cz.take i)) := by
  intro i
  induction i with
  | zero =>
    intro _
    refine ⟨?_, ?_, by omega⟩
    · intro p hp
      rw [List.take_zero] at hp
      rw [List.mem_singleton.mp hp]
      exact ⟨Int.le_refl _, by show (0 : Int) + 2 ≤ last; omega, Int.le_refl _⟩
    · rw [List.take_zero]
      show ([((0 : Int), last)].map fun p => p.2 - p.1 - 1).sum = _
      simp only [List.map_cons, List.map_nil, List.sum_cons, List.sum_nil]
      omega
  | succ i ih =>
    intro hi
    have h := ih (by omega)
    rw [show n - i = (n - (i + 1)) + 1 by omega] at h
    obtain ⟨p, r, e⟩ := held_cons h
    have hc : cz[i]? = some (cz[i]'(by omega)) := List.getElem?_eq_getElem _
    rw [tri_next hc]
    rcases hst : triS last (cz.take i) with ⟨l, t⟩
    rw [hst] at h e
    subst e
    exact held_step h2 _ h
theorem triStep_len (st : List (Int × Int) × List (Int × Int × Int)) (x : Int) : (triStep st x).2.length ≤ st.2.length + 1 := by
  unfold triStep
  split
  · omega
  · rw [List.length_append]; exact Nat.le_refl _
theorem tri_len_go : ∀ (l : List Int) (st : List (Int × Int) × List (Int × Int × Int)), (l.foldl triStep st).2.length ≤ st.2.length + l.length
  | [], st => Nat.le_refl _
  | x :: r, st => by
    have h1 := triStep_len st x
    have h2 := tri_len_go r (triStep st x)
    rw [List.foldl_cons, List.length_cons]
    omega
theorem tri_len (last : Int) (cz : List Int) (i : Nat) : (triS last (cz.take i)).2.length ≤ i := by
  have h := tri_len_go (cz.take i) ([(0, last)], [])
  have h2 : (cz.take i).length ≤ i := by rw [List.length_take]; omega
  have h3 : (([(0, last)], []) : List (Int × Int) × List (Int × Int × Int)).2.length = 0 := rfl
  unfold triS
  omega
end Mine
end
section
open PySem PySem.W PyProof.Rows PySem.Calls
set_option maxRecDepth 100000
set_option maxHeartbeats 4000000
namespace Mine
/-- corners and their colours: 0 the first corner's, 1 the last one's, 2 the third -/
noncomputable def colStep (c : List (Int × Int)) (t : Int × Int × Int) : List (Int × Int) := kdfPut c t.2.1 (3 - kdfLook c t.1 0 - kdfLook c t.2.2 0)
noncomputable def colS (last : Int) (ts : List (Int × Int × Int)) : List (Int × Int) := ts.foldl colStep [(0, 0), (last, 1)]
noncomputable def sgC (c : Int) : Str := if c = 0 then Str.ofString "<" else if c = 1 then Str.ofString ">" else Str.ofString "&"
noncomputable def signL (last : Int) (ts : List (Int × Int × Int)) : List Str := (List.range (last + 1).toNat).map fun (k : Nat) => sgC (kdfLook (colS last ts) (k : Int) 0)
/-- what the walk of the signs asks of the triangles -/
noncomputable def sgOk (last : Int) (ts : List (Int × Int × Int)) : Bool :=
  ((List.range ts.length).all fun m => match ts[m]? with
    | some (i, k, j) => (kdfHas (colS last (ts.take m)) i) && (kdfHas (colS last (ts.take m)) j) && decide (kdfLook (colS last (ts.take m)) i 0 ≠ kdfLook (colS last (ts.take m)) j 0) &&
        decide (0 ≤ i ∧ i < k ∧ k < j ∧ j ≤ last) && decide (0 ≤ kdfLook (colS last (ts.take m)) i 0 ∧ kdfLook (colS last (ts.take m)) i 0 ≤ 2 ∧ 0 ≤ kdfLook (colS last (ts.take m)) j 0 ∧ kdfLook (colS last (ts.take m)) j 0 ≤ 2)
    | none => false) &&
  ((List.range (last + 1).toNat).all fun k => kdfHas (colS last ts) (k : Int) && decide (0 ≤ kdfLook (colS last ts) (k : Int) 0 ∧ kdfLook (colS last ts) (k : Int) 0 ≤ 2))
noncomputable def hueL (f : Int → Int) (c : List (Int × Int)) : List (Int × Int) := c.map fun p => (p.1, f p.2)
theorem hueL_any (f : Int → Int) (c : List (Int × Int)) (k : Int) : ((hueL f c).any fun p => decide (p.1 = k)) = c.any fun p => decide (p.1 = k) := by
  unfold hueL; rw [List.any_map]; rfl
theorem hueL_put (f : Int → Int) (c : List (Int × Int)) (k v : Int) : kdfPut (hueL f c) k (f v) = hueL f (kdfPut c k v) := by
  unfold kdfPut
  rw [hueL_any]
  split
  · unfold hueL
    rw [List.map_map, List.map_map]
    refine List.map_congr_left fun p _ => ?_
    show (if decide (p.1 = k) = true then (p.1, f v) else (p.1, f p.2)) = _
    show _ = ((if decide (p.1 = k) = true then (p.1, v) else p).1, f (if decide (p.1 = k) = true then (p.1, v) else p).2)
    split <;> rfl
  · unfold hueL; rw [List.map_append]; rfl
theorem look_cons (p : Int × Int) (c : List (Int × Int)) (k d : Int) : kdfLook (p :: c) k d = if p.1 = k then p.2 else kdfLook c k d := by
  unfold kdfLook
  rw [List.find?_cons]
  by_cases h : p.1 = k
  · simp [h]
  · simp [h]
theorem hueL_look (f : Int → Int) : ∀ (c : List (Int × Int)) (k d : Int), kdfHas c k = true → PySem.Spec.lookup (.int k) (kdfD (hueL f c)) = some (.int (f (kdfLook c k d)))
  | [], k, d, h => by cases h
  | p :: c, k, d, h => by
    rw [look_cons]
    show PySem.Spec.lookup (.int k) ((PyData.int p.1, PyData.int (f p.2)) :: kdfD (hueL f c)) = _
    unfold PySem.Spec.lookup
    rw [PyProof.V.same_int]
    by_cases hp : p.1 = k
    · rw [if_pos (by simp [hp]), if_pos hp]
    · rw [if_neg (by simp [hp])]
      rw [if_neg hp]
      have hh : kdfHas c k = true := by
        unfold kdfHas at h ⊢
        rw [List.any_cons] at h
        simpa [hp] using h
      exact hueL_look f c k d hh
/-- every cutting of a polygon, by the choices -/
noncomputable def allT : Nat → List (Int × Int) → List (List (Int × Int × Int))
  | 0, _ => [[]]
  | n + 1, held => match held with
    | [] => []
    | p :: r => (List.range (p.2 - p.1 - 1).toNat).flatMap fun (c : Nat) => (allT n (r ++ cutNew p (p.1 + 1 + (c : Int)))).map fun t => (p.1, p.1 + 1 + (c : Int), p.2) :: t
theorem allT_mem {last : Int} (hl : last ≤ 8) : ∀ (n : Nat) (cz : List Int) (held : List (Int × Int)) (acc : List (Int × Int × Int)), cz.length = n → HeldOk last n (held, acc) → ∃ t ∈ allT n held, (cz.foldl triStep (held, acc)).2 = acc ++ t
  | 0, cz, held, acc, hz, _ => by
    obtain rfl := List.eq_nil_of_length_eq_zero hz
    exact ⟨[], List.mem_singleton.mpr rfl, (List.append_nil _).symm⟩
  | n + 1, cz, held, acc, hz, h => by
    obtain ⟨p, r, e⟩ := held_cons h
    dsimp only at e
    subst e
    cases cz with
    | nil => cases hz
    | cons x cz =>
      have hs := held_step hl x h
      have hp := h.1 p List.mem_cons_self
      have hk := cutK_in hp.2.1 x
      obtain ⟨t, ht, e⟩ := allT_mem hl n cz (r ++ cutNew p (cutK p x)) (acc ++ [(p.1, cutK p x, p.2)]) (by simpa using hz) hs
      refine ⟨(p.1, cutK p x, p.2) :: t, ?_, ?_⟩
      · unfold allT
        refine List.mem_flatMap.mpr ⟨(cutK p x - p.1 - 1).toNat, List.mem_range.mpr (by omega), ?_⟩
        have e3 : p.1 + 1 + (((cutK p x - p.1 - 1).toNat : Nat) : Int) = cutK p x := by omega
        rw [e3]
        exact List.mem_map.mpr ⟨t, ht, rfl⟩
      · rw [List.foldl_cons]
        show (cz.foldl triStep (r ++ cutNew p (cutK p x), acc ++ [(p.1, cutK p x, p.2)])).2 = _
        rw [e, List.append_assoc]; rfl
theorem triS_mem {last : Int} (h1 : 2 ≤ last) (h2 : last ≤ 8) {cz : List Int} {n : Nat} (hn : cz.length = n) (hl : (n : Int) = last - 1) : (triS last cz).2 ∈ allT n [(0, last)] := by
  have h0 := tri_held h1 h2 hn hl 0 (Nat.zero_le _)
  rw [List.take_zero] at h0
  obtain ⟨t, ht, e⟩ := allT_mem (last := last) h2 n cz [(0, last)] [] hn h0
  rw [List.nil_append] at e
  unfold triS
  rw [e]; exact ht
theorem sg5 : ∀ t ∈ allT 4 [(0, 5)], sgOk 5 t = true := by decide +kernel
theorem sg6 : ∀ t ∈ allT 5 [(0, 6)], sgOk 6 t = true := by decide +kernel
theorem sg7 : ∀ t ∈ allT 6 [(0, 7)], sgOk 7 t = true := by decide +kernel
theorem colS_next {last : Int} {ts : List (Int × Int × Int)} {i : Nat} {t : Int × Int × Int} (h : ts[i]? = some t) : colS last (ts.take (i + 1)) = colStep (colS last (ts.take i)) t := by
  unfold colS
  rw [List.take_add_one, h, List.foldl_append]; rfl
theorem colS_len (last : Int) : ∀ (ts : List (Int × Int × Int)), (colS last ts).length ≤ 2 + ts.length := by
  intro ts
  unfold colS
  suffices h : ∀ (l : List (Int × Int × Int)) (c : List (Int × Int)), (l.foldl colStep c).length ≤ c.length + l.length from h ts _
  intro l
  induction l with
  | nil => intro c; exact Nat.le_refl _
  | cons t r ih =>
    intro c
    have h1 := ih (colStep c t)
    have h2 : (colStep c t).length ≤ c.length + 1 := kdfPut_len _ _ _
    rw [List.foldl_cons, List.length_cons]
    omega
theorem sgOk_turn {last : Int} {ts : List (Int × Int × Int)} (h : sgOk last ts = true) {m : Nat} {i k j : Int} (hm : ts[m]? = some (i, k, j)) :
    kdfHas (colS last (ts.take m)) i = true ∧ kdfHas (colS last (ts.take m)) j = true ∧ kdfLook (colS last (ts.take m)) i 0 ≠ kdfLook (colS last (ts.take m)) j 0 ∧ (0 ≤ i ∧ i < k ∧ k < j ∧ j ≤ last) ∧
      (0 ≤ kdfLook (colS last (ts.take m)) i 0 ∧ kdfLook (colS last (ts.take m)) i 0 ≤ 2) ∧ (0 ≤ kdfLook (colS last (ts.take m)) j 0 ∧ kdfLook (colS last (ts.take m)) j 0 ≤ 2) := by
  unfold sgOk at h
  rw [Bool.and_eq_true] at h
  have h1 := List.all_eq_true.mp h.1 m (List.mem_range.mpr (List.getElem?_eq_some_iff.mp hm).1)
  rw [hm] at h1
  simp only [Bool.and_eq_true, decide_eq_true_eq] at h1
  obtain ⟨⟨⟨⟨a, b⟩, c⟩, d⟩, e⟩ := h1
  exact ⟨a, b, c, d, ⟨e.1, e.2.1⟩, e.2.2.1, e.2.2.2⟩
theorem sgOk_end {last : Int} {ts : List (Int × Int × Int)} (h : sgOk last ts = true) {k : Nat} (hk : (k : Int) ≤ last) : kdfHas (colS last ts) (k : Int) = true ∧ 0 ≤ kdfLook (colS last ts) (k : Int) 0 ∧ kdfLook (colS last ts) (k : Int) 0 ≤ 2 := by
  unfold sgOk at h
  rw [Bool.and_eq_true] at h
  have h1 := List.all_eq_true.mp h.2 k (List.mem_range.mpr (by omega))
  simp only [Bool.and_eq_true, decide_eq_true_eq] at h1
  exact h1
end Mine
end
section
open PySem PySem.W PyProof.Rows PySem.Calls
set_option maxRecDepth 100000
set_option maxHeartbeats 4000000
namespace Mine
/-- the sign's letter -/
noncomputable def codeC (c : Int) : Nat := if c = 0 then 60 else if c = 1 then 62 else 38
theorem sgC_code (c : Int) : sgC c = T [codeC c] := by
  unfold sgC codeC
  split
  · decide
  split
  · decide
  · decide
noncomputable def upR (l : List (Nat × Nat)) : List (Nat × Nat) := l.map fun p => (p.1, p.2 + 1)
noncomputable def lookR (c : List (Int × List (Nat × Nat))) (k : Int) : List (Nat × Nat) := ((c.find? fun p => decide (p.1 = k)).map (·.2)).getD []
noncomputable def putR (c : List (Int × List (Nat × Nat))) (k : Int) (v : List (Nat × Nat)) : List (Int × List (Nat × Nat)) :=
  if c.any (fun p => decide (p.1 = k)) then c.map (fun p => if decide (p.1 = k) then (p.1, v) else p) else c ++ [(k, v)]
/-- a turn of the table: the text of the side (i, j) as a row of signs and levels -/
noncomputable def rowStep (col : Int → Int) (c : List (Int × List (Nat × Nat))) (t : Int × Int × Int) : List (Int × List (Nat × Nat)) :=
  putR c (10 * t.1 + t.2.2) (upR (lookR c (10 * t.1 + t.2.1)) ++ [(codeC (col t.2.1), 0)] ++ upR (lookR c (10 * t.2.1 + t.2.2)))
noncomputable def colF (last : Int) (ts : List (Int × Int × Int)) (k : Int) : Int := kdfLook (colS last ts) k 0
noncomputable def rowsS (last : Int) (ts : List (Int × Int × Int)) : List (Int × List (Nat × Nat)) := ts.reverse.foldl (rowStep (colF last ts)) []
noncomputable def rowFin (last : Int) (ts : List (Int × Int × Int)) : List (Nat × Nat) := lookR (rowsS last ts) last
/-- Farey's points -/
noncomputable def ptLook (c : List (Int × (Int × Int))) (k : Int) : Int × Int := ((c.find? fun p => decide (p.1 = k)).map (·.2)).getD (0, 0)
noncomputable def ptStep (c : List (Int × (Int × Int))) (t : Int × Int × Int) : List (Int × (Int × Int)) :=
  c ++ [(t.2.1, ((ptLook c t.1).1 + (ptLook c t.2.2).1, (ptLook c t.1).2 + (ptLook c t.2.2).2))]
noncomputable def ptS (last : Int) (ts : List (Int × Int × Int)) : List (Int × (Int × Int)) := ts.foldl ptStep [(0, (1, 0)), (last, (0, 1))]
noncomputable def areaS (last : Int) (ts : List (Int × Int × Int)) (i j : Int) : Int := (ptLook (ptS last ts) i).1 * (ptLook (ptS last ts) j).2 - (ptLook (ptS last ts) j).1 * (ptLook (ptS last ts) i).2
/-- the triangles at a corner, as the table tells them -/
noncomputable def atS (ts : List (Int × Int × Int)) (c : Int) : List Int := (ts.reverse.filter fun t => decide (c = t.1) || decide (c = t.2.1) || decide (c = t.2.2)).map fun t => t.2.1
/-- one more choice -/
noncomputable def moreIn (held v : Int) (m : List (Int × Int)) (t : Int) : List (Int × Int) :=
  if (held.fdiv (2 ^ t.toNat)).fmod 2 = 0 then kdfPut m (held + 2 ^ t.toNat) (kdfLook m (held + 2 ^ t.toNat) 0 + v) else m
noncomputable def moreS (picks : List (Int × Int)) (ch : List Int) : List (Int × Int) := picks.foldl (fun m p => ch.foldl (moreIn p.1 (kdfLook picks p.1 0)) m) []
/-- the picks ahead of corner i + 1 + n, from corner i on -/
noncomputable def picksS (ts : List (Int × Int × Int)) (i : Int) : Nat → List (Int × Int)
  | 0 => [(0, 1)]
  | n + 1 => moreS (picksS ts i n) (atS ts (i + 1 + (n : Int)))
noncomputable def lvS (last : Int) (ts : List (Int × Int × Int)) (k : Int) : Int := if k = 0 ∨ k = last then -1 else (((rowFin last ts)[(k - 1).toNat]?).map fun p => (p.2 : Int)).getD 0
noncomputable def leastS (last : Int) (ts : List (Int × Int × Int)) (i : Int) : Nat → Int
  | 0 => last
  | n + 1 => min (leastS last ts i n) (lvS last ts (i + 1 + (n : Int)))
noncomputable def sumV (c : List (Int × Int)) : Int := (c.map (·.2)).sum
/-- what the law asks, at each pair of corners -/
noncomputable def agOk (last : Int) (ts : List (Int × Int × Int)) : Bool :=
  decide ((rowFin last ts).length = (last - 1).toNat) &&
  ((List.range (last - 1).toNat).all fun n => match (rowFin last ts)[n]? with | some p => decide (p.1 = codeC (colF last ts ((n : Int) + 1))) && decide (p.2 ≤ 8) | none => false) &&
  ((List.range last.toNat).all fun i => (List.range (last.toNat - i)).all fun n =>
    let j : Int := (i : Int) + 1 + (n : Int)
    decide (sumV (picksS ts i n) = areaS last ts i j) && ((decide (colF last ts i = colF last ts j)) == decide ((areaS last ts i j).fmod 2 = 0)) &&
      (decide (max (lvS last ts i) (lvS last ts j) < leastS last ts i n) == decide (areaS last ts i j = 1)) && decide ((picksS ts i n).length ≤ 100))
theorem ag5 : ∀ t ∈ allT 4 [(0, 5)], agOk 5 t = true := by decide +kernel
theorem ag6 : ∀ t ∈ allT 5 [(0, 6)], agOk 6 t = true := by decide +kernel
theorem ag7 : ∀ t ∈ allT 6 [(0, 7)], agOk 7 t = true := by decide +kernel
end Mine
end
section
open PySem PySem.W PyProof.Rows PySem.Calls
set_option maxRecDepth 100000
set_option maxHeartbeats 4000000
namespace Mine
/-- the headers that the table gets of one triangle -/
noncomputable def letC (c k : Int) : Str := if (c + k).fmod 2 = 1 then Txt.upper (Txt.item (Str.ofString "abcdefgh") c) else Txt.item (Str.ofString "abcdefgh") c
noncomputable def hdrT (t : Int × Int × Int) : List (Str × Str) := [(letC t.1 t.2.1, Str.ofString (toString t.2.1)), (letC t.2.1 t.2.1, Str.ofString (toString t.2.1)), (letC t.2.2 t.2.1, Str.ofString (toString t.2.1))]
noncomputable def hdrS (ts : List (Int × Int × Int)) : List (Str × Str) := ts.reverse.flatMap hdrT
theorem upR_eq (l : List (Nat × Nat)) : upR l = l.map fun p => (p.1, p.2 + 1) := rfl
/-- the texts' table as data -/
noncomputable def txtD (c : List (Int × List (Nat × Nat))) : List (PyData × PyData) := c.map fun p => (PyData.int p.1, PyData.str (T (rowT p.2)))
theorem txtD_any (c : List (Int × List (Nat × Nat))) (k : Int) : ((txtD c).any fun p => PySem.Spec.same p.1 (PyData.int k)) = c.any fun p => decide (p.1 = k) := by
  induction c with
  | nil => rfl
  | cons p c ih =>
    show (PySem.Spec.same (PyData.int p.1) (PyData.int k) || (txtD c).any fun p => PySem.Spec.same p.1 (PyData.int k)) = (decide (p.1 = k) || c.any fun p => decide (p.1 = k))
    rw [ih, PyProof.V.same_int]
theorem txtD_put (c : List (Int × List (Nat × Nat))) (k : Int) (v : List (Nat × Nat)) : PyProof.V.putD (PyData.int k) (PyData.str (T (rowT v))) (txtD c) = txtD (putR c k v) := by
  unfold PyProof.V.putD putR
  rw [txtD_any]
  split
  · unfold txtD
    rw [List.map_map, List.map_map]
    refine List.map_congr_left fun p _ => ?_
    show (if PySem.Spec.same (PyData.int p.1) (PyData.int k) = true then (PyData.int p.1, PyData.str (T (rowT v))) else (PyData.int p.1, PyData.str (T (rowT p.2)))) = _
    rw [PyProof.V.same_int]
    show _ = (PyData.int (if decide (p.1 = k) = true then (p.1, v) else p).1, PyData.str (T (rowT (if decide (p.1 = k) = true then (p.1, v) else p).2)))
    split <;> rfl
  · unfold txtD; rw [List.map_append]; rfl
theorem txtD_look : ∀ (c : List (Int × List (Nat × Nat))) (k : Int), PySem.Spec.lookup (.int k) (txtD c) = if c.any (fun p => decide (p.1 = k)) then some (.str (T (rowT (lookR c k)))) else none
  | [], k => rfl
  | p :: c, k => by
    show (if PySem.Spec.same (PyData.int p.1) (PyData.int k) = true then some (PyData.str (T (rowT p.2))) else PySem.Spec.lookup (.int k) (txtD c)) = _
    rw [PyProof.V.same_int, List.any_cons]
    unfold lookR
    rw [List.find?_cons]
    by_cases h : p.1 = k
    · simp [h]
    · have ih := txtD_look c k
      unfold lookR at ih
      rw [if_neg (by simp [h]), ih, show decide (p.1 = k) = false from by simp [h], Bool.false_or]
theorem lookR_none {c : List (Int × List (Nat × Nat))} {k : Int} (h : (c.any fun p => decide (p.1 = k)) = false) : lookR c k = [] := by
  unfold lookR
  rw [List.find?_eq_none.mpr]
  · rfl
  · intro p hp
    have := List.any_eq_false.mp h p hp
    simpa using this
end Mine
end
section
open PySem PySem.W PyProof.Rows PySem.Calls
set_option maxRecDepth 100000
set_option maxHeartbeats 4000000
namespace Mine
noncomputable abbrev fracF (a b : Int) : UInt64 := Float64.ofFrac (decide (a < 0) != decide (b < 0)) a.natAbs b.natAbs
noncomputable def lackF (p q : UInt64) : UInt64 := Float64.sub 4607182418800017408 (Float64.div (Float64.add p q) 4611686018427387904)
/-- the number reckoned first -/
noncomputable def fo (x : UInt64) (k : UInt64 → Bool) : Bool := @Nat.rec (fun _ => Bool) (k (UInt64.ofNat 0)) (fun n _ => k (UInt64.ofNat (Nat.succ n))) x.toNat
theorem fo_eq (x : UInt64) (k : UInt64 → Bool) : fo x k = k x := by
  unfold fo
  have e : UInt64.ofNat x.toNat = x := UInt64.ofNat_toNat
  cases h : x.toNat with
  | zero => rw [h] at e; show k (UInt64.ofNat 0) = k x; rw [e]
  | succ n => rw [h] at e; show k (UInt64.ofNat (n + 1)) = k x; rw [e]
noncomputable def vFo (m1 m2 hue : UInt64) (k : UInt64 → Bool) : Bool :=
  fo (Float64.divmod hue 4607182418800017408).snd fun h =>
  if (Float64.cmp h 4595172819793696085 == some Ordering.lt) = true then
    fo (Float64.sub m2 m1) fun d => fo (Float64.mul d h) fun d => fo (Float64.mul d 4618441417868443648) fun d => fo (Float64.add m1 d) k
  else if (Float64.cmp h 4602678819172646912 == some Ordering.lt) = true then k m2
  else if (Float64.cmp h 4604180019048437077 == some Ordering.lt) = true then
    fo (Float64.sub m2 m1) fun d => fo (Float64.sub 4604180019048437077 h) fun g => fo (Float64.mul d g) fun d => fo (Float64.mul d 4618441417868443648) fun d => fo (Float64.add m1 d) k
  else k m1
theorem vFo_eq (m1 m2 hue : UInt64) (k : UInt64 → Bool) : vFo m1 m2 hue k = k (vF m1 m2 hue) := by
  unfold vFo vF
  simp only [fo_eq]
  split
  · rfl
  split
  · rfl
  split
  · rfl
  rfl
noncomputable def lackO (p q : UInt64) (k : UInt64 → Bool) : Bool := fo (Float64.add p q) fun x => fo (Float64.div x 4611686018427387904) fun x => fo (Float64.sub 4607182418800017408 x) k
theorem lackO_eq (p q : UInt64) (k : UInt64 → Bool) : lackO p q k = k (lackF p q) := by
  unfold lackO lackF
  simp only [fo_eq]
noncomputable def hueO (x y mx rc gc bc : UInt64) (k : UInt64 → Bool) : Bool :=
  if (Float64.cmp x mx == some Ordering.eq) = true then fo (Float64.sub bc gc) fun d => fo (Float64.div d 4618441417868443648) fun d => fo (Float64.divmod d 4607182418800017408).snd k
  else if (Float64.cmp y mx == some Ordering.eq) = true then fo (Float64.add 4611686018427387904 rc) fun d => fo (Float64.sub d bc) fun d => fo (Float64.div d 4618441417868443648) fun d => fo (Float64.divmod d 4607182418800017408).snd k
  else fo (Float64.add 4616189618054758400 gc) fun d => fo (Float64.sub d rc) fun d => fo (Float64.div d 4618441417868443648) fun d => fo (Float64.divmod d 4607182418800017408).snd k
theorem hueO_eq (x y z mx rc gc bc : UInt64) (k : UInt64 → Bool) : hueO x y mx rc gc bc k = k (hueOf x y z mx rc gc bc) := by
  unfold hueO hueOf
  simp only [fo_eq]
  split
  · rfl
  split
  · rfl
  rfl
noncomputable def hlsO (h s : UInt64) (k : UInt64 → UInt64 → UInt64 → Bool) : Bool :=
  !(Float64.cmp s 0 == some Ordering.eq) &&
  fo (Float64.mul 4602678819172646912 (Float64.add 4607182418800017408 s)) fun m2 =>
  fo (Float64.sub (Float64.mul 4611686018427387904 4602678819172646912) m2) fun m1 =>
  vFo m1 m2 (Float64.add h 4599676419421066581) fun r => vFo m1 m2 h fun g => vFo m1 m2 (Float64.sub h 4599676419421066581) fun b => k r g b
theorem half_ok : (Float64.cmp 4602678819172646912 4602678819172646912 == some Ordering.lt || Float64.cmp 4602678819172646912 4602678819172646912 == some Ordering.eq) = true := by decide +kernel
theorem hlsO_eq {h s : UInt64} {k : UInt64 → UInt64 → UInt64 → Bool} (e : hlsO h s k = true) : k (hlsRgbF h 4602678819172646912 s).1 (hlsRgbF h 4602678819172646912 s).2.1 (hlsRgbF h 4602678819172646912 s).2.2 = true := by
  unfold hlsO at e
  rw [Bool.and_eq_true, Bool.not_eq_true'] at e
  obtain ⟨e1, e2⟩ := e
  simp only [fo_eq, vFo_eq] at e2
  have q : hlsRgbF h 4602678819172646912 s = (vF (Float64.sub (Float64.mul 4611686018427387904 4602678819172646912) (Float64.mul 4602678819172646912 (Float64.add 4607182418800017408 s))) (Float64.mul 4602678819172646912 (Float64.add 4607182418800017408 s)) (Float64.add h 4599676419421066581),
      vF (Float64.sub (Float64.mul 4611686018427387904 4602678819172646912) (Float64.mul 4602678819172646912 (Float64.add 4607182418800017408 s))) (Float64.mul 4602678819172646912 (Float64.add 4607182418800017408 s)) h,
      vF (Float64.sub (Float64.mul 4611686018427387904 4602678819172646912) (Float64.mul 4602678819172646912 (Float64.add 4607182418800017408 s))) (Float64.mul 4602678819172646912 (Float64.add 4607182418800017408 s)) (Float64.sub h 4599676419421066581)) := by
    unfold hlsRgbF
    rw [e1, if_neg Bool.false_ne_true, if_pos half_ok]
  rw [q]
  exact e2
noncomputable def hsvO (h s : UInt64) (k : UInt64 → UInt64 → UInt64 → Bool) : Bool :=
  !(Float64.cmp s 0 == some Ordering.eq) &&
  fo (Float64.mul h 4618441417868443648) fun e =>
  !(Float64.isNaN e) && !(Float64.isInf e) && decide ((Flt.toInt Float64.truncOf e).natAbs < 1000) &&
  fo (Float64.sub e (Float64.ofInt (Flt.toInt Float64.truncOf e))) fun f =>
  fo (Float64.mul 4607182418800017408 (Float64.sub 4607182418800017408 s)) fun p => fo (Float64.mul s f) fun q => fo (Float64.mul 4607182418800017408 (Float64.sub 4607182418800017408 q)) fun q =>
  fo (Float64.sub 4607182418800017408 f) fun t => fo (Float64.mul s t) fun t => fo (Float64.mul 4607182418800017408 (Float64.sub 4607182418800017408 t)) fun t =>
  if (Flt.toInt Float64.truncOf e).fmod 6 = 0 then k 4607182418800017408 t p else if (Flt.toInt Float64.truncOf e).fmod 6 = 1 then k q 4607182418800017408 p else if (Flt.toInt Float64.truncOf e).fmod 6 = 2 then k p 4607182418800017408 t else if (Flt.toInt Float64.truncOf e).fmod 6 = 3 then k p q 4607182418800017408
    else if (Flt.toInt Float64.truncOf e).fmod 6 = 4 then k t p 4607182418800017408 else if (Flt.toInt Float64.truncOf e).fmod 6 = 5 then k 4607182418800017408 p q else false
theorem hsvO_eq {h s : UInt64} {k : UInt64 → UInt64 → UInt64 → Bool} (e : hsvO h s k = true) : hsvOk h = true ∧ k (hsvRgbF h s 4607182418800017408).1 (hsvRgbF h s 4607182418800017408).2.1 (hsvRgbF h s 4607182418800017408).2.2 = true := by
  unfold hsvO at e
  rw [Bool.and_eq_true, Bool.not_eq_true'] at e
  obtain ⟨e1, e2⟩ := e
  simp only [fo_eq] at e2
  rw [Bool.and_eq_true] at e2
  refine ⟨e2.1, ?_⟩
  have e3 := e2.2
  unfold hsvRgbF
  rw [e1, if_neg Bool.false_ne_true]
  dsimp only
  split
  · next q => rw [if_pos q] at e3; exact e3
  next q0 =>
  rw [if_neg q0] at e3
  split
  · next q => rw [if_pos q] at e3; exact e3
  next q0 =>
  rw [if_neg q0] at e3
  split
  · next q => rw [if_pos q] at e3; exact e3
  next q0 =>
  rw [if_neg q0] at e3
  split
  · next q => rw [if_pos q] at e3; exact e3
  next q0 =>
  rw [if_neg q0] at e3
  split
  · next q => rw [if_pos q] at e3; exact e3
  next q0 =>
  rw [if_neg q0] at e3
  split
  · next q => rw [if_pos q] at e3; exact e3
  next q0 =>
  rw [if_neg q0] at e3
  cases e3
/-- a hue told back as a whole number of 192nds -/
noncomputable def hueGood (h : UInt64) (want : Int) : Prop :=
  Float64.isNaN (Float64.add (Float64.mul h (Float64.ofInt 192)) 4602678819172646912) = false ∧ Float64.isInf (Float64.add (Float64.mul h (Float64.ofInt 192)) 4602678819172646912) = false ∧ (Flt.toInt Float64.truncOf (Float64.add (Float64.mul h (Float64.ofInt 192)) 4602678819172646912)).fmod 192 = want
noncomputable def toldO (h : UInt64) (want : Nat) : Bool := fo (Float64.add (Float64.mul h (Float64.ofInt 192)) 4602678819172646912) fun e => !(Float64.isNaN e) && !(Float64.isInf e) && decide ((Flt.toInt Float64.truncOf e).fmod 192 = (want : Int))
theorem toldO_eq {h : UInt64} {want : Nat} (e : toldO h want = true) : hueGood h want := by
  unfold toldO at e
  rw [fo_eq] at e
  simp only [Bool.and_eq_true, Bool.not_eq_true', decide_eq_true_eq] at e
  exact ⟨e.1.1, e.1.2, e.2⟩
noncomputable def tellO (x y z : UInt64) (want : Nat) : Bool :=
  fo (max3 x y z) fun mx => fo (min3 x y z) fun mn => fo (Float64.sub mx mn) fun d => fo (Float64.add mx mn) fun sm =>
  !(Float64.cmp mn mx == some Ordering.eq) && !(Float64.isZero d) && !(Float64.isZero mx) && !(Float64.isZero sm) && !(Float64.isZero (Float64.sub (Float64.sub 4611686018427387904 mx) mn)) &&
  fo (Float64.div (Float64.sub mx x) d) fun rc => fo (Float64.div (Float64.sub mx y) d) fun gc => fo (Float64.div (Float64.sub mx z) d) fun bc =>
  hueO x y mx rc gc bc fun h => toldO h want
theorem tellO_eq {x y z : UInt64} {want : Nat} (e : tellO x y z want = true) : ∃ h l s s' v, rgbHlsF x y z = some (h, l, s) ∧ rgbHsvF x y z = some (h, s', v) ∧ hueGood h want := by
  unfold tellO at e
  simp only [fo_eq, hueO_eq x y z] at e
  simp only [Bool.and_eq_true, Bool.not_eq_true'] at e
  obtain ⟨⟨⟨⟨⟨e1, e2⟩, e3⟩, e4⟩, e5⟩, e6⟩ := e
  have p1 : ∃ l s, rgbHlsF x y z = some (hueOf x y z (max3 x y z) (Float64.div (Float64.sub (max3 x y z) x) (Float64.sub (max3 x y z) (min3 x y z))) (Float64.div (Float64.sub (max3 x y z) y) (Float64.sub (max3 x y z) (min3 x y z))) (Float64.div (Float64.sub (max3 x y z) z) (Float64.sub (max3 x y z) (min3 x y z))), l, s) := by
    unfold rgbHlsF
    dsimp only
    rw [e1, if_neg Bool.false_ne_true, e2, if_neg Bool.false_ne_true]
    split
    · rw [e4, if_neg Bool.false_ne_true]; exact ⟨_, _, rfl⟩
    · rw [e5, if_neg Bool.false_ne_true]; exact ⟨_, _, rfl⟩
  have p2 : ∃ s v, rgbHsvF x y z = some (hueOf x y z (max3 x y z) (Float64.div (Float64.sub (max3 x y z) x) (Float64.sub (max3 x y z) (min3 x y z))) (Float64.div (Float64.sub (max3 x y z) y) (Float64.sub (max3 x y z) (min3 x y z))) (Float64.div (Float64.sub (max3 x y z) z) (Float64.sub (max3 x y z) (min3 x y z))), s, v) := by
    unfold rgbHsvF
    dsimp only
    rw [e1, if_neg Bool.false_ne_true, e2, if_neg Bool.false_ne_true, e3, if_neg Bool.false_ne_true]
    exact ⟨_, _, rfl⟩
  obtain ⟨l, s, p1⟩ := p1
  obtain ⟨s', v, p2⟩ := p2
  exact ⟨_, l, s, s', v, p1, p2, toldO_eq e6⟩
noncomputable def hcol (u c : Nat) : Nat := (3 * u + 64 * c) % 192
noncomputable def chkS (u a b : Nat) : Bool :=
  fo (fracF (1 + ((u / 64 % 4 : Nat) : Int)) 4) fun sh =>
  fo (fracF (hcol u a) 192) fun h1 => fo (fracF (hcol u b) 192) fun h2 =>
  hlsO h1 sh fun r1 g1 b1 => hsvO h2 sh fun r2 g2 b2 =>
  lackO r1 r2 fun x => lackO g1 g2 fun y => lackO b1 b2 fun z => tellO x y z (hcol u (3 - a - b))
noncomputable def chk6 (u : Nat) : Bool := chkS u 0 1 && chkS u 0 2 && chkS u 1 0 && chkS u 1 2 && chkS u 2 0 && chkS u 2 1
theorem chkS_eq {u a b : Nat} (e : chkS u a b = true) : ∃ r1 g1 b1 r2 g2 b2, hlsRgbF (fracF (hcol u a) 192) 4602678819172646912 (fracF (1 + ((u / 64 % 4 : Nat) : Int)) 4) = (r1, g1, b1) ∧ hsvRgbF (fracF (hcol u b) 192) (fracF (1 + ((u / 64 % 4 : Nat) : Int)) 4) 4607182418800017408 = (r2, g2, b2) ∧
    hsvOk (fracF (hcol u b) 192) = true ∧ ∃ h l s s' v, rgbHlsF (lackF r1 r2) (lackF g1 g2) (lackF b1 b2) = some (h, l, s) ∧ rgbHsvF (lackF r1 r2) (lackF g1 g2) (lackF b1 b2) = some (h, s', v) ∧ hueGood h (hcol u (3 - a - b)) := by
  unfold chkS at e
  simp only [fo_eq] at e
  have e2 := hsvO_eq (hlsO_eq e)
  obtain ⟨e3, e4⟩ := e2
  simp only [lackO_eq] at e4
  exact ⟨_, _, _, _, _, _, rfl, rfl, e3, tellO_eq e4⟩
end Mine
end
section
open PySem PySem.W PyProof.Rows PySem.Calls
set_option maxRecDepth 100000
set_option maxHeartbeats 4000000
namespace Mine
theorem tb_0 : ∀ u : Nat, u < 32 → chk6 (0 + u) = true := by decide +kernel
theorem tb_1 : ∀ u : Nat, u < 32 → chk6 (32 + u) = true := by decide +kernel
theorem tb_2 : ∀ u : Nat, u < 32 → chk6 (64 + u) = true := by decide +kernel
theorem tb_3 : ∀ u : Nat, u < 32 → chk6 (96 + u) = true := by decide +kernel
theorem tb_4 : ∀ u : Nat, u < 32 → chk6 (128 + u) = true := by decide +kernel
theorem tb_5 : ∀ u : Nat, u < 32 → chk6 (160 + u) = true := by decide +kernel
theorem tb_6 : ∀ u : Nat, u < 32 → chk6 (192 + u) = true := by decide +kernel
theorem tb_7 : ∀ u : Nat, u < 32 → chk6 (224 + u) = true := by decide +kernel
theorem tb_8 : ∀ k, k < 8 → ∀ u < 32, chk6 (32 * k + u) = true
  | 0, _ => tb_0
  | 1, _ => tb_1
  | 2, _ => tb_2
  | 3, _ => tb_3
  | 4, _ => tb_4
  | 5, _ => tb_5
  | 6, _ => tb_6
  | 7, _ => tb_7
  | k + 8, h => absurd h (Nat.not_lt.mpr (Nat.le_add_left 8 k))
theorem tb_all {u : Nat} (h : u < 256) : chk6 u = true := by
  have := tb_8 (u / 32) (Nat.div_lt_of_lt_mul h) (u % 32) (Nat.mod_lt _ (by decide))
  rwa [Nat.div_add_mod] at this
theorem tb_pick {u a b : Nat} (h : u < 256) (ha : a ≤ 2) (hb : b ≤ 2) (hne : a ≠ b) : chkS u a b = true := by
  have e := tb_all h
  unfold chk6 at e
  simp only [Bool.and_eq_true] at e
  obtain ⟨⟨⟨⟨⟨e1, e2⟩, e3⟩, e4⟩, e5⟩, e6⟩ := e
  have : (a = 0 ∧ b = 1) ∨ (a = 0 ∧ b = 2) ∨ (a = 1 ∧ b = 0) ∨ (a = 1 ∧ b = 2) ∨ (a = 2 ∧ b = 0) ∨ (a = 2 ∧ b = 1) := by omega
  rcases this with ⟨rfl, rfl⟩ | ⟨rfl, rfl⟩ | ⟨rfl, rfl⟩ | ⟨rfl, rfl⟩ | ⟨rfl, rfl⟩ | ⟨rfl, rfl⟩
  · exact e1
  · exact e2
  · exact e3
  · exact e4
  · exact e5
  · exact e6
/-- the hue of a colour: the first corner's (0), the last one's (1), the third (2) -/
noncomputable def hv (tot c : Int) : Int := (3 * tot + 64 * c).fmod 192
/-- the spread -/
noncomputable abbrev shv (tot : Int) : UInt64 := fracF (1 + (tot.fdiv 64).fmod 4) 4
theorem hv_col {tot : Int} (h : 0 ≤ tot) (c : Nat) : hv tot c = (hcol (tot.toNat % 256) c : Nat) := by
  unfold hv hcol
  rw [Int.fmod_eq_emod_of_nonneg _ (by decide)]
  omega
theorem shv_col {tot : Int} (h : 0 ≤ tot) : shv tot = fracF (1 + ((tot.toNat % 256 / 64 % 4 : Nat) : Int)) 4 := by
  unfold shv
  congr 2
  rw [Int.fmod_eq_emod_of_nonneg _ (by decide), Int.fdiv_eq_ediv_of_nonneg _ (by decide)]
  omega
/-- what a turn of the signs tells: the third colour -/
theorem third {tot : Int} (ht : 0 ≤ tot) {a b : Int} (ha : 0 ≤ a ∧ a ≤ 2) (hb : 0 ≤ b ∧ b ≤ 2) (hne : a ≠ b) :
    ∃ r1 g1 b1 r2 g2 b2, hlsRgbF (fracF (hv tot a) 192) 4602678819172646912 (shv tot) = (r1, g1, b1) ∧ hsvRgbF (fracF (hv tot b) 192) (shv tot) 4607182418800017408 = (r2, g2, b2) ∧
    hsvOk (fracF (hv tot b) 192) = true ∧ ∃ h l s s' v, rgbHlsF (lackF r1 r2) (lackF g1 g2) (lackF b1 b2) = some (h, l, s) ∧ rgbHsvF (lackF r1 r2) (lackF g1 g2) (lackF b1 b2) = some (h, s', v) ∧ hueGood h (hv tot (3 - a - b)) := by
  obtain ⟨x, rfl⟩ := Int.eq_ofNat_of_zero_le ha.1
  obtain ⟨y, rfl⟩ := Int.eq_ofNat_of_zero_le hb.1
  have e := chkS_eq (tb_pick (u := tot.toNat % 256) (Nat.mod_lt _ (by decide)) (a := x) (b := y) (by omega) (by omega) (by omega))
  rw [← shv_col ht, ← hv_col ht, ← hv_col ht, ← hv_col ht] at e
  rw [show (3 - (x : Int) - y) = ((3 - x - y : Nat) : Int) by omega]
  exact e
end Mine
end
section
open PySem PySem.Spec PySem.W PyProof.Rows PySem.Calls
set_option maxRecDepth 100000
set_option maxHeartbeats 2000000
namespace Mine
section
variable {prog : Program} {w : World} {A : Around} {E : Value → Shared → Prop} {s : Shared} {env : Env} {h₀ : Heap} {Q : Unit → Shared → Prop}
theorem assign_three {a b c : Str} {p1 p2 p3 pos : Pos} {k : Nat} {T : Addr} {v1 v2 v3 : Value} {m : Str → Option Value} {nw : List (Addr × Obj)} {n : Nat}
    (hh : A.handled = none) (F : Fr h₀ env.locals s.heap m) (N : News h₀ env.locals s.heap nw) (hT : (T, ({ cls := .type "tuple", data := .seq #[v1, v2, v3] n } : Obj)) ∈ nw)
    (ha : env.kindOf a = some .local) (hb : env.kindOf b = some .local) (hc : env.kindOf c = some .local) (hp : (env.scope.kind == .class || (env.scope.kind == .module && env.locals != env.globals)) = false)
    (h : ∀ h' tk', Fr h₀ env.locals h' (fun z => if z = c then some v3 else if z = b then some v2 else if z = a then some v1 else m z) → News h₀ env.locals h' nw → Q () { s with heap := h', toks := tk' }) :
    wpAny (model prog w) A (assign (.Tuple [.Name a p1, .Name b p2, .Name c p3] k pos) env (.ref T)) Q E s := by
  refine wpAny_assign_Tuple (items := #[v1, v2, v3]) hh ⟨_, (N _ hT).1, rfl, n, rfl⟩ rfl rfl fun h' he => ?_
  have hold : ∀ d o, s.heap.get? d = some o → h'.get? d = some o := fun d o e => he d o (Nat.ne_of_lt (Heap.lt_size e)) e
  refine wpAny_bind (wpAny_holding (store_one (F.grownK hold) (N.grown hold) ha hp fun h1 t1 F1 N1 => ?_))
  refine wpAny_bind (wpAny_holding (store_one F1 N1 hb hp fun h2 t2 F2 N2 => ?_))
  refine wpAny_bind (wpAny_holding (store_one F2 N2 hc hp fun h3 t3 F3 N3 => ?_))
  exact wpAny_pure (h h3 t3 F3 N3)
end
theorem stopped {α : Type} {M : Model} {A : Around} {t : Sem α} {Q : α → Shared → Prop} {E : Value → Shared → Prop} {s : Shared} (h : wpAny M A t (fun a s' => Stop (Q a s')) E s) : wpAny M A t Q E s := h
theorem form8 {m0 m' : Str → Option Value} {a1 a2 a3 a4 a5 a6 a7 a8 : Str} {v1 v2 v3 v4 v5 v6 v7 v8 : Option Value} (h1 : m' a1 = v1) (h2 : m' a2 = v2) (h3 : m' a3 = v3) (h4 : m' a4 = v4) (h5 : m' a5 = v5) (h6 : m' a6 = v6) (h7 : m' a7 = v7) (h8 : m' a8 = v8) (h : ∀ z, z ≠ a1 → z ≠ a2 → z ≠ a3 → z ≠ a4 → z ≠ a5 → z ≠ a6 → z ≠ a7 → z ≠ a8 → m' z = m0 z) :
    m' = fun z => if z = a1 then v1 else if z = a2 then v2 else if z = a3 then v3 else if z = a4 then v4 else if z = a5 then v5 else if z = a6 then v6 else if z = a7 then v7 else if z = a8 then v8 else m0 z := by
  funext z
  split
  · next e => rw [e, h1]
  split
  · next e => rw [e, h2]
  split
  · next e => rw [e, h3]
  split
  · next e => rw [e, h4]
  split
  · next e => rw [e, h5]
  split
  · next e => rw [e, h6]
  split
  · next e => rw [e, h7]
  split
  · next e => rw [e, h8]
  exact h z (by assumption) (by assumption) (by assumption) (by assumption) (by assumption) (by assumption) (by assumption) (by assumption)
theorem dat_tri {news : List (Addr × Obj)} {v : Value} {i k j : Int} (h : DatIn news v (triDat (i, k, j))) : ∃ T t u w n, v = .ref T ∧ (T, ({ cls := .type "tuple", data := .seq #[.int i t, .int k u, .int j w] n } : Obj)) ∈ news := by
  obtain ⟨T, ws, n, e, hm, hd⟩ := datTup h
  obtain ⟨x, r, rfl, h1, hd⟩ := datCons hd
  obtain ⟨y, r, rfl, h2, hd⟩ := datCons hd
  obtain ⟨z, r, rfl, h3, hd⟩ := datCons hd
  obtain rfl := datNil hd
  obtain ⟨t, rfl⟩ := datInt h1
  obtain ⟨u, rfl⟩ := datInt h2
  obtain ⟨w, rfl⟩ := datInt h3
  exact ⟨T, t, u, w, n, e, hm⟩
theorem dat_at {α : Type} {f : α → Dat} {L9 : List (Addr × Obj)} {us : List Value} {cr : List α} {i : Nat} {v : Value} (h : DatAll L9 us (cr.map f)) (hv : us[i]? = some v) : ∃ hi : i < cr.length, DatIn L9 v (f cr[i]) := by
  have hl : us.length = cr.length := by rw [h.length]; simp
  have hi : i < us.length := (List.getElem?_eq_some_iff.mp hv).1
  have hi' : i < (cr.map f).length := by simpa [← hl] using hi
  obtain ⟨v', hv', hD⟩ := h.get hi'
  have : v' = v := by rw [hv'] at hv; exact Option.some.inj hv
  subst this
  have e2 : (cr.map f)[i]'hi' = f (cr[i]'(hl ▸ hi)) := by simp
  rw [e2] at hD
  exact ⟨hl ▸ hi, hD⟩
end Mine
end
section
open PySem PySem.Spec PySem.W PyProof.Rows PySem.Calls
set_option maxRecDepth 100000
set_option maxHeartbeats 2000000
namespace Mine
open PyProof.Rows.LCg PyProof.Rows.LCt
section
variable {prog : Program} {w : World} {A : Around} {E : Value → Shared → Prop} {s : Shared} {env : Env} {h₀ : Heap} {L : Addr} {m : Str → Option Value}
/-- what a comprehension over pairs asks of its source: any walker that hands out pairs -/
structure PairSrc (prog : Program) (w : World) (A : Around) (h₀ : Heap) (L : Addr) (m : Str → Option Value) (target : Expr) (news : List (Addr × Obj)) (R : Nat → Value → Value → Prop) (n : Nat) (it : Value) (s₂ : Shared) : Prop where
  ex : ∃ (I : Addr) (fp wr : List Addr) (P Md : Nat → Value → Heap → Prop) (St : Nat → Heap → Prop), it = .ref I ∧ KTurns prog w A target I fp wr n P Md St ∧
    (∀ i v h, P i v h → ∃ T x y, v = .ref T ∧ h.IsTuple T #[x, y] ∧ R i x y) ∧ St 0 s₂.heap ∧ (∀ b ∈ fp, b < s₂.heap.objs.size) ∧ L ∉ wr ∧ (∀ b ∈ wr, h₀.get? b = none) ∧ (∀ p ∈ news, p.1 ∉ wr) ∧
    (∀ (s : Shared) (Q : Value → Shared → Prop) (E : Value → Shared → Prop), St 0 s.heap → Q (.ref I) s → wpAny (model prog w) A (pyIter (.ref I)) Q E s)
  F : Fr h₀ L s₂.heap m
  N : News h₀ L s₂.heap news
theorem pair_block {elt iter : Expr} {a b : Str} {pa pb tp : Pos} {kk : Nat} {scope : Scope} {cl : List (Str × Addr)} {pos : Pos} {s₂ : Shared} {news : List (Addr × Obj)} {R : Nat → Value → Value → Prop} {n : Nat} {it : Value} {J : Nat → List Value → Prop} {RR : Value → Addr → Result → Shared → Prop}
    (hh : A.handled = none) (S : PairSrc prog w A h₀ L m (.Tuple [.Name a pa, .Name b pb] kk tp) news R n it s₂) (hn : n ≤ 1000)
    (hcell : ∀ y ∈ scope.names, y.2 ≠ .cell) (hkind : scope.kind = .function) (hxa : scope.names.lookup a = some .local) (hxb : scope.names.lookup b = some .local) (hab : ¬ a = b)
    (h0 : J 0 [])
    (turn : ∀ i ys x y C oC D m₂ h tk (E' : Value → Shared → Prop), i < n → J i ys → R i x y → NsObj oC m₂ → m₂ a = some x → m₂ b = some y → Fr h₀ L h m → News h₀ L h ((C, oC) :: (D, lst ys) :: news) → C ≠ D → (∀ p ∈ news, p.1 ≠ C ∧ p.1 ≠ D) →
      wpAny (model prog w) A (eval elt (compEnvC scope cl C env)) (fun v s₄ => ∃ tk', s₄ = { s₂ with heap := h, toks := tk' } ∧ J (i + 1) (ys ++ [v])) E' { s₂ with heap := h, toks := tk })
    (hRR : ∀ D C h tk m' ys, Fr h₀ L h m → News h₀ L h ((D, lst ys) :: news) → (∀ p ∈ news, p.1 ≠ D) → h.Ns C m' → h₀.get? C = none → h₀.get? D = none → C ≠ L → D ≠ L → C ≠ D → (∀ p ∈ news, p.1 ≠ C) → ys.length = n → J n ys → RR (.ref D) C (.ok .next) { s₂ with heap := h, toks := tk }) :
    wpAny (model prog w) A (newList []) (fun acc s₃ => wpAny (model prog w) A (newFunctionEnv scope env.globals cl [] env.qual none .none (some env)) (fun cenv s₄ =>
      codeAny (model prog w) A (.compStart (.ListComp elt [⟨.Tuple [.Name a pa, .Name b pb] kk tp, iter, [], 0⟩] scope pos) 0 it acc { cenv with scope := relabel scope env }) (RR acc cenv.locals) s₄) E s₃) E s₂ := by
  obtain ⟨⟨I, fp, wr, P, Md, St, rfl, W, hP, hst, hfp, hLw, hw₀, hNw, hself⟩, F, N⟩ := S
  refine wpAny_newObj_type (wpAny_newFunctionEnv hcell (by intro y hy; simp at hy) (fun h₁ hns₁ hsb₁ => ?_) hkind)
  dsimp only at hns₁ hsb₁ ⊢
  generalize hH2 : s₂.heap.push { cls := .type "list", dict := none, data := .seq ([] : List Value).toArray } = H2 at hns₁ hsb₁ ⊢
  have hC : H2.objs.size = s₂.heap.objs.size + 1 := by rw [← hH2, Heap.size_push]
  have hDC : s₂.heap.objs.size ≠ H2.objs.size := by rw [hC]; exact Nat.ne_of_lt (Nat.lt_succ_self _)
  have below : ∀ b, b < s₂.heap.objs.size → b ≠ H2.objs.size ∧ b ≠ s₂.heap.objs.size := fun b hb => ⟨by rw [hC]; exact Nat.ne_of_lt (Nat.lt_succ_of_lt hb), Nat.ne_of_lt hb⟩
  have old : ∀ b o, s₂.heap.get? b = some o → h₁.get? b = some o := fun b o e => hsb₁.extBut b o (below b (Heap.lt_size e)).1 (Heap.get?_push_of_some _ (hH2 ▸ Heap.get?_push_of_some _ e))
  have hacc : h₁.get? s₂.heap.objs.size = some (lst []) := hsb₁.extBut _ _ hDC (Heap.get?_push_of_some _ (hH2 ▸ Heap.get?_push_size _ rfl))
  have fresh₀ : ∀ a, s₂.heap.objs.size ≤ a → h₀.get? a = none := fun a ha => by
    cases e : h₀.get? a with
    | none => rfl
    | some o' => exact absurd (Heap.lt_size (F.keep a o' e)) (Nat.not_lt.mpr ha)
  have hD₀ : h₀.get? s₂.heap.objs.size = none := fresh₀ _ (Nat.le_refl _)
  have hC₀ : h₀.get? H2.objs.size = none := fresh₀ _ (by rw [hC]; exact Nat.le_succ _)
  have hLlt : L < s₂.heap.objs.size := F.ns.lt
  have hDL : s₂.heap.objs.size ≠ L := Ne.symm (below L hLlt).2
  have hCL : H2.objs.size ≠ L := Ne.symm (below L hLlt).1
  have hNb : ∀ p ∈ news, p.1 ≠ H2.objs.size ∧ p.1 ≠ s₂.heap.objs.size := fun p hp => below _ (Heap.lt_size (N p hp).1)
  have hCf : H2.objs.size ∉ fp := fun q => (below _ (hfp _ q)).1 rfl
  have hDf : s₂.heap.objs.size ∉ fp := fun q => (below _ (hfp _ q)).2 rfl
  have hCw : H2.objs.size ∉ wr := fun q => hCf (W.sub _ q)
  have hDw : s₂.heap.objs.size ∉ wr := fun q => hDf (W.sub _ q)
  have hst₁ : St 0 h₁ := W.frame _ _ _ hst fun b hb o e => old b o e
  have loop : ∀ s₃ : Shared, s₃ = { s₂ with heap := h₁, toks := s₂.toks + ([] : List (Str × Value)).length } →
      codeAny (model prog w) A (.compLoop (.ListComp elt [⟨.Tuple [.Name a pa, .Name b pb] kk tp, iter, [], 0⟩] scope pos) 0 (.ref I) (.ref s₂.heap.objs.size) (compEnvC scope cl H2.objs.size env))
        (RR (.ref s₂.heap.objs.size) H2.objs.size) s₃ := by
    rintro s₃ rfl
    refine kcp_loop
      (fun k s' => ∃ h' tk i ys m', s' = { s₂ with heap := h', toks := tk } ∧ i ≤ n ∧ k = n + 1 - i ∧ ys.length = i ∧ St i h' ∧ Fr h₀ L h' m ∧ h'.Ns H2.objs.size m' ∧ News h₀ L h' ((s₂.heap.objs.size, lst ys) :: news) ∧ J i ys) ?_ (n + 1)
      ⟨h₁, _, 0, [], _, rfl, Nat.zero_le _, rfl, rfl, hst₁, F.keeps old, hns₁, fun p hp => ?_, h0⟩
    · rintro k s' ⟨h', tk, i, ys, m', rfl, hi, rfl, hyl, hst', F', hn', N', hJ⟩
      by_cases hlt : i < n
      · refine W.item i _ _ _ hlt hst' fun v h₂ tk₂ hMd hk₂ => ?_
        refine W.go i v _ _ _ hMd fun h₃ hPv hst₃ hk₃ => ?_
        obtain ⟨T, x, y, rfl, hT, hR⟩ := hP i v h₃ hPv
        have up₃ : ∀ c o, c ∉ wr → h'.get? c = some o → h₃.get? c = some o := fun c o hc e => hk₃ c o hc (hk₂ c o hc e)
        refine kcp_assign (env := compEnvC scope cl H2.objs.size env) hh hT (lookup_relabel_local hxa) (lookup_relabel_local hxb) (by simp [compEnvC, relabel, hkind]) (hn'.at' fun o e => up₃ _ o hCw e) fun h₄ tk₄ hn₄ hs₄ => ?_
        have up : ∀ c o, c ∉ wr → c ≠ H2.objs.size → h'.get? c = some o → h₄.get? c = some o := fun c o h1 h2 e => hs₄ c o h2 (up₃ c o h1 e)
        have hst₄ : St (i + 1) h₄ := W.frame _ _ _ hst₃ fun b hb o e => hs₄ b o (fun q => hCf (show H2.objs.size ∈ fp from by have q' : b = H2.objs.size := q; rw [← q']; exact hb)) e
        obtain ⟨oC, heC, hoC⟩ := ns_obj hn₄
        have F₄ : Fr h₀ L h₄ m := ⟨F'.ns.at' fun o e => up _ o hLw (Ne.symm hCL) e, fun c o e => up c o (fun q => by rw [hw₀ c q] at e; cases e) (fun q => by have q' : c = H2.objs.size := q; rw [q', hC₀] at e; cases e) (F'.keep c o e), F'.above⟩
        have N₄ : News h₀ L h₄ ((H2.objs.size, oC) :: (s₂.heap.objs.size, lst ys) :: news) := fun q hq => by
          rcases List.mem_cons.mp hq with rfl | hq
          · exact ⟨heC, hCL, hC₀⟩
          · have z := N' q hq
            refine ⟨up _ _ ?_ ?_ z.1, z.2⟩
            · rcases List.mem_cons.mp hq with rfl | hq
              · exact hDw
              · exact hNw q hq
            · rcases List.mem_cons.mp hq with rfl | hq
              · exact hDC
              · exact (hNb q hq).1
        refine wpAny_mono (turn i ys x y H2.objs.size oC s₂.heap.objs.size _ h₄ _ _ hlt hJ hR hoC (by simp [hab]) (by simp) F₄ N₄ (Ne.symm hDC) hNb) (fun v s₅ h₅ => ?_) fun _ _ e => e
        obtain ⟨tk₅, rfl, hJ5⟩ := h₅
        have zD := (N₄ (s₂.heap.objs.size, lst ys) (List.mem_cons_of_mem _ List.mem_cons_self)).1
        have zC := (N₄ (H2.objs.size, oC) List.mem_cons_self).1
        refine append_at (hsz := by show ys.toArray.size ≤ sizeLine; rw [List.size_toArray, hyl, sizeLine_eq]; omega) zD fun h₆ hs₆ hD₆ => ?_
        refine ⟨n + 1 - (i + 1), by omega, h₆, tk₅, i + 1, ys ++ [v], _, rfl, hlt, rfl, by rw [List.length_append, List.length_singleton, hyl],
          W.frame _ _ _ hst₄ (fun b hb o e => hs₆.extBut b o (fun q => hDf (show s₂.heap.objs.size ∈ fp from by have q' : b = s₂.heap.objs.size := q; rw [← q']; exact hb)) e), F₄.change hs₆ hDL hD₀, (hoC.ns zC).sameBut hs₆ (Ne.symm hDC), fun q hq => ?_, hJ5⟩
        rcases List.mem_cons.mp hq with rfl | hq
        · exact ⟨hD₆.trans (congrArg some (lst_snoc ys v)), hDL, hD₀⟩
        · exact ⟨hs₆.extBut _ _ (hNb q hq).2 (N₄ q (List.mem_cons_of_mem _ (List.mem_cons_of_mem _ hq))).1, (N q hq).2⟩
      · have hin : i = n := Nat.le_antisymm hi (Nat.not_lt.mp hlt)
        subst hin
        refine W.done _ _ _ hst' fun h₂ tk₂ hk₂ => ?_
        have F₂ : Fr h₀ L h₂ m := ⟨F'.ns.at' fun o e => hk₂ _ o hLw e, fun c o e => hk₂ c o (fun q => by rw [hw₀ c q] at e; cases e) (F'.keep c o e), F'.above⟩
        refine hRR _ _ h₂ tk₂ _ ys F₂ (fun q hq => ?_) (fun p hp => (hNb p hp).2) (hn'.at' fun o e => hk₂ _ o hCw e) hC₀ hD₀ hCL hDL (Ne.symm hDC) (fun p hp => (hNb p hp).1) hyl hJ
        have z := N' q hq
        refine ⟨hk₂ _ _ ?_ z.1, z.2⟩
        rcases List.mem_cons.mp hq with rfl | hq
        · exact hDw
        · exact hNw q hq
    · rcases List.mem_cons.mp hp with rfl | hp
      · exact ⟨hacc, hDL, hD₀⟩
      · exact ⟨old _ _ (N p hp).1, (N p hp).2⟩
  exact codeAny_compStart_list (loop _ rfl) (hself _ _ _ hst₁ (loop _ rfl))
end
end Mine
end
section
open PySem PySem.Spec PySem.W PyProof.Rows PySem.Calls
set_option maxRecDepth 100000
set_option maxHeartbeats 4000000
namespace Mine
section
variable {prog : Program} {w : World} {A : Around} {E : Value → Shared → Prop} {s : Shared}
/-- a tuple's iterator, at its place k -/
noncomputable def TupIt (h : Heap) (it t : Addr) (xs : Array Value) (k : Nat) : Prop := h.IsTupleIter it t k ∧ h.IsTuple t xs
theorem TupIt.keep {h h' : Heap} {it t : Addr} {xs : Array Value} {k : Nat} (x : TupIt h it t xs k) (k1 : ∀ o, h.get? it = some o → h'.get? it = some o) (k2 : ∀ o, h.get? t = some o → h'.get? t = some o) : TupIt h' it t xs k :=
  let ⟨⟨o, e, r⟩, ⟨o2, e2, r2⟩⟩ := x
  ⟨⟨o, k1 o e, r⟩, ⟨o2, k2 o2 e2, r2⟩⟩
theorem nextOf_item {it t : Addr} {k : Nat} {xs : Array Value} {x : Value} {Q : Value → Shared → Prop} (H : TupIt s.heap it t xs k) (hne : t ≠ it) (hx : xs[k]? = some x)
    (hQ : ∀ h', TupIt h' it t xs (k + 1) → Heap.SameBut it s.heap h' → Q x { s with heap := h' }) : wpAny (model prog w) A (Builtin.SmallTypes.nextOf (.ref it)) Q E s := by
  obtain ⟨hit, ht⟩ := H
  have ht0 := ht
  obtain ⟨o, ho, hc, hd⟩ := id hit
  obtain ⟨ol, hol, _, nl, hdl⟩ := ht
  unfold Builtin.SmallTypes.nextOf
  refine wpAny_bind (wpAny_callSpecial?_slot (name := Str.ofString "__next__") hit.typeIs F.slot_tuple_iterator_next (wpAny_call_entry F.slot_tuple_iterator_next hit.typeIs F.entry_tuple_iterator_next ?_ (F.args_tuple_iterator_next_1 _)))
  show wpAny _ _ (field (.ref it) 0 >>= _) _ _ s
  refine wpAny_bind (wpAny_field ho hd (x := .ref t) rfl ?_)
  show wpAny _ _ (if (Value.ref t == Value.none) = true then _ else _) _ _ s
  rw [if_neg (show ¬ ((Value.ref t == Value.none) = true) from Bool.false_ne_true)]
  show wpAny _ _ (field (.ref it) 1 >>= _) _ _ s
  refine wpAny_bind (wpAny_field ho hd (x := .int k 0) rfl ?_)
  show wpAny _ _ (seqItems? (.ref t) >>= _) _ _ s
  refine wpAny_bind (wpAny_seqItems hol hdl ?_)
  simp only [Int.toNat_natCast, hx]
  have hsb := Heap.SameBut.update s.heap it (Obj.mapFields fun v => v.setIfInBounds 1 (rawInt (k + 1)))
  refine wpAny_bind (wpAny_setField ho hd (by simp) (wpAny_pure ⟨x, rfl, wpAny_pure (hQ _ ⟨?_, ht0.extBut (Heap.SameBut.update ..).extBut hne⟩ (Heap.SameBut.update ..))⟩))
  exact ⟨_, Heap.get?_update_self _ ho (Obj.isFreed_of_fields (Obj.data_mapFields hd _)), (Obj.cls_mapFields ..).trans hc, by rw [Obj.data_mapFields hd]; simp [rawInt]⟩
theorem nextOf_end {it t : Addr} {k : Nat} {xs : Array Value} {Q : Value → Shared → Prop} (hh : A.handled = none) (H : TupIt s.heap it t xs k) (hx : xs[k]? = none)
    (hE : ∀ h' e, Heap.ExtBut it s.heap h' → (∃ o, h'.get? e = some o ∧ o.cls = .type "StopIteration") → E (.ref e) { s with heap := h' }) : wpAny (model prog w) A (Builtin.SmallTypes.nextOf (.ref it)) Q E s := by
  obtain ⟨hit, ht⟩ := H
  obtain ⟨o, ho, hc, hd⟩ := id hit
  obtain ⟨ol, hol, _, nl, hdl⟩ := ht
  unfold Builtin.SmallTypes.nextOf
  refine wpAny_bind (wpAny_callSpecial?_slot (name := Str.ofString "__next__") hit.typeIs F.slot_tuple_iterator_next (wpAny_call_entry F.slot_tuple_iterator_next hit.typeIs F.entry_tuple_iterator_next ?_ (F.args_tuple_iterator_next_1 _)))
  show wpAny _ _ (field (.ref it) 0 >>= _) _ _ s
  refine wpAny_bind (wpAny_field ho hd (x := .ref t) rfl ?_)
  show wpAny _ _ (if (Value.ref t == Value.none) = true then _ else _) _ _ s
  rw [if_neg (show ¬ ((Value.ref t == Value.none) = true) from Bool.false_ne_true)]
  show wpAny _ _ (field (.ref it) 1 >>= _) _ _ s
  refine wpAny_bind (wpAny_field ho hd (x := .int k 0) rfl ?_)
  show wpAny _ _ (seqItems? (.ref t) >>= _) _ _ s
  refine wpAny_bind (wpAny_seqItems hol hdl ?_)
  simp only [Int.toNat_natCast, hx]
  refine wpAny_bind (wpAny_rule (wpAny_bind (wpAny_setField ho hd (by simp) ?_)))
  show wpAny _ _ (newExc (.type "StopIteration") [] >>= _) _ _ _
  refine wpAny_bind ?_
  simp only [newExc, newTuple]
  refine wpAny_bind (wpAny_newObj_type ?_ (by size_fits))
  refine wpAny_bind (m := firstArgMember _ _) (wpAny_of_eq (a := Value.none) (by first | rfl | (simp only [firstArgMember]; rfl)) ?_)
  refine wpAny_newObj_type ?_ (by size_fits)
  simp only [raiseNew]
  refine wpAny_bind (wpAny_handled ?_)
  first | rw [show A.in1.handled = none from hh] | rw [hh]
  refine wpAny_bind (wpAny_pure (wpAny_throw ?_))
  exact hE _ _ (((Heap.SameBut.update ..).extBut.push _).push _) ⟨_, Heap.get?_push_size _ rfl, rfl⟩
/-- a zip of two tuples between the turns -/
noncomputable def ZipSt (z TI TO i1 i2 l1 l2 : Addr) (xs ys : Array Value) (f : Value) (k : Nat) (h : Heap) : Prop :=
  IsZip h z TI TO f ∧ IsPair h TI (.ref i1) (.ref i2) ∧ (∃ a b, IsPair h TO a b) ∧ TupIt h i1 l1 xs k ∧ TupIt h i2 l2 ys k
theorem zipT_item {z TI TO i1 i2 l1 l2 : Addr} {k : Nat} {xs ys : Array Value} {x y : Value} {Q : Value → Shared → Prop} (D : ZipApart z TI TO i1 i2 l1 l2) (H : ZipSt z TI TO i1 i2 l1 l2 xs ys .none k s.heap) (hx : xs[k]? = some x) (hy : ys[k]? = some y)
    (hQ : ∀ h', ZipSt z TI TO i1 i2 l1 l2 xs ys (rawInt s.heap.objs.size) (k + 1) h' → IsPair h' s.heap.objs.size x y → (∀ c o, c ≠ z → c ≠ TO → c ≠ i1 → c ≠ i2 → s.heap.get? c = some o → h'.get? c = some o) → Q (.ref s.heap.objs.size) { s with heap := h' }) :
    wpAny (model prog w) A (Builtin.«zip.__next__» ⟨[.ref z], []⟩) (fun fin s' => ∃ v, fin = .done (.ret v) ∧ Q v s') E s := by
  obtain ⟨hz, hTI, ⟨a, b, hTO⟩, h1, h2⟩ := H
  show wpAny _ _ (field (.ref z) 2 >>= _) _ _ _
  refine wpAny_bind (wpAny_field hz rfl (x := .bool false) rfl ?_)
  show wpAny _ _ (field (.ref z) 3 >>= _) _ _ _
  refine wpAny_bind (wpAny_field hz rfl (x := .ref TI) rfl ?_)
  refine wpAny_bind (wpAny_seqItems hTI rfl ?_)
  show wpAny _ _ (Builtin.SmallTypes.ownedTupleIsFree (.ref z) >>= _) _ _ _
  refine wpAny_bind ?_
  unfold Builtin.SmallTypes.ownedTupleIsFree
  refine wpAny_bind (wpAny_field hz rfl (x := .none) rfl (wpAny_pure ?_))
  simp only [if_true]
  refine wpAny_bind (wpAny_rule ?_)
  refine wpAny_bind (wpAny_field hz rfl (x := .ref TO) rfl ?_)
  refine wpAny_bind (wpAny_setField_rec hz (by simp) fun g1 z1 b1 => ?_)
  replace z1 : IsZip g1 z TI TO .ellipsis := z1
  refine wpAny_bind ?_
  simp only [List.zipIdx_cons, List.zipIdx_nil, List.forIn_cons, List.forIn_nil]
  refine wpAny_bind (wpAny_bind (wpAny_onRaise ?_))
  show wpAny _ _ (Builtin.SmallTypes.nextOf (.ref i1) >>= _) _ _ _
  have q1 : TupIt g1 i1 l1 xs k := h1.keep (fun o => b1.extBut _ _ D.i1z) (fun o => b1.extBut _ _ D.l1z)
  refine wpAny_bind (nextOf_item q1 D.l1i1 hx fun g2 p2 b2 => wpAny_pure ?_)
  have t2 : IsPair g2 TO a b := b2.extBut _ _ D.TOi1 (b1.extBut _ _ D.TOz hTO)
  refine wpAny_bind (wpAny_seqItems t2 rfl ?_)
  refine wpAny_bind (wpAny_updateSeq_pair t2 fun g3 t3 b3 => ?_)
  replace t3 : IsPair g3 TO x b := t3
  refine wpAny_bind (wpAny_letGo (wpAny_pure ?_))
  refine wpAny_bind (wpAny_bind (wpAny_onRaise ?_))
  show wpAny _ _ (Builtin.SmallTypes.nextOf (.ref i2) >>= _) _ _ _
  have q2 : TupIt g3 i2 l2 ys k := ((h2.keep (h' := g1) (fun o => b1.extBut _ _ D.i2z) (fun o => b1.extBut _ _ D.l2z)).keep (h' := g2) (fun o => b2.extBut _ _ D.i12.symm) (fun o => b2.extBut _ _ D.l2i1)).keep (fun o => b3.extBut _ _ D.TOi2.symm) (fun o => b3.extBut _ _ D.l2TO)
  refine wpAny_bind (nextOf_item q2 D.l2i2 hy fun g4 p4 b4 => wpAny_pure ?_)
  have t4 : IsPair g4 TO x b := b4.extBut _ _ D.TOi2 t3
  refine wpAny_bind (wpAny_seqItems t4 rfl ?_)
  refine wpAny_bind (wpAny_updateSeq_pair t4 fun g5 t5 b5 => ?_)
  replace t5 : IsPair g5 TO x y := t5
  refine wpAny_bind (wpAny_letGo (wpAny_pure (wpAny_pure ?_)))
  refine wpAny_bind (wpAny_seqItems t5 rfl ?_)
  refine wpAny_bind (wpAny_newTuple ?_)
  have hsz : g5.objs.size = s.heap.objs.size := by rw [b5.1, b4.1, b3.1, b2.1, b1.1]
  have z5 : IsZip g5 z TI TO .ellipsis := b5.extBut _ _ D.TOz.symm (b4.extBut _ _ D.i2z.symm (b3.extBut _ _ D.TOz.symm (b2.extBut _ _ D.i1z.symm z1)))
  have k5 : ∀ c o, c ≠ z → c ≠ TO → c ≠ i1 → c ≠ i2 → s.heap.get? c = some o → g5.get? c = some o := fun c o c1 c2 c3 c4 e => b5.extBut _ _ c2 (b4.extBut _ _ c4 (b3.extBut _ _ c2 (b2.extBut _ _ c3 (b1.extBut _ _ c1 e))))
  have hzlt : z < g5.objs.size := Heap.lt_size z5
  show wpAny _ _ (Builtin.SmallTypes.ownedTupleHandOut (.ref z) (.ref g5.objs.size) >>= _) _ _ _
  refine wpAny_bind ?_
  unfold Builtin.SmallTypes.ownedTupleHandOut
  have z6 : IsZip (g5.push { cls := .type "tuple", data := .seq #[x, y] }) z TI TO .ellipsis := Heap.get?_push_of_some _ z5
  refine wpAny_bind (wpAny_setField_rec z6 (by simp) fun g7 z7 b7 => ?_)
  replace z7 : IsZip g7 z TI TO (rawInt g5.objs.size) := z7
  refine wpAny_setField_rec z7 (by simp) fun g8 z8 b8 => ?_
  replace z8 : IsZip g8 z TI TO (rawInt g5.objs.size) := z8
  have up : ∀ c o, c ≠ z → g5.get? c = some o → g8.get? c = some o := fun c o c1 e => b8.extBut _ _ c1 (b7.extBut _ _ c1 (Heap.get?_push_of_some _ e))
  have t8 : IsPair g8 g5.objs.size x y := b8.extBut _ _ (Nat.ne_of_gt hzlt) (b7.extBut _ _ (Nat.ne_of_gt hzlt) (Heap.get?_push_size _ rfl))
  have r1 : TupIt g8 i1 l1 xs (k + 1) := (((p2.keep (h' := g3) (fun o => b3.extBut _ _ D.TOi1.symm) (fun o => b3.extBut _ _ D.l1TO)).keep (h' := g4) (fun o => b4.extBut _ _ D.i12) (fun o => b4.extBut _ _ D.l1i2)).keep (h' := g5) (fun o => b5.extBut _ _ D.TOi1.symm) (fun o => b5.extBut _ _ D.l1TO)).keep (fun o => up _ o D.i1z) (fun o => up _ o D.l1z)
  have r2 : TupIt g8 i2 l2 ys (k + 1) := (p4.keep (h' := g5) (fun o => b5.extBut _ _ D.TOi2.symm) (fun o => b5.extBut _ _ D.l2TO)).keep (fun o => up _ o D.i2z) (fun o => up _ o D.l2z)
  rw [hsz] at z8 t8
  refine wpAny_pure ⟨_, rfl, ?_⟩
  show Q (.ref g5.objs.size) _
  rw [hsz]
  exact hQ g8 ⟨z8, up _ _ D.TIz (k5 _ _ D.TIz D.TITO D.TIi1 D.TIi2 hTI), ⟨_, _, up _ _ D.TOz t5⟩, r1, r2⟩ t8 fun c o c1 c2 c3 c4 e => up c o c1 (k5 c o c1 c2 c3 c4 e)
theorem zipT_end {z TI TO i1 i2 l1 l2 : Addr} {k : Nat} {xs ys : Array Value} {Q : Fin → Shared → Prop} (hh : A.handled = none) (D : ZipApart z TI TO i1 i2 l1 l2) (H : ZipSt z TI TO i1 i2 l1 l2 xs ys .none k s.heap) (hx : xs[k]? = none)
    (hE : ∀ h' e, (∀ c o, c ≠ z → c ≠ TO → c ≠ i1 → c ≠ i2 → s.heap.get? c = some o → h'.get? c = some o) → (∃ o, h'.get? e = some o ∧ o.cls = .type "StopIteration") → E (.ref e) { s with heap := h' }) :
    wpAny (model prog w) A (Builtin.«zip.__next__» ⟨[.ref z], []⟩) Q E s := by
  obtain ⟨hz, hTI, ⟨a, b, hTO⟩, h1, h2⟩ := H
  show wpAny _ _ (field (.ref z) 2 >>= _) _ _ _
  refine wpAny_bind (wpAny_field hz rfl (x := .bool false) rfl ?_)
  show wpAny _ _ (field (.ref z) 3 >>= _) _ _ _
  refine wpAny_bind (wpAny_field hz rfl (x := .ref TI) rfl ?_)
  refine wpAny_bind (wpAny_seqItems hTI rfl ?_)
  show wpAny _ _ (Builtin.SmallTypes.ownedTupleIsFree (.ref z) >>= _) _ _ _
  refine wpAny_bind ?_
  unfold Builtin.SmallTypes.ownedTupleIsFree
  refine wpAny_bind (wpAny_field hz rfl (x := .none) rfl (wpAny_pure ?_))
  simp only [if_true]
  refine wpAny_bind (wpAny_rule ?_)
  refine wpAny_bind (wpAny_field hz rfl (x := .ref TO) rfl ?_)
  refine wpAny_bind (wpAny_setField_rec hz (by simp) fun g1 z1 b1 => ?_)
  replace z1 : IsZip g1 z TI TO .ellipsis := z1
  refine wpAny_bind ?_
  simp only [List.zipIdx_cons, List.zipIdx_nil, List.forIn_cons, List.forIn_nil]
  refine wpAny_bind (wpAny_bind (wpAny_onRaise ?_))
  show wpAny _ _ (Builtin.SmallTypes.nextOf (.ref i1) >>= _) _ _ _
  have q1 : TupIt g1 i1 l1 xs k := h1.keep (fun o => b1.extBut _ _ D.i1z) (fun o => b1.extBut _ _ D.l1z)
  refine wpAny_bind (nextOf_end hh q1 hx fun g2 e b2 he => ?_)
  obtain ⟨oe, hoe, hce⟩ := he
  have z2 : IsZip g2 z TI TO .ellipsis := b2 _ _ D.i1z.symm z1
  have hez : e ≠ z := fun x => by subst x; rw [z2] at hoe; cases hoe; simp at hce
  refine wpAny_setField_rec z2 (by simp) fun g3 _ b3 => hE g3 e (fun c o c1 _ c3 _ x => b3.extBut _ _ c1 (b2 _ _ c3 (b1.extBut _ _ c1 x))) ⟨oe, b3.extBut _ _ hez hoe, hce⟩
theorem pyNext_zipT {z TI TO i1 i2 l1 l2 : Addr} {k : Nat} {xs ys : Array Value} {x y : Value} {Q : Option Value → Shared → Prop} (D : ZipApart z TI TO i1 i2 l1 l2) (H : ZipSt z TI TO i1 i2 l1 l2 xs ys .none k s.heap) (hx : xs[k]? = some x) (hy : ys[k]? = some y)
    (hQ : ∀ h', ZipSt z TI TO i1 i2 l1 l2 xs ys (rawInt s.heap.objs.size) (k + 1) h' → IsPair h' s.heap.objs.size x y → (∀ c o, c ≠ z → c ≠ TO → c ≠ i1 → c ≠ i2 → s.heap.get? c = some o → h'.get? c = some o) → Q (some (.ref s.heap.objs.size)) { s with heap := h' }) :
    wpAny (model prog w) A (pyNext (.ref z)) Q E s := by
  have hT : s.TypeIs (.ref z) "zip" := ⟨_, H.1, rfl⟩
  unfold pyNext
  exact wpAny_bind (wpAny_attempt (wpAny_callSpecial?_slot (name := Str.ofString "__next__") hT F.slot_zip_next (wpAny_call_entry F.slot_zip_next hT F.entry_zip_next (zipT_item D H hx hy fun h' a1 a2 a3 => wpAny_pure (hQ h' a1 a2 a3)) (F.args_zip_next_1 _))))
theorem pyNext_zipT_end {z TI TO i1 i2 l1 l2 : Addr} {k : Nat} {xs ys : Array Value} {Q : Option Value → Shared → Prop} (hh : A.handled = none) (D : ZipApart z TI TO i1 i2 l1 l2) (H : ZipSt z TI TO i1 i2 l1 l2 xs ys .none k s.heap) (hx : xs[k]? = none)
    (hQ : ∀ h', (∀ c o, c ≠ z → c ≠ TO → c ≠ i1 → c ≠ i2 → s.heap.get? c = some o → h'.get? c = some o) → Q none { s with heap := h' }) : wpAny (model prog w) A (pyNext (.ref z)) Q E s := by
  have hT : s.TypeIs (.ref z) "zip" := ⟨_, H.1, rfl⟩
  unfold pyNext
  refine wpAny_bind (wpAny_attempt (wpAny_callSpecial?_slot (name := Str.ofString "__next__") hT F.slot_zip_next (wpAny_call_entry F.slot_zip_next hT F.entry_zip_next (zipT_end hh D H hx fun h' e hk he => ?_) (F.args_zip_next_1 _))))
  obtain ⟨o, ho, hc⟩ := he
  refine wpAny_bind (wpAny_isInstance (T := "StopIteration") (b := true) ⟨o, ho, hc⟩ isSubtype_stop ?_)
  exact wpAny_pure (hQ _ hk)
end
end Mine
end
section
open PySem PySem.Spec PySem.W PyProof.Rows PySem.Calls
set_option maxRecDepth 100000
set_option maxHeartbeats 4000000
namespace Mine
open PyProof.Rows.LCg PyProof.Rows.LCt
noncomputable abbrev zA (h : Heap) (l1 : Addr) : Heap := h.push { cls := .type "tuple_iterator", data := .fields #[.ref l1, .int 0 0] }
noncomputable abbrev zB (h : Heap) (l1 l2 : Addr) : Heap := (zA h l1).push { cls := .type "tuple_iterator", data := .fields #[.ref l2, .int 0 0] }
noncomputable abbrev zC (h : Heap) (l1 l2 : Addr) : Heap := (zB h l1 l2).push { cls := .type "tuple", data := .seq #[.ref h.objs.size, .ref (zA h l1).objs.size] }
noncomputable abbrev zD (h : Heap) (l1 l2 : Addr) : Heap := (zC h l1 l2).push { cls := .type "tuple", data := .seq #[.none, .none] }
noncomputable abbrev zE (h : Heap) (l1 l2 : Addr) : Heap := (zD h l1 l2).push { cls := .type "zip", data := .fields #[.none, .bool false, .bool false, .ref (zB h l1 l2).objs.size, .ref (zC h l1 l2).objs.size] }
theorem meets_zipT (l1 l2 : Addr) (xs ys : Array Value) :
    Meets (Builtin.«zip.__new__» ⟨[.type "zip", .ref l1, .ref l2], []⟩) (fun _ R s => s.heap.IsTuple l1 xs ∧ s.heap.IsTuple l2 ys ∧ R (.ok (.ret (.ref (zD s.heap l1 l2).objs.size))) { s with heap := zE s.heap l1 l2 }) :=
  .of_wp fun prog w A R s h => by
    obtain ⟨hp, g, d, tk, os⟩ := s; obtain ⟨hl1, hl2, h⟩ := h
    have hsub := sub_zip
    have hL1 : Heap.IsTuple (Shared.heap ⟨hp, g, d, tk, os⟩) l1 xs := hl1
    have hL2 : Heap.IsTuple (Shared.heap ⟨hp.push { cls := .type "tuple_iterator", data := .fields #[.ref l1, .int 0 0] }, g, d, tk, os⟩) l2 ys := Heap.IsTuple.push hl2 _
    wp_walk using wpAny_pyIter_tuple hL1, wpAny_pyIter_tuple hL2
    exact ⟨_, rfl, h⟩
section
variable {prog : Program} {w : World} {A : Around} {E : Value → Shared → Prop} {s : Shared}
theorem call_zipT {l1 l2 : Addr} {xs ys : Array Value} {Q : Value → Shared → Prop} (hl1 : s.heap.IsTuple l1 xs) (hl2 : s.heap.IsTuple l2 ys)
    (h : ∀ h', ZipSt (s.heap.objs.size + 4) (s.heap.objs.size + 2) (s.heap.objs.size + 3) s.heap.objs.size (s.heap.objs.size + 1) l1 l2 xs ys .none 0 h' → h'.objs.size = s.heap.objs.size + 5 →
      (∀ c o, s.heap.get? c = some o → h'.get? c = some o) → Q (.ref (s.heap.objs.size + 4)) { s with heap := h' }) :
    wpAny (model prog w) A (call (.type "zip") [.ref l1, .ref l2]) Q E s := by
  refine callType_new F.called_zip (by decide) (F.typeCall_zip_2 _ _) (F.newCall_zip_2 _ _) (fun obj => F.args_object_init_3 obj _ _) F.entry_zip_new (meets_zipT l1 l2 xs ys) ⟨hl1, hl2, ?_⟩
  have z1 : (zA s.heap l1).objs.size = s.heap.objs.size + 1 := Heap.size_push ..
  have z2 : (zB s.heap l1 l2).objs.size = s.heap.objs.size + 2 := by rw [Heap.size_push, z1]
  have z3 : (zC s.heap l1 l2).objs.size = s.heap.objs.size + 3 := by rw [Heap.size_push, z2]
  have z4 : (zD s.heap l1 l2).objs.size = s.heap.objs.size + 4 := by rw [Heap.size_push, z3]
  have z5 : (zE s.heap l1 l2).objs.size = s.heap.objs.size + 5 := by rw [Heap.size_push, z4]
  have up : ∀ c o, s.heap.get? c = some o → (zE s.heap l1 l2).get? c = some o := fun c o x =>
    Heap.get?_push_of_some _ (Heap.get?_push_of_some _ (Heap.get?_push_of_some _ (Heap.get?_push_of_some _ (Heap.get?_push_of_some _ x))))
  have g5 : (zE s.heap l1 l2).get? (zD s.heap l1 l2).objs.size = some _ := Heap.get?_push_size _ rfl
  have g4 : (zE s.heap l1 l2).get? (zC s.heap l1 l2).objs.size = some _ := Heap.get?_push_of_some _ (Heap.get?_push_size _ rfl)
  have g3 : (zE s.heap l1 l2).get? (zB s.heap l1 l2).objs.size = some _ := Heap.get?_push_of_some _ (Heap.get?_push_of_some _ (Heap.get?_push_size _ rfl))
  have g2 : (zE s.heap l1 l2).get? (zA s.heap l1).objs.size = some _ := Heap.get?_push_of_some _ (Heap.get?_push_of_some _ (Heap.get?_push_of_some _ (Heap.get?_push_size _ rfl)))
  have g1 : (zE s.heap l1 l2).get? s.heap.objs.size = some _ := Heap.get?_push_of_some _ (Heap.get?_push_of_some _ (Heap.get?_push_of_some _ (Heap.get?_push_of_some _ (Heap.get?_push_size _ rfl))))
  have t1 : (zE s.heap l1 l2).IsTuple l1 xs := let ⟨o, e, r⟩ := hl1; ⟨o, up _ _ e, r⟩
  have t2 : (zE s.heap l1 l2).IsTuple l2 ys := let ⟨o, e, r⟩ := hl2; ⟨o, up _ _ e, r⟩
  show _ ∧ _
  rw [z2, z3, z4] at g5
  rw [z1, z2] at g3
  rw [z3] at g4
  rw [z1] at g2
  rw [z4]
  exact ⟨⟨_, g5, rfl⟩, h _ ⟨g5, g3, ⟨_, _, g4⟩, ⟨⟨_, g1, rfl, rfl⟩, t1⟩, ⟨⟨_, g2, rfl, rfl⟩, t2⟩⟩ z5 up⟩
theorem PairSrc.mono {h₀ : Heap} {L : Addr} {m : Str → Option Value} {target : Expr} {news : List (Addr × Obj)} {R R' : Nat → Value → Value → Prop} {n : Nat} {it : Value} {s₂ : Shared} (S : PairSrc prog w A h₀ L m target news R n it s₂) (h : ∀ i x y, R i x y → R' i x y) : PairSrc prog w A h₀ L m target news R' n it s₂ := by
  obtain ⟨⟨I, fp, wr, P, Md, St, e, W, hP, r⟩, F, N⟩ := S
  refine ⟨⟨I, fp, wr, P, Md, St, e, W, fun i v g q => ?_, r⟩, F, N⟩
  obtain ⟨T, x, y, e1, e2, e3⟩ := hP i v g q
  exact ⟨T, x, y, e1, e2, h i x y e3⟩
/-- three pairs of floats -/
noncomputable def R3 (r1 g1 b1 r2 g2 b2 : UInt64) (i : Nat) (x y : Value) : Prop :=
  (i = 0 ∧ ∃ t u, x = .float r1 t ∧ y = .float r2 u) ∨ (i = 1 ∧ ∃ t u, x = .float g1 t ∧ y = .float g2 u) ∨ (i = 2 ∧ ∃ t u, x = .float b1 t ∧ y = .float b2 u)
theorem R3.of {r1 g1 b1 r2 g2 b2 : UInt64} {t1 t2 t3 u1 u2 u3 : Tok} {i : Nat} {x y : Value} (h : (#[Value.float r1 t1, .float g1 t2, .float b1 t3] : Array Value)[i]? = some x ∧ (#[Value.float r2 u1, .float g2 u2, .float b2 u3] : Array Value)[i]? = some y) : R3 r1 g1 b1 r2 g2 b2 i x y := by
  obtain ⟨hx, hy⟩ := h
  match i, hx, hy with
  | 0, hx, hy => exact .inl ⟨rfl, _, _, (Option.some.inj hx).symm, (Option.some.inj hy).symm⟩
  | 1, hx, hy => exact .inr (.inl ⟨rfl, _, _, (Option.some.inj hx).symm, (Option.some.inj hy).symm⟩)
  | 2, hx, hy => exact .inr (.inr ⟨rfl, _, _, (Option.some.inj hx).symm, (Option.some.inj hy).symm⟩)
  | i + 3, hx, _ => simp at hx
theorem apartT {n l1 l2 : Nat} (h1 : l1 < n) (h2 : l2 < n) : ZipApart (n + 4) (n + 2) (n + 3) n (n + 1) l1 l2 := by
  constructor <;> (show @Ne Nat _ _) <;> first
    | exact fun e => absurd (Nat.add_left_cancel e) (by decide)
    | exact Nat.ne_of_gt (Nat.lt_add_of_pos_right (by decide))
    | exact Nat.ne_of_lt (Nat.lt_add_of_pos_right (by decide))
    | exact Nat.ne_of_lt h1
    | exact Nat.ne_of_lt h2
    | exact Nat.ne_of_lt (Nat.lt_of_lt_of_le h1 (Nat.le_add_right _ _))
    | exact Nat.ne_of_lt (Nat.lt_of_lt_of_le h2 (Nat.le_add_right _ _))
    | exact Nat.ne_of_gt h1
    | exact Nat.ne_of_gt h2
    | exact Nat.ne_of_gt (Nat.lt_of_lt_of_le h1 (Nat.le_add_right _ _))
    | exact Nat.ne_of_gt (Nat.lt_of_lt_of_le h2 (Nat.le_add_right _ _))
    | omega
theorem KTurns.zipT (hh : A.handled = none) {z TI TO i1 i2 l1 l2 : Addr} (D : ZipApart z TI TO i1 i2 l1 l2) (xs ys : Array Value) (hsz : ys.size = xs.size) (elts : List Expr) (kk : Nat) (tp : Pos) :
    KTurns prog w A (.Tuple elts kk tp) z [z, TI, TO, i1, i2, l1, l2] [z, TO, i1, i2] xs.size
      (fun i v h => ∃ T x y, v = .ref T ∧ h.IsTuple T #[x, y] ∧ xs[i]? = some x ∧ ys[i]? = some y)
      (fun i v h => ∃ T x y, v = .ref T ∧ h.IsTuple T #[x, y] ∧ xs[i]? = some x ∧ ys[i]? = some y ∧ ZipSt z TI TO i1 i2 l1 l2 xs ys (rawInt T) (i + 1) h ∧ T ≠ z)
      (fun i h => ZipSt z TI TO i1 i2 l1 l2 xs ys .none i h) where
  sub := fun c hc => by simp at hc ⊢; rcases hc with rfl | rfl | rfl | rfl <;> simp
  frame := fun i h h' st hk => by
    obtain ⟨a1, a2, ⟨a, b, a3⟩, a4, a5⟩ := st
    exact ⟨hk z (by simp) _ a1, hk TI (by simp) _ a2, ⟨a, b, hk TO (by simp) _ a3⟩, a4.keep (hk i1 (by simp)) (hk l1 (by simp)), a5.keep (hk i2 (by simp)) (hk l2 (by simp))⟩
  item := fun i s Q E hi st hQ => by
    have hy : i < ys.size := by omega
    have hz : s.heap.objs.size ≠ z := Nat.ne_of_gt (Heap.lt_size st.1)
    refine pyNext_zipT D st (Array.getElem?_eq_getElem hi) (Array.getElem?_eq_getElem hy) fun h' a1 a2 a3 => ?_
    exact hQ (.ref s.heap.objs.size) h' s.toks ⟨_, _, _, rfl, ⟨_, a2, rfl, _, rfl⟩, Array.getElem?_eq_getElem hi, Array.getElem?_eq_getElem hy, a1, hz⟩ fun c o hc e => a3 c o (fun q => hc (by simp [q])) (fun q => hc (by simp [q])) (fun q => hc (by simp [q])) (fun q => hc (by simp [q])) e
  go := fun i v s Q E hm hQ => by
    obtain ⟨T, x, y, rfl, hT, hx, hy, ⟨a1, a2, ⟨a, b, a3⟩, a4, a5⟩, hTz⟩ := hm
    refine wpAny_letOwnedTupleGo_zip a1 fun h' z' b' => hQ h' ⟨T, x, y, rfl, hT.extBut b'.extBut hTz, hx, hy⟩ ⟨z', b'.extBut _ _ D.TIz a2, ⟨a, b, b'.extBut _ _ D.TOz a3⟩, a4.keep (fun o => b'.extBut _ _ D.i1z) (fun o => b'.extBut _ _ D.l1z), a5.keep (fun o => b'.extBut _ _ D.i2z) (fun o => b'.extBut _ _ D.l2z)⟩
      fun c o hc e => b'.extBut _ _ (fun q => hc (by simp [q])) e
  done := fun s Q E st hQ => pyNext_zipT_end hh D st (by simp) fun h' hk => hQ h' s.toks fun c o hc e => hk c o (fun q => hc (by simp [q])) (fun q => hc (by simp [q])) (fun q => hc (by simp [q])) (fun q => hc (by simp [q])) e
variable {env : Env} {h₀ : Heap} {L : Addr} {m : Str → Option Value}
/-- zip of two tuples of the ledger as a source of pairs -/
theorem zip_src {one other : Addr} {xs ys : Array Value} {n1 n2 : Nat} {news : List (Addr × Obj)} {elts : List Expr} {kk : Nat} {tp : Pos} {Q : Value → Shared → Prop} (hh : A.handled = none) (F : Fr h₀ L s.heap m) (N : News h₀ L s.heap news)
    (h1 : (one, ({ cls := .type "tuple", data := .seq xs n1 } : Obj)) ∈ news) (h2 : (other, ({ cls := .type "tuple", data := .seq ys n2 } : Obj)) ∈ news) (hsz : ys.size = xs.size)
    (k : ∀ it s₂, (∃ g tk, s₂ = { s with heap := g, toks := tk }) → PairSrc prog w A h₀ L m (.Tuple elts kk tp) news (fun i x y => xs[i]? = some x ∧ ys[i]? = some y) xs.size it s₂ → Q it s₂) :
    wpAny (model prog w) A (call (.type "zip") [.ref one, .ref other]) (fun xv s₁ => wpAny (model prog w) A (pyIter xv) Q E s₁) E s := by
  have l1 : one < s.heap.objs.size := Heap.lt_size (N _ h1).1
  have l2 : other < s.heap.objs.size := Heap.lt_size (N _ h2).1
  have lL : L < s.heap.objs.size := F.ns.lt
  refine call_zipT ⟨_, (N _ h1).1, rfl, _, rfl⟩ ⟨_, (N _ h2).1, rfl, _, rfl⟩ fun h' st hs5 hk => ?_
  refine wpAny_pyIter_zip st.1 ?_
  have fresh : ∀ b, s.heap.objs.size ≤ b → h₀.get? b = none := fun b hb => by
    cases e : h₀.get? b with
    | none => rfl
    | some o' => exact absurd (Heap.lt_size (F.keep b o' e)) (Nat.not_lt.mpr hb)
  have hw : ∀ b ∈ [s.heap.objs.size + 4, s.heap.objs.size + 3, s.heap.objs.size, s.heap.objs.size + 1], s.heap.objs.size ≤ b := by
    intro b hb
    simp at hb
    rcases hb with rfl | rfl | rfl | rfl <;> (show @LE.le Nat _ _ _) <;> omega
  refine k _ _ ⟨h', s.toks, rfl⟩ ⟨⟨_, _, _, _, _, _, rfl, KTurns.zipT hh (apartT l1 l2) xs ys hsz elts kk tp, ?_, st, ?_, fun q => ?_, fun b hb => fresh b (hw b hb), fun p hp q => ?_, ?_⟩, F.keeps hk, N.grown hk⟩
  · rintro i v h ⟨T, x, y, rfl, hT, hx, hy⟩
    exact ⟨T, x, y, rfl, hT, hx, hy⟩
  · intro b hb
    show @LT.lt Nat _ b h'.objs.size
    rw [hs5]
    have h3 : @LT.lt Nat _ one s.heap.objs.size := l1
    have h4 : @LT.lt Nat _ other s.heap.objs.size := l2
    simp only [List.mem_cons, List.not_mem_nil, or_false] at hb
    rcases hb with rfl | rfl | rfl | rfl | rfl | rfl | rfl <;> omega
  · exact absurd (hw _ q) (Nat.not_le.mpr lL)
  · exact absurd (hw _ q) (Nat.not_le.mpr (Heap.lt_size (N p hp).1))
  · intro s Q E st hQ
    exact wpAny_pyIter_zip st.1 hQ
/-- a list comprehension over pairs -/
theorem ListComp_pair {elt iter : Expr} {a b : Str} {pa pb tp : Pos} {kk : Nat} {scope : Scope} {cl : List (Str × Addr)} {pos : Pos} {news : List (Addr × Obj)} {R : Nat → Value → Value → Prop} {n : Nat} {J : Nat → List Value → Prop} {Q : Value → Shared → Prop}
    (_ : Fr h₀ L s.heap m) (_ : News h₀ L s.heap news) (hh : A.handled = none) (hclos : closureFor scope env = pure cl) (hcell : ∀ y ∈ scope.names, y.2 ≠ .cell) (hkind : scope.kind = .function) (hnames : ∀ y ∈ scope.names, y.2 = .local → scope.names.lookup y.1 = some .local)
    (hxa : scope.names.lookup a = some .local) (hxb : scope.names.lookup b = some .local) (hab : ¬ a = b) (hn : n ≤ 1000) (h0 : J 0 [])
    (h : wpAny (model prog w) A (eval iter env) (fun xv s₁ => wpAny (model prog w) A (pyIter xv) (fun it s₂ => (∃ g tk, s₂ = { s with heap := g, toks := tk }) ∧ PairSrc prog w A h₀ L m (.Tuple [.Name a pa, .Name b pb] kk tp) news R n it s₂) E s₁) E s)
    (turn : ∀ i ys x y C oC D m₂ h tk (E' : Value → Shared → Prop), i < n → J i ys → R i x y → NsObj oC m₂ → m₂ a = some x → m₂ b = some y → Fr h₀ L h m → News h₀ L h ((C, oC) :: (D, lst ys) :: news) → C ≠ D → (∀ p ∈ news, p.1 ≠ C ∧ p.1 ≠ D) →
      wpAny (model prog w) A (eval elt (compEnvC scope cl C env)) (fun v s₄ => ∃ tk', s₄ = { s with heap := h, toks := tk' } ∧ J (i + 1) (ys ++ [v])) E' { s with heap := h, toks := tk })
    (fin : ∀ D h tk ys, Fr h₀ L h m → News h₀ L h ((D, lst ys) :: news) → (∀ p ∈ news, p.1 ≠ D) → ys.length = n → J n ys → Q (.ref D) { s with heap := h, toks := tk })
    (hs : ∀ x, foldedSetIterable iter env x = pure x := by intro _; rfl) :
    wpAny (model prog w) A (eval (.ListComp elt [⟨.Tuple [.Name a pa, .Name b pb] kk tp, iter, [], 0⟩] scope pos) env) Q E s := by
  rw [eval_ListComp]
  refine wpAny_comprehension_free (use := none) rfl hs hclos hkind hnames (wpAny_mono h (fun xv s₁ h₁ => wpAny_mono h₁ (fun it s₂ h₂ => ?_) fun _ _ e => e) fun _ _ e => e)
  obtain ⟨⟨g, tk, rfl⟩, S⟩ := h₂
  refine pair_block hh S hn hcell hkind hxa hxb hab h0 turn ?_
  intro D C h tk m' ys F' N' hD hns hC₀ hD₀ hCL hDL hCD offC hyl hJ
  refine ⟨m', hns, fun h'' hs'' => fin D h'' tk ys (F'.change hs'' hCL hC₀) (fun p hp => ?_) hD hyl hJ⟩
  refine ⟨hs''.extBut _ _ ?_ (N' p hp).1, (N' p hp).2⟩
  rcases List.mem_cons.mp hp with rfl | hp
  · exact Ne.symm hCD
  · exact offC p hp
/-- the same, stored into a local name -/
theorem Assign_pair {elt iter : Expr} {a b y : Str} {pa pb tp py : Pos} {kk : Nat} {scope : Scope} {cl : List (Str × Addr)} {pos spos : Pos} {news : List (Addr × Obj)} {R : Nat → Value → Value → Prop} {n : Nat} {J : Nat → List Value → Prop} {Q : Flow → Shared → Prop}
    (_ : Fr h₀ L s.heap m) (_ : News h₀ L s.heap news) (hh : A.handled = none) (hLe : env.locals = L) (hsw : swapsWith (.ListComp elt [⟨.Tuple [.Name a pa, .Name b pb] kk tp, iter, [], 0⟩] scope pos) (some (.Name y py)) spos.line env = pure true)
    (hclos : closureFor scope env = pure cl) (hcell : ∀ y ∈ scope.names, y.2 ≠ .cell) (hkind : scope.kind = .function) (hnames : ∀ y ∈ scope.names, y.2 = .local → scope.names.lookup y.1 = some .local)
    (hxa : scope.names.lookup a = some .local) (hxb : scope.names.lookup b = some .local) (hab : ¬ a = b) (hn : n ≤ 1000) (h0 : J 0 [])
    (hy : env.kindOf y = some .local) (hp : (env.scope.kind == .class || (env.scope.kind == .module && env.locals != env.globals)) = false)
    (h : wpAny (model prog w) A (eval iter env) (fun xv s₁ => wpAny (model prog w) A (pyIter xv) (fun it s₂ => (∃ g tk, s₂ = { s with heap := g, toks := tk }) ∧ PairSrc prog w A h₀ L m (.Tuple [.Name a pa, .Name b pb] kk tp) news R n it s₂) E s₁) E s)
    (turn : ∀ i ys x y C oC D m₂ h tk (E' : Value → Shared → Prop), i < n → J i ys → R i x y → NsObj oC m₂ → m₂ a = some x → m₂ b = some y → Fr h₀ L h m → News h₀ L h ((C, oC) :: (D, lst ys) :: news) → C ≠ D → (∀ p ∈ news, p.1 ≠ C ∧ p.1 ≠ D) →
      wpAny (model prog w) A (eval elt (compEnvC scope cl C env)) (fun v s₄ => ∃ tk', s₄ = { s with heap := h, toks := tk' } ∧ J (i + 1) (ys ++ [v])) E' { s with heap := h, toks := tk })
    (fin : ∀ D h tk ys, Fr h₀ L h (fun z => if z = y then some (.ref D) else m z) → News h₀ L h ((D, lst ys) :: news) → (∀ p ∈ news, p.1 ≠ D) → ys.length = n → J n ys → Q .next { s with heap := h, toks := tk })
    (hs : ∀ x, foldedSetIterable iter env x = pure x := by intro _; rfl) :
    wpAny (model prog w) A (exec (.Assign [.Name y py] (.ListComp elt [⟨.Tuple [.Name a pa, .Name b pb] kk tp, iter, [], 0⟩] scope pos) spos) env) Q E s := by
  subst hLe
  rw [exec_Assign_Name_used _ _ _ _ hsw]
  refine wpAny_bind (wpAny_standAt (wpAny_bind ?_))
  show wpAny _ A (do let _ ← comprehension (.ListComp elt [⟨.Tuple [.Name a pa, .Name b pb] kk tp, iter, [], 0⟩] scope pos) scope env _ (newList []) false (eval iter env) (some (assign (.Name y py) env))) _ _ s
  refine wpAny_bind (wpAny_mono (wpAny_comprehension_free (use := some (assign (.Name y py) env)) (Q := fun _ s' => Q .next s') rfl hs hclos hkind hnames
    (wpAny_mono h (fun xv s₁ h₁ => wpAny_mono h₁ (fun it s₂ h₂ => ?_) fun _ _ e => e) fun _ _ e => e)) (fun _ s' hq => wpAny_pure (wpAny_pure hq)) fun _ _ e => e)
  obtain ⟨⟨g, tk, rfl⟩, S⟩ := h₂
  refine pair_block hh S hn hcell hkind hxa hxb hab h0 turn ?_
  intro D C h' tk m' ys F' N' hD hns hC₀ hD₀ hCL hDL hCD offC hyl hJ
  show wpAny _ A (assign (.Name y py) env (.ref D)) _ _ _
  refine wpAny_assign_Name (wpAny_storeName_local hy F'.ns (fun h₂ hn₂ hs₂ => ?_) hp)
  have hL₀ : h₀.get? env.locals = none := Heap.get?_none_of_le F'.above
  have F₂ : Fr h₀ env.locals h₂ (fun z => if z = y then some (.ref D) else m z) := ⟨hn₂, fun b o e => hs₂.extBut b o (fun q => by rw [q, hL₀] at e; cases e) (F'.keep b o e), F'.above⟩
  refine ⟨m', hns.sameBut hs₂ hCL, fun h'' hs'' => fin D h'' _ ys (F₂.change hs'' hCL hC₀) (fun p hp => ?_) hD hyl hJ⟩
  have z : h₂.get? p.1 = some p.2 := hs₂.extBut _ _ (N' p hp).2.1 (N' p hp).1
  refine ⟨hs''.extBut _ _ ?_ z, (N' p hp).2⟩
  rcases List.mem_cons.mp hp with rfl | hp
  · exact Ne.symm hCD
  · exact offC p hp
end
end Mine
end
section
open PySem PySem.Spec PySem.W PyProof.Rows PySem.Calls
set_option maxRecDepth 100000
set_option maxHeartbeats 2000000
namespace Mine
section
variable {prog : Program} {w : World} {A : Around} {E : Value → Shared → Prop} {s : Shared} {env : Env} {h₀ : Heap} {Q : Flow → Shared → Prop}
/-- a loop over a tuple, by what holds between the turns -/
theorem for_tup {target : Expr} {body : List Stmt} {l : Addr} {items : List Value} {m : Str → Option Value} {news : List (Addr × Obj)}
    {n : Nat} (J : Nat → (Str → Option Value) → List (Addr × Obj) → Prop)
    (hh : A.handled = none) (F : Fr h₀ env.locals s.heap m) (N : News h₀ env.locals s.heap news) (h0 : J 0 m news)
    (hS : ∀ i m₁ nw, J i m₁ nw → (l, ({ cls := .type "tuple", data := .seq items.toArray n } : Obj)) ∈ nw)
    (go : ∀ v ∈ items, ∀ it, letOwnedTupleGo target it v = pure ())
    (hE : PassesOwn (model prog w) A env E)
    (turn : ∀ i v m₁ nw I oI h tk, items[i]? = some v → J i m₁ nw → Fr h₀ env.locals h m₁ → News h₀ env.locals h ((I, oI) :: nw) → (∀ p ∈ nw, p.1 ≠ I) →
      wpAny (model prog w) A (assign target env v) (fun _ s₂ => wpAny (model prog w) A (execs body env) (ForPost h₀ env.locals I oI (J (i + 1)) { s with heap := h, toks := tk } Q) E s₂) E { s with heap := h, toks := tk })
    (done : ∀ m₁ nw h tk, J items.length m₁ nw → Fr h₀ env.locals h m₁ → News h₀ env.locals h nw → Q .next { s with heap := h, toks := tk }) :
    wpAny (model prog w) A (pyIter (.ref l)) (fun it s₂ => codeAny (model prog w) A (.forLoop target it body [] env) (fun r s' => match r with | .ok f => Q f s' | .error e => cameBackBy (model prog w) A env E e s') s₂) E s := by
  have hls : s.heap.IsTuple l items.toArray := ⟨_, (N _ (hS 0 m news h0)).1, rfl, n, rfl⟩
  refine wpAny_pyIter_tuple hls ?_
  obtain ⟨It, hIt⟩ : ∃ It, It = s.heap.objs.size := ⟨_, rfl⟩
  rw [← hIt]
  have hItL : env.locals ≠ It := hIt ▸ Nat.ne_of_lt F.ns.lt
  have hIt0 : h₀.get? It = none := hIt ▸ next_is_new F
  have hlIt : ∀ {h : Heap} {i m₁ nw}, J i m₁ nw → (∀ p ∈ nw, p.1 ≠ It) → l ≠ It := fun {h i m₁ nw} hJ off => off _ (hS i m₁ nw hJ)
  refine codeAny_forLoop_any
    (fun k s' => ∃ h' tk m' nw i, s' = { s with heap := h', toks := tk } ∧ h'.IsTupleIter It l i ∧ Fr h₀ env.locals h' m' ∧ News h₀ env.locals h' nw ∧ (∀ p ∈ nw, p.1 ≠ It) ∧ J i m' nw ∧ i ≤ items.length ∧ k = items.length + 1 - i) ?_ (items.length + 1)
    ⟨s.heap.push { cls := .type "tuple_iterator", data := .fields #[.ref l, .int 0 0] }, s.toks, m, news, 0, rfl, ⟨_, hIt ▸ Heap.get?_push_size _ rfl, rfl, rfl⟩, F.push _, (fun p hp => ⟨Heap.get?_push_of_some _ (N p hp).1, (N p hp).2⟩), (fun p hp => hIt ▸ Nat.ne_of_lt (Heap.lt_size (N p hp).1)), h0, Nat.zero_le _, rfl⟩
  rintro k s' ⟨h', tk, m', nw, i, rfl, hit, F', N', off, hJ, hi, rfl⟩
  have hl' : h'.IsTuple l items.toArray := ⟨_, (N' _ (hS i m' nw hJ)).1, rfl, n, rfl⟩
  have hlne := hlIt (h := h') hJ off
  by_cases hlt : i < items.length
  · refine wpAny_passesOwn hE (wpAny_pyNext_tuple_item hit hl' (x := items[i]) (by simp [hlt]) fun h₁ hit₁ hs₁ => ?_)
    have F₁ : Fr h₀ env.locals h₁ m' := F'.change hs₁ (Ne.symm hItL) hIt0
    have N₁ : News h₀ env.locals h₁ nw := fun p hp => ⟨(hs₁.2 p.1 (off p hp)).trans (N' p hp).1, (N' p hp).2⟩
    obtain ⟨oI, hoI, hc, hd⟩ := id hit₁
    have NI : News h₀ env.locals h₁ ((It, oI) :: nw) := by
      intro p hp
      rcases List.mem_cons.mp hp with rfl | hp
      · exact ⟨hoI, Ne.symm hItL, hIt0⟩
      · exact N₁ p hp
    have key : wpAny (model prog w) A (assign target env items[i]) (fun _ s₂ => wpAny (model prog w) A (execs body env) (fun f s₃ => match f with
            | .next | .cont => ∃ m, m < items.length + 1 - i ∧ ∃ h' tk m' nw i, s₃ = { s with heap := h', toks := tk } ∧ h'.IsTupleIter It l i ∧ Fr h₀ env.locals h' m' ∧ News h₀ env.locals h' nw ∧ (∀ p ∈ nw, p.1 ≠ It) ∧ J i m' nw ∧ i ≤ items.length ∧ m = items.length + 1 - i
            | .brk => Q .next s₃
            | .ret v => Q (.ret v) s₃) (notedBy (model prog w) A env (cameBackBy (model prog w) A env E)) s₂) (notedBy (model prog w) A env (cameBackBy (model prog w) A env E)) { s with heap := h₁, toks := tk } := by
      refine wpAny_passesOwn hE (wpAny_mono (turn i items[i] m' nw It oI h₁ tk (by simp [hlt]) hJ F₁ NI off) (fun _ s₂ q => ?_) fun _ _ e => e)
      refine wpAny_passesOwn hE (wpAny_mono q (fun f s₃ z => ?_) fun _ _ e => e)
      have fin : (∃ h' tk' m' nw', s₃ = { s with heap := h', toks := tk' } ∧ Fr h₀ env.locals h' m' ∧ News h₀ env.locals h' ((It, oI) :: nw') ∧ (∀ p ∈ nw', p.1 ≠ It) ∧ J (i + 1) m' nw') →
          ∃ m, m < items.length + 1 - i ∧ ∃ h' tk m' nw i, s₃ = { s with heap := h', toks := tk } ∧ h'.IsTupleIter It l i ∧ Fr h₀ env.locals h' m' ∧ News h₀ env.locals h' nw ∧ (∀ p ∈ nw, p.1 ≠ It) ∧ J i m' nw ∧ i ≤ items.length ∧ m = items.length + 1 - i := by
        rintro ⟨h3, tk3, m3, nw3, rfl, F3, N3, off3, J3⟩
        exact ⟨items.length + 1 - (i + 1), by omega, h3, tk3, m3, nw3, i + 1, rfl, ⟨oI, (N3 _ List.mem_cons_self).1, hc, hd⟩, F3, fun p hp => N3 p (List.mem_cons_of_mem _ hp), off3, J3, hlt, rfl⟩
      cases f with
      | ret v => exact z
      | brk => exact z
      | next => exact fin z
      | cont => exact fin z
    exact wpAny_of_eq (go items[i] (List.getElem_mem hlt) _) key
  · have hin : i = items.length := by omega
    subst hin
    refine wpAny_passesOwn hE (wpAny_pyNext_tuple_end hh hit hl' (by simp) fun h₁ he₁ => wpAny_execs_nil ?_)
    refine done m' nw h₁ tk hJ ⟨F'.ns.at' fun o e => he₁ _ o hItL e, fun b o e => he₁ b o (fun q => by rw [q, hIt0] at e; cases e) (F'.keep b o e), F'.above⟩ fun p hp => ⟨he₁ _ _ (off p hp) (N' p hp).1, (N' p hp).2⟩
/-- a loop over the keys of a dict, by what holds between the turns -/
theorem for_keys {target : Expr} {body : List Stmt} {l : Addr} {oP : Obj} {K : Type} [DecidableEq K] {knd : KeyKind prog w K} {kvs : List (K × Value)} {m : Str → Option Value} {news : List (Addr × Obj)}
    (J : Nat → (Str → Option Value) → List (Addr × Obj) → Prop)
    (hh : A.handled = none) (lo : (l == sysModules) = false) (hd0 : oP.IsDictOf knd kvs) (F : Fr h₀ env.locals s.heap m) (N : News h₀ env.locals s.heap news) (h0 : J 0 m news)
    (hS : ∀ i m₁ nw, J i m₁ nw → (l, oP) ∈ nw)
    (go : ∀ v it, letOwnedTupleGo target it v = pure ())
    (hE : PassesOwn (model prog w) A env E)
    (turn : ∀ i v m₁ nw I oI h tk, (∃ k y, kvs[i]? = some (k, y) ∧ knd.is k v = true) → J i m₁ nw → Fr h₀ env.locals h m₁ → News h₀ env.locals h ((I, oI) :: nw) → (∀ p ∈ nw, p.1 ≠ I) →
      wpAny (model prog w) A (assign target env v) (fun _ s₂ => wpAny (model prog w) A (execs body env) (ForPost h₀ env.locals I oI (J (i + 1)) { s with heap := h, toks := tk } Q) E s₂) E { s with heap := h, toks := tk })
    (done : ∀ m₁ nw h tk, J kvs.length m₁ nw → Fr h₀ env.locals h m₁ → News h₀ env.locals h nw → Q .next { s with heap := h, toks := tk }) :
    wpAny (model prog w) A (pyIter (.ref l)) (fun it s₂ => codeAny (model prog w) A (.forLoop target it body [] env) (fun r s' => match r with | .ok f => Q f s' | .error e => cameBackBy (model prog w) A env E e s') s₂) E s := by
  obtain ⟨es, ep, hr⟩ := hd0
  have hat : ∀ {h : Heap}, h.get? l = some oP → h.DictAt knd l kvs ep := fun e => ⟨oP, es, e, hr⟩
  refine wpAny_pyIter_dict lo (hat (N _ (hS 0 m news h0)).1) ?_
  obtain ⟨It, hIt⟩ : ∃ It, It = s.heap.objs.size := ⟨_, rfl⟩
  rw [← hIt]
  have hItL : env.locals ≠ It := hIt ▸ Nat.ne_of_lt F.ns.lt
  have hIt0 : h₀.get? It = none := hIt ▸ next_is_new F
  have hlIt : ∀ {h : Heap} {i m₁ nw}, J i m₁ nw → (∀ p ∈ nw, p.1 ≠ It) → l ≠ It := fun {h i m₁ nw} hJ off => off _ (hS i m₁ nw hJ)
  refine codeAny_forLoop_any
    (fun k s' => ∃ h' tk m' nw i, s' = { s with heap := h', toks := tk } ∧ h'.IsKeyIter It l i kvs.length ep ∧ Fr h₀ env.locals h' m' ∧ News h₀ env.locals h' nw ∧ (∀ p ∈ nw, p.1 ≠ It) ∧ J i m' nw ∧ i ≤ kvs.length ∧ k = kvs.length + 1 - i) ?_ (kvs.length + 1)
    ⟨s.heap.push { cls := .type "dict_keyiterator", data := .fields #[.ref l, .int 0 0, .int kvs.length 0, .int ep 0] }, s.toks, m, news, 0, rfl, ⟨_, hIt ▸ Heap.get?_push_size _ rfl, rfl, rfl⟩, F.push _, (fun p hp => ⟨Heap.get?_push_of_some _ (N p hp).1, (N p hp).2⟩), (fun p hp => hIt ▸ Nat.ne_of_lt (Heap.lt_size (N p hp).1)), h0, Nat.zero_le _, rfl⟩
  rintro k s' ⟨h', tk, m', nw, i, rfl, hit, F', N', off, hJ, hi, rfl⟩
  have hl' := hat (N' _ (hS i m' nw hJ)).1
  have hlne := hlIt (h := h') hJ off
  by_cases hlt : i < kvs.length
  · refine wpAny_passesOwn hE (wpAny_pyNext_dict_item hit hl' (k := (kvs[i]).1) (v := (kvs[i]).2) (by simp [hlt]) fun key₁ h₁ hkey₁ hit₁ hs₁ => ?_)
    have F₁ : Fr h₀ env.locals h₁ m' := F'.change hs₁ (Ne.symm hItL) hIt0
    have N₁ : News h₀ env.locals h₁ nw := fun p hp => ⟨(hs₁.2 p.1 (off p hp)).trans (N' p hp).1, (N' p hp).2⟩
    obtain ⟨oI, hoI, hc, hd⟩ := id hit₁
    have NI : News h₀ env.locals h₁ ((It, oI) :: nw) := by
      intro p hp
      rcases List.mem_cons.mp hp with rfl | hp
      · exact ⟨hoI, Ne.symm hItL, hIt0⟩
      · exact N₁ p hp
    have key : wpAny (model prog w) A (assign target env key₁) (fun _ s₂ => wpAny (model prog w) A (execs body env) (fun f s₃ => match f with
            | .next | .cont => ∃ m, m < kvs.length + 1 - i ∧ ∃ h' tk m' nw i, s₃ = { s with heap := h', toks := tk } ∧ h'.IsKeyIter It l i kvs.length ep ∧ Fr h₀ env.locals h' m' ∧ News h₀ env.locals h' nw ∧ (∀ p ∈ nw, p.1 ≠ It) ∧ J i m' nw ∧ i ≤ kvs.length ∧ m = kvs.length + 1 - i
            | .brk => Q .next s₃
            | .ret v => Q (.ret v) s₃) (notedBy (model prog w) A env (cameBackBy (model prog w) A env E)) s₂) (notedBy (model prog w) A env (cameBackBy (model prog w) A env E)) { s with heap := h₁, toks := tk } := by
      refine wpAny_passesOwn hE (wpAny_mono (turn i key₁ m' nw It oI h₁ tk ⟨_, (kvs[i]).2, by simp [hlt], hkey₁⟩ hJ F₁ NI off) (fun _ s₂ q => ?_) fun _ _ e => e)
      refine wpAny_passesOwn hE (wpAny_mono q (fun f s₃ z => ?_) fun _ _ e => e)
      have fin : (∃ h' tk' m' nw', s₃ = { s with heap := h', toks := tk' } ∧ Fr h₀ env.locals h' m' ∧ News h₀ env.locals h' ((It, oI) :: nw') ∧ (∀ p ∈ nw', p.1 ≠ It) ∧ J (i + 1) m' nw') →
          ∃ m, m < kvs.length + 1 - i ∧ ∃ h' tk m' nw i, s₃ = { s with heap := h', toks := tk } ∧ h'.IsKeyIter It l i kvs.length ep ∧ Fr h₀ env.locals h' m' ∧ News h₀ env.locals h' nw ∧ (∀ p ∈ nw, p.1 ≠ It) ∧ J i m' nw ∧ i ≤ kvs.length ∧ m = kvs.length + 1 - i := by
        rintro ⟨h3, tk3, m3, nw3, rfl, F3, N3, off3, J3⟩
        exact ⟨kvs.length + 1 - (i + 1), by omega, h3, tk3, m3, nw3, i + 1, rfl, ⟨oI, (N3 _ List.mem_cons_self).1, hc, hd⟩, F3, fun p hp => N3 p (List.mem_cons_of_mem _ hp), off3, J3, hlt, rfl⟩
      cases f with
      | ret v => exact z
      | brk => exact z
      | next => exact fin z
      | cont => exact fin z
    exact wpAny_of_eq (go key₁ _) key
  · have hin : i = kvs.length := by omega
    subst hin
    refine wpAny_passesOwn hE (wpAny_pyNext_dict_end hh hit hl' (by simp) fun h₁ he₁ => wpAny_execs_nil ?_)
    refine done m' nw h₁ tk hJ ⟨F'.ns.at' fun o e => he₁ _ o hItL e, fun b o e => he₁ b o (fun q => by rw [q, hIt0] at e; cases e) (F'.keep b o e), F'.above⟩ fun p hp => ⟨he₁ _ _ (off p hp) (N' p hp).1, (N' p hp).2⟩
end
theorem off_rest {tl LD : List (Addr × Obj)} {Dq d : Addr} {oQ : Obj} (h1 : ∀ p ∈ tl, p.1 ≠ d) (h2 : Dq ≠ d) (h3 : ∀ p ∈ LD, p.1 ≠ d) : ∀ p ∈ tl ++ (Dq, oQ) :: LD, p.1 ≠ d := by
  intro p hp
  rcases List.mem_append.mp hp with hp | hp
  · exact h1 p hp
  rcases List.mem_cons.mp hp with rfl | hp
  · exact h2
  · exact h3 p hp
theorem off_cons {a d : Addr} {o : Obj} {l : List (Addr × Obj)} (h : a ≠ d) (h2 : ∀ p ∈ l, p.1 ≠ d) : ∀ p ∈ (a, o) :: l, p.1 ≠ d := by
  intro p hp
  rcases List.mem_cons.mp hp with rfl | hp
  · exact h
  · exact h2 p hp
theorem upd_tail {a d : Addr} {o o1 : Obj} {r : List (Addr × Obj)} {g : Obj → List (Addr × Obj)} (h : a ≠ d) (U : UpdF d o r g) : UpdF d o ((a, o1) :: r) (fun o' => (a, o1) :: g o') := .tail h U
end Mine
end
section
open PySem PySem.Spec PySem.W PyProof.Rows PySem.Calls
set_option maxRecDepth 100000
set_option maxHeartbeats 2000000
namespace Mine
/-- a point as a tuple of the ledger -/
noncomputable def PtV (tl : List (Addr × Obj)) (v : Value) (p : Int × Int) : Prop := ∃ T t u n, v = .ref T ∧ (T, ({ cls := .type "tuple", data := .seq #[.int p.1 t, .int p.2 u] n } : Obj)) ∈ tl
noncomputable def PtsD (tl : List (Addr × Obj)) : List (Int × Value) → List (Int × (Int × Int)) → Prop
  | [], [] => True
  | (k, v) :: r, (k', p) :: r' => k = k' ∧ PtV tl v p ∧ PtsD tl r r'
  | _, _ => False
noncomputable def ptHas (c : List (Int × (Int × Int))) (k : Int) : Bool := c.any fun p => decide (p.1 = k)
theorem ptV_mono {tl tl' : List (Addr × Obj)} (h : ∀ p ∈ tl, p ∈ tl') {v : Value} {p : Int × Int} (x : PtV tl v p) : PtV tl' v p := by
  obtain ⟨T, t, u, n, e, hm⟩ := x
  exact ⟨T, t, u, n, e, h _ hm⟩
theorem ptsD_mono {tl tl' : List (Addr × Obj)} (h : ∀ p ∈ tl, p ∈ tl') : ∀ {kvs : List (Int × Value)} {pts : List (Int × (Int × Int))}, PtsD tl kvs pts → PtsD tl' kvs pts
  | [], [], _ => trivial
  | (_, _) :: _, (_, _) :: _, x => ⟨x.1, ptV_mono h x.2.1, ptsD_mono h x.2.2⟩
theorem ptsD_len {tl : List (Addr × Obj)} : ∀ {kvs : List (Int × Value)} {pts : List (Int × (Int × Int))}, PtsD tl kvs pts → kvs.length = pts.length
  | [], [], _ => rfl
  | (_, _) :: _, (_, _) :: _, x => by rw [List.length_cons, List.length_cons, ptsD_len x.2.2]
theorem ptsD_any {tl : List (Addr × Obj)} (k : Int) : ∀ {kvs : List (Int × Value)} {pts : List (Int × (Int × Int))}, PtsD tl kvs pts → (kvs.any fun kv => decide (kv.1 = k)) = ptHas pts k
  | [], [], _ => rfl
  | (a, _) :: _, (_, _) :: _, ⟨e, _, x⟩ => by
    subst e
    unfold ptHas
    rw [List.any_cons, List.any_cons, ptsD_any k x]; rfl
theorem ptsD_at {tl : List (Addr × Obj)} (k : Int) : ∀ {kvs : List (Int × Value)} {pts : List (Int × (Int × Int))}, PtsD tl kvs pts → ptHas pts k = true → ∃ v, valueAt kvs k = some v ∧ PtV tl v (ptLook pts k)
  | [], [], _, h => by cases h
  | (a, v) :: r, (_, p) :: r', ⟨e, hv, x⟩, h => by
    subst e
    by_cases hk : a = k
    · subst hk
      refine ⟨v, by unfold valueAt; simp, ?_⟩
      unfold ptLook; simpa using hv
    · have h' : ptHas r' k = true := by
        unfold ptHas at h ⊢
        rw [List.any_cons] at h
        simpa [hk] using h
      obtain ⟨v', h1, h2⟩ := ptsD_at k x h'
      refine ⟨v', ?_, ?_⟩
      · unfold valueAt at h1 ⊢; rw [List.find?_cons]; simpa [hk] using h1
      · unfold ptLook at h2 ⊢; rw [List.find?_cons]; simpa [hk] using h2
theorem ptsD_snoc {tl : List (Addr × Obj)} {k : Int} {v : Value} {p : Int × Int} (hv : PtV tl v p) : ∀ {kvs : List (Int × Value)} {pts : List (Int × (Int × Int))}, PtsD tl kvs pts → PtsD tl (kvs ++ [(k, v)]) (pts ++ [(k, p)])
  | [], [], _ => ⟨rfl, hv, trivial⟩
  | (_, _) :: _, (_, _) :: _, x => ⟨x.1, x.2.1, ptsD_snoc hv x.2.2⟩
theorem ptsD_put {tl : List (Addr × Obj)} {k : Int} {v : Value} {p : Int × Int} {kvs : List (Int × Value)} {pts : List (Int × (Int × Int))} (x : PtsD tl kvs pts) (h : ptHas pts k = false) (hv : PtV tl v p) : PtsD tl (stored kvs k v) (pts ++ [(k, p)]) := by
  unfold stored
  rw [if_neg (by rw [ptsD_any k x, h]; exact Bool.false_ne_true)]
  exact ptsD_snoc hv x
theorem ptS_next {last : Int} {ts : List (Int × Int × Int)} {i : Nat} {t : Int × Int × Int} (h : ts[i]? = some t) : ptS last (ts.take (i + 1)) = ptStep (ptS last (ts.take i)) t := by
  unfold ptS
  rw [List.take_add_one, h, List.foldl_append]; rfl
theorem ptS_len (last : Int) : ∀ (ts : List (Int × Int × Int)), (ptS last ts).length ≤ 2 + ts.length := by
  intro ts
  unfold ptS
  suffices h : ∀ (l : List (Int × Int × Int)) (c : List (Int × (Int × Int))), (l.foldl ptStep c).length ≤ c.length + l.length from h ts _
  intro l
  induction l with
  | nil => intro c; exact Nat.le_refl _
  | cons t r ih =>
    intro c
    have h1 := ih (ptStep c t)
    have h2 : (ptStep c t).length = c.length + 1 := by unfold ptStep; simp
    rw [List.foldl_cons, List.length_cons]
    omega
section
variable {prog : Program} {w : World} {A : Around} {E : Value → Shared → Prop} {s : Shared} {h₀ : Heap} {L d : Addr} {m : Str → Option Value} {news tl : List (Addr × Obj)} {o : Obj} {kvs : List (Int × Value)} {pts : List (Int × (Int × Int))} {k : Int} {tk : Tok}
theorem pt_item {value slice : PySem.Expr} {Q : Value → Shared → Prop} (N : News h₀ L s.heap news) (hp : (d, o) ∈ news) (hd : o.IsDictOf (intKind prog w) kvs) (hP : PtsD tl kvs pts) (hk : ptHas pts k = true)
    (h : ∀ T t u n, (T, ({ cls := .type "tuple", data := .seq #[.int (ptLook pts k).1 t, .int (ptLook pts k).2 u] n } : Obj)) ∈ tl → Q (.ref T) { s with toks := s.toks + 1 })
    (hs : subscripted slice false (.ref d) (.int k tk) = operate [.ref d, .int k tk] (getItem (.ref d) (.int k tk)) := by with_unfolding_all rfl) (hg : ∀ r, letTemporaryGo value (.ref d) r = pure () := by intro _; with_unfolding_all rfl) :
    wpAny (model prog w) A (subscriptTail value slice (.ref d) (.int k tk)) Q E s := by
  obtain ⟨v, hv, T, t, u, n, rfl, hm⟩ := ptsD_at k hP hk
  exact kda_item N hp hd (intKind_is _ _ _ _) hv (h T t u n hm) hs hg
theorem pair_fst {value slice : PySem.Expr} {T : Addr} {x y : Value} {n : Nat} {Q : Value → Shared → Prop} (N : News h₀ L s.heap news) (hm : (T, ({ cls := .type "tuple", data := .seq #[x, y] n } : Obj)) ∈ news) (h : Q x s)
    (hs : subscripted slice false (.ref T) (.int 0 tk) = operate [.ref T, .int 0 tk] (getItem (.ref T) (.int 0 tk)) := by with_unfolding_all rfl) (hg : ∀ r, letTemporaryGo value (.ref T) r = pure () := by intro _; with_unfolding_all rfl) :
    wpAny (model prog w) A (subscriptTail value slice (.ref T) (.int 0 tk)) Q E s := item_tuple (items := #[x, y]) (j := 0) ⟨_, (N _ hm).1, rfl, _, rfl⟩ (by decide) (by decide) rfl rfl h hs hg
theorem pair_snd {value slice : PySem.Expr} {T : Addr} {x y : Value} {n : Nat} {Q : Value → Shared → Prop} (N : News h₀ L s.heap news) (hm : (T, ({ cls := .type "tuple", data := .seq #[x, y] n } : Obj)) ∈ news) (h : Q y s)
    (hs : subscripted slice false (.ref T) (.int 1 tk) = operate [.ref T, .int 1 tk] (getItem (.ref T) (.int 1 tk)) := by with_unfolding_all rfl) (hg : ∀ r, letTemporaryGo value (.ref T) r = pure () := by intro _; with_unfolding_all rfl) :
    wpAny (model prog w) A (subscriptTail value slice (.ref T) (.int 1 tk)) Q E s := item_tuple (items := #[x, y]) (j := 1) ⟨_, (N _ hm).1, rfl, _, rfl⟩ (by decide) (by decide) rfl rfl h hs hg
theorem list_item {value slice : PySem.Expr} {T : Addr} {us : List Value} {n : Nat} {v : Value} {Q : Value → Shared → Prop} (N : News h₀ L s.heap news) (hm : (T, W.listOf us.toArray n) ∈ news) (h0 : 0 ≤ k) (hk : k < 2 ^ 63) (hx : us[k.toNat]? = some v) (h : Q v s)
    (hs : subscripted slice false (.ref T) (.int k tk) = operate [.ref T, .int k tk] (getItem (.ref T) (.int k tk)) := by with_unfolding_all rfl) (hg : ∀ r, letTemporaryGo value (.ref T) r = pure () := by intro _; with_unfolding_all rfl) :
    wpAny (model prog w) A (subscriptTail value slice (.ref T) (.int k tk)) Q E s :=
  item_list ⟨_, (N _ hm).1, rfl, _, rfl⟩ h0 hk (by simpa using hx) h hs hg
end
end Mine
end
section
open PySem PySem.Spec PySem.W PyProof.Rows PySem.Calls
set_option maxRecDepth 100000
set_option maxHeartbeats 4000000
namespace Mine
open PyProof.Rows.LCg PyProof.Rows.LCt
section
variable {prog : Program} {w : World} {A : Around} {E : Value → Shared → Prop} {s : Shared} {env : Env} {h₀ : Heap} {L : Addr} {m : Str → Option Value}
/-- a list of pairs of the ledger as a walker -/
theorem KTurns.rows (hh : A.handled = none) {I l : Addr} (hne : l ≠ I) {its : Array Value} {tl : List (Addr × Obj)} (htl : ∀ p ∈ tl, p.1 ≠ I) {R : Nat → Value → Value → Prop} (hT : ∀ i v, its[i]? = some v → ∃ T x y n, v = .ref T ∧ (T, ({ cls := .type "tuple", data := .seq #[x, y] n } : Obj)) ∈ tl ∧ R i x y) (elts : List Expr) (kk : Nat) (tp : Pos) :
    KTurns prog w A (.Tuple elts kk tp) I (I :: l :: tl.map (·.1)) [I] its.size
      (fun i v h => ∃ T x y, v = .ref T ∧ h.IsTuple T #[x, y] ∧ R i x y)
      (fun i v h => its[i]? = some v ∧ (h.IsListIter I l (i + 1) ∧ h.IsList l its) ∧ ∀ p ∈ tl, h.get? p.1 = some p.2)
      (fun i h => (h.IsListIter I l i ∧ h.IsList l its) ∧ ∀ p ∈ tl, h.get? p.1 = some p.2) where
  sub := fun b hb => by rw [List.mem_singleton.mp hb]; exact List.mem_cons_self
  frame := fun i h h' st hk => ⟨(Walks.list (prog := prog) (w := w) hh I l hne its).frame i h h' st.1 fun b hb o e => hk b (by
      rcases List.mem_cons.mp hb with rfl | hb
      · exact List.mem_cons_self
      · rw [List.mem_singleton.mp hb]; exact List.mem_cons_of_mem _ List.mem_cons_self) o e, fun p hp => hk p.1 (List.mem_cons_of_mem _ (List.mem_cons_of_mem _ (List.mem_map.mpr ⟨p, hp, rfl⟩))) _ (st.2 p hp)⟩
  item := fun i s Q E hi st hQ => (Walks.list (prog := prog) (w := w) hh I l hne its).item i s Q E hi st.1 fun v h' tk hP st' hk =>
    hQ v h' tk ⟨hP, st', fun p hp => hk p.1 _ (fun q => htl p hp (List.mem_singleton.mp q)) (st.2 p hp)⟩ hk
  go := fun i v s Q E hm hQ => letGo_listiter hm.2.1.1 (hQ s.heap (by
    obtain ⟨T, x, y, n, e, hm2, hR⟩ := hT i v hm.1
    exact ⟨T, x, y, e, ⟨_, hm.2.2 _ hm2, rfl, n, rfl⟩, hR⟩) hm.2 fun _ _ _ e => e)
  done := fun s Q E st hQ => (Walks.list (prog := prog) (w := w) hh I l hne its).done s Q E st.1 hQ
theorem row_src {l : Addr} {us : List Value} {n1 : Nat} {news tl : List (Addr × Obj)} {R : Nat → Value → Value → Prop} {elts : List Expr} {kk : Nat} {tp : Pos} {Q : Value → Shared → Prop} (hh : A.handled = none) (F : Fr h₀ L s.heap m) (N : News h₀ L s.heap news)
    (hl : (l, W.listOf us.toArray n1) ∈ news) (htl : ∀ p ∈ tl, p ∈ news) (hT : ∀ i v, us[i]? = some v → ∃ T x y n, v = .ref T ∧ (T, ({ cls := .type "tuple", data := .seq #[x, y] n } : Obj)) ∈ tl ∧ R i x y)
    (k : ∀ it s₂, (∃ g tk, s₂ = { s with heap := g, toks := tk }) → PairSrc prog w A h₀ L m (.Tuple elts kk tp) news R us.length it s₂ → Q it s₂) :
    wpAny (model prog w) A (pyIter (.ref l)) Q E s := by
  have hls : s.heap.IsList l us.toArray := ⟨_, (N _ hl).1, rfl, _, rfl⟩
  have lL : L < s.heap.objs.size := F.ns.lt
  have ll : l < s.heap.objs.size := Heap.lt_size (N _ hl).1
  have up : ∀ c o, s.heap.get? c = some o → (s.heap.push { cls := .type "list_iterator", data := .fields #[.ref l, .int 0 0] }).get? c = some o := fun c o e => Heap.get?_push_of_some _ e
  have W := KTurns.rows (prog := prog) (w := w) (A := A) hh (I := s.heap.objs.size) (l := l) (Nat.ne_of_lt ll) (its := us.toArray) (fun p hp => Nat.ne_of_lt (Heap.lt_size (N p (htl p hp)).1)) (fun i v hv => hT i v (by simpa using hv)) elts kk tp
  rw [List.size_toArray] at W
  refine wpAny_pyIter_list hls (k _ _ ⟨_, s.toks, rfl⟩ ⟨⟨s.heap.objs.size, _, _, _, _, _, rfl, W, fun i v h q => q, ?_, fun b hb => ?_, fun q => ?_, fun b hb => ?_, fun p hp q => ?_, ?_⟩, F.keeps up, N.grown up⟩)
  · exact ⟨⟨⟨_, Heap.get?_push_size _ rfl, rfl, rfl⟩, hls.push _⟩, fun p hp => up _ _ (N p (htl p hp)).1⟩
  · show b < (s.heap.push _).objs.size
    rw [Heap.size_push]
    rcases List.mem_cons.mp hb with rfl | hb
    · exact Nat.lt_succ_self _
    rcases List.mem_cons.mp hb with rfl | hb
    · exact Nat.lt_succ_of_lt ll
    obtain ⟨p, hp, rfl⟩ := List.mem_map.mp hb
    exact Nat.lt_succ_of_lt (Heap.lt_size (N p (htl p hp)).1)
  · rw [List.mem_singleton.mp q] at lL
    exact Nat.lt_irrefl _ lL
  · rw [List.mem_singleton.mp hb]; exact next_is_new F
  · exact Nat.ne_of_lt (Heap.lt_size (N p hp).1) (List.mem_singleton.mp q)
  · intro s Q E st hQ
    exact wpAny_pyIter_listiter st.1.1 hQ
/-- a comprehension over the signs of a text, stored into a local name -/
theorem Assign_signs {elt iter : Expr} {x y : Str} {px py : Pos} {scope : Scope} {cl : List (Str × Addr)} {pos spos : Pos} {Q : Flow → Shared → Prop} (F₀ : Fr h₀ L s.heap m) (hLe : env.locals = L)
    (hsw : swapsWith (.ListComp elt [⟨.Name x px, iter, [], 0⟩] scope pos) (some (.Name y py)) spos.line env = pure true)
    (hclos : closureFor scope env = pure cl) (hcell : ∀ z ∈ scope.names, z.2 ≠ .cell) (hkind : scope.kind = .function)
    (hnames : ∀ z ∈ scope.names, z.2 = .local → scope.names.lookup z.1 = some .local) (hx : scope.names.lookup x = some .local)
    (hy : env.kindOf y = some .local) (hp : (env.scope.kind == .class || (env.scope.kind == .module && env.locals != env.globals)) = false)
    (h : wpAny (model prog w) A (eval iter env) (fun xv s₁ => ∃ z t news, xv = .str z t ∧ (z.cps.all (· < 128)) = true ∧ z.cps.size ≤ 1000 ∧ A.handled = none ∧ Fr h₀ L s₁.heap m ∧ News h₀ L s₁.heap news ∧
      ∀ s₂ : Shared, (∃ h, s₂ = { s₁ with heap := h }) → CompRest prog w A h₀ L m env elt x scope cl s₂ (fun _ => True) (SignAt z) (FinA h₀ L m s₂ y Q) z.cps.size 0 [] news) E s)
    (hs : ∀ x, foldedSetIterable iter env x = pure x := by intro _; rfl) :
    wpAny (model prog w) A (exec (.Assign [.Name y py] (.ListComp elt [⟨.Name x px, iter, [], 0⟩] scope pos) spos) env) Q E s := by
  subst hLe
  rw [exec_Assign_Name_used _ _ _ _ hsw]
  refine wpAny_bind (wpAny_standAt (wpAny_bind ?_))
  show wpAny _ A (do let _ ← comprehension (.ListComp elt [⟨.Name x px, iter, [], 0⟩] scope pos) scope env _ (newList []) false (eval iter env) (some (assign (.Name y py) env))) _ _ s
  refine wpAny_bind (wpAny_mono (wpAny_comprehension_free (use := some (assign (.Name y py) env)) (Q := fun _ s' => Q .next s') rfl hs hclos hkind hnames
    (wpAny_mono h (fun xv s₁ h₁ => ?_) fun _ _ e => e)) (fun _ s' hq => wpAny_pure (wpAny_pure hq)) fun _ _ e => e)
  obtain ⟨z, t, news, rfl, ha, hz, hh, F, N, R⟩ := h₁
  refine wpAny_pyIter_ascii ha ?_
  have up : ∀ (o1 : Obj) b o, s₁.heap.get? b = some o → (s₁.heap.push o1).get? b = some o := fun o1 b o e => Heap.get?_push_of_some _ e
  refine block_U (Walks.strAscii hh s₁.heap.objs.size z t) (by rw [sizeLine_eq]; omega) (fun i h st => by obtain ⟨o, e, _⟩ := st; exact ⟨o, e⟩) (fun i h h' o nw st e e' _ _ _ => by obtain ⟨o', q, r⟩ := st; rw [e] at q; cases q; exact ⟨o, e', r⟩) hcell hkind hx ⟨_, Heap.get?_push_size _ rfl, rfl, rfl⟩ (fun b hb => ?_)
      (F.keeps (up _)) (N.grown (up _)) (Nat.ne_of_lt F.ns.lt) (next_is_new F) (fun p hp => Nat.ne_of_lt (Heap.lt_size (N p hp).1)) trivial (R _ ⟨_, rfl⟩) ?_
  · rw [List.mem_singleton.mp hb]
    show s₁.heap.objs.size < (s₁.heap.push _).objs.size
    rw [Heap.size_push]; exact Nat.lt_succ_self _
  · intro D C h' tk m' ys news' F' N' o1 hns hC₀ hD₀ hCL hDL hCD offC fin
    show wpAny _ A (assign (.Name y py) env (.ref D)) _ _ _
    refine wpAny_assign_Name (wpAny_storeName_local hy F'.ns (fun h₂ hn₂ hs₂ => ?_) hp)
    have hL₀ : h₀.get? env.locals = none := Heap.get?_none_of_le F'.above
    have F₂ : Fr h₀ env.locals h₂ (fun z => if z = y then some (.ref D) else m z) := ⟨hn₂, fun b o e => hs₂.extBut b o (fun q => by rw [q, hL₀] at e; cases e) (F'.keep b o e), F'.above⟩
    refine ⟨m', hns.sameBut hs₂ hCL, fun h'' hs'' => fin D h'' _ (F₂.change hs'' hCL hC₀) (fun p hp => ?_) o1⟩
    have z : h₂.get? p.1 = some p.2 := hs₂.extBut _ _ (N' p hp).2.1 (N' p hp).1
    refine ⟨hs''.extBut _ _ ?_ z, (N' p hp).2⟩
    rcases List.mem_cons.mp hp with rfl | hp
    · exact Ne.symm hCD
    · exact offC p hp
end
end Mine
end
section
open PySem PySem.W PyProof.Rows PySem.Calls
set_option maxRecDepth 100000
set_option maxHeartbeats 8000000
namespace Mine
theorem in_depth {Γ : Ctx} {hd fr gd} {d u d' u' : Nat} (h : Γ.In ⟨hd, d, fr, gd, u⟩) (h1 : d ≤ d') (h2 : u ≤ u') : Γ.In ⟨hd, d', fr, gd, u'⟩ :=
  ⟨h.1, Nat.le_trans h.2.1 h1, h.2.2.1, h.2.2.2.1, Nat.le_trans h.2.2.2.2 h2⟩
theorem room {M : Model} {hd fr gd} {d u d' u' : Nat} {α : Type} {t : Sem α} {Q : α → Shared → Prop} {E : Value → Shared → Prop} {s : Shared}
    (h1 : d ≤ d') (h2 : u ≤ u') (h : wpAny M ⟨hd, d', fr, gd, u'⟩ t Q E s) : wpAny M ⟨hd, d, fr, gd, u⟩ t Q E s :=
  fun Γ p hΓ => h Γ p (in_depth hΓ h1 h2)
theorem gentoks1 {α : Type} {M : Model} {A : Around} {t : Sem α} {Q : α → Shared → Prop} {E : Value → Shared → Prop} {h : Heap} {g d o} {X : Nat}
    (k : ∀ tk, 1 ≤ tk → wpAny M A t Q E ⟨h, g, d, tk, o⟩) : wpAny M A t Q E ⟨h, g, d, X + 1, o⟩ := k (X + 1) (Nat.succ_le_succ (Nat.zero_le _))
theorem cut {α : Type} {M : Model} {A : Around} {t : Sem α} {Q P : α → Shared → Prop} {E : Value → Shared → Prop} {s : Shared}
    (h : wpAny M A t P E s) (k : ∀ a s', P a s' → Q a s') : wpAny M A t Q E s := wpAny_mono h k fun _ _ e => e
theorem news_sub {h₀ h : Heap} {L : Addr} {l l' : List (Addr × Obj)} (N : News h₀ L h l) (hs : ∀ p ∈ l', p ∈ l) : News h₀ L h l' := fun p hp => N p (hs p hp)
/-- one letter of the frame named, the rest as it was -/
theorem fr_named {h₀ h : Heap} {L : Addr} {m : Str → Option Value} {k : Str} {v : Value} (F : Fr h₀ L h m) (e : m k = some v) : Fr h₀ L h (fun y => if y = k then some v else m y) := by
  have : (fun y => if y = k then some v else m y) = m := by
    funext y
    by_cases h : y = k
    · subst h; simp [e]
    · simp [h]
  rw [this]; exact F
theorem allLt_mem : ∀ {l : List (Addr × Obj)} {d : Addr}, AllLt d l → ∀ p ∈ l, @LT.lt Nat _ p.1 d
  | [], _, _, _, hp => nomatch hp
  | q :: r, d, h, p, hp => by
    rcases List.mem_cons.mp hp with rfl | hp
    · exact h.1
    · exact allLt_mem h.2 p hp
theorem allLt_ne {l : List (Addr × Obj)} {d d' : Addr} (h : AllLt d' l) (hd : @LE.le Nat _ d' d) : ∀ p ∈ l, p.1 ≠ d :=
  fun p hp => Nat.ne_of_lt (Nat.lt_of_lt_of_le (allLt_mem h p hp) hd)
theorem mem_ne {l : List (Addr × Obj)} {d d' : Addr} (h : ∀ p ∈ l, @LT.lt Nat _ p.1 d') (hd : @LE.le Nat _ d' d) : ∀ p ∈ l, p.1 ≠ d :=
  fun p hp => Nat.ne_of_lt (Nat.lt_of_lt_of_le (h p hp) hd)
end Mine
end
section
open PySem PySem.W PyProof.Rows PySem.Calls
set_option maxRecDepth 100000
set_option maxHeartbeats 8000000
namespace Mine
/-- none of the four signs that _escape_attrib turns besides -/
noncomputable def Safe (x : Str) : Prop := ∀ c ∈ x.cps.toList, c ≠ 34 ∧ c ≠ 13 ∧ c ≠ 10 ∧ c ≠ 9
theorem safe_repl {x z : Str} {c : Nat} (hx : Safe x) (hz : Safe z) : Safe (repl c z x) := by
  intro a ha
  obtain ⟨b, hb, hab⟩ := List.mem_flatMap.mp (show a ∈ (x.cps.toList.flatMap fun a => if a = c then z.cps.toList else [a]) from ha)
  by_cases h : b = c
  · rw [if_pos h] at hab; exact hz a hab
  · rw [if_neg h] at hab; rw [List.mem_singleton.mp hab]; exact hx b hb
theorem len_repl (x z : Str) (c : Nat) : (repl c z x).length ≤ x.length * (z.length + 1) := by
  show (x.cps.toList.flatMap fun a => if a = c then z.cps.toList else [a]).toArray.size ≤ x.cps.size * (z.cps.size + 1)
  rw [List.size_toArray, ← Array.length_toList (xs := x.cps)]
  generalize x.cps.toList = l
  induction l with
  | nil => simp
  | cons a r ih =>
    rw [List.flatMap_cons, List.length_append, List.length_cons, Nat.add_mul, Nat.one_mul]
    have : (if a = c then z.cps.toList else [a]).length ≤ z.cps.size + 1 := by split <;> simp
    omega
theorem repl_free {x z : Str} {c : Nat} (h : c ∉ x.cps.toList) : repl c z x = x := by
  apply Str.ext'; apply Array.ext'
  exact flat_free c z.cps.toList x.cps.toList h
theorem found_not {x : Str} {c : Nat} (h : (Builtin.Str.occurrences x ⟨#[c]⟩ 0 x.length 1).isEmpty = true) : c ∉ x.cps.toList := by
  have := StrLaws.found_one x c
  rw [h] at this
  exact of_decide_eq_false this.symm
theorem found_yes {x : Str} {c : Nat} (h : (Builtin.Str.occurrences x ⟨#[c]⟩ 0 x.length 1).isEmpty = false) : c ∈ x.cps.toList := by
  have := StrLaws.found_one x c
  rw [h] at this
  exact of_decide_eq_true this.symm
noncomputable def IfPost (g : Heap) (L : Addr) (m : Str → Option Value) (news : List (Addr × Obj)) (s : Shared) (y : Str) (f : Flow) (s' : Shared) : Prop :=
  f = .next ∧ ∃ t h' tk, 1 ≤ tk ∧ s' = { s with heap := h', toks := tk } ∧ Fr g L h' (fun z => if z = Str.ofString "text" then some (.str y t) else m z) ∧ News g L h' news
theorem tok_ne {t : Tok} (h : 1 ≤ (show Nat from t)) : t ≠ 0 := fun e => by subst e; exact absurd h (by decide)
theorem e_absent {x r c : Str} {i : Nat} (hc : c = ⟨#[i]⟩) (h : (Builtin.Str.occurrences x c 0 x.length 1).isEmpty = true) : x = repl i r x := by
  subst hc; exact (repl_free (found_not h)).symm
theorem e_present {x r c : Str} {i : Nat} (hc : c = ⟨#[i]⟩) : Txt.replace x c r = repl i r x := by
  subst hc; exact replace_repl x r i
theorem no_found {x c : Str} {i : Nat} (hc : c = ⟨#[i]⟩) (hi : i = 34 ∨ i = 13 ∨ i = 10 ∨ i = 9) (hS : Safe x) (h : (Builtin.Str.occurrences x c 0 x.length 1).isEmpty = false) : False := by
  subst hc
  have := hS i (found_yes h)
  omega
section
variable {M : Model} {A : Around} {env : Env} {E : Value → Shared → Prop} {s : Shared} {g : Heap} {L : Addr} {m : Str → Option Value} {news : List (Addr × Obj)} {Q : Flow → Shared → Prop}
theorem if_cut {c c' r n n' n'' : Str} {k1 k2 k3 p1 p2 p3 p4 p5 p6 p7 p8 p9 p10 : _} {d x : Str} {i b : Nat} {tx : Tok} (hc : c = ⟨#[i]⟩) (F : Fr g L s.heap m) (N : News g L s.heap news) (hm : m (Str.ofString "text") = some (.str x tx))
    (hS : Safe x) (hb : x.length ≤ b) (hr : Safe r) (hn : r.length ≤ 6)
    (h : wpAny M A (exec (.If (.Compare (.Constant (.str c) k1 p1) [.In] [.Name n p2] p3) [.Assign [.Name n' p4] (.Call (.Attribute (.Name n'' p5) d p6) [.Constant (.str c') k2 p7, .Constant (.str r) k3 p8] [] p9) p10] [] pos) env) (IfPost g L m news s (repl i r x)) E s)
    (k : ∀ t h' tk, 1 ≤ tk → Safe (repl i r x) → (repl i r x).length ≤ b * 7 → Fr g L h' (fun z => if z = Str.ofString "text" then some (.str (repl i r x) t) else m z) → News g L h' news → Q .next { s with heap := h', toks := tk }) :
    wpAny M A (exec (.If (.Compare (.Constant (.str c) k1 p1) [.In] [.Name n p2] p3) [.Assign [.Name n' p4] (.Call (.Attribute (.Name n'' p5) d p6) [.Constant (.str c') k2 p7, .Constant (.str r) k3 p8] [] p9) p10] [] pos) env) Q E s :=
  cut h fun f s' ⟨hf, t, h', tk, h1, e, F', N'⟩ => by
    subst hf; subst e
    exact k t h' tk h1 (safe_repl hS hr) (Nat.le_trans (len_repl x r i) (Nat.mul_le_mul hb (Nat.succ_le_succ hn))) F' N'
theorem if_free {c c' r n n' n'' : Str} {k1 k2 k3 p1 p2 p3 p4 p5 p6 p7 p8 p9 p10 : _} {d x : Str} {i : Nat} {tx : Tok} (hc : c = ⟨#[i]⟩) (hi : i = 34 ∨ i = 13 ∨ i = 10 ∨ i = 9) (F : Fr g L s.heap m) (N : News g L s.heap news) (hm : m (Str.ofString "text") = some (.str x tx))
    (hS : Safe x)
    (h : wpAny M A (exec (.If (.Compare (.Constant (.str c) k1 p1) [.In] [.Name n p2] p3) [.Assign [.Name n' p4] (.Call (.Attribute (.Name n'' p5) d p6) [.Constant (.str c') k2 p7, .Constant (.str r) k3 p8] [] p9) p10] [] pos) env) (IfPost g L m news s x) E s)
    (k : ∀ t h' tk, 1 ≤ tk → Fr g L h' (fun z => if z = Str.ofString "text" then some (.str x t) else m z) → News g L h' news → Q .next { s with heap := h', toks := tk }) :
    wpAny M A (exec (.If (.Compare (.Constant (.str c) k1 p1) [.In] [.Name n p2] p3) [.Assign [.Name n' p4] (.Call (.Attribute (.Name n'' p5) d p6) [.Constant (.str c') k2 p7, .Constant (.str r) k3 p8] [] p9) p10] [] pos) env) Q E s :=
  cut h fun f s' ⟨hf, t, h', tk, h1, e, F', N'⟩ => by
    subst hf; subst e
    exact k t h' tk h1 F' N'
theorem if_end {y y' : Str} {t : Tok} {h' : Heap} {tk : Nat} {m' : Str → Option Value} (e : y' = y) (h1 : 1 ≤ tk) (F : Fr g L h' m') (N : News g L h' news) (hm : m' (Str.ofString "text") = some (.str y' t)) (hr : ∀ z, z ≠ Str.ofString "text" → m' z = m z) :
    IfPost g L m news s y .next { s with heap := h', toks := tk } := by
  subst e
  refine ⟨rfl, t, h', tk, h1, rfl, ?_, N⟩
  have : (fun z => if z = Str.ofString "text" then some (.str y' t) else m z) = m' := by
    funext z
    by_cases hz : z = Str.ofString "text"
    · subst hz; rw [if_pos rfl, hm]
    · rw [if_neg hz, hr z hz]
  rw [this]; exact F
end

noncomputable def esc (x : Str) : Str := repl 62 (Str.ofString "&gt;") (repl 60 (Str.ofString "&lt;") (repl 38 (Str.ofString "&amp;") x))
theorem spec_cdata {w mean mg mb loose gd cn cs a ccd cl outer A₀ base h₀ L m news s Q E} (x : Str) (tx : Tok)
    (B : Below A₀ base outer h₀) (F : Fr h₀ L s.heap m) (X : (hd.heap_1 w.params).In h₀) (N : News h₀ L s.heap news) (T : Top hdView loose mean mg mb h₀) (hk : cs.kind = .function)
    (hx : x.length ≤ 1000) (hS : Safe x) (ht : 1 ≤ s.toks)
    (ret : ∀ t h' tk', 1 ≤ tk' → Fr h₀ L h' m → News h₀ L h' news → Q (.str (esc x) t) { s with heap := h', toks := tk' }) :
    wpAny (model PySem.Challenge.rw_ty0056_01.prog w) (ktrTop 600 5000 gd cn cs L a ccd cl outer) (call (.ref 235) [.str x tx]) Q E s := by
  k_with_none
  w_top off
  k_with "execs cons" => (k_here; (with_reducible show wpAny _ _ _ _ _ (Shared.mk _ _ _ (_ + 1) _)); refine gentoks1 ?_; intro tk9q htk9q)
  k_with "execs nil" => (k_here; (with_reducible show wpAny _ _ _ _ _ (Shared.mk _ _ _ (_ + 1) _)); refine gentoks1 ?_; intro tk9q htk9q)
  k_with "my ifend" => (refine' if_end ?e ?h1 ?F ?N ?m ?r; (case F => k_asm); (case N => k_asm); (case m => exact rfl); (case h1 => omega); (case e => first | rfl | (refine' e_absent ?ec ?eh; (case eh => assumption); (case ec => decide +kernel)) | exact e_present (by decide +kernel)); (case r => intro z9q hz9q; first | rfl | exact if_neg hz9q | (simp [hz9q]; done)))
  k_with "my ifclose" => first | walk_at "my ifend" | (exfalso; first | (refine' no_found (i := 34) ?ec ?ei ?es ?eh; (case eh => assumption); (case ec => decide +kernel); (case ei => omega); (case es => assumption)) | (refine' no_found (i := 13) ?ec ?ei ?es ?eh; (case eh => assumption); (case ec => decide +kernel); (case ei => omega); (case es => assumption)) | (refine' no_found (i := 10) ?ec ?ei ?es ?eh; (case eh => assumption); (case ec => decide +kernel); (case ei => omega); (case es => assumption)) | (refine' no_found (i := 9) ?ec ?ei ?es ?eh; (case eh => assumption); (case ec => decide +kernel); (case ei => omega); (case es => assumption)))
  k_with "call builtin:str.replace" => (refine' SC.replaceW ?u ?v ?uv ?yz ?hx ?hz ?_; (case u => first | exact Nat.succ_ne_zero _ | exact Nat.ne_of_gt (by assumption)); (case v => exact Nat.succ_ne_zero _); (case uv => exact Nat.ne_of_lt (Nat.lt_succ_self _)); (case yz => decide +kernel); (case hx => omega); (case hz => decide +kernel); intro t9q k9q; (try dsimp only))
  k_with "exec If Compare" => (k_here; (fail_if_success (with_reducible show wpAny _ _ _ (IfPost _ _ _ _ _ _) _ _)); (refine' if_free (i := 9) ?c ?i ?F ?N ?m ?S ?h ?_; (case c => decide +kernel); (case i => omega); (case F => k_asm); (case N => k_asm); (case m => exact rfl); (case S => assumption); (case h => (k_steps; all_goals walk_at "my ifclose")); (intro t9q h9q tk9q htk9q F9q N9q; (try dsimp only); (try k_fold))))
  k_with "exec If Compare" => (k_here; (fail_if_success (with_reducible show wpAny _ _ _ (IfPost _ _ _ _ _ _) _ _)); (refine' if_free (i := 10) ?c ?i ?F ?N ?m ?S ?h ?_; (case c => decide +kernel); (case i => omega); (case F => k_asm); (case N => k_asm); (case m => exact rfl); (case S => assumption); (case h => (k_steps; all_goals walk_at "my ifclose")); (intro t9q h9q tk9q htk9q F9q N9q; (try dsimp only); (try k_fold))))
  k_with "exec If Compare" => (k_here; (fail_if_success (with_reducible show wpAny _ _ _ (IfPost _ _ _ _ _ _) _ _)); (refine' if_free (i := 13) ?c ?i ?F ?N ?m ?S ?h ?_; (case c => decide +kernel); (case i => omega); (case F => k_asm); (case N => k_asm); (case m => exact rfl); (case S => assumption); (case h => (k_steps; all_goals walk_at "my ifclose")); (intro t9q h9q tk9q htk9q F9q N9q; (try dsimp only); (try k_fold))))
  k_with "exec If Compare" => (k_here; (fail_if_success (with_reducible show wpAny _ _ _ (IfPost _ _ _ _ _ _) _ _)); (refine' if_free (i := 34) ?c ?i ?F ?N ?m ?S ?h ?_; (case c => decide +kernel); (case i => omega); (case F => k_asm); (case N => k_asm); (case m => exact rfl); (case S => assumption); (case h => (k_steps; all_goals walk_at "my ifclose")); (intro t9q h9q tk9q htk9q F9q N9q; (try dsimp only); (try k_fold))))
  k_with "exec If Compare" => (k_here; (fail_if_success (with_reducible show wpAny _ _ _ (IfPost _ _ _ _ _ _) _ _)); (refine' if_cut (i := 38) ?c ?F ?N ?m ?S ?b ?r ?n ?h ?_; (case c => decide +kernel); (case F => k_asm); (case N => k_asm); (case m => exact rfl); (case S => assumption); (case b => assumption); (case r => (intro c9q hc9q; revert c9q; decide +kernel)); (case n => decide +kernel); (case h => (k_steps; all_goals walk_at "my ifclose")); (intro t9q h9q tk9q htk9q hS9q hb9q F9q N9q; (try dsimp only); (try k_fold))))
  k_with "exec If Compare" => (k_here; (fail_if_success (with_reducible show wpAny _ _ _ (IfPost _ _ _ _ _ _) _ _)); (refine' if_cut (i := 60) ?c ?F ?N ?m ?S ?b ?r ?n ?h ?_; (case c => decide +kernel); (case F => k_asm); (case N => k_asm); (case m => exact rfl); (case S => assumption); (case b => assumption); (case r => (intro c9q hc9q; revert c9q; decide +kernel)); (case n => decide +kernel); (case h => (k_steps; all_goals walk_at "my ifclose")); (intro t9q h9q tk9q htk9q hS9q hb9q F9q N9q; (try dsimp only); (try k_fold))))
  k_with "exec If Compare" => (k_here; (fail_if_success (with_reducible show wpAny _ _ _ (IfPost _ _ _ _ _ _) _ _)); (refine' if_cut (i := 62) ?c ?F ?N ?m ?S ?b ?r ?n ?h ?_; (case c => decide +kernel); (case F => k_asm); (case N => k_asm); (case m => exact rfl); (case S => assumption); (case b => assumption); (case r => (intro c9q hc9q; revert c9q; decide +kernel)); (case n => decide +kernel); (case h => (k_steps; all_goals walk_at "my ifclose")); (intro t9q h9q tk9q htk9q hS9q hb9q F9q N9q; (try dsimp only); (try k_fold))))
  revert X; k_fill; intro X
  refine wpAny_call ?_
  k_dflt cell_enter
  k_steps
  exact ret _ _ _ (by assumption) (by assumption) (by assumption)
theorem spec_attrib {w mean mg mb loose gd cn cs a ccd cl outer A₀ base h₀ L m news s Q E} (x : Str) (tx : Tok)
    (B : Below A₀ base outer h₀) (F : Fr h₀ L s.heap m) (X : (hd.heap_1 w.params).In h₀) (N : News h₀ L s.heap news) (T : Top hdView loose mean mg mb h₀) (hk : cs.kind = .function)
    (hx : x.length ≤ 1000) (hS : Safe x) (ht : 1 ≤ s.toks)
    (ret : ∀ t h' tk', 1 ≤ tk' → Fr h₀ L h' m → News h₀ L h' news → Q (.str (esc x) t) { s with heap := h', toks := tk' }) :
    wpAny (model PySem.Challenge.rw_ty0056_01.prog w) (ktrTop 600 5000 gd cn cs L a ccd cl outer) (call (.ref 242) [.str x tx]) Q E s := by
  k_with_none
  w_top off
  k_with "execs cons" => (k_here; (with_reducible show wpAny _ _ _ _ _ (Shared.mk _ _ _ (_ + 1) _)); refine gentoks1 ?_; intro tk9q htk9q)
  k_with "execs nil" => (k_here; (with_reducible show wpAny _ _ _ _ _ (Shared.mk _ _ _ (_ + 1) _)); refine gentoks1 ?_; intro tk9q htk9q)
  k_with "my ifend" => (refine' if_end ?e ?h1 ?F ?N ?m ?r; (case F => k_asm); (case N => k_asm); (case m => exact rfl); (case h1 => omega); (case e => first | rfl | (refine' e_absent ?ec ?eh; (case eh => assumption); (case ec => decide +kernel)) | exact e_present (by decide +kernel)); (case r => intro z9q hz9q; first | rfl | exact if_neg hz9q | (simp [hz9q]; done)))
  k_with "my ifclose" => first | walk_at "my ifend" | (exfalso; first | (refine' no_found (i := 34) ?ec ?ei ?es ?eh; (case eh => assumption); (case ec => decide +kernel); (case ei => omega); (case es => assumption)) | (refine' no_found (i := 13) ?ec ?ei ?es ?eh; (case eh => assumption); (case ec => decide +kernel); (case ei => omega); (case es => assumption)) | (refine' no_found (i := 10) ?ec ?ei ?es ?eh; (case eh => assumption); (case ec => decide +kernel); (case ei => omega); (case es => assumption)) | (refine' no_found (i := 9) ?ec ?ei ?es ?eh; (case eh => assumption); (case ec => decide +kernel); (case ei => omega); (case es => assumption)))
  k_with "call builtin:str.replace" => (refine' SC.replaceW ?u ?v ?uv ?yz ?hx ?hz ?_; (case u => first | exact Nat.succ_ne_zero _ | exact Nat.ne_of_gt (by assumption)); (case v => exact Nat.succ_ne_zero _); (case uv => exact Nat.ne_of_lt (Nat.lt_succ_self _)); (case yz => decide +kernel); (case hx => omega); (case hz => decide +kernel); intro t9q k9q; (try dsimp only))
  k_with "exec If Compare" => (k_here; (fail_if_success (with_reducible show wpAny _ _ _ (IfPost _ _ _ _ _ _) _ _)); (refine' if_free (i := 9) ?c ?i ?F ?N ?m ?S ?h ?_; (case c => decide +kernel); (case i => omega); (case F => k_asm); (case N => k_asm); (case m => exact rfl); (case S => assumption); (case h => (k_steps; all_goals walk_at "my ifclose")); (intro t9q h9q tk9q htk9q F9q N9q; (try dsimp only); (try k_fold))))
  k_with "exec If Compare" => (k_here; (fail_if_success (with_reducible show wpAny _ _ _ (IfPost _ _ _ _ _ _) _ _)); (refine' if_free (i := 10) ?c ?i ?F ?N ?m ?S ?h ?_; (case c => decide +kernel); (case i => omega); (case F => k_asm); (case N => k_asm); (case m => exact rfl); (case S => assumption); (case h => (k_steps; all_goals walk_at "my ifclose")); (intro t9q h9q tk9q htk9q F9q N9q; (try dsimp only); (try k_fold))))
  k_with "exec If Compare" => (k_here; (fail_if_success (with_reducible show wpAny _ _ _ (IfPost _ _ _ _ _ _) _ _)); (refine' if_free (i := 13) ?c ?i ?F ?N ?m ?S ?h ?_; (case c => decide +kernel); (case i => omega); (case F => k_asm); (case N => k_asm); (case m => exact rfl); (case S => assumption); (case h => (k_steps; all_goals walk_at "my ifclose")); (intro t9q h9q tk9q htk9q F9q N9q; (try dsimp only); (try k_fold))))
  k_with "exec If Compare" => (k_here; (fail_if_success (with_reducible show wpAny _ _ _ (IfPost _ _ _ _ _ _) _ _)); (refine' if_free (i := 34) ?c ?i ?F ?N ?m ?S ?h ?_; (case c => decide +kernel); (case i => omega); (case F => k_asm); (case N => k_asm); (case m => exact rfl); (case S => assumption); (case h => (k_steps; all_goals walk_at "my ifclose")); (intro t9q h9q tk9q htk9q F9q N9q; (try dsimp only); (try k_fold))))
  k_with "exec If Compare" => (k_here; (fail_if_success (with_reducible show wpAny _ _ _ (IfPost _ _ _ _ _ _) _ _)); (refine' if_cut (i := 38) ?c ?F ?N ?m ?S ?b ?r ?n ?h ?_; (case c => decide +kernel); (case F => k_asm); (case N => k_asm); (case m => exact rfl); (case S => assumption); (case b => assumption); (case r => (intro c9q hc9q; revert c9q; decide +kernel)); (case n => decide +kernel); (case h => (k_steps; all_goals walk_at "my ifclose")); (intro t9q h9q tk9q htk9q hS9q hb9q F9q N9q; (try dsimp only); (try k_fold))))
  k_with "exec If Compare" => (k_here; (fail_if_success (with_reducible show wpAny _ _ _ (IfPost _ _ _ _ _ _) _ _)); (refine' if_cut (i := 60) ?c ?F ?N ?m ?S ?b ?r ?n ?h ?_; (case c => decide +kernel); (case F => k_asm); (case N => k_asm); (case m => exact rfl); (case S => assumption); (case b => assumption); (case r => (intro c9q hc9q; revert c9q; decide +kernel)); (case n => decide +kernel); (case h => (k_steps; all_goals walk_at "my ifclose")); (intro t9q h9q tk9q htk9q hS9q hb9q F9q N9q; (try dsimp only); (try k_fold))))
  k_with "exec If Compare" => (k_here; (fail_if_success (with_reducible show wpAny _ _ _ (IfPost _ _ _ _ _ _) _ _)); (refine' if_cut (i := 62) ?c ?F ?N ?m ?S ?b ?r ?n ?h ?_; (case c => decide +kernel); (case F => k_asm); (case N => k_asm); (case m => exact rfl); (case S => assumption); (case b => assumption); (case r => (intro c9q hc9q; revert c9q; decide +kernel)); (case n => decide +kernel); (case h => (k_steps; all_goals walk_at "my ifclose")); (intro t9q h9q tk9q htk9q hS9q hb9q F9q N9q; (try dsimp only); (try k_fold))))
  revert X; k_fill; intro X
  refine wpAny_call ?_
  k_dflt cell_enter
  k_steps
  exact ret _ _ _ (by assumption) (by assumption) (by assumption)
theorem spec_c14n {w mean mg mb loose gd cn cs a ccd cl outer A₀ base h₀ L m news s Q E} (x : Str) (tx : Tok)
    (B : Below A₀ base outer h₀) (F : Fr h₀ L s.heap m) (X : (hd.heap_1 w.params).In h₀) (N : News h₀ L s.heap news) (T : Top hdView loose mean mg mb h₀) (hk : cs.kind = .function)
    (hx : x.length ≤ 1000) (hS : Safe x) (ht : 1 ≤ s.toks)
    (ret : ∀ t h' tk', 1 ≤ tk' → Fr h₀ L h' m → News h₀ L h' news → Q (.str (esc x) t) { s with heap := h', toks := tk' }) :
    wpAny (model PySem.Challenge.rw_ty0056_01.prog w) (ktrTop 600 5000 gd cn cs L a ccd cl outer) (call (.ref 249) [.str x tx]) Q E s := by
  k_with_none
  w_top off
  k_with "execs cons" => (k_here; (with_reducible show wpAny _ _ _ _ _ (Shared.mk _ _ _ (_ + 1) _)); refine gentoks1 ?_; intro tk9q htk9q)
  k_with "execs nil" => (k_here; (with_reducible show wpAny _ _ _ _ _ (Shared.mk _ _ _ (_ + 1) _)); refine gentoks1 ?_; intro tk9q htk9q)
  k_with "my ifend" => (refine' if_end ?e ?h1 ?F ?N ?m ?r; (case F => k_asm); (case N => k_asm); (case m => exact rfl); (case h1 => omega); (case e => first | rfl | (refine' e_absent ?ec ?eh; (case eh => assumption); (case ec => decide +kernel)) | exact e_present (by decide +kernel)); (case r => intro z9q hz9q; first | rfl | exact if_neg hz9q | (simp [hz9q]; done)))
  k_with "my ifclose" => first | walk_at "my ifend" | (exfalso; first | (refine' no_found (i := 34) ?ec ?ei ?es ?eh; (case eh => assumption); (case ec => decide +kernel); (case ei => omega); (case es => assumption)) | (refine' no_found (i := 13) ?ec ?ei ?es ?eh; (case eh => assumption); (case ec => decide +kernel); (case ei => omega); (case es => assumption)) | (refine' no_found (i := 10) ?ec ?ei ?es ?eh; (case eh => assumption); (case ec => decide +kernel); (case ei => omega); (case es => assumption)) | (refine' no_found (i := 9) ?ec ?ei ?es ?eh; (case eh => assumption); (case ec => decide +kernel); (case ei => omega); (case es => assumption)))
  k_with "call builtin:str.replace" => (refine' SC.replaceW ?u ?v ?uv ?yz ?hx ?hz ?_; (case u => first | exact Nat.succ_ne_zero _ | exact Nat.ne_of_gt (by assumption)); (case v => exact Nat.succ_ne_zero _); (case uv => exact Nat.ne_of_lt (Nat.lt_succ_self _)); (case yz => decide +kernel); (case hx => omega); (case hz => decide +kernel); intro t9q k9q; (try dsimp only))
  k_with "exec If Compare" => (k_here; (fail_if_success (with_reducible show wpAny _ _ _ (IfPost _ _ _ _ _ _) _ _)); (refine' if_free (i := 9) ?c ?i ?F ?N ?m ?S ?h ?_; (case c => decide +kernel); (case i => omega); (case F => k_asm); (case N => k_asm); (case m => exact rfl); (case S => assumption); (case h => (k_steps; all_goals walk_at "my ifclose")); (intro t9q h9q tk9q htk9q F9q N9q; (try dsimp only); (try k_fold))))
  k_with "exec If Compare" => (k_here; (fail_if_success (with_reducible show wpAny _ _ _ (IfPost _ _ _ _ _ _) _ _)); (refine' if_free (i := 10) ?c ?i ?F ?N ?m ?S ?h ?_; (case c => decide +kernel); (case i => omega); (case F => k_asm); (case N => k_asm); (case m => exact rfl); (case S => assumption); (case h => (k_steps; all_goals walk_at "my ifclose")); (intro t9q h9q tk9q htk9q F9q N9q; (try dsimp only); (try k_fold))))
  k_with "exec If Compare" => (k_here; (fail_if_success (with_reducible show wpAny _ _ _ (IfPost _ _ _ _ _ _) _ _)); (refine' if_free (i := 13) ?c ?i ?F ?N ?m ?S ?h ?_; (case c => decide +kernel); (case i => omega); (case F => k_asm); (case N => k_asm); (case m => exact rfl); (case S => assumption); (case h => (k_steps; all_goals walk_at "my ifclose")); (intro t9q h9q tk9q htk9q F9q N9q; (try dsimp only); (try k_fold))))
  k_with "exec If Compare" => (k_here; (fail_if_success (with_reducible show wpAny _ _ _ (IfPost _ _ _ _ _ _) _ _)); (refine' if_free (i := 34) ?c ?i ?F ?N ?m ?S ?h ?_; (case c => decide +kernel); (case i => omega); (case F => k_asm); (case N => k_asm); (case m => exact rfl); (case S => assumption); (case h => (k_steps; all_goals walk_at "my ifclose")); (intro t9q h9q tk9q htk9q F9q N9q; (try dsimp only); (try k_fold))))
  k_with "exec If Compare" => (k_here; (fail_if_success (with_reducible show wpAny _ _ _ (IfPost _ _ _ _ _ _) _ _)); (refine' if_cut (i := 38) ?c ?F ?N ?m ?S ?b ?r ?n ?h ?_; (case c => decide +kernel); (case F => k_asm); (case N => k_asm); (case m => exact rfl); (case S => assumption); (case b => assumption); (case r => (intro c9q hc9q; revert c9q; decide +kernel)); (case n => decide +kernel); (case h => (k_steps; all_goals walk_at "my ifclose")); (intro t9q h9q tk9q htk9q hS9q hb9q F9q N9q; (try dsimp only); (try k_fold))))
  k_with "exec If Compare" => (k_here; (fail_if_success (with_reducible show wpAny _ _ _ (IfPost _ _ _ _ _ _) _ _)); (refine' if_cut (i := 60) ?c ?F ?N ?m ?S ?b ?r ?n ?h ?_; (case c => decide +kernel); (case F => k_asm); (case N => k_asm); (case m => exact rfl); (case S => assumption); (case b => assumption); (case r => (intro c9q hc9q; revert c9q; decide +kernel)); (case n => decide +kernel); (case h => (k_steps; all_goals walk_at "my ifclose")); (intro t9q h9q tk9q htk9q hS9q hb9q F9q N9q; (try dsimp only); (try k_fold))))
  k_with "exec If Compare" => (k_here; (fail_if_success (with_reducible show wpAny _ _ _ (IfPost _ _ _ _ _ _) _ _)); (refine' if_cut (i := 62) ?c ?F ?N ?m ?S ?b ?r ?n ?h ?_; (case c => decide +kernel); (case F => k_asm); (case N => k_asm); (case m => exact rfl); (case S => assumption); (case b => assumption); (case r => (intro c9q hc9q; revert c9q; decide +kernel)); (case n => decide +kernel); (case h => (k_steps; all_goals walk_at "my ifclose")); (intro t9q h9q tk9q htk9q hS9q hb9q F9q N9q; (try dsimp only); (try k_fold))))
  revert X; k_fill; intro X
  refine wpAny_call ?_
  k_dflt cell_enter
  k_steps
  exact ret _ _ _ (by assumption) (by assumption) (by assumption)
end Mine
end
section
open PySem PySem.W PyProof.Rows PySem.Calls
set_option maxRecDepth 100000
set_option maxHeartbeats 2000000
namespace Mine
structure RdS where
  k : Nat
  x : Str
  us : List Value
  n : Nat
  done : List (Str × Int)
  rest : List (Str × Int)
  tl : List (Addr × Obj)
  tt : Tok
structure AmS where
  k : Nat
  t : Str
  n : Int
  tt : Tok
  tn : Tok
theorem amp_stop {k : Nat} {sg t t' : Str} {n n' : Int} (h : ampS k sg t n = some (t', n')) (h1 : (sg == Str.ofString "&") = true → (Txt.slice t none (some 4) == Str.ofString "amp;") = false) : t = t' ∧ n = n' := by
  cases k with
  | zero => cases h
  | succ k =>
    unfold ampS at h
    split at h
    · rename_i e
      rw [if_neg (by rw [h1 e]; exact Bool.false_ne_true)] at h
      cases h; exact ⟨rfl, rfl⟩
    · cases h; exact ⟨rfl, rfl⟩
theorem fin_lt {sg t : Str} {n : Int} (h1 : (sg == Str.ofString "&") = true) (h2 : (Txt.slice t none (some 3) == Str.ofString "lt;") = true) : finS sg t n = (Str.ofString "<", Txt.slice t (some 3) none, n + 1) := by
  unfold finS; rw [if_pos h1, if_pos h2]
theorem fin_gt {sg t : Str} {n : Int} (h1 : (sg == Str.ofString "&") = true) (h2 : (Txt.slice t none (some 3) == Str.ofString "lt;") = false) (h3 : (Txt.slice t none (some 3) == Str.ofString "gt;") = true) : finS sg t n = (Str.ofString ">", Txt.slice t (some 3) none, n + 1) := by
  unfold finS; rw [if_pos h1, if_neg (by rw [h2]; exact Bool.false_ne_true), if_pos h3]
theorem fin_amp {sg t : Str} {n : Int} (h1 : (sg == Str.ofString "&") = true) (h2 : (Txt.slice t none (some 3) == Str.ofString "lt;") = false) (h3 : (Txt.slice t none (some 3) == Str.ofString "gt;") = false) : finS sg t n = (sg, t, n) := by
  unfold finS; rw [if_pos h1, if_neg (by rw [h2]; exact Bool.false_ne_true), if_neg (by rw [h3]; exact Bool.false_ne_true)]
theorem fin_no {sg t : Str} {n : Int} (h1 : (sg == Str.ofString "&") = false) : finS sg t n = (sg, t, n) := by
  unfold finS; rw [if_neg (by rw [h1]; exact Bool.false_ne_true)]
theorem rowDat_snoc {news : List (Addr × Obj)} {us : List Value} {r : List (Str × Int)} {v : Value} {p : Str × Int} (h : DatAll news us (rowDat r)) (hv : DatIn news v (.tuple [.str p.1, .int p.2])) : DatAll news (us ++ [v]) (rowDat (r ++ [p])) := by
  unfold rowDat
  rw [List.map_append]
  exact h.append (.one hv)
noncomputable abbrev RdLed (l : Addr) (news : List (Addr × Obj)) (c : RdS) : List (Addr × Obj) := (l, listOf c.us.toArray c.n) :: (news ++ c.tl)
noncomputable abbrev RdPs (l : Addr) (c : RdS) : List (Str × Value) := [(Str.ofString "text", .str c.x c.tt), (Str.ofString "row", .ref l)]
noncomputable abbrev RdFacts (l : Addr) (c : RdS) : Prop := c.x.length ≤ 1000 ∧ (∀ p ∈ c.tl, @LT.lt Nat _ l p.1) ∧ c.us.length + c.k ≤ 1000
noncomputable abbrev RdP (r : List (Str × Int)) (c : RdS) : Prop := readS c.k c.x = some c.rest ∧ r = c.done ++ c.rest ∧ DatAll c.tl c.us (rowDat c.done)
/-- a turn's end of the reader -/
theorem rd_end {g h : Heap} {L l D : Addr} {s : Shared} {m m₀ : Str → Option Value} {news : List (Addr × Obj)} {c : RdS} {r : List (Str × Int)} {k2 : Nat} {sg t : Str} {i : Int} {tt ts ti : Tok} {tk : Nat}
    (F : Fr g L h m) (N : News g L h ((D, ({ cls := .type "tuple", data := .seq #[.str sg ts, .int i ti] } : Obj)) :: (l, listOf (c.us.toArray.push (.ref D)) (c.n + 1)) :: (news ++ c.tl)))
    (hlD : @LT.lt Nat _ l D) (hoff : ∀ p ∈ c.tl, @LT.lt Nat _ l p.1) (hk2 : c.k = k2 + 1) (hus : c.us.length + c.k ≤ 1000) (hdone : r = c.done ++ c.rest) (hall : DatAll c.tl c.us (rowDat c.done))
    (hrd : (readS k2 t).map ((sg, i) :: ·) = some c.rest) (ht : t.length ≤ 1000)
    (hk1 : m (Str.ofString "text") = some (Value.str t tt)) (hk3 : m (Str.ofString "row") = some (.ref l))
    (hr : ∀ z, (∀ p ∈ [(Str.ofString "text", Value.str t tt), (Str.ofString "row", .ref l)], z ≠ p.1) → [Str.ofString "sign", Str.ofString "level"].contains z = false → m z = m₀ z) :
    KswEnd g L s (RdLed l news) (RdPs l) (RdFacts l) [Str.ofString "sign", Str.ofString "level"] m₀ (RdP r) (fun c => c.k) c { s with heap := h, toks := tk } := by
  rcases h2 : readS k2 t with _ | r2
  · rw [h2] at hrd; cases hrd
  rw [h2] at hrd
  have hc : c.rest = (sg, i) :: r2 := (Option.some.inj hrd).symm
  refine ksw_end (⟨k2, t, c.us ++ [.ref D], c.n + 1, c.done ++ [(sg, i)], r2, (D, { cls := .type "tuple", data := .seq #[.str sg ts, .int i ti] }) :: c.tl, tt⟩ : RdS) F N ?_ ⟨ht, ?_, ?_⟩ ?_ hr ⟨h2, ?_, ?_⟩ ?_
  · intro p hp
    rcases List.mem_cons.mp hp with rfl | hp
    · refine List.mem_cons_of_mem _ ?_
      have : (c.us ++ [Value.ref D]).toArray = c.us.toArray.push (.ref D) := by simp
      show (l, listOf (c.us ++ [Value.ref D]).toArray (c.n + 1)) ∈ _
      rw [this]; exact List.mem_cons_self
    · rcases List.mem_append.mp hp with hp | hp
      · exact List.mem_cons_of_mem _ (List.mem_cons_of_mem _ (List.mem_append_left _ hp))
      · rcases List.mem_cons.mp hp with rfl | hp
        · exact List.mem_cons_self
        · exact List.mem_cons_of_mem _ (List.mem_cons_of_mem _ (List.mem_append_right _ hp))
  · intro p hp
    rcases List.mem_cons.mp hp with rfl | hp
    · exact hlD
    · exact hoff p hp
  · show (c.us ++ [Value.ref D]).length + k2 ≤ 1000
    rw [List.length_append, List.length_singleton]; omega
  · exact List.forall_mem_cons.mpr ⟨hk1, List.forall_mem_cons.mpr ⟨hk3, fun _ h => nomatch h⟩⟩
  · show r = (c.done ++ [(sg, i)]) ++ r2
    rw [hdone, hc, List.append_assoc]; rfl
  · refine rowDat_snoc (hall.mono fun p hp => List.mem_cons_of_mem _ hp) ?_
    exact .tuple (vs := [.str sg ts, .int i ti]) (n := 0) List.mem_cons_self (.cons (.str _ _) (.cons (.int _ _) .nil))
  · show k2 < c.k; omega
theorem spec_read {w mean mg mb loose gd cn cs a ccd cl outer A₀ base h₀ L m news s Q E} (x : Str) (tx : Tok) (k : Nat) (r : List (Str × Int))
    (B : Below A₀ base outer h₀) (F : Fr h₀ L s.heap m) (X : (hd.heap_1 w.params).In h₀) (N : News h₀ L s.heap news) (T : Top hdView loose mean mg mb h₀) (hk : cs.kind = .function)
    (hx : x.length ≤ 1000) (hr : readS k x = some r) (hkk : k ≤ 1000)
    (ret : ∀ l us n tl h' tk', 1 ≤ tk' → Fr h₀ L h' m → News h₀ L h' ((l, listOf us.toArray n) :: (news ++ tl)) → (∀ p ∈ news, p.1 < l) → (∀ p ∈ tl, @LT.lt Nat _ l p.1) → DatAll tl us (rowDat r) → Q (.ref l) { s with heap := h', toks := tk' }) :
    wpAny (model PySem.Challenge.rw_ty0056_01.prog w) (ktrTop 500 4000 gd cn cs L a ccd cl outer) (call (.ref 289) [.str x tx]) Q E s := by
  k_with_none
  w_top off
  k_with "call builtin:list.append" => (k_here; (with_reducible show wpAny _ _ (call (Value.builtin _) [Value.ref _, _]) _ _ _); k_dflt (refine' append_K ?k1 ?k2 ?k3 ?_ ?z; (case k1 => k_asm); (case k2 => k_asm); (case k3 => (refine' Upd.tail ?q6 (Upd.head ?q7); (case q7 => assumption); (case q6 => exact Nat.ne_of_gt (by (try dsimp only); omega)))); (case z => assumption); k_whole); intro h'q F'q N'q; (try k_sweep))
  k_with "exec While BoolOp" => (k_here; refine Stop.mk ?_)
  revert X; k_fill; intro X
  refine wpAny_call ?_
  k_dflt cell_enter
  walk1; walk1; (try dsimp only); walk1; walk1; walk1; walk1;  walk1; (try dsimp only); 
  rename Addr => l
  rename ∀ p ∈ news, p.1 < l => hnl
  walk1; walk1
  refine' ksw_while (σ := RdS) (RdLed l news) (RdPs l) (RdFacts l) [Str.ofString "sign", Str.ofString "level"] (RdP r) (fun c => c.k) ⟨k, x, [], 0, [], r, [], tx⟩ ?F ?N ?hf ?hk ?hp ?turn ?hE
  case F => k_asm
  case N => (simp only [RdLed, List.append_nil]; k_asm)
  case hf => exact ⟨hx, (fun _ h => nomatch h), by dsimp only [List.length_nil]; omega⟩
  case hk => refine List.forall_mem_cons.mpr ⟨?_, List.forall_mem_cons.mpr ⟨?_, fun _ h => nomatch h⟩⟩ <;> (dsimp only; exact rfl)
  case hp => exact ⟨hr, rfl, .nil⟩
  case hE => passes_own
  case turn =>
    intro c u h tk hc hP F9 N9
    obtain ⟨hcx, hctl, hcus⟩ := hc
    have hoff9 : ∀ p ∈ news ++ c.tl, p.1 ≠ l := fun p hp => (List.mem_append.mp hp).elim (fun q => Nat.ne_of_lt (hnl p q)) (fun q => Nat.ne_of_gt (hctl p q))
    have hsz9 : c.us.toArray.size ≤ sizeLine := by rw [List.size_toArray, sizeLine_eq]; omega
    dsimp only [kstB] at F9
    k_steps
    · unfold Stop
      obtain ⟨hrd, hdone, hall⟩ := hP
      rcases hk2 : c.k with _ | k2
      · rw [hk2] at hrd; cases hrd
      rw [hk2] at hrd
      unfold readS at hrd
      rw [if_pos (by assumption)] at hrd
      rcases ha : ampS k2 (Txt.item c.x 0) (Txt.slice c.x (some 1) none) 0 with _ | ⟨tF, nF⟩
      · rw [ha] at hrd; cases hrd
      rw [ha] at hrd
      dsimp only at hrd
      refine' ksw_while (σ := AmS) (fun _ => (l, listOf c.us.toArray c.n) :: (news ++ c.tl)) (fun d => [(Str.ofString "text", .str d.t d.tt), (Str.ofString "level", .int d.n d.tn)]) (fun d => d.t.length ≤ 1000) []
        (fun d => ampS d.k (Txt.item c.x 0) d.t d.n = some (tF, nF) ∧ 0 ≤ d.n ∧ d.n + d.k ≤ 1000) (fun d => d.k) ⟨k2, Txt.slice c.x (some 1) none, 0, _, _⟩ ?F ?N ?hf ?hk ?hp ?turn ?hE
      case F => k_asm
      case N => k_asm
      case hf => dsimp only; omega
      case hk => refine List.forall_mem_cons.mpr ⟨?_, List.forall_mem_cons.mpr ⟨?_, fun _ h => nomatch h⟩⟩ <;> (dsimp only; exact rfl)
      case hp => exact ⟨ha, by dsimp only; omega, by dsimp only; omega⟩
      case hE => passes_own
      case turn =>
        intro d u2 h2 tk2 hd2 hP2 F8 N8
        obtain ⟨hamp, hd0, hdk⟩ := hP2
        dsimp only [kstB] at F8
        k_steps
        · rcases hk3 : d.k with _ | k3
          · rw [hk3] at hamp; cases hamp
          rw [hk3] at hamp
          unfold ampS at hamp
          rw [if_pos (by assumption), if_pos (by assumption)] at hamp
          refine' ksw_end (⟨k3, _, d.n + 1, _, _⟩ : AmS) ?q1 ?q2 ?q3 ?q4 ?q5 ?q6 ?q7 ?q8
          case q1 => assumption
          case q2 => assumption
          case q3 => exact fun p hp => hp
          case q5 => refine List.forall_mem_cons.mpr ⟨?_, List.forall_mem_cons.mpr ⟨?_, fun _ h => nomatch h⟩⟩ <;> (dsimp only; exact rfl)
          case q4 => dsimp only; omega
          case q6 => dsimp only; ksw_same
          case q7 => exact ⟨hamp, by dsimp only; omega, by dsimp only; omega⟩
          case q8 => dsimp only; omega
        · have e := amp_stop hamp (fun _ => by assumption)
          rw [← e.1, ← e.2, fin_lt (by assumption) (by assumption)] at hrd
          refine' rd_end (by assumption) (by assumption) (by omega) hctl hk2 hcus hdone hall hrd ?q1 ?q2 ?q3 ?q4
          case q1 => (try dsimp only); omega
          case q2 => exact rfl
          case q3 => exact rfl
          case q4 => (try dsimp only); ksw_same
        · have e := amp_stop hamp (fun _ => by assumption)
          rw [← e.1, ← e.2, fin_gt (by assumption) (by assumption) (by assumption)] at hrd
          refine' rd_end (by assumption) (by assumption) (by omega) hctl hk2 hcus hdone hall hrd ?q1 ?q2 ?q3 ?q4
          case q1 => (try dsimp only); omega
          case q2 => exact rfl
          case q3 => exact rfl
          case q4 => (try dsimp only); ksw_same
        · have e := amp_stop hamp (fun _ => by assumption)
          rw [← e.1, ← e.2, fin_amp (by assumption) (by assumption) (by assumption)] at hrd
          refine' rd_end (by assumption) (by assumption) (by omega) hctl hk2 hcus hdone hall hrd ?q1 ?q2 ?q3 ?q4
          case q1 => (try dsimp only); omega
          case q2 => exact rfl
          case q3 => exact rfl
          case q4 => (try dsimp only); ksw_same
        · have e := amp_stop hamp (fun h => absurd h (by simp only [*]; decide))
          rw [← e.1, ← e.2, fin_no (by assumption)] at hrd
          refine' rd_end (by assumption) (by assumption) (by omega) hctl hk2 hcus hdone hall hrd ?q1 ?q2 ?q3 ?q4
          case q1 => (try dsimp only); omega
          case q2 => exact rfl
          case q3 => exact rfl
          case q4 => (try dsimp only); ksw_same
    · obtain ⟨hrd, hdone, hall⟩ := hP
      have hnil : c.rest = [] := by
        rcases hk2 : c.k with _ | k2
        · rw [hk2] at hrd; cases hrd
        rw [hk2] at hrd
        unfold readS at hrd
        rw [if_neg (by simp only [*]; decide)] at hrd
        exact (Option.some.inj hrd).symm
      rw [hnil, List.append_nil] at hdone
      exact ret l c.us c.n c.tl _ _ (Nat.succ_le_succ (Nat.zero_le _)) (by assumption) (by assumption) hnl hctl (hdone ▸ hall)
end Mine
end
section
open PySem PySem.W PyProof.Rows PySem.Calls
set_option maxRecDepth 100000
set_option maxHeartbeats 4000000
namespace Mine
noncomputable abbrev f3 (a b c : UInt64) (t1 t2 t3 : Tok) (n : Nat) : Obj := { cls := .type "tuple", data := .seq #[.float a t1, .float b t2, .float c t3] n }
theorem spec_v {w mean mg mb loose gd cn cs a ccd cl outer A₀ base h₀ L m news s Q E} (x y z : UInt64) (tx ty tz : Tok)
    (B : Below A₀ base outer h₀) (F : Fr h₀ L s.heap m) (X : (hd.heap_1 w.params).In h₀) (N : News h₀ L s.heap news) (T : Top hdView loose mean mg mb h₀) (hk : cs.kind = .function)
    (ret : ∀ t h' tk', Fr h₀ L h' m → News h₀ L h' news → Q (.float (vF x y z) t) { s with heap := h', toks := tk' }) :
    wpAny (model PySem.Challenge.rw_ty0056_01.prog w) (ktrTop 600 5000 gd cn cs L a ccd cl outer) (call (.ref 207) [.float x tx, .float y ty, .float z tz]) Q E s := by
  k_with_none
  w_top off
  k_with "call builtin:max" => (k_here; (with_reducible show wpAny _ _ (call _ [Value.float _ _, Value.float _ _, Value.float _ _]) _ _ _); (rename News _ _ _ _ => N9q); (rename Fr _ _ _ _ => F9q); k_dflt (refine max_three_f rfl F9q N9q ?_); intro h9q tk9q t9q F9q N9q; (try dsimp only))
  k_with "call builtin:min" => (k_here; (with_reducible show wpAny _ _ (call _ [Value.float _ _, Value.float _ _, Value.float _ _]) _ _ _); (rename News _ _ _ _ => N9q); (rename Fr _ _ _ _ => F9q); k_dflt (refine min_three_f rfl F9q N9q ?_); intro h9q tk9q t9q F9q N9q; (try dsimp only))
  revert X; k_fill; intro X
  refine wpAny_call ?_
  k_dflt cell_enter
  k_steps
  all_goals (simp only [vF, *, if_true, if_false, Bool.false_eq_true] at ret; exact ret _ _ _ (by assumption) (by assumption))
theorem spec_hls_to_rgb {w mean mg mb loose gd cn cs a ccd cl outer A₀ base h₀ L m news s Q E} (x y z : UInt64) (tx ty tz : Tok) (r1 r2 r3 : UInt64)
    (B : Below A₀ base outer h₀) (F : Fr h₀ L s.heap m) (X : (hd.heap_1 w.params).In h₀) (N : News h₀ L s.heap news) (T : Top hdView loose mean mg mb h₀) (hk : cs.kind = .function)
    (hf : hlsRgbF x y z = (r1, r2, r3))
    (ret : ∀ D t1 t2 t3 h' tk', Fr h₀ L h' m → News h₀ L h' ((D, f3 r1 r2 r3 t1 t2 t3 0) :: news) → (∀ p ∈ news, p.1 < D) → Q (.ref D) { s with heap := h', toks := tk' }) :
    wpAny (model PySem.Challenge.rw_ty0056_01.prog w) (ktrTop 550 4500 gd cn cs L a ccd cl outer) (call (.ref 200) [.float x tx, .float y ty, .float z tz]) Q E s := by
  k_with_none
  w_top off
  k_with "call builtin:max" => (k_here; (with_reducible show wpAny _ _ (call _ [Value.float _ _, Value.float _ _, Value.float _ _]) _ _ _); (rename News _ _ _ _ => N9q); (rename Fr _ _ _ _ => F9q); k_dflt (refine max_three_f rfl F9q N9q ?_); intro h9q tk9q t9q F9q N9q; (try dsimp only))
  k_with "call builtin:min" => (k_here; (with_reducible show wpAny _ _ (call _ [Value.float _ _, Value.float _ _, Value.float _ _]) _ _ _); (rename News _ _ _ _ => N9q); (rename Fr _ _ _ _ => F9q); k_dflt (refine min_three_f rfl F9q N9q ?_); intro h9q tk9q t9q F9q N9q; (try dsimp only))
  k_with "call ref" => (k_here; (with_reducible show wpAny _ _ (call (Value.ref 207) _) _ _ _); k_dflt (refine' room ?d1 ?d2 (spec_v _ _ _ _ _ _ ?k1 ?k2 ?k3 ?k4 ?k5 ?k6 ?_); (case d1 => exact Nat.le_of_ble_eq_true rfl); (case d2 => exact Nat.le_of_ble_eq_true rfl); (case k1 => k_asm); (case k2 => k_asm); (case k3 => k_asm); (case k4 => k_asm); (case k5 => k_asm); (case k6 => first | exact rfl | assumption)); intro t9q h9q tk9q F9q N9q; (try dsimp only); (try k_fold))
  revert X; k_fill; intro X
  refine wpAny_call ?_
  k_dflt cell_enter
  k_steps
  all_goals try (simp only [hlsRgbF, *, if_true, if_false, Bool.false_eq_true, Option.some.injEq, Prod.mk.injEq, reduceCtorEq] at hf; obtain ⟨rfl, rfl, rfl⟩ := hf; exact ret _ _ _ _ _ _ (by assumption) (by assumption) (by assumption))
  all_goals (exfalso; simp only [hlsRgbF, *, if_true, if_false, Bool.false_eq_true, Option.some.injEq, Prod.mk.injEq, reduceCtorEq] at hf; first | done | (split at hf <;> simp at hf; done))
theorem spec_rgb_to_hls {w mean mg mb loose gd cn cs a ccd cl outer A₀ base h₀ L m news s Q E} (x y z : UInt64) (tx ty tz : Tok) (r1 r2 r3 : UInt64)
    (B : Below A₀ base outer h₀) (F : Fr h₀ L s.heap m) (X : (hd.heap_1 w.params).In h₀) (N : News h₀ L s.heap news) (T : Top hdView loose mean mg mb h₀) (hk : cs.kind = .function)
    (hf : rgbHlsF x y z = some (r1, r2, r3))
    (ret : ∀ D t1 t2 t3 h' tk', Fr h₀ L h' m → News h₀ L h' ((D, f3 r1 r2 r3 t1 t2 t3 0) :: news) → (∀ p ∈ news, p.1 < D) → Q (.ref D) { s with heap := h', toks := tk' }) :
    wpAny (model PySem.Challenge.rw_ty0056_01.prog w) (ktrTop 550 4500 gd cn cs L a ccd cl outer) (call (.ref 193) [.float x tx, .float y ty, .float z tz]) Q E s := by
  k_with_none
  w_top off
  k_with "call builtin:max" => (k_here; (with_reducible show wpAny _ _ (call _ [Value.float _ _, Value.float _ _, Value.float _ _]) _ _ _); (rename News _ _ _ _ => N9q); (rename Fr _ _ _ _ => F9q); k_dflt (refine max_three_f rfl F9q N9q ?_); intro h9q tk9q t9q F9q N9q; (try dsimp only))
  k_with "call builtin:min" => (k_here; (with_reducible show wpAny _ _ (call _ [Value.float _ _, Value.float _ _, Value.float _ _]) _ _ _); (rename News _ _ _ _ => N9q); (rename Fr _ _ _ _ => F9q); k_dflt (refine min_three_f rfl F9q N9q ?_); intro h9q tk9q t9q F9q N9q; (try dsimp only))
  k_with "call ref" => (k_here; (with_reducible show wpAny _ _ (call (Value.ref 207) _) _ _ _); k_dflt (refine' room ?d1 ?d2 (spec_v _ _ _ _ _ _ ?k1 ?k2 ?k3 ?k4 ?k5 ?k6 ?_); (case d1 => exact Nat.le_of_ble_eq_true rfl); (case d2 => exact Nat.le_of_ble_eq_true rfl); (case k1 => k_asm); (case k2 => k_asm); (case k3 => k_asm); (case k4 => k_asm); (case k5 => k_asm); (case k6 => first | exact rfl | assumption)); intro t9q h9q tk9q F9q N9q; (try dsimp only); (try k_fold))
  revert X; k_fill; intro X
  refine wpAny_call ?_
  k_dflt cell_enter
  k_steps
  all_goals try (simp only [rgbHlsF, hueOf, *, if_true, if_false, Bool.false_eq_true, Option.some.injEq, Prod.mk.injEq, reduceCtorEq] at hf; obtain ⟨rfl, rfl, rfl⟩ := hf; exact ret _ _ _ _ _ _ (by assumption) (by assumption) (by assumption))
  all_goals (exfalso; simp only [rgbHlsF, hueOf, *, if_true, if_false, Bool.false_eq_true, Option.some.injEq, Prod.mk.injEq, reduceCtorEq] at hf; first | done | (split at hf <;> simp at hf; done))
theorem spec_rgb_to_hsv {w mean mg mb loose gd cn cs a ccd cl outer A₀ base h₀ L m news s Q E} (x y z : UInt64) (tx ty tz : Tok) (r1 r2 r3 : UInt64)
    (B : Below A₀ base outer h₀) (F : Fr h₀ L s.heap m) (X : (hd.heap_1 w.params).In h₀) (N : News h₀ L s.heap news) (T : Top hdView loose mean mg mb h₀) (hk : cs.kind = .function)
    (hf : rgbHsvF x y z = some (r1, r2, r3))
    (ret : ∀ D t1 t2 t3 h' tk', Fr h₀ L h' m → News h₀ L h' ((D, f3 r1 r2 r3 t1 t2 t3 0) :: news) → (∀ p ∈ news, p.1 < D) → Q (.ref D) { s with heap := h', toks := tk' }) :
    wpAny (model PySem.Challenge.rw_ty0056_01.prog w) (ktrTop 550 4500 gd cn cs L a ccd cl outer) (call (.ref 214) [.float x tx, .float y ty, .float z tz]) Q E s := by
  k_with_none
  w_top off
  k_with "call builtin:max" => (k_here; (with_reducible show wpAny _ _ (call _ [Value.float _ _, Value.float _ _, Value.float _ _]) _ _ _); (rename News _ _ _ _ => N9q); (rename Fr _ _ _ _ => F9q); k_dflt (refine max_three_f rfl F9q N9q ?_); intro h9q tk9q t9q F9q N9q; (try dsimp only))
  k_with "call builtin:min" => (k_here; (with_reducible show wpAny _ _ (call _ [Value.float _ _, Value.float _ _, Value.float _ _]) _ _ _); (rename News _ _ _ _ => N9q); (rename Fr _ _ _ _ => F9q); k_dflt (refine min_three_f rfl F9q N9q ?_); intro h9q tk9q t9q F9q N9q; (try dsimp only))
  k_with "call ref" => (k_here; (with_reducible show wpAny _ _ (call (Value.ref 207) _) _ _ _); k_dflt (refine' room ?d1 ?d2 (spec_v _ _ _ _ _ _ ?k1 ?k2 ?k3 ?k4 ?k5 ?k6 ?_); (case d1 => exact Nat.le_of_ble_eq_true rfl); (case d2 => exact Nat.le_of_ble_eq_true rfl); (case k1 => k_asm); (case k2 => k_asm); (case k3 => k_asm); (case k4 => k_asm); (case k5 => k_asm); (case k6 => first | exact rfl | assumption)); intro t9q h9q tk9q F9q N9q; (try dsimp only); (try k_fold))
  revert X; k_fill; intro X
  refine wpAny_call ?_
  k_dflt cell_enter
  k_steps
  all_goals try (simp only [rgbHsvF, hueOf, *, if_true, if_false, Bool.false_eq_true, Option.some.injEq, Prod.mk.injEq, reduceCtorEq] at hf; obtain ⟨rfl, rfl, rfl⟩ := hf; exact ret _ _ _ _ _ _ (by assumption) (by assumption) (by assumption))
  all_goals (exfalso; simp only [rgbHsvF, hueOf, *, if_true, if_false, Bool.false_eq_true, Option.some.injEq, Prod.mk.injEq, reduceCtorEq] at hf; first | done | (split at hf <;> simp at hf; done))
end Mine
end
section
open PySem PySem.W PyProof.Rows PySem.Calls
set_option maxRecDepth 100000
set_option linter.unusedSimpArgs false
set_option maxHeartbeats 4000000
namespace Mine
theorem spec_hsv_to_rgb {w mean mg mb loose gd cn cs a ccd cl outer A₀ base h₀ L m news s Q E} (x y z : UInt64) (tx ty tz : Tok) (r1 r2 r3 : UInt64)
    (B : Below A₀ base outer h₀) (F : Fr h₀ L s.heap m) (X : (hd.heap_1 w.params).In h₀) (N : News h₀ L s.heap news) (T : Top hdView loose mean mg mb h₀) (hk : cs.kind = .function)
    (hok : hsvOk x = true) (hf : hsvRgbF x y z = (r1, r2, r3))
    (ret : ∀ D t1 t2 t3 h' tk', Fr h₀ L h' m → News h₀ L h' ((D, f3 r1 r2 r3 t1 t2 t3 0) :: news) → (∀ p ∈ news, p.1 < D) → Q (.ref D) { s with heap := h', toks := tk' }) :
    wpAny (model PySem.Challenge.rw_ty0056_01.prog w) (ktrTop 550 4500 gd cn cs L a ccd cl outer) (call (.ref 221) [.float x tx, .float y ty, .float z tz]) Q E s := by
  k_with_none
  w_top off
  revert X; k_fill; intro X
  unfold hsvOk at hok
  rw [Bool.and_eq_true, Bool.and_eq_true, Bool.not_eq_true', Bool.not_eq_true', decide_eq_true_eq] at hok
  obtain ⟨⟨hnan, hinf⟩, hsm⟩ := hok
  refine wpAny_call ?_
  k_dflt cell_enter
  k_steps
  all_goals try (exfalso; first | exact big_no (by assumption) (by assumption) | (simp only [*, Bool.false_eq_true] at *; done) | exact fmod6 _ (by assumption) (by assumption) (by assumption) (by assumption) (by assumption) (by assumption))
  all_goals (simp only [hsvRgbF, *, if_true, if_false, Bool.false_eq_true, Prod.mk.injEq, reduceCtorEq, ne_eq, Int.reduceEq] at hf; obtain ⟨rfl, rfl, rfl⟩ := hf; exact ret _ _ _ _ _ _ (by assumption) (by assumption) (by assumption))
end Mine
end
section
open PySem PySem.W PyProof.Rows PySem.Calls
set_option maxRecDepth 100000
set_option maxHeartbeats 4000000
namespace Mine
theorem spec_conv {w mean mg mb loose gd cn cs a ccd cl outer A₀ base h₀ L m news s Q E} (x : Addr) (y : Str) (ty : Tok) (b : Bool)
    (B : Below A₀ base outer h₀) (F : Fr h₀ L s.heap m) (X : (hd.heap_1 w.params).In h₀) (N : News h₀ L s.heap news) (T : Top hdView loose mean mg mb h₀) (hk : cs.kind = .function)
    (hy : y.length ≤ 1000) (hok : OkT y)
    (ret : ∀ h' tk', Fr h₀ L h' m → News h₀ L h' news → Q (.str y ty) { s with heap := h', toks := tk' }) :
    wpAny (model PySem.Challenge.rw_ty0056_01.prog w) (ktrTop 450 3500 gd cn cs L a ccd cl outer) (call (.ref 83) [.ref x, .str y ty] [(Str.ofString "name", .bool b)]) Q E s := by
  k_with_none
  w_top off
  k_with "getMethod ref" => (k_here; (with_reducible show wpAny _ _ (getMethod (Value.ref _) (Str.ofString "search") _) _ _ _); k_dflt (refine' getMethod_search ?gh ?gc ?gd ?_; (case gh => exact (Frag.In.keeps (by k_asm) (Fr.keep (by k_asm))) _ _ (by k_is)); (case gc => exact rfl); (case gd => exact rfl)))
  k_with "call builtin:re.Pattern.search" => (k_here; k_dflt (refine' call_search (code := nameCode) ?g1 ?g2 ?g3 ?g4 ?g5 ?g6 ?g7 ?g8 ?g9 name_shuts name_two name_info ?g13 ?g14 ?_; (case g1 => exact (Frag.In.keeps (by k_asm) (Fr.keep (by k_asm))) _ _ (by k_is)); (case g2 => exact rfl); (case g3 => exact rfl); (case g4 => exact rfl); (case g5 => exact rfl); (case g6 => exact rfl); (case g7 => exact (Frag.In.keeps (by k_asm) (Fr.keep (by k_asm))) _ _ (by k_is)); (case g8 => exact rfl); (case g9 => decide +kernel); (case g13 => assumption); (case g14 => assumption)))
  k_with "call builtin:re.Pattern.search" => (k_here; k_dflt (refine' call_search (code := valCode) ?g1 ?g2 ?g3 ?g4 ?g5 ?g6 ?g7 ?g8 ?g9 val_shuts val_two val_info ?g13 ?g14 ?_; (case g1 => exact (Frag.In.keeps (by k_asm) (Fr.keep (by k_asm))) _ _ (by k_is)); (case g2 => exact rfl); (case g3 => exact rfl); (case g4 => exact rfl); (case g5 => exact rfl); (case g6 => exact rfl); (case g7 => exact (Frag.In.keeps (by k_asm) (Fr.keep (by k_asm))) _ _ (by k_is)); (case g8 => exact rfl); (case g9 => decide +kernel); (case g13 => assumption); (case g14 => assumption)))
  revert X; k_fill; intro X
  rcases cs with ⟨ck, c2, c3, c4, c5⟩
  obtain rfl : ck = .function := hk
  refine wpAny_call ?_
  k_dflt k_enter
  k_steps
  all_goals exact ret _ _ (by assumption) (by assumption)
end Mine
end
section
open PySem PySem.W PyProof.Rows PySem.Calls
set_option maxRecDepth 100000
set_option maxHeartbeats 4000000
namespace Mine
noncomputable abbrev hdDict (w : World) (hl : Addr) (t : Tok) (n : Nat) : Obj := dictOf [⟨PyData.keyHash w.params (Str.ofString "_headers"), .str (Str.ofString "_headers") t, .ref hl⟩] n
noncomputable def hdDat (r : List (Str × Str)) : List Dat := r.map fun p => .tuple [.str p.1, .str p.2]
theorem hd_get {news : List (Addr × Obj)} {us : List Value} {rows : List (Str × Str)} {i : Nat} {v : Value} (h : DatAll news us (hdDat rows)) (hv : us.toArray[i]? = some v) :
    ∃ hi : i < rows.length, ∃ a t u n, v = .ref a ∧ (a, ({ cls := .type "tuple", data := .seq #[.str rows[i].1 t, .str rows[i].2 u] n } : Obj)) ∈ news := by
  have hl : us.length = rows.length := by rw [h.length]; simp [hdDat]
  have hi : i < us.length := by
    rcases Nat.lt_or_ge i us.length with q | q
    · exact q
    · simp [q] at hv
  have hi' : i < (hdDat rows).length := by simpa [hdDat, ← hl] using hi
  obtain ⟨v', hv', hD⟩ := h.get hi'
  have : v' = v := by
    have e : us[i]? = some v := by simpa using hv
    rw [e] at hv'; exact (Option.some.inj hv').symm
  subst this
  have e2 : (hdDat rows)[i]'hi' = .tuple [.str (rows[i]'(hl ▸ hi)).1, .str (rows[i]'(hl ▸ hi)).2] := by simp [hdDat]
  rw [e2] at hD
  obtain ⟨T, x, y, n, e, hm, h1, h2⟩ := datTwo hD
  obtain ⟨t, rfl⟩ := datStr h1
  obtain ⟨u, rfl⟩ := datStr h2
  exact ⟨hl ▸ hi, T, t, u, n, e, hm⟩
theorem fil_yes {α β : Type} {l : List α} {p : α → Bool} {f : α → β} {i : Nat} (hi : i < l.length) (h : p l[i] = true) : ((l.take (i + 1)).filter p).map f = ((l.take i).filter p).map f ++ [f l[i]] := by
  rw [List.take_succ_eq_append_getElem hi, List.filter_append, List.map_append, List.filter_cons_of_pos h]; rfl
theorem fil_no {α β : Type} {l : List α} {p : α → Bool} {f : α → β} {i : Nat} (hi : i < l.length) (h : p l[i] = false) : ((l.take (i + 1)).filter p).map f = ((l.take i).filter p).map f := by
  rw [List.take_succ_eq_append_getElem hi, List.filter_append, List.map_append, List.filter_cons_of_neg (by rw [h]; exact Bool.false_ne_true)]; simp
/-- what get_all tells -/
noncomputable def getAll (rows : List (Str × Str)) (y : Str) : List Str := (rows.filter fun p => Txt.lower p.1 == Txt.lower y).map (·.2)
theorem spec_get_all {w mean mg mb loose gd cn cs a ccd cl outer A₀ base h₀ L m news s Q E} (x dx hl : Addr) (td : Tok) (nd c : Nat) (us : List Value) (rows : List (Str × Str)) (y : Str) (ty : Tok)
    (B : Below A₀ base outer h₀) (F : Fr h₀ L s.heap m) (X : (hd.heap_1 w.params).In h₀) (N : News h₀ L s.heap ((x, instObj 182 dx) :: (dx, hdDict w hl td nd) :: (hl, listOf us.toArray c) :: news)) (T : Top hdView loose mean mg mb h₀) (hk : cs.kind = .function)
    (hu : DatAll news us (hdDat rows)) (hy : y.length ≤ 300) (hok : OkT (Txt.lower y)) (hrow : ∀ p ∈ rows, p.1.length ≤ 300) (hlen : rows.length ≤ 1000)
    (ret : ∀ D ys h' tk', Fr h₀ L h' m → News h₀ L h' ((D, listOf ys.toArray ys.length) :: (x, instObj 182 dx) :: (dx, hdDict w hl td nd) :: (hl, listOf us.toArray c) :: news) → (∀ p ∈ (x, instObj 182 dx) :: (dx, hdDict w hl td nd) :: (hl, listOf us.toArray c) :: news, p.1 ≠ D) → DatAll [] ys ((getAll rows y).map Dat.str) → Q (.ref D) { s with heap := h', toks := tk' }) :
    wpAny (model PySem.Challenge.rw_ty0056_01.prog w) (ktrTop 400 3000 gd cn cs L a ccd cl outer) (call (.ref 121) [.ref x, .str y ty]) Q E s := by
  k_with_none
  w_top off
  k_with "k_all" => (refine' allLt_ne ?ah ?ad; (case ah => first | assumption | exact And.right (by assumption) | exact And.right (And.right (by assumption)) | exact And.right (And.right (And.right (by assumption))) | exact And.right (And.right (And.right (And.right (by assumption)))) | exact And.right (And.right (And.right (And.right (And.right (by assumption))))) | exact And.right (And.right (And.right (And.right (And.right (And.right (by assumption))))))); (case ad => first | exact Nat.le_refl _ | omega))
  k_with "k_all" => assumption
  k_with "k_mem" => assumption
  k_with "call ref" => (k_here; (with_reducible show wpAny _ _ (call (Value.ref 83) _ _) _ _ _); k_dflt (refine' room ?d1 ?d2 (spec_conv _ _ _ _ ?k1 ?k2 ?k3 ?k4 ?k5 ?k6 ?k7 ?k8 ?_); (case d1 => exact Nat.le_of_ble_eq_true rfl); (case d2 => exact Nat.le_of_ble_eq_true rfl); (case k1 => k_asm); (case k2 => k_asm); (case k3 => k_asm); (case k4 => k_asm); (case k5 => k_asm); (case k6 => first | exact rfl | assumption); (case k7 => omega); (case k8 => assumption)); intro h9q tk9q F9q N9q; (try dsimp only); (try k_fold))
  k_with "eval ListComp" => (k_here; k_dflt (refine LCt.ListComp_T (F₀ := by k_asm) (by with_unfolding_all rfl) (by decide) (by rfl) (by decide) (by rfl) ?_))
  revert X; k_fill; intro X
  rcases cs with ⟨ck, c2, c3, c4, c5⟩
  obtain rfl : ck = .function := hk
  have hul : us.length = rows.length := by rw [hu.length]; simp [hdDat]
  refine wpAny_call ?_
  k_dflt k_enter
  k_steps
  refine' LCt.CompSrcT.ledger (by rfl) (by k_asm) (by k_asm) (by k_mem) ?hsz (fun g => comp_ind_T rows.length (fun i ys nw => nw = _ ∧ DatAll [] ys (((rows.take i).filter fun p => Txt.lower p.1 == Txt.lower y).map fun p => Dat.str p.2)) ?turn ?fin _ 0 [] _ ?e ⟨rfl, ?z⟩)
  case hsz => rw [List.size_toArray, sizeLine_eq]; omega
  case e => rw [List.size_toArray]; omega
  case z => exact .nil
  case fin =>
    rintro ys nw ⟨rfl, hys⟩ D h9 tk9 F9 N9 off9
    rw [List.take_length] at hys
    (try dsimp only)
    k_steps
    refine ret D ys _ _ (by assumption) (news_sub (by assumption) fun p hp => ?_) (fun p hp => off1_ne off9 p (List.mem_cons_of_mem _ hp)) ?_
    · rcases List.mem_cons.mp hp with rfl | hp
      · exact List.mem_cons_self
      · exact List.mem_cons_of_mem _ (List.mem_cons_of_mem _ hp)
    · unfold getAll; rw [List.map_map]; exact hys
  case turn =>
    intro i ys nw v I oI C oC D m₂ h tk E' hi hJ hP hN hm F N off hne
    obtain ⟨hnw, hys⟩ := hJ
    subst hnw
    obtain ⟨hi2, a9, t9, u9, n9, rfl, hmem⟩ := hd_get hu hP
    have hrl := hrow _ (List.getElem_mem hi2)
    k_steps
    · refine LCg.CompEnd.intro (by assumption) (by assumption) _ (fun p hp => hp) off (.inr ⟨_, by k_mem, rfl, _, rfl⟩) ⟨rfl, ?_⟩
      rw [fil_yes hi2 (by assumption)]
      exact hys.append (.one (.str _ _))
    · refine LCg.CompEnd.intro (by assumption) (by assumption) _ (fun p hp => hp) off (.inr ⟨_, by k_mem, rfl, _, rfl⟩) ⟨rfl, ?_⟩
      rw [fil_no hi2 (by assumption)]
      exact hys
end Mine
end
section
open PySem PySem.W PyProof.Rows PySem.Calls
set_option maxRecDepth 100000
set_option maxHeartbeats 4000000
namespace Mine
theorem map_two (m : Str → Option Value) (a b : Str) : m = fun z => if z = b then m b else if z = a then m a else m z := by
  funext z
  by_cases h : z = b
  · subst h; simp
  · by_cases h2 : z = a
    · subst h2; simp [h]
    · simp [h, h2]
/-- what get tells -/
noncomputable def getFirst (rows : List (Str × Str)) (y : Str) : Option Str := (rows.find? fun p => Txt.lower p.1 == Txt.lower y).map (·.2)
theorem first_at {y : Str} : ∀ {rows : List (Str × Str)} {i : Nat} (hi : i < rows.length), (∀ p ∈ rows.take i, (Txt.lower p.1 == Txt.lower y) = false) → (Txt.lower rows[i].1 == Txt.lower y) = true → getFirst rows y = some rows[i].2
  | p :: r, 0, hi, hn, hy => by
    unfold getFirst
    rw [List.find?_cons_of_pos (by exact hy)]; rfl
  | p :: r, i + 1, hi, hn, hy => by
    have h1 := hn p (by simp)
    have ih := first_at (rows := r) (i := i) (Nat.lt_of_succ_lt_succ hi) (fun q hq => hn q (by simp [hq])) hy
    unfold getFirst at ih ⊢
    rw [List.find?_cons_of_neg (by rw [h1]; exact Bool.false_ne_true)]
    exact ih
theorem first_none {y : Str} {rows : List (Str × Str)} (hn : ∀ p ∈ rows, (Txt.lower p.1 == Txt.lower y) = false) : getFirst rows y = none := by
  unfold getFirst
  rw [List.find?_eq_none.mpr fun p hp => by rw [hn p hp]; exact Bool.false_ne_true]; rfl
noncomputable def TwoJ (LED : List (Addr × Obj)) (m0 : Str → Option Value) (a b : Str) (P : Nat → Prop) (i : Nat) (m₁ : Str → Option Value) (nw : List (Addr × Obj)) : Prop :=
  nw = LED ∧ (∃ u1 u2, m₁ = fun z => if z = b then u1 else if z = a then u2 else m0 z) ∧ P i
theorem two_same {m0 m' : Str → Option Value} {a b : Str} (h : ∀ z, z ≠ b → z ≠ a → m' z = m0 z) : ∃ u1 u2, m' = fun z => if z = b then u1 else if z = a then u2 else m0 z := by
  refine ⟨m' b, m' a, ?_⟩
  funext z
  by_cases h1 : z = b
  · subst h1; simp
  · by_cases h2 : z = a
    · subst h2; simp [h1]
    · simp [h1, h2, h z h1 h2]
theorem spec_get {w mean mg mb loose gd cn cs a ccd cl outer A₀ base h₀ L m news s Q E} (x dx hl : Addr) (td : Tok) (nd c : Nat) (us : List Value) (rows : List (Str × Str)) (y : Str) (ty : Tok) (res : Str)
    (B : Below A₀ base outer h₀) (F : Fr h₀ L s.heap m) (X : (hd.heap_1 w.params).In h₀) (N : News h₀ L s.heap ((x, instObj 182 dx) :: (dx, hdDict w hl td nd) :: (hl, listOf us.toArray c) :: news)) (T : Top hdView loose mean mg mb h₀) (hk : cs.kind = .function)
    (hu : DatAll news us (hdDat rows)) (hy : y.length ≤ 300) (hok : OkT (Txt.lower y)) (hrow : ∀ p ∈ rows, p.1.length ≤ 300) (hres : getFirst rows y = some res)
    (ret : ∀ t h' tk', Fr h₀ L h' m → News h₀ L h' ((x, instObj 182 dx) :: (dx, hdDict w hl td nd) :: (hl, listOf us.toArray c) :: news) → Q (.str res t) { s with heap := h', toks := tk' }) :
    wpAny (model PySem.Challenge.rw_ty0056_01.prog w) (ktrTop 400 3000 gd cn cs L a ccd cl outer) (call (.ref 129) [.ref x, .str y ty]) Q E s := by
  k_with_none
  w_top off
  k_with "k_all" => (refine' allLt_ne ?ah ?ad; (case ah => first | assumption | exact And.right (by assumption) | exact And.right (And.right (by assumption)) | exact And.right (And.right (And.right (by assumption))) | exact And.right (And.right (And.right (And.right (by assumption)))) | exact And.right (And.right (And.right (And.right (And.right (by assumption))))) | exact And.right (And.right (And.right (And.right (And.right (And.right (by assumption))))))); (case ad => first | exact Nat.le_refl _ | omega))
  k_with "k_all" => assumption
  k_with "k_mem" => assumption
  k_with "call ref" => (k_here; (with_reducible show wpAny _ _ (call (Value.ref 83) _ _) _ _ _); k_dflt (refine' room ?d1 ?d2 (spec_conv _ _ _ _ ?k1 ?k2 ?k3 ?k4 ?k5 ?k6 ?k7 ?k8 ?_); (case d1 => exact Nat.le_of_ble_eq_true rfl); (case d2 => exact Nat.le_of_ble_eq_true rfl); (case k1 => k_asm); (case k2 => k_asm); (case k3 => k_asm); (case k4 => k_asm); (case k5 => k_asm); (case k6 => first | exact rfl | assumption); (case k7 => omega); (case k8 => assumption)); intro h9q tk9q F9q N9q; (try dsimp only); (try k_fold))
  k_with "exec For Tuple" => (k_here; k_dflt (refine wpAny_For ?_ (by intro _; rfl)))
  revert X; k_fill; intro X
  rcases cs with ⟨ck, c2, c3, c4, c5⟩
  obtain rfl : ck = .function := hk
  have hul : us.length = rows.length := by rw [hu.length]; simp [hdDat]
  refine wpAny_call ?_
  k_dflt k_enter
  k_steps
  refine' for_list (items := us) (TwoJ _ _ (Str.ofString "k") (Str.ofString "v") fun i => ∀ p ∈ rows.take i, (Txt.lower p.1 == Txt.lower y) = false) (by rfl) (by assumption) (by assumption) ⟨rfl, ⟨_, _, map_two _ _ _⟩, fun p hp => by simp at hp⟩ ?hS ?go ?hE ?turn ?done
  case hS => rintro i m₁ nw ⟨rfl, _⟩; exact .inr ⟨_, by k_mem, rfl, _, rfl⟩
  case go =>
    intro v hv
    obtain ⟨i, hi, rfl⟩ := List.mem_iff_getElem.mp hv
    obtain ⟨_, a9, _, _, _, e, _⟩ := hd_get (i := i) hu (v := us[i]) (by simp [hi])
    exact .inr ⟨⟨a9, e⟩, _, _, _, rfl⟩
  case hE => passes_own
  case done =>
    rintro m₁ nw h tk ⟨rfl, _, hno⟩ F9 N9
    rw [hul, List.take_length] at hno
    rw [first_none hno] at hres; cases hres
  case turn =>
    rintro i v m₁ nw I oI h tk hv ⟨rfl, ⟨u1, u2, rfl⟩, hno⟩ F9 N9 off9
    obtain ⟨hi2, a9, t9, u9, n9, rfl, hmem⟩ := hd_get hu (by simpa using hv)
    have hrl := hrow _ (List.getElem_mem hi2)
    refine assign_two (by rfl) F9 N9 (by k_mem) (by rfl) (by rfl) (by rfl) fun h8 tk8 F8 N8 => ?_
    (try dsimp only)
    k_steps
    · dsimp only [ForPost]
      k_steps
      have e := first_at hi2 hno (by assumption)
      rw [hres] at e
      obtain rfl := Option.some.inj e
      exact ret _ _ _ (by assumption) (news_sub (by assumption) fun p hp => List.mem_cons_of_mem _ hp)
    · refine ForPost.intro _ (by assumption) (by assumption) (fun p hp => hp) off9 ⟨rfl, two_same ?_, ?_⟩
      · intro z h1 h2; simp [h1, h2]
      · intro p hp
        rw [List.take_succ_eq_append_getElem hi2] at hp
        rcases List.mem_append.mp hp with q | q
        · exact hno p q
        · rw [List.mem_singleton.mp q]; assumption
end Mine
end
section
open PySem PySem.W PyProof.Rows PySem.Calls
set_option maxRecDepth 100000
set_option maxHeartbeats 4000000
namespace Mine
theorem news_pick {h₀ h : Heap} {L : Addr} {p q1 q2 q3 a b c : Addr × Obj} {r : List (Addr × Obj)} (N : News h₀ L h (p :: q1 :: q2 :: q3 :: a :: b :: c :: r)) : News h₀ L h (a :: b :: c :: p :: r) := news_sub N fun q hq => by
  simp only [List.mem_cons] at hq ⊢
  rcases hq with h | h | h | h | h <;> simp [h]
theorem spec_add {w mean mg mb loose gd cn cs a ccd cl outer A₀ base h₀ L m news nn s Q E} (x dx hl : Addr) (td : Tok) (nd c : Nat) (us : List Value) (rows : List (Str × Str)) (y : Str) (ty : Tok) (v : Str) (tv : Tok)
    (B : Below A₀ base outer h₀) (F : Fr h₀ L s.heap m) (X : (hd.heap_1 w.params).In h₀) (N : News h₀ L s.heap ((x, instObj 182 dx) :: (dx, hdDict w hl td nd) :: (hl, listOf us.toArray c) :: news)) (T : Top hdView loose mean mg mb h₀) (hk : cs.kind = .function)
    (hu : DatAll nn us (hdDat rows)) (hy : y.length ≤ 300) (hok' : OkT y) (hv : OkT v) (hvl : v.length ≤ 1000) (hlen : rows.length ≤ 1000) (hnx : x ≠ hl) (hnd : dx ≠ hl) (hnn : ∀ p ∈ news, p.1 ≠ hl)
    (ret : ∀ ys c' t o h' tk', Fr h₀ L h' m → News h₀ L h' ((x, instObj 182 dx) :: (dx, hdDict w hl td nd) :: (hl, listOf ys.toArray c') :: (t, o) :: news) → (x ≠ t ∧ dx ≠ t ∧ hl ≠ t ∧ ∀ p ∈ news, p.1 ≠ t) → DatAll ((t, o) :: nn) ys (hdDat (rows ++ [(y, v)])) → Q .none { s with heap := h', toks := tk' }) :
    wpAny (model PySem.Challenge.rw_ty0056_01.prog w) (ktrTop 350 2500 gd cn cs L a ccd cl outer) (call (.ref 179) [.ref x, .str y ty, .str v tv]) Q E s := by
  k_with_none
  w_top off
  k_with "k_all" => (refine' allLt_ne ?ah ?ad; (case ah => first | assumption | exact And.right (by assumption) | exact And.right (And.right (by assumption)) | exact And.right (And.right (And.right (by assumption))) | exact And.right (And.right (And.right (And.right (by assumption)))) | exact And.right (And.right (And.right (And.right (And.right (by assumption))))) | exact And.right (And.right (And.right (And.right (And.right (And.right (by assumption))))))); (case ad => first | exact Nat.le_refl _ | omega))
  k_with "k_all" => assumption
  k_with "k_mem" => assumption
  k_with "call ref" => (k_here; (with_reducible show wpAny _ _ (call (Value.ref 83) _ _) _ _ _); k_dflt (refine' room ?d1 ?d2 (spec_conv _ _ _ _ ?k1 ?k2 ?k3 ?k4 ?k5 ?k6 ?k7 ?k8 ?_); (case d1 => exact Nat.le_of_ble_eq_true rfl); (case d2 => exact Nat.le_of_ble_eq_true rfl); (case k1 => k_asm); (case k2 => k_asm); (case k3 => k_asm); (case k4 => k_asm); (case k5 => k_asm); (case k6 => first | exact rfl | assumption); (case k7 => omega); (case k8 => assumption)); intro h9q tk9q F9q N9q; (try dsimp only); (try k_fold))
  k_with "eval ListComp" => (k_here; k_dflt (refine LCt.ListComp_T (F₀ := by k_asm) (by with_unfolding_all rfl) (by decide) (by rfl) (by decide) (by rfl) ?_))
  revert X; k_fill; intro X
  rcases cs with ⟨ck, c2, c3, c4, c5⟩
  obtain rfl : ck = .function := hk
  have hul : us.length = rows.length := by rw [hu.length]; simp [hdDat]
  refine wpAny_call ?_
  k_dflt k_enter
  k_steps
  have N5 := news_pick (by assumption)
  refine' append_K ?q1 N5 ?q3 ?_ ?q4
  case q1 => k_asm
  case q3 => exact .tail hnx (.tail hnd (.head (List.forall_mem_cons.mpr ⟨Nat.ne_of_gt (by omega), hnn⟩)))
  case q4 => rw [List.size_toArray, sizeLine_eq]; omega
  intro h6 F6 N6
  (try dsimp only at N6)
  rw [List.push_toArray] at N6
  (try dsimp only)
  k_steps
  have hl7 := (by assumption : _ ∧ _ ∧ _ ∧ _ ∧ _ ∧ _ ∧ AllLt _ news)
  refine ret _ _ _ _ _ _ (by assumption) (by assumption) ⟨Nat.ne_of_lt hl7.2.2.2.1, Nat.ne_of_lt hl7.2.2.2.2.1, Nat.ne_of_lt hl7.2.2.2.2.2.1, fun p hp => Nat.ne_of_lt (allLt_mem hl7.2.2.2.2.2.2 p hp)⟩ ?_
  unfold hdDat
  rw [List.map_append]
  exact (DatAll.mono (fun p hp => List.mem_cons_of_mem _ hp) hu).append (.one (.tuple List.mem_cons_self (.cons (.str _ _) (.one (.str _ _)))))
/-- the same, wherever in the ledger the three stand -/
theorem spec_add_U {w mean mg mb loose gd cn cs a ccd cl outer A₀ base h₀ L m news nn s Q E} {g : Obj → List (Addr × Obj)} (x dx hl : Addr) (td : Tok) (nd c : Nat) (us : List Value) (rows : List (Str × Str)) (y : Str) (ty : Tok) (v : Str) (tv : Tok)
    (B : Below A₀ base outer h₀) (F : Fr h₀ L s.heap m) (X : (hd.heap_1 w.params).In h₀) (N : News h₀ L s.heap news) (T : Top hdView loose mean mg mb h₀) (hk : cs.kind = .function)
    (hx : (x, instObj 182 dx) ∈ news) (hdx : (dx, hdDict w hl td nd) ∈ news) (U : UpdF hl (listOf us.toArray c) news g)
    (hu : DatAll nn us (hdDat rows)) (hy : y.length ≤ 300) (hok' : OkT y) (hv : OkT v) (hvl : v.length ≤ 1000) (hlen : rows.length ≤ 1000) (hnx : x ≠ hl) (hnd : dx ≠ hl)
    (ret : ∀ ys c' t o h' tk', Fr h₀ L h' m → News h₀ L h' ((t, o) :: g (listOf ys.toArray c')) → t ≠ hl → (∀ p ∈ news, p.1 ≠ t) → DatAll ((t, o) :: nn) ys (hdDat (rows ++ [(y, v)])) → Q .none { s with heap := h', toks := tk' }) :
    wpAny (model PySem.Challenge.rw_ty0056_01.prog w) (ktrTop 350 2500 gd cn cs L a ccd cl outer) (call (.ref 179) [.ref x, .str y ty, .str v tv]) Q E s := by
  obtain ⟨pre, post, e, hg, ha, hb⟩ := U.split
  subst e
  refine spec_add (news := pre ++ post) x dx hl td nd c us rows y ty v tv B F X ?_ T hk hu hy hok' hv hvl hlen hnx hnd ?_ ?_
  · exact news_sub N fun q hq => by
      rcases List.mem_cons.mp hq with rfl | hq
      · exact hx
      rcases List.mem_cons.mp hq with rfl | hq
      · exact hdx
      rcases List.mem_cons.mp hq with rfl | hq
      · exact List.mem_append.mpr (.inr List.mem_cons_self)
      · rcases List.mem_append.mp hq with hq | hq
        · exact List.mem_append.mpr (.inl hq)
        · exact List.mem_append.mpr (.inr (List.mem_cons_of_mem _ hq))
  · intro p hp
    exact (List.mem_append.mp hp).elim (ha p) (hb p)
  · intro ys c' t o h' tk' F' N' hne hD
    refine ret ys c' t o h' tk' F' ?_ (Ne.symm hne.2.2.1) ?_ hD
    · rw [hg]
      exact news_sub N' fun q hq => by
        rcases List.mem_cons.mp hq with rfl | hq
        · exact List.mem_cons_of_mem _ (List.mem_cons_of_mem _ (List.mem_cons_of_mem _ List.mem_cons_self))
        rcases List.mem_append.mp hq with hq | hq
        · exact List.mem_cons_of_mem _ (List.mem_cons_of_mem _ (List.mem_cons_of_mem _ (List.mem_cons_of_mem _ (List.mem_append.mpr (.inl hq)))))
        rcases List.mem_cons.mp hq with rfl | hq
        · exact List.mem_cons_of_mem _ (List.mem_cons_of_mem _ List.mem_cons_self)
        · exact List.mem_cons_of_mem _ (List.mem_cons_of_mem _ (List.mem_cons_of_mem _ (List.mem_cons_of_mem _ (List.mem_append.mpr (.inr hq)))))
    · intro p hp
      rcases List.mem_append.mp hp with hp | hp
      · exact hne.2.2.2 p (List.mem_append.mpr (.inl hp))
      rcases List.mem_cons.mp hp with rfl | hp
      · exact hne.2.2.1
      · exact hne.2.2.2 p (List.mem_append.mpr (.inr hp))
end Mine
end
section
open PySem PySem.W PyProof.Rows PySem.Calls
set_option maxRecDepth 100000
set_option maxHeartbeats 4000000
namespace Mine
theorem cel_step {fs pre : List Int} {k x tot : Int} {j : Nat} (h : fs.length = 6 ∧ (∀ c ∈ fs, 0 ≤ c ∧ c ≤ 5 + 3840 * (pre.length : Int)) ∧ 0 ≤ tot ∧ tot ≤ 3840 * (pre.length : Int)) :
    (fs.set j (fs.getD j 0 + x.fmod 3840)).length = 6 ∧ (∀ c ∈ fs.set j (fs.getD j 0 + x.fmod 3840), 0 ≤ c ∧ c ≤ 5 + 3840 * ((pre ++ [k]).length : Int)) ∧ 0 ≤ tot + x.fmod 3840 ∧ tot + x.fmod 3840 ≤ 3840 * ((pre ++ [k]).length : Int) := by
  have e : ((pre ++ [k]).length : Int) = (pre.length : Int) + 1 := by simp
  have hx := fm_bd x (m := 3840) (by decide)
  rw [e]
  refine ⟨by rw [List.length_set]; exact h.1, fun c hc => ?_, by omega, by omega⟩
  rcases List.mem_or_eq_of_mem_set hc with q | rfl
  · have := h.2.1 c q; omega
  · have h4 : 0 ≤ fs.getD j 0 ∧ fs.getD j 0 ≤ 5 + 3840 * (pre.length : Int) := by
      by_cases q : j < fs.length
      · have e2 : fs.getD j 0 = fs[j] := by simp [List.getD, List.getElem?_eq_getElem q]
        rw [e2]; exact h.2.1 _ (List.getElem_mem q)
      · have e2 : fs.getD j 0 = 0 := by simp [List.getD, List.getElem?_eq_none (Nat.le_of_not_lt q)]
        rw [e2]; omega
    omega
theorem spec_cells1 {w mean mg mb loose gd cn cs a ccd cl outer A₀ base h₀ L m news s Q E} (sc : Addr) (vs : List Value) (ns : List Int)
    (B : Below A₀ base outer h₀) (F : Fr h₀ L s.heap m) (X : (hd.heap_1 w.params).In h₀) (N : News h₀ L s.heap news) (T : Top hdView loose mean mg mb h₀) (hk : cs.kind = .function)
    (hl : h₀.IsList sc vs.toArray) (hi : IntsAre vs ns) (hlen : ns.length ≤ 63)
    (ret : ∀ D l cz us n n2 tot tt h' tk', Fr h₀ L h' m → News h₀ L h' ((D, ({ cls := .type "tuple", data := .seq #[.ref l, .int tot tt] n2 } : Obj)) :: (l, listOf us.toArray n) :: news) → (∀ p ∈ news, @LT.lt Nat _ p.1 l) → @LT.lt Nat _ l D → IntsAre us cz → cz.length = 6 → (∀ c ∈ cz, 0 ≤ c ∧ c ≤ 300000) → 0 ≤ tot ∧ tot ≤ 300000 → Q (.ref D) { s with heap := h', toks := tk' }) :
    wpAny (model PySem.Challenge.rw_ty0056_01.prog w) (ktrTop 330 2000 gd cn cs L a ccd cl outer) (call (.ref 256) [.ref sc]) Q E s := by
  k_with_none
  w_top off
  k_with "k_all" => assumption
  k_with "k_mem" => assumption
  k_with "pyIter ref" => k_state (fun (pre : List Int) (cells : List Int) (total : Int) => cells.length = 6 ∧ (∀ c ∈ cells, 0 ≤ c ∧ c ≤ 5 + 3840 * (pre.length : Int)) ∧ 0 ≤ total ∧ total ≤ 3840 * (pre.length : Int)) "cells" "total"
  revert X; k_fill; intro X
  refine wpAny_call ?_
  k_dflt cell_enter
  rename Fr h₀ L _ m => FG
  have hl2 := hl.at fun o e => FG.keep sc o e
  clear hl
  k_with "state" => exact cel_step ⟨by assumption, by assumption, by assumption, by assumption⟩
  k_steps
  k_with_none
  have hR : ∀ (n : Nat), (rangeKs 0 n).length = n := fun n => by simp [rangeKs]
  have h5 := (by assumption : ∀ c ∈ _, 0 ≤ c ∧ c ≤ 5 + 3840 * (_ : Int))
  have h6 := (by assumption : _ ≤ 3840 * ((rangeKs 0 _).length : Int))
  have h7 := (by assumption : _ ∧ AllLt _ news)
  rw [hR] at h5 h6
  refine ret _ _ _ _ _ _ _ _ _ _ (by assumption) (by assumption) (by assumption) h7.1 (by assumption) (by assumption) (fun c hc => ?_) ⟨by assumption, ?_⟩
  · have := h5 c hc
    split at this <;> omega
  · split at h6 <;> omega
end Mine
end
section
open PySem PySem.W PyProof.Rows PySem.Calls
set_option maxRecDepth 100000
set_option maxHeartbeats 4000000
namespace Mine
theorem datall_head {news : List (Addr × Obj)} {v : Value} {vs : List Value} {d : Dat} {ds : List Dat} (h : DatAll news (v :: vs) (d :: ds)) : DatIn news v d := by cases h with | cons a b => exact a
theorem datall_tail {news : List (Addr × Obj)} {v : Value} {vs : List Value} {d : Dat} {ds : List Dat} (h : DatAll news (v :: vs) (d :: ds)) : DatAll news vs ds := by cases h with | cons a b => exact b
theorem dat_pair {news : List (Addr × Obj)} {v : Value} {i j : Int} (h : DatIn news v (pairDat (i, j))) : ∃ T t u n, v = .ref T ∧ (T, ({ cls := .type "tuple", data := .seq #[.int i t, .int j u] n } : Obj)) ∈ news := by
  obtain ⟨T, x, y, n, e, hm, h1, h2⟩ := datTwo h
  obtain ⟨t, rfl⟩ := datInt h1
  obtain ⟨u, rfl⟩ := datInt h2
  exact ⟨T, t, u, n, e, hm⟩
theorem in_pair {news : List (Addr × Obj)} {T : Addr} {i j : Int} {t u : Tok} {n : Nat} (h : (T, ({ cls := .type "tuple", data := .seq #[.int i t, .int j u] n } : Obj)) ∈ news) : DatIn news (.ref T) (pairDat (i, j)) :=
  .tuple (vs := [.int i t, .int j u]) h (.cons (.int _ _) (.cons (.int _ _) .nil))
theorem in_tri {news : List (Addr × Obj)} {T : Addr} {i k j : Int} {t u v : Tok} {n : Nat} (h : (T, ({ cls := .type "tuple", data := .seq #[.int i t, .int k v, .int j u] n } : Obj)) ∈ news) : DatIn news (.ref T) (triDat (i, k, j)) :=
  .tuple (vs := [.int i t, .int k v, .int j u]) h (.cons (.int _ _) (.cons (.int _ _) (.cons (.int _ _) .nil)))
theorem dat_snoc {α : Type} {f : α → Dat} {news : List (Addr × Obj)} {us : List Value} {r : List α} {v : Value} {p : α} (h : DatAll news us (r.map f)) (hv : DatIn news v (f p)) : DatAll news (us ++ [v]) ((r ++ [p]).map f) := by
  rw [List.map_append]
  exact h.append (.one hv)
/-- the state of the cutting in the ledger -/
noncomputable def TriJ (H R S : Addr) (oS : Obj) (LD : List (Addr × Obj)) (m0 : Str → Option Value) (cz : List Int) (last : Int) (i : Nat) (m₁ : Str → Option Value) (nw : List (Addr × Obj)) : Prop :=
  ∃ hs rs tl n1 n2 u1 u2 u3 u4, nw = (R, listOf rs.toArray n2) :: (H, listOf hs.toArray n1) :: (tl ++ (S, oS) :: LD) ∧ (∀ p ∈ tl, @LT.lt Nat _ S p.1) ∧ DatAll (tl ++ (S, oS) :: LD) hs ((triS last (cz.take i)).1.map pairDat) ∧ DatAll tl rs ((triS last (cz.take i)).2.map triDat) ∧
    m₁ = fun z => if z = Str.ofString "k" then u1 else if z = Str.ofString "j" then u2 else if z = Str.ofString "i" then u3 else if z = Str.ofString "x" then u4 else m0 z
theorem tri_start {h₀ h : Heap} {L S R H : Addr} {oS oR oH : Obj} {LD : List (Addr × Obj)} (N : News h₀ L h ((S, oS) :: (R, oR) :: (H, oH) :: LD)) : News h₀ L h ((R, oR) :: (H, oH) :: ([] ++ (S, oS) :: LD)) :=
  news_sub N fun p hp => by simp only [List.mem_cons, List.nil_append] at hp ⊢; rcases hp with h | h | h | h <;> simp [h]
theorem off_two {S D0 H I : Addr} {oS o0 : Obj} {tl news : List (Addr × Obj)} (_ : ∀ p ∈ tl ++ (S, oS) :: (D0, o0) :: news, p.1 ≠ I) (htl : ∀ p ∈ tl, @LT.lt Nat _ S p.1) (hHS : @LT.lt Nat _ H S) (hD : @LT.lt Nat _ D0 H) (hn : ∀ p ∈ news, @LT.lt Nat _ p.1 D0) : ∀ p ∈ tl ++ (S, oS) :: (D0, o0) :: news, p.1 ≠ H := by
  intro p hp
  rcases List.mem_append.mp hp with q | q
  · exact Nat.ne_of_gt (Nat.lt_trans hHS (htl p q))
  · rcases List.mem_cons.mp q with rfl | q
    · exact Nat.ne_of_gt hHS
    · rcases List.mem_cons.mp q with rfl | q
      · exact Nat.ne_of_lt hD
      · exact Nat.ne_of_lt (Nat.lt_trans (hn p q) hD)
theorem tri_ret {h₀ h : Heap} {L R H S D0 : Addr} {oS o0 oR oH : Obj} {tl news : List (Addr × Obj)} (N : News h₀ L h ((R, oR) :: (H, oH) :: (tl ++ (S, oS) :: (D0, o0) :: news))) : News h₀ L h ((R, oR) :: ((tl ++ [(S, oS), (D0, o0)]) ++ news)) :=
  news_sub N fun p hp => by
    rcases List.mem_cons.mp hp with rfl | hp
    · exact List.mem_cons_self
    · refine List.mem_cons_of_mem _ (List.mem_cons_of_mem _ ?_)
      rw [List.append_assoc] at hp
      exact hp
theorem tri_end {g h : Heap} {L I H R S D1 : Addr} {oI oS : Obj} {LD ex tl all : List (Addr × Obj)} {m0 m' : Str → Option Value} {cy : List Int} {last c pi pj : Int} {i : Nat} {r : List (Int × Int)} {s : Shared} {Q : Flow → Shared → Prop} {tk n1 n2 n8 : Nat} {hs rs es : List Value} {t8 v8 u8 : Tok} {u1 u2 u3 u4 : Option Value}
    (F : Fr g L h m') (N : News g L h all)
    (hsub : ∀ p ∈ (I, oI) :: (R, listOf (rs ++ [Value.ref D1]).toArray n2) :: (H, listOf (hs ++ es).toArray n1) :: ((ex ++ (D1, ({ cls := .type "tuple", data := .seq #[.int pi t8, .int (cutK (pi, pj) c) v8, .int pj u8] n8 } : Obj)) :: tl) ++ (S, oS) :: LD), p ∈ all)
    (hst : (triS last (cy.take i)).1 = (pi, pj) :: r) (hnx : triS last (cy.take (i + 1)) = triStep (triS last (cy.take i)) c)
    (hD1 : @LT.lt Nat _ I D1 ∧ AllLt D1 (tl ++ (S, oS) :: LD)) (hex : ∀ p ∈ ex, @LT.lt Nat _ I p.1 ∧ AllLt p.1 (tl ++ (S, oS) :: LD)) (htl : ∀ p ∈ tl, @LT.lt Nat _ S p.1)
    (hRI : @Ne Nat I R) (hHI : @Ne Nat I H) (hIA : ∀ p ∈ tl ++ (S, oS) :: LD, p.1 ≠ I)
    (hnew : DatAll ex es ((cutNew (pi, pj) (cutK (pi, pj) c)).map pairDat)) (hd1 : DatAll (tl ++ (S, oS) :: LD) hs (r.map pairDat)) (hd2 : DatAll tl rs ((triS last (cy.take i)).2.map triDat))
    (hm : m' = fun z => if z = Str.ofString "k" then u1 else if z = Str.ofString "j" then u2 else if z = Str.ofString "i" then u3 else if z = Str.ofString "x" then u4 else m0 z) :
    ForPost g L I oI (TriJ H R S oS LD m0 cy last (i + 1)) s Q .next { s with heap := h, toks := tk } := by
  have hS : ∀ {D : Addr}, AllLt D (tl ++ (S, oS) :: LD) → @LT.lt Nat _ S D := fun h => allLt_mem h _ (List.mem_append_right _ List.mem_cons_self)
  rcases hq : triS last (cy.take i) with ⟨hh, tt⟩
  rw [hq] at hst hnx hd2
  dsimp only at hst hd2
  subst hst
  have e2 : triS last (cy.take (i + 1)) = (r ++ cutNew (pi, pj) (cutK (pi, pj) c), tt ++ [(pi, cutK (pi, pj) c, pj)]) := hnx
  refine ForPost.intro _ F N hsub ?_ ⟨hs ++ es, rs ++ [.ref D1], ex ++ (D1, _) :: tl, n1, n2, u1, u2, u3, u4, rfl, ?_, ?_, ?_, hm⟩
  · intro p hp
    rcases List.mem_cons.mp hp with rfl | hp
    · exact Ne.symm hRI
    rcases List.mem_cons.mp hp with rfl | hp
    · exact Ne.symm hHI
    rw [List.append_assoc] at hp
    rcases List.mem_append.mp hp with hp | hp
    · exact Nat.ne_of_gt (hex p hp).1
    rcases List.mem_cons.mp hp with rfl | hp
    · exact Nat.ne_of_gt hD1.1
    exact hIA p hp
  · intro p hp
    rcases List.mem_append.mp hp with hp | hp
    · exact hS (hex p hp).2
    rcases List.mem_cons.mp hp with rfl | hp
    · exact hS hD1.2
    exact htl p hp
  · rw [e2]
    dsimp only
    rw [List.map_append]
    refine (hd1.mono fun p hp => ?_).append (hnew.mono fun p hp => ?_)
    · rw [List.append_assoc]
      exact List.mem_append_right _ (List.mem_cons_of_mem _ hp)
    · exact List.mem_append_left _ (List.mem_append_left _ hp)
  · rw [e2]
    exact dat_snoc (hd2.mono fun p hp => List.mem_append_right _ (List.mem_cons_of_mem _ hp)) (in_tri (List.mem_append_right _ List.mem_cons_self))
theorem perm0 {α : Type} {c i r h : α} {tl X : List α} : ∀ p ∈ i :: r :: h :: (([] ++ c :: tl) ++ X), p ∈ c :: i :: r :: h :: (tl ++ X) := by
  intro p hp
  simp only [List.mem_cons, List.mem_append, List.cons_append, List.nil_append] at hp ⊢
  rcases hp with h|h|h|h|h|h <;> simp [h]
theorem perm1 {α : Type} {a c i r h : α} {tl X : List α} : ∀ p ∈ i :: r :: h :: (([a] ++ c :: tl) ++ X), p ∈ a :: c :: i :: r :: h :: (tl ++ X) := by
  intro p hp
  simp only [List.mem_cons, List.mem_append, List.cons_append, List.nil_append] at hp ⊢
  rcases hp with h|h|h|h|h|h|h <;> simp [h]
theorem perm2 {α : Type} {a b c i r h : α} {tl X : List α} : ∀ p ∈ i :: r :: h :: (([a, b] ++ c :: tl) ++ X), p ∈ a :: b :: c :: i :: r :: h :: (tl ++ X) := by
  intro p hp
  simp only [List.mem_cons, List.mem_append, List.cons_append, List.nil_append] at hp ⊢
  rcases hp with h|h|h|h|h|h|h|h <;> simp [h]
theorem pop0 {prog : Program} {w : World} {A : Around} {E : Value → Shared → Prop} {s : Shared} {h₀ : Heap} {L D : Addr} {m : Str → Option Value} {news news' : List (Addr × Obj)} {y : Value} {q : List Value} {n : Nat} {u : Tok} {Q : Value → Shared → Prop}
    (F : Fr h₀ L s.heap m) (N : News h₀ L s.heap news) (U : Upd D (listOf (y :: q).toArray n) (listOf q.toArray (n + 1)) news news') (hz : q.length ≤ 1000)
    (h : ∀ h', Fr h₀ L h' m → News h₀ L h' news' → Q y { s with heap := h' }) : wpAny (model prog w) A (call (.builtin "list.pop") [.ref D, .int 0 u]) Q E s := by
  refine kl_popAt (k := 0) (p := []) (q := q) (y := y) F N (by decide) ?_ rfl U ?_ h
  · rw [List.size_toArray, List.length_cons]
    unfold seqIndex?
    simp
  · show (y :: q).length ≤ sizeLine
    rw [List.length_cons, sizeLine_eq]; omega
theorem spec_tri {w mean mg mb loose gd cn cs a ccd cl outer A₀ base h₀ L m news s Q E} (cL : Addr) (us : List Value) (cz : List Int) (n0 : Nat) (last : Int) (tl : Tok)
    (B : Below A₀ base outer h₀) (F : Fr h₀ L s.heap m) (X : (hd.heap_1 w.params).In h₀) (N : News h₀ L s.heap news) (T : Top hdView loose mean mg mb h₀) (hk : cs.kind = .function)
    (hm : (cL, listOf us.toArray n0) ∈ news) (hi : IntsAre us cz) (h6 : cz.length = 6) (hc : ∀ c ∈ cz, 0 ≤ c ∧ c ≤ 300000) (hl : 5 ≤ last ∧ last ≤ 7)
    (ret : ∀ D ys tl n h' tk', Fr h₀ L h' m → News h₀ L h' ((D, listOf ys.toArray n) :: (tl ++ news)) → (∀ p ∈ news, @LT.lt Nat _ p.1 D) → (∀ p ∈ tl, p.1 ≠ D) → DatAll tl ys ((triS last (cz.take (last - 1).toNat)).2.map triDat) → Q (.ref D) { s with heap := h', toks := tk' }) :
    wpAny (model PySem.Challenge.rw_ty0056_01.prog w) (ktrTop 330 2000 gd cn cs L a ccd cl outer) (call (.ref 263) [.ref cL, .int last tl]) Q E s := by
  k_with_none
  w_top off
  k_with "k_all" => assumption
  k_with "k_mem" => assumption
  k_with "exec For Name Subscript cons nil" => (k_here; k_dflt (refine wpAny_For ?_ (by intro _; rfl)))
  k_with "call builtin:list.pop" => (k_here; (with_reducible show wpAny _ _ (call (Value.builtin _) [Value.ref _, Value.int _ _]) _ _ _); k_dflt (refine' pop0 ?F ?N ?U ?z ?_; (case F => k_asm); (case N => k_asm); (case U => k_upd); (case z => omega)); intro h9q F9q N9q; (try dsimp only))
  k_with "call builtin:list.append" => (k_here; (with_reducible show wpAny _ _ (call (Value.builtin _) [Value.ref _, _]) _ _ _); k_dflt (refine' append_K ?k1 ?k2 ?k3 ?_ ?z; (case k1 => k_asm); (case k2 => k_asm); (case k3 => k_upd); (case z => (simp only [List.size_toArray, Array.size_push, sizeLine_eq]; omega)); k_whole); intro h'q F'q N'q)
  k_with "binaryOp Mod int int" => (k_here; (with_reducible refine mod_int' ?e ?_); (case e => omega))
  k_with "assign Tuple" => (k_here; k_dflt (refine' assign_two ?q0 ?q1 ?q2 ?q3 ?q4 ?q5 ?q6 ?_; (case q1 => k_asm); (case q2 => k_asm); (case q3 => k_mem); (case q0 => rfl); (case q4 => rfl); (case q5 => rfl); (case q6 => rfl)); intro h8q tk8q F8q N8q; (try dsimp only); (try k_fold))
  k_with "k_mem" => (exact List.mem_cons_of_mem _ (List.mem_cons_of_mem _ (List.mem_cons_of_mem _ (by assumption))))
  have hul : us.length = cz.length := hi.length
  revert X; k_fill; intro X
  refine wpAny_call ?_
  k_dflt cell_enter
  k_steps
  rename IntsAre _ (List.take _ cz) => hI
  rename News _ _ _ _ => NN
  rename Fr _ _ _ _ => FF
  have g4 := (by assumption : _ ∧ _ ∧ _ ∧ AllLt _ news)
  have g3 := (by assumption : _ ∧ _ ∧ AllLt _ news)
  have g2 := (by assumption : _ ∧ AllLt _ news)
  have g1 := (by assumption : ∀ p ∈ news, p.1 < _)
  have N2 := tri_start NN
  clear NN
  obtain ⟨cy, hcy⟩ : ∃ c, c = List.take (last - 1).toNat cz := ⟨_, rfl⟩
  have hcl : cy.length = (last - 1).toNat := by rw [hcy, List.length_take]; omega
  have hcb : ∀ c ∈ cy, 0 ≤ c ∧ c ≤ 300000 := fun c h => hc c (List.mem_of_mem_take (hcy ▸ h))
  rw [← hcy] at hI ret
  have hIl := hI.length
  have hheld := tri_held (last := last) (by omega) (by omega) hcl (by omega)
  refine' for_led (n := 0) ?hm (TriJ _ _ _ _ _ _ cy last) (by rfl) FF N2 ⟨_, [], [], _, _, _, _, _, _, rfl, (fun _ h => nomatch h), ?hd, ?hr, form4 rfl rfl rfl rfl ?h0⟩ ?hS ?go ?hE ?turn ?done
  case hm => exact List.mem_cons_of_mem _ (List.mem_cons_of_mem _ List.mem_cons_self)
  case hd =>
    rw [List.take_zero]
    exact .cons (in_pair (n := 0) (List.mem_cons_of_mem _ List.mem_cons_self)) .nil
  case hr => rw [List.take_zero]; exact .nil
  case h0 => exact fun _ _ _ _ _ => rfl
  case hS => rintro i m₁ nw ⟨hs, rs, tl, n1, n2, u1, u2, u3, u4, rfl, _⟩; exact List.mem_cons_of_mem _ (List.mem_cons_of_mem _ (List.mem_append_right _ List.mem_cons_self))
  case go => exact fun v hv => .inl fun it => rfl
  case hE => passes_own
  case done =>
    rintro m₁ nw h tk ⟨hs, rs, tl, n1, n2, u1, u2, u3, u4, rfl, htl, hd1, hd2, rfl⟩ F9 N9
    (try dsimp only)
    k_steps
    rw [hIl, List.take_length] at hd2
    rename News _ _ _ _ => N8
    have N8 := tri_ret N8
    refine ret _ rs _ _ _ _ (by assumption) N8 (fun p hp => Nat.lt_trans (g1 p hp) (Nat.lt_trans g2.1 g3.1)) ?_ (hd2.mono fun p hp => List.mem_append_left _ hp)
    · intro p hp
      rcases List.mem_append.mp hp with hp | hp
      · exact Nat.ne_of_gt (Nat.lt_trans g4.1 (htl p hp))
      · rcases List.mem_cons.mp hp with rfl | hp
        · exact Nat.ne_of_gt g4.1
        · rw [List.mem_singleton.mp hp]
          exact Nat.ne_of_lt g3.2.1
  case turn =>
    rintro i v m₁ nw I oI h tk hv ⟨hs, rs, tl, n1, n2, u1, u2, u3, u4, rfl, htl, hd1, hd2, rfl⟩ F9 N9 off9
    have hi9 : i < cy.length := by have := (List.getElem?_eq_some_iff.mp hv).1; omega
    have hcz : cy[i]? = some cy[i] := List.getElem?_eq_getElem hi9
    obtain ⟨t9, hx9⟩ := hI.get i cy[i] hcz
    obtain rfl := Option.some.inj (hx9.symm.trans hv)
    obtain ⟨hc1, hc2⟩ := hcb cy[i] (List.getElem_mem hi9)
    have hh := hheld i (by omega)
    rw [show (last - 1).toNat - i = ((last - 1).toNat - i - 1) + 1 by omega] at hh
    have hh2 := held_len hh
    obtain ⟨⟨pi, pj⟩, r, hpr⟩ := held_cons hh
    have hp := hh.1 (pi, pj) (by rw [hpr]; exact List.mem_cons_self)
    dsimp only at hp
    have hnx := tri_next (last := last) hcz
    rw [hpr, List.map_cons] at hd1
    rw [hpr, List.length_cons] at hh2
    rcases hs with _ | ⟨v0, hs⟩
    · cases hd1
    have hv0 := datall_head hd1
    replace hd1 := datall_tail hd1
    obtain ⟨T9, t8, u8, n8, rfl, hT9⟩ := dat_pair hv0
    have hhl : hs.length ≤ 8 := by have := hd1.length; simp only [List.length_map] at this; omega
    have hrl : rs.length ≤ 8 := by have := hd2.length; simp only [List.length_map] at this; have := tri_len last cy i; omega
    have hRI := (off9 _ List.mem_cons_self).symm
    have hHI := (off9 _ (List.mem_cons_of_mem _ List.mem_cons_self)).symm
    dsimp only at hRI hHI
    have hIA := fun p hp => off9 p (List.mem_cons_of_mem _ (List.mem_cons_of_mem _ hp))
    have hAH := off_two hIA htl g4.2.1 g2.1 g1
    have hAR := off_two hIA htl g4.1 g3.2.1 g1
    have gHR := g3.1
    k_steps
    all_goals (rename News _ _ _ _ => NN)
    all_goals (simp only [List.push_toArray, List.append_assoc, List.cons_append, List.nil_append] at NN)
    all_goals (have q1 := (by assumption : _ ∧ _ ∧ _ ∧ AllLt _ (tl ++ _)))
    · have q2 := (by assumption : _ ∧ _ ∧ _ ∧ _ ∧ AllLt _ (tl ++ _))
      have q3 := (by assumption : _ ∧ _ ∧ _ ∧ _ ∧ _ ∧ AllLt _ (tl ++ _))
      refine' tri_end (ex := [(_, _), (_, _)]) (by assumption) NN perm2 hpr hnx ⟨q1.1, q1.2.2.2⟩ (List.forall_mem_cons.mpr ⟨⟨q3.2.2.1, q3.2.2.2.2.2⟩, List.forall_mem_cons.mpr ⟨⟨q2.2.1, q2.2.2.2.2⟩, fun _ h => nomatch h⟩⟩) htl hRI hHI hIA ?new hd1 hd2 ?hm
      case new =>
        unfold cutNew cutK
        rw [if_pos (by assumption), if_pos (by assumption)]
        exact .cons (in_pair (List.mem_cons_of_mem _ List.mem_cons_self)) (.cons (in_pair List.mem_cons_self) .nil)
      case hm => exact form4 (by rfl) (by rfl) (by rfl) (by rfl) (by intro z h1 h2 h3 h4; simp only [h1, h2, h3, h4, if_false])
    · have q2 := (by assumption : _ ∧ _ ∧ _ ∧ _ ∧ AllLt _ (tl ++ _))
      refine' tri_end (ex := [(_, _)]) (by assumption) NN perm1 hpr hnx ⟨q1.1, q1.2.2.2⟩ (List.forall_mem_cons.mpr ⟨⟨q2.2.1, q2.2.2.2.2⟩, fun _ h => nomatch h⟩) htl hRI hHI hIA ?new hd1 hd2 ?hm
      case new =>
        unfold cutNew cutK
        rw [if_pos (by assumption), if_neg (by omega)]
        exact .cons (in_pair List.mem_cons_self) .nil
      case hm => exact form4 (by rfl) (by rfl) (by rfl) (by rfl) (by intro z h1 h2 h3 h4; simp only [h1, h2, h3, h4, if_false])
    · have q2 := (by assumption : _ ∧ _ ∧ _ ∧ _ ∧ AllLt _ (tl ++ _))
      refine' tri_end (ex := [(_, _)]) (by assumption) NN perm1 hpr hnx ⟨q1.1, q1.2.2.2⟩ (List.forall_mem_cons.mpr ⟨⟨q2.2.1, q2.2.2.2.2⟩, fun _ h => nomatch h⟩) htl hRI hHI hIA ?new hd1 hd2 ?hm
      case new =>
        unfold cutNew cutK
        rw [if_neg (by omega), if_pos (by assumption)]
        exact .cons (in_pair List.mem_cons_self) .nil
      case hm => exact form4 (by rfl) (by rfl) (by rfl) (by rfl) (by intro z h1 h2 h3 h4; simp only [h1, h2, h3, h4, if_false])
    · rw [← List.append_nil hs] at NN
      refine' tri_end (ex := []) (es := []) (by assumption) NN perm0 hpr hnx ⟨q1.1, q1.2.2.2⟩ (fun _ h => nomatch h) htl hRI hHI hIA ?new hd1 hd2 ?hm
      case new =>
        unfold cutNew cutK
        rw [if_neg (by omega), if_neg (by omega)]
        exact .nil
      case hm => exact form4 (by rfl) (by rfl) (by rfl) (by rfl) (by intro z h1 h2 h3 h4; simp only [h1, h2, h3, h4, if_false])
end Mine
end
section
open PySem PySem.W PyProof.Rows PySem.Calls
set_option maxRecDepth 100000
set_option maxHeartbeats 4000000
namespace Mine
theorem spec_written {w mean mg mb loose gd cn cs a ccd cl outer A₀ base h₀ L m news s Q E} (x : Str) (tx : Tok) (number : Int) (tn : Tok)
    (B : Below A₀ base outer h₀) (F : Fr h₀ L s.heap m) (X : (hd.heap_1 w.params).In h₀) (N : News h₀ L s.heap news) (T : Top hdView loose mean mg mb h₀) (hk : cs.kind = .function)
    (hx : x.length ≤ 1000) (hS : Safe x) (ht : 1 ≤ s.toks) (hn : 0 ≤ number ∧ number ≤ 10000)
    (ret : ∀ t h' tk', 1 ≤ tk' → Fr h₀ L h' m → News h₀ L h' news → Q (.str (esc x) t) { s with heap := h', toks := tk' }) :
    wpAny (model PySem.Challenge.rw_ty0056_01.prog w) (ktrTop 550 4500 gd cn cs L a ccd cl outer) (call (.ref 275) [.str x tx, .int number tn]) Q E s := by
  k_with_none
  w_top off
  k_with "k_all" => assumption
  k_with "k_mem" => assumption
  k_with "execs cons" => (k_here; (with_reducible show wpAny _ _ _ _ _ (Shared.mk _ _ _ (_ + 1) _)); refine gentoks1 ?_; intro tk9q htk9q)
  k_with "execs nil" => (k_here; (with_reducible show wpAny _ _ _ _ _ (Shared.mk _ _ _ (_ + 1) _)); refine gentoks1 ?_; intro tk9q htk9q)
  k_with "call ref" => (refine Stop.mk ?_)
  k_with "call ref" => (k_here; (with_reducible show wpAny _ _ (call (Value.ref 235) _) _ _ _); k_dflt (refine' room ?d1 ?d2 (spec_cdata _ _ ?k1 ?k2 ?k3 ?k4 ?k5 ?k6 ?k7 ?k8 ?k9 ?_); (case d1 => exact Nat.le_of_ble_eq_true rfl); (case d2 => exact Nat.le_of_ble_eq_true rfl); (case k1 => k_asm); (case k2 => k_asm); (case k3 => k_asm); (case k4 => k_asm); (case k5 => k_asm); (case k6 => first | exact rfl | assumption); (case k7 => omega); (case k8 => assumption); (case k9 => first | exact Nat.le_add_left 1 _ | (dsimp only; omega))); intro t9q h9q tk9q htk9q F9q N9q; (try dsimp only); (try k_fold))
  k_with "call ref" => (k_here; (with_reducible show wpAny _ _ (call (Value.ref 242) _) _ _ _); k_dflt (refine' room ?d1 ?d2 (spec_attrib _ _ ?k1 ?k2 ?k3 ?k4 ?k5 ?k6 ?k7 ?k8 ?k9 ?_); (case d1 => exact Nat.le_of_ble_eq_true rfl); (case d2 => exact Nat.le_of_ble_eq_true rfl); (case k1 => k_asm); (case k2 => k_asm); (case k3 => k_asm); (case k4 => k_asm); (case k5 => k_asm); (case k6 => first | exact rfl | assumption); (case k7 => omega); (case k8 => assumption); (case k9 => first | exact Nat.le_add_left 1 _ | (dsimp only; omega))); intro t9q h9q tk9q htk9q F9q N9q; (try dsimp only); (try k_fold))
  k_with "call ref" => (k_here; (with_reducible show wpAny _ _ (call (Value.ref 249) _) _ _ _); k_dflt (refine' room ?d1 ?d2 (spec_c14n _ _ ?k1 ?k2 ?k3 ?k4 ?k5 ?k6 ?k7 ?k8 ?k9 ?_); (case d1 => exact Nat.le_of_ble_eq_true rfl); (case d2 => exact Nat.le_of_ble_eq_true rfl); (case k1 => k_asm); (case k2 => k_asm); (case k3 => k_asm); (case k4 => k_asm); (case k5 => k_asm); (case k6 => first | exact rfl | assumption); (case k7 => omega); (case k8 => assumption); (case k9 => first | exact Nat.le_add_left 1 _ | (dsimp only; omega))); intro t9q h9q tk9q htk9q F9q N9q; (try dsimp only); (try k_fold))
  revert X; k_fill; intro X
  refine wpAny_call ?_
  k_dflt cell_enter
  k_steps
  all_goals first | exact ret _ _ _ (by assumption) (by assumption) (by assumption)
end Mine
end
section
open PySem PySem.W PyProof.Rows PySem.Calls
set_option maxRecDepth 100000
set_option maxHeartbeats 4000000
namespace Mine
theorem nodup_two {a b : Int} (h : a ≠ b) : [a, b].Nodup := by simp [h]
theorem nodup_three {a b c : Int} (h1 : a ≠ b) (h2 : a ≠ c) (h3 : b ≠ c) : [a, b, c].Nodup := by simp [h1, h2, h3]
theorem made_abs {prog : Program} {w : World} {s : Shared} {h₀ : Heap} {L d : Addr} {m : Str → Option Value} {news : List (Addr × Obj)} {g : Obj → List (Addr × Obj)} {o : Obj} {Q : Value → Shared → Prop} {vs : List (Value × Value)} {D : List (PyData × PyData)}
    (F : Fr h₀ L s.heap m) (N : News h₀ L s.heap news) (U : UpdF d o news g) (hd : o.IsDictOf (PySem.intKind prog w) []) (hk : allIntKeys vs = true) (hn : ((intKeyPairs vs).map (·.1)).Nodup) (hv : allFlat vs = true) (hD : intData vs = D)
    (h : ∀ h' o' kvs tk, Fr h₀ L h' m → News h₀ L h' (g o') → o'.IsDictOf (PySem.intKind prog w) kvs → PyProof.V.FlatPairs PyData.int kvs D → Q (.ref d) { s with heap := h', toks := tk }) : KdnMade prog w (PySem.intKind prog w) d Q vs s :=
  kdn_made_intF F N U hd hk hn hv fun h' o' F' N' x y => h h' o' _ _ F' N' x (hD ▸ y)
theorem hue_item {prog : Program} {w : World} {A : Around} {E : Value → Shared → Prop} {s : Shared} {h₀ : Heap} {L : Addr} {news : List (Addr × Obj)} {value slice : PySem.Expr} {d : Addr} {o : Obj} {x : Int} {t : Tok} {k : Int} {kvs : List (Int × Value)} {D : List (PyData × PyData)} {Q : Value → Shared → Prop} (N : News h₀ L s.heap news) (hm : (d, o) ∈ news) (lo : (d == sysModules) = false) (hd : o.IsDictOf (intKind prog w) kvs) (hf : PyProof.V.FlatPairs PyData.int kvs D) (hl : PySem.Spec.lookup (.int x) D = some (.int k))
    (h : ∀ u, Q (.int k u) { s with toks := s.toks + 1 })
    (hs : subscripted slice false (.ref d) (.int x t) = operate [.ref d, .int x t] (getItem (.ref d) (.int x t)) := by with_unfolding_all rfl) (hg : ∀ r, letTemporaryGo value (.ref d) r = pure () := by intro _; with_unfolding_all rfl) :
    wpAny (model prog w) A (subscriptTail value slice (.ref d) (.int x t)) Q E s :=
  item_intTab (TabAt.ofObj lo (N _ hm).1 hd hf) hl (fun v hv => by cases hv s.heap; exact h _) hs hg
noncomputable abbrev lst3 (x y z : Value) : Obj := LCg.lst [x, y, z]
theorem up_ne {l : List (Addr × Obj)} {d a : Addr} {o : Obj} (h : ∀ p ∈ l, @LT.lt Nat _ p.1 d) (hm : (a, o) ∈ l) : d ≠ a := Nat.ne_of_gt (h _ hm)
theorem five_lt {a b c d H : Addr} {news : List (Addr × Obj)} (h : @LT.lt Nat _ a H ∧ @LT.lt Nat _ b H ∧ @LT.lt Nat _ c H ∧ @LT.lt Nat _ d H ∧ AllLt H news) : ∀ o1 o2 o3 o4 : Obj, ∀ p ∈ (a, o1) :: (b, o2) :: (c, o3) :: (d, o4) :: news, p.1 ≠ H := by
  intro o1 o2 o3 o4 p hp
  rcases List.mem_cons.mp hp with rfl | hp
  · exact Nat.ne_of_lt h.1
  rcases List.mem_cons.mp hp with rfl | hp
  · exact Nat.ne_of_lt h.2.1
  rcases List.mem_cons.mp hp with rfl | hp
  · exact Nat.ne_of_lt h.2.2.1
  rcases List.mem_cons.mp hp with rfl | hp
  · exact Nat.ne_of_lt h.2.2.2.1
  exact Nat.ne_of_lt (allLt_mem h.2.2.2.2 p hp)
theorem lack_item {prog : Program} {w : World} {A : Around} {E : Value → Shared → Prop} {s : Shared} {h₀ : Heap} {L D : Addr} {news : List (Addr × Obj)} {value slice : PySem.Expr} {x y z v : Value} {k : Int} {u : Tok} {Q : Value → Shared → Prop}
    (N : News h₀ L s.heap ((D, lst3 x y z) :: news)) (h0 : 0 ≤ k) (h3 : k < 3) (hx : [x, y, z][k.toNat]? = some v) (h : Q v s)
    (hs : subscripted slice false (.ref D) (.int k u) = operate [.ref D, .int k u] (getItem (.ref D) (.int k u)) := by with_unfolding_all rfl) : wpAny (model prog w) A (subscriptTail value slice (.ref D) (.int k u)) Q E s :=
  have hl : s.heap.IsList D #[x, y, z] := ⟨_, (N _ List.mem_cons_self).1, rfl, _, rfl⟩
  tail_any hl.typeIs slot_list_getitem.lookup (wpAny_getItem_list hl h0 (by omega) (by simpa using hx) h) hs
noncomputable abbrev namesD : List (PyData × PyData) := [(PyData.int 0, PyData.str (Str.ofString "<")), (PyData.int 64, PyData.str (Str.ofString ">")), (PyData.int 128, PyData.str (Str.ofString "&"))]
theorem hv_back {tot c : Int} (h0 : 0 ≤ c) (h2 : c ≤ 2) : (hv tot c - 3 * tot).fmod 192 = 64 * c := by
  unfold hv
  rw [Int.fmod_eq_emod_of_nonneg _ (by decide), Int.fmod_eq_emod_of_nonneg _ (by decide)]
  omega
theorem name_of {tot c : Int} (h0 : 0 ≤ c) (h2 : c ≤ 2) : PySem.Spec.lookup (.int ((hv tot c - 3 * tot).fmod 192)) namesD = some (.str (sgC c)) := by
  rw [hv_back h0 h2]
  have : c = 0 ∨ c = 1 ∨ c = 2 := by omega
  rcases this with rfl | rfl | rfl <;> rfl
theorem name_get {prog : Program} {w : World} {A : Around} {E : Value → Shared → Prop} {s : Shared} {h₀ : Heap} {L d : Addr} {news : List (Addr × Obj)} {o : Obj} {kvs : List (Int × Value)} {i : Int} {t : Tok} {y : Str} {dflt : Value} {dd : PyData} {Q : Value → Shared → Prop} (N : News h₀ L s.heap news) (hm : (d, o) ∈ news) (lo : (d == sysModules) = false) (hd : o.IsDictOf (intKind prog w) kvs)
    (hf : PyProof.V.FlatPairs PyData.int kvs namesD) (hl : PySem.Spec.lookup (.int i) namesD = some (.str y)) (hx : PyProof.V.Flat dflt dd) (h : ∀ u, Q (.str y u) { s with toks := s.toks + 1 }) :
    wpAny (model prog w) A (call (.builtin "dict.get") [.ref d, .int i t, dflt]) Q E s :=
  call_get2_intTab (TabAt.ofObj lo (N _ hm).1 hd hf) hx fun v hv => by
    rw [hl] at hv
    cases hv s.heap
    exact h _
theorem sgl_next {last : Int} {ts : List (Int × Int × Int)} {ys : List Value} {j : Nat} {t : Tok} (h : DatAll [] ys (((List.range j).map fun (k : Nat) => sgC (kdfLook (colS last ts) (k : Int) 0)).map Dat.str)) :
    DatAll [] (ys ++ [.str (sgC (kdfLook (colS last ts) (j : Int) 0)) t]) (((List.range (j + 1)).map fun (k : Nat) => sgC (kdfLook (colS last ts) (k : Int) 0)).map Dat.str) := by
  rw [List.range_succ, List.map_append]
  exact dat_snoc h (.str _ _)
theorem lack_eq (p q : UInt64) : Float64.sub (Float64.ofInt 1) (Float64.div (Float64.add p q) (Float64.ofInt 2)) = lackF p q := by
  have h1 : Float64.ofInt 1 = 4607182418800017408 := by decide +kernel
  have h2 : Float64.ofInt 2 = 4611686018427387904 := by decide +kernel
  rw [h1, h2]; rfl
noncomputable def LackJ (x y z : UInt64) (i : Nat) (ys : List Value) : Prop :=
  (i = 0 ∧ ys = []) ∨ (i = 1 ∧ ∃ t, ys = [.float x t]) ∨ (i = 2 ∧ ∃ t u, ys = [.float x t, .float y u]) ∨ (i = 3 ∧ ∃ t u v, ys = [.float x t, .float y u, .float z v])
noncomputable def SgnJ (w : World) (H : Addr) (LED : List (Addr × Obj)) (m0 : Str → Option Value) (last tot : Int) (TT : List (Int × Int × Int)) (i : Nat) (m₁ : Str → Option Value) (nw : List (Addr × Obj)) : Prop :=
  ∃ oH kvs u1 u2 u3 u4 u5 u6 u7, nw = (H, oH) :: LED ∧ oH.IsDictOf (intKind PySem.Challenge.rw_ty0056_01.prog w) kvs ∧ PyProof.V.FlatPairs PyData.int kvs (kdfD (hueL (hv tot) (colS last (TT.take i)))) ∧
    m₁ = fun z => if z = Str.ofString "hue" then u1 else if z = Str.ofString "lack" then u2 else if z = Str.ofString "other" then u3 else if z = Str.ofString "one" then u4 else if z = Str.ofString "j" then u5 else if z = Str.ofString "k" then u6 else if z = Str.ofString "i" then u7 else m0 z
theorem spec_signs {w mean mg mb loose gd cn cs a ccd cl outer A₀ base h₀ L m news s Q E} (tD : Addr) (ts : List Value) (TT : List (Int × Int × Int)) (n0 : Nat) (last tot : Int) (t1 t2 : Tok)
    (B : Below A₀ base outer h₀) (F : Fr h₀ L s.heap m) (X : (hd.heap_1 w.params).In h₀) (N : News h₀ L s.heap news) (T : Top hdView loose mean mg mb h₀) (hk : cs.kind = .function)
    (hm : (tD, listOf ts.toArray n0) ∈ news) (hd : DatAll news ts (TT.map triDat)) (hl : 5 ≤ last ∧ last ≤ 7) (ht : 0 ≤ tot ∧ tot ≤ 300000) (hok : sgOk last TT = true) (hTl : TT.length ≤ 8)
    (ret : ∀ D ys n h' tk', Fr h₀ L h' m → News h₀ L h' ((D, listOf ys.toArray n) :: news) → (∀ p ∈ news, p.1 ≠ D) → DatAll [] ys ((signL last TT).map Dat.str) → Q (.ref D) { s with heap := h', toks := tk' }) :
    wpAny (model PySem.Challenge.rw_ty0056_01.prog w) (ktrTop 330 2000 gd cn cs L a ccd cl outer) (call (.ref 268) [.ref tD, .int last t1, .int tot t2]) Q E s := by
  k_with_none
  w_top off
  k_with "k_all" => (refine' allLt_ne ?ah ?ad; (case ah => first | assumption | exact And.right (by assumption) | exact And.right (And.right (by assumption)) | exact And.right (And.right (And.right (by assumption))) | exact And.right (And.right (And.right (And.right (by assumption)))) | exact And.right (And.right (And.right (And.right (And.right (by assumption))))) | exact And.right (And.right (And.right (And.right (And.right (And.right (by assumption))))))); (case ad => first | exact Nat.le_refl _ | omega))
  k_with "k_all" => assumption
  k_with "k_all" => (refine' mem_ne ?ah ?ad; (case ah => assumption); (case ad => first | exact Nat.le_refl _ | exact Nat.le_succ _ | omega))
  k_with "k_ne" => (exact Ne.symm ((by assumption : ∀ p ∈ ((_, _) :: _ : List (Addr × Obj)), p.1 ≠ _) (_, _) List.mem_cons_self))
  k_with "k_mem" => assumption
  k_with "eval Dict" => (k_here; (with_reducible show wpAny _ _ (eval (Expr.Dict (_ :: _) _ _) _) _ _ _); k_dflt (refine' kdn_eval (knd := PySem.intKind _ _) ?F ?N ?b ?a ?l ?e ?n ?_; (case F => k_asm); (case N => k_asm); (case b => exact Top.nolimit (by k_asm)); (case a => rfl); (case l => rfl); (case e => exact List.cons_ne_nil _ _); (case n => exact Nat.le_of_ble_eq_true rfl)); intro dq h'q o'q F'q N'q l1q loq hdq; (try k_lt l1q))
  k_with "KdnMade" => (k_here; k_dflt (first
    | (refine' made_abs (D := [(PyData.int 0, PyData.str (Str.ofString "<")), (PyData.int 64, PyData.str (Str.ofString ">")), (PyData.int 128, PyData.str (Str.ofString "&"))]) ?F ?N ?U ?d ?k ?n ?v ?e ?_; (case F => k_asm); (case N => k_asm); (case U => k_updF); (case d => k_asm); (case k => with_unfolding_all rfl); (case n => with_unfolding_all (show List.Nodup [(0 : Int), 64, 128]; decide)); (case v => with_unfolding_all rfl); (case e => with_unfolding_all rfl))
    | (refine' made_abs (D := kdfD [(0, (3 * tot).fmod 192), (last, (3 * tot + 64).fmod 192)]) ?F ?N ?U ?d ?k ?n ?v ?e ?_; (case F => k_asm); (case N => k_asm); (case U => k_updF); (case d => k_asm); (case k => with_unfolding_all rfl); (case n => with_unfolding_all (show List.Nodup [(0 : Int), last]; exact nodup_two (by omega))); (case v => with_unfolding_all rfl); (case e => with_unfolding_all rfl))); intro h'q o'q kvsq tkq F'q N'q hd'q hf'q; (try dsimp only at N'q))
  k_with "exec For Tuple Name cons nil" => (k_here; k_dflt (refine wpAny_For ?_ (by intro _; rfl)))
  k_with "call ref" => (refine Stop.mk ?_)
  k_with "call ref" => (k_here; (with_reducible show wpAny _ _ (call (Value.ref 221) _) _ _ _); k_dflt (refine' room ?d1 ?d2 (spec_hsv_to_rgb _ _ _ _ _ _ _ _ _ ?k1 ?k2 ?k3 ?k4 ?k5 ?k6 ?k7 ?k8 ?_); (case d1 => exact Nat.le_of_ble_eq_true rfl); (case d2 => exact Nat.le_of_ble_eq_true rfl); (case k1 => k_asm); (case k2 => k_asm); (case k3 => k_asm); (case k4 => k_asm); (case k5 => k_asm); (case k6 => first | exact rfl | assumption); (case k7 => with_reducible assumption); (case k8 => with_reducible assumption)); intro D7q t71q t72q t73q h7q tk7q F7q N7q l7q; (try dsimp only); (try k_fold))
  k_with "call ref" => (k_here; (with_reducible show wpAny _ _ (call (Value.ref 200) _) _ _ _); k_dflt (refine' room ?d1 ?d2 (spec_hls_to_rgb _ _ _ _ _ _ _ _ _ ?k1 ?k2 ?k3 ?k4 ?k5 ?k6 ?k7 ?_); (case d1 => exact Nat.le_of_ble_eq_true rfl); (case d2 => exact Nat.le_of_ble_eq_true rfl); (case k1 => k_asm); (case k2 => k_asm); (case k3 => k_asm); (case k4 => k_asm); (case k5 => k_asm); (case k6 => first | exact rfl | assumption); (case k7 => with_reducible assumption)); intro D7q t71q t72q t73q h7q tk7q F7q N7q l7q; (try dsimp only); (try k_fold))
  k_with "call ref" => (k_here; (with_reducible show wpAny _ _ (call (Value.ref 193) _) _ _ _); k_dflt (refine' room ?d1 ?d2 (spec_rgb_to_hls _ _ _ _ _ _ _ _ _ ?k1 ?k2 ?k3 ?k4 ?k5 ?k6 ?k7 ?_); (case d1 => exact Nat.le_of_ble_eq_true rfl); (case d2 => exact Nat.le_of_ble_eq_true rfl); (case k1 => k_asm); (case k2 => k_asm); (case k3 => k_asm); (case k4 => k_asm); (case k5 => k_asm); (case k6 => first | exact rfl | assumption); (case k7 => with_reducible assumption)); intro D7q t71q t72q t73q h7q tk7q F7q N7q l7q; (try dsimp only); (try k_fold))
  k_with "call ref" => (k_here; (with_reducible show wpAny _ _ (call (Value.ref 214) _) _ _ _); k_dflt (refine' room ?d1 ?d2 (spec_rgb_to_hsv _ _ _ _ _ _ _ _ _ ?k1 ?k2 ?k3 ?k4 ?k5 ?k6 ?k7 ?_); (case d1 => exact Nat.le_of_ble_eq_true rfl); (case d2 => exact Nat.le_of_ble_eq_true rfl); (case k1 => k_asm); (case k2 => k_asm); (case k3 => k_asm); (case k4 => k_asm); (case k5 => k_asm); (case k6 => first | exact rfl | assumption); (case k7 => with_reducible assumption)); intro D7q t71q t72q t73q h7q tk7q F7q N7q l7q; (try dsimp only); (try k_fold))
  k_with "call type:int" => (k_here; k_dflt (refine' call_int_ok ?q1 ?q2 ?q3 ?_; (case q1 => rfl); (case q2 => with_reducible assumption); (case q3 => with_reducible assumption)); (try dsimp only))
  k_with "subscriptTail" => (k_here; (with_reducible show wpAny _ _ (subscriptTail _ _ (Value.ref _) (Value.int _ _)) _ _ _); k_dflt (refine' hue_item ?q1 ?q2 ?q3 ?q4 ?q5 ?q6 ?_ (by with_unfolding_all rfl) (by intro _; with_unfolding_all rfl); (case q1 => k_asm); (case q2 => k_mem); (case q3 => with_reducible assumption); (case q4 => with_reducible assumption); (case q5 => with_reducible assumption); (case q6 => with_reducible assumption)); intro t6q; (try dsimp only); (try k_fold))
  k_with "subscriptTail Name Name ref int" => (k_here; (with_reducible show wpAny _ _ (subscriptTail _ _ (Value.ref _) (Value.int _ _)) _ _ _); k_dflt (refine' hue_item ?q1 ?q2 ?q3 ?q4 ?q5 ?q6 ?_ (by with_unfolding_all rfl) (by intro _; with_unfolding_all rfl); (case q1 => k_asm); (case q2 => k_mem); (case q3 => with_reducible assumption); (case q4 => with_reducible assumption); (case q5 => with_reducible assumption); (case q6 => with_reducible assumption)); intro t6q; (try dsimp only); (try k_fold))
  k_with "exec Assign cons ListComp" => (refine Stop.mk ?_)
  k_with "eval ListComp" => (k_here; k_dflt (refine LCg.ListComp_U (F₀ := by k_asm) (by with_unfolding_all rfl) (by decide) (by rfl) (by decide) (by rfl) (stopped ?_)))
  k_with "call type:zip" => (refine Stop.mk ?_)
  k_with "subscriptTail" => (k_here; (with_reducible show wpAny _ _ (subscriptTail _ _ (Value.ref D) (Value.int _ _)) _ _ _); (with_unfolding_all (refine lack_item N3 (by decide) (by decide) (by rfl) ?_ (by rfl))); (try dsimp only); (try k_fold))
  k_with "subscriptTail Name Constant ref int" => (k_here; (with_reducible show wpAny _ _ (subscriptTail _ _ (Value.ref D) (Value.int _ _)) _ _ _); (with_unfolding_all (refine lack_item N3 (by decide) (by decide) (by rfl) ?_ (by rfl))); (try dsimp only); (try k_fold))
  k_with "CompSrc" => (refine Stop.mk ?_)
  k_with "call builtin:dict.get" => (k_here; k_dflt (refine' name_get ?gn1 ?gn2 ?gn3 ?gn4 ?gn5 ?gn6 ?gn7 ?_; (case gn1 => k_asm); (case gn2 => k_mem); (case gn3 => with_reducible assumption); (case gn4 => with_reducible assumption); (case gn5 => with_reducible assumption); (case gn6 => with_reducible assumption); (case gn7 => k_flat)); intro t7q; (try dsimp only); (try k_fold))
  k_with "setItem ref int" => (k_here; k_dflt (refine' setItem_K PyProof.V.same_int (intKind_is _ _ _ _) ?siv ?siF ?siN ?siU ?sid ?sif ?_ ?siz; (case siF => k_asm); (case siN => k_asm); (case siU => exact UpdF.tail (up_ne (by assumption) (List.mem_cons_of_mem _ (List.mem_cons_of_mem _ (List.mem_cons_of_mem _ (List.mem_cons_of_mem _ (List.mem_cons_self)))))) (UpdF.tail hDH (UpdF.tail (up_ne (by assumption) (List.mem_cons_of_mem _ (List.mem_cons_of_mem _ (List.mem_cons_self)))) (UpdF.tail (up_ne (by assumption) (List.mem_cons_of_mem _ (List.mem_cons_self))) (UpdF.tail hIH (UpdF.head (hHR _ _ _ _))))))); (case sid => with_reducible assumption); (case sif => with_reducible assumption); (case siz => exact Nat.le_trans hDl (by rw [sizeLine_eq]; decide)); (case siv => k_flat)); intro h'q o'q F'q N'q hd'q hf'q; (try dsimp only at N'q))
  k_with "assign Tuple" => (k_here; k_dflt (refine' assign_three ?q0 ?q1 ?q2 ?q3 ?q4 ?q5 ?q6 ?q7 ?_; (case q1 => k_asm); (case q2 => k_asm); (case q3 => k_mem); (case q0 => rfl); (case q4 => rfl); (case q5 => rfl); (case q6 => rfl); (case q7 => rfl)); intro h8q tk8q F8q N8q; (try dsimp only); (try k_fold))
  have hul : ts.length = TT.length := by rw [hd.length]; simp
  have hq4 := fm_bd (tot.fdiv 64) (m := 4) (by decide)
  have hq192 := fm_bd (3 * tot) (m := 192) (by decide)
  have hq193 := fm_bd (3 * tot + 64) (m := 192) (by decide)
  revert X; k_fill; intro X
  rcases cs with ⟨ck, c2, c3, c4, c5⟩
  obtain rfl : ck = .function := hk
  refine wpAny_call ?_
  k_dflt k_enter
  k_steps
  rename PyProof.V.FlatPairs _ _ (kdfD _) => hf0
  have hl5 := (by assumption : _ ∧ _ ∧ _ ∧ _ ∧ AllLt _ news)
  have hHR := five_lt hl5
  rename Obj.IsDictOf _ _ _ => hd0
  rename News _ _ _ _ => NN
  rename Fr _ _ _ _ => FF
  have hst0 : kdfD [(0, (3 * tot).fmod 192), (last, (3 * tot + 64).fmod 192)] = kdfD (hueL (hv tot) (colS last (TT.take 0))) := by
    rw [List.take_zero]; unfold hueL colS hv; simp
  rw [hst0] at hf0
  refine' for_led (n := n0) ?hm (SgnJ w _ _ _ last tot TT) (by rfl) FF NN ⟨_, _, _, _, _, _, _, _, _, rfl, hd0, hf0, form7 rfl rfl rfl rfl rfl rfl rfl ?g0⟩ ?hS ?go ?hE ?turn ?done
  case hm => exact List.mem_cons_of_mem _ (List.mem_cons_of_mem _ (List.mem_cons_of_mem _ (List.mem_cons_of_mem _ (List.mem_cons_of_mem _ hm))))
  case g0 => exact fun _ _ _ _ _ _ _ _ => rfl
  case hS => rintro i m₁ nw ⟨oH, kvs, u1, u2, u3, u4, u5, u6, u7, rfl, _⟩; exact List.mem_cons_of_mem _ (List.mem_cons_of_mem _ (List.mem_cons_of_mem _ (List.mem_cons_of_mem _ (List.mem_cons_of_mem _ hm))))
  case go =>
    intro v hv
    obtain ⟨n, hn, rfl⟩ := List.getElem_of_mem hv
    obtain ⟨hi, hD⟩ := dat_at hd (List.getElem?_eq_getElem hn)
    obtain ⟨T9, t, u, w9, n9, e, _⟩ := dat_tri hD
    exact .inr ⟨⟨T9, e⟩, _, _, _, rfl⟩
  case hE => passes_own
  case done =>
    rintro m₁ nw h tk ⟨oH, kvs, u1, u2, u3, u4, u5, u6, u7, rfl, hd3, hf3, rfl⟩ F9 N9
    (try dsimp only)
    rw [hul, List.take_length] at hf3
    k_steps
    unfold Stop
    refine' LCg.CompSrc.range (n := (last + 1).toNat) (by rfl) (by assumption) (by assumption) (by assumption) (small_of (by omega) (by omega) (by omega) (by omega)) (size_of (by omega)) (by rw [sizeLine_eq]; omega) (fun g => comp_ind_U (last + 1).toNat (fun i ys nw => nw = _ ∧ DatAll [] ys (((List.range i).map fun (k : Nat) => sgC (kdfLook (colS last TT) (k : Int) 0)).map Dat.str)) ?turn2 ?fin2 _ 0 [] _ ?e2 ⟨rfl, .nil⟩)
    case e2 => omega
    case turn2 =>
      rintro j ys nw2 v J oJ C oC D m₂ h2 tk2 E' hj ⟨rfl, hys⟩ ⟨t9, rfl⟩ hN hm2 F2 N2 off2 hne
      obtain ⟨k1, k2, k3⟩ := sgOk_end hok (k := j) (by omega)
      have hl9 := hueL_look (hv tot) _ (0 + (j : Int)) 0 (by rw [Int.zero_add]; exact k1)
      rw [Int.zero_add] at hl9
      have hg9 := name_of (tot := tot) k2 k3
      have bd9 : 0 ≤ hv tot (kdfLook (colS last TT) (j : Int) 0) ∧ hv tot (kdfLook (colS last TT) (j : Int) 0) < 192 := fm_bd _ (by decide)
      rw [Int.zero_add] at hm2
      k_steps
      refine LCg.CompEnd.intro (by assumption) (by assumption) _ (fun p hp => hp) off2 trivial ⟨rfl, sgl_next hys⟩
    case fin2 =>
      rintro ys nw2 ⟨rfl, hys⟩ D h2 tk2 F2 N2 off2
      (try dsimp only)
      k_steps
      refine ret D ys ys.length _ _ (by assumption) (news_sub (by assumption) fun p hp => ?_) (fun p hp => off1_ne off2 p (List.mem_cons_of_mem _ (List.mem_cons_of_mem _ (List.mem_cons_of_mem _ (List.mem_cons_of_mem _ (List.mem_cons_of_mem _ hp)))))) hys
      rcases List.mem_cons.mp hp with rfl | hp
      · exact List.mem_cons_self
      · exact List.mem_cons_of_mem _ (List.mem_cons_of_mem _ (List.mem_cons_of_mem _ (List.mem_cons_of_mem _ (List.mem_cons_of_mem _ (List.mem_cons_of_mem _ hp)))))
  case turn =>
    rintro i v m₁ nw I oI h tk hv9 ⟨oH, kvs, u1, u2, u3, u4, u5, u6, u7, rfl, hd3, hf3, rfl⟩ F9 N9 off9
    obtain ⟨hi9, hD9⟩ := dat_at hd hv9
    rcases hT9 : TT[i] with ⟨ti, tk9, tj⟩
    rw [hT9] at hD9
    have hTi : TT[i]? = some (ti, tk9, tj) := by rw [List.getElem?_eq_getElem hi9, hT9]
    obtain ⟨T9, t8, u8, w8, n8, rfl, hTm⟩ := dat_tri hD9
    obtain ⟨c1, c2, c3, c4, c5, c6⟩ := sgOk_turn hok hTi
    have hl1 := hueL_look (hv tot) _ ti 0 c1
    have hl2 := hueL_look (hv tot) _ tj 0 c2
    obtain ⟨r1, g1, b1, r2, g2, b2, e1, e2, e3, hh, ll, ss, ss2, vv, e4, e5, e6, e7, e8⟩ := third ht.1 c5 c6 c3
    have hnx := colS_next (last := last) hTi
    have hln := colS_len last (List.take i TT)
    rw [List.length_take] at hln
    obtain ⟨D9, hDD⟩ : ∃ D, D = kdfD (hueL (hv tot) (colS last (List.take i TT))) := ⟨_, rfl⟩
    have hDl : D9.length ≤ 20 := by rw [hDD, kdfD_length]; unfold hueL; rw [List.length_map]; omega
    have hput : ∀ v, v = hv tot (3 - kdfLook (colS last (List.take i TT)) ti 0 - kdfLook (colS last (List.take i TT)) tj 0) → PyProof.V.putD (.int tk9) (.int v) D9 = kdfD (hueL (hv tot) (colS last (List.take (i + 1) TT))) := by
      rintro v rfl
      rw [hDD, kdfD_put, hueL_put, hnx]; rfl
    rw [← hDD] at hl1 hl2 hf3
    clear hDD hnx hln
    obtain ⟨ca, hca⟩ : ∃ x, x = kdfLook (colS last (List.take i TT)) ti 0 := ⟨_, rfl⟩
    obtain ⟨cb, hcb⟩ : ∃ x, x = kdfLook (colS last (List.take i TT)) tj 0 := ⟨_, rfl⟩
    rw [← hca] at hl1 hput e1 e8
    rw [← hcb] at hl2 hput e2 e3 e8
    clear c1 c2 c3 c5 c6 hca hcb hok hst0 hf0 hd0 hd hD9
    have bd1 : 0 ≤ hv tot ca ∧ hv tot ca < 192 := fm_bd _ (by decide)
    have bd2 : 0 ≤ hv tot cb ∧ hv tot cb < 192 := fm_bd _ (by decide)
    obtain ⟨va, hva⟩ : ∃ x, x = hv tot ca := ⟨_, rfl⟩
    obtain ⟨vb, hvb⟩ : ∃ x, x = hv tot cb := ⟨_, rfl⟩
    obtain ⟨vc, hvc⟩ : ∃ x, x = hv tot (3 - ca - cb) := ⟨_, rfl⟩
    rw [← hva] at hl1 bd1 e1
    rw [← hvb] at hl2 bd2 e2 e3
    rw [← hvc] at hput e8
    clear hva hvb hvc
    k_steps
    unfold Stop
    refine' Assign_pair (n := 3) (R := R3 r1 g1 b1 r2 g2 b2) (J := LackJ (lackF r1 r2) (lackF g1 g2) (lackF b1 b2)) (by assumption) (by assumption) (by rfl) (by rfl) (by with_unfolding_all rfl) (by with_unfolding_all rfl) (by decide) (by rfl) (by decide) (by rfl) (by rfl) (by decide) (by decide) (.inl ⟨rfl, rfl⟩) (by rfl) (by rfl) ?hz ?turn3 ?fin3
    case hz =>
      k_steps
      unfold Stop
      refine' zip_src ?q1 ?q2 ?q3 ?q4 ?q5 ?q6 ?zq7
      case q1 => rfl
      case q2 => assumption
      case q3 => assumption
      case q4 => exact List.mem_cons_of_mem _ List.mem_cons_self
      case q5 => exact List.mem_cons_self
      case q6 => rfl
      case zq7 => rintro itq s2q ⟨gq, tkq, rfl⟩ hsq; exact ⟨⟨gq, tkq, rfl⟩, hsq.mono fun _ _ _ h => R3.of h⟩
    case turn3 =>
      rintro j ys x y C oC D m₂ h3 tk3 E3 hj hJ hR3 hN3 hma hmb F3 N3 hne3 hoff3
      rcases hR3 with ⟨rfl, t, u, rfl, rfl⟩ | ⟨rfl, t, u, rfl, rfl⟩ | ⟨rfl, t, u, rfl, rfl⟩
      · obtain rfl : ys = [] := by rcases hJ with ⟨_, h⟩ | ⟨h, _⟩ | ⟨h, _⟩ | ⟨h, _⟩ <;> first | exact h | cases h
        k_steps
        rw [lack_eq]; exact .inr (.inl ⟨rfl, _, rfl⟩)
      · obtain ⟨t1, rfl⟩ : ∃ t, ys = [.float (lackF r1 r2) t] := by rcases hJ with ⟨h, _⟩ | ⟨_, h⟩ | ⟨h, _⟩ | ⟨h, _⟩ <;> first | exact h | cases h
        k_steps
        rw [lack_eq]; exact .inr (.inr (.inl ⟨rfl, _, _, rfl⟩))
      · obtain ⟨t1, t2, rfl⟩ : ∃ t u, ys = [.float (lackF r1 r2) t, .float (lackF g1 g2) u] := by rcases hJ with ⟨h, _⟩ | ⟨h, _⟩ | ⟨_, h⟩ | ⟨h, _⟩ <;> first | exact h | cases h
        k_steps
        rw [lack_eq]; exact .inr (.inr (.inr ⟨rfl, _, _, _, rfl⟩))
    case fin3 =>
      intro D h3 tk3 ys F3 N3 hD3 hlen3 hJ
      obtain ⟨_, t1, t2, t3, rfl⟩ : 3 = 3 ∧ ∃ t u v, ys = [.float (lackF r1 r2) t, .float (lackF g1 g2) u, .float (lackF b1 b2) v] := by
        rcases hJ with ⟨h, _⟩ | ⟨h, _⟩ | ⟨h, _⟩ | h
        · cases h
        · cases h
        · cases h
        · exact h
      dsimp only
      have hDH := (hD3 _ (List.mem_cons_of_mem _ (List.mem_cons_of_mem _ (List.mem_cons_of_mem _ (List.mem_cons_self))))).symm
      have hIH := (off9 _ List.mem_cons_self).symm
      dsimp only at hDH hIH
      k_steps
      all_goals (refine ForPost.intro _ (by assumption) (by assumption) (fun p hp => List.mem_cons_of_mem _ (List.mem_cons_of_mem _ (List.mem_cons_of_mem _ (List.mem_cons_of_mem _ hp)))) (List.forall_mem_cons.mpr ⟨Ne.symm hIH, fun p hp => off9 p (List.mem_cons_of_mem _ hp)⟩) ⟨_, _, _, _, _, _, _, _, _, rfl, (by assumption), (by rw [← hput _ e8]; assumption), form7 (by rfl) (by rfl) (by rfl) (by rfl) (by rfl) (by rfl) (by rfl) (by intro z h1 h2 h3 h4 h5 h6 h7; simp only [h1, h2, h3, h4, h5, h6, h7, if_false])⟩)
end Mine
end
section
open PySem PySem.W PyProof.Rows PySem.Calls
set_option maxRecDepth 100000
set_option maxHeartbeats 4000000
namespace Mine
noncomputable def escC (c : Nat) : List Nat := if c = 38 then [38, 97, 109, 112, 59] else if c = 60 then [38, 108, 116, 59] else if c = 62 then [38, 103, 116, 59] else [c]
theorem esc_T (l : List Nat) : esc (T l) = T (l.flatMap escC) := by
  have e : ∀ c z l, repl c z (T l) = T (l.flatMap fun a => if a = c then z.cps.toList else [a]) := fun c z l => by
    unfold repl; rw [T_list]; rfl
  unfold esc
  rw [e, e, e]
  simp only [show (Str.ofString "&gt;").cps.toList = [38, 103, 116, 59] from by decide, show (Str.ofString "&lt;").cps.toList = [38, 108, 116, 59] from by decide, show (Str.ofString "&amp;").cps.toList = [38, 97, 109, 112, 59] from by decide]
  congr 1
  rw [List.flatMap_assoc, List.flatMap_assoc]
  congr 1
  funext a
  unfold escC
  by_cases h1 : a = 38
  · subst h1; rfl
  by_cases h2 : a = 60
  · subst h2; rfl
  by_cases h3 : a = 62
  · subst h3; rfl
  simp [h1, h2, h3]
theorem ampL_esc : ∀ n, (ampL n).flatMap escC = ampL n
  | 0 => rfl
  | n + 1 => by
    show ([97, 109, 112, 59] ++ ampL n).flatMap escC = _
    rw [List.flatMap_append, ampL_esc n]; rfl
theorem ampL_snoc : ∀ n, ampL n ++ [97, 109, 112, 59] = ampL (n + 1)
  | 0 => rfl
  | n + 1 => by
    show ([97, 109, 112, 59] ++ ampL n) ++ _ = [97, 109, 112, 59] ++ ampL (n + 1)
    rw [List.append_assoc, ampL_snoc n]
theorem sgT_esc {c : Nat} (hc : sgn c) (n : Nat) : (sgT c n).flatMap escC = sgT c (n + 1) := by
  rcases hc with rfl | rfl | rfl
  · show (38 :: ampL n).flatMap escC = 38 :: ampL (n + 1)
    rw [List.flatMap_cons, ampL_esc]; rfl
  · cases n with
    | zero => rfl
    | succ m =>
      show (38 :: (ampL m ++ [108, 116, 59])).flatMap escC = 38 :: (ampL (m + 1) ++ [108, 116, 59])
      rw [List.flatMap_cons, List.flatMap_append, ampL_esc]; rfl
  · cases n with
    | zero => rfl
    | succ m =>
      show (38 :: (ampL m ++ [103, 116, 59])).flatMap escC = 38 :: (ampL (m + 1) ++ [103, 116, 59])
      rw [List.flatMap_cons, List.flatMap_append, ampL_esc]; rfl
theorem rowT_esc : ∀ (l : List (Nat × Nat)), (∀ p ∈ l, sgn p.1) → (rowT l).flatMap escC = rowT (upR l)
  | [], _ => rfl
  | p :: r, h => by
    have e : rowT (p :: r) = sgT p.1 p.2 ++ rowT r := by simp [rowT]
    have e2 : rowT (upR (p :: r)) = sgT p.1 (p.2 + 1) ++ rowT (upR r) := by simp [rowT, upR]
    rw [e, e2, List.flatMap_append, sgT_esc (h p List.mem_cons_self), rowT_esc r fun q hq => h q (List.mem_cons_of_mem _ hq)]
noncomputable def okcL : List Nat := [38, 60, 62, 97, 109, 112, 59, 108, 116, 103]
noncomputable def okc (c : Nat) : Prop := c ∈ okcL
theorem okc_amp : ∀ a ∈ [97, 109, 112, 59], okc a := by unfold okc; decide
theorem okc_lt : ∀ a ∈ [108, 116, 59], okc a := by unfold okc; decide
theorem okc_gt : ∀ a ∈ [103, 116, 59], okc a := by unfold okc; decide
theorem okc_sg : okc 38 ∧ okc 60 ∧ okc 62 := by unfold okc; decide
theorem ampL_ok : ∀ n, ∀ a ∈ ampL n, okc a
  | 0, a, h => by cases h
  | n + 1, a, h => (List.mem_append.mp h).elim (okc_amp a) (ampL_ok n a)
theorem ampL_len : ∀ n, (ampL n).length = 4 * n
  | 0 => rfl
  | n + 1 => by show ([97, 109, 112, 59] ++ ampL n).length = _; rw [List.length_append, ampL_len n, Nat.mul_succ, Nat.add_comm]; rfl
theorem sg_okc {l : List Nat} (m : Nat) (hl : ∀ a ∈ l, okc a) (h3 : l.length = 3) : (∀ a ∈ 38 :: (ampL m ++ l), okc a) ∧ (38 :: (ampL m ++ l)).length ≤ 4 * (m + 1) + 1 := by
  refine ⟨fun a h => ?_, ?_⟩
  · rcases List.mem_cons.mp h with rfl | h
    · exact okc_sg.1
    · exact (List.mem_append.mp h).elim (ampL_ok _ a) (hl a)
  · rw [List.length_cons, List.length_append, ampL_len, h3]; omega
theorem sgT_ok {c : Nat} (hc : sgn c) (n : Nat) : (∀ a ∈ sgT c n, okc a) ∧ (sgT c n).length ≤ 4 * n + 1 := by
  rcases hc with rfl | rfl | rfl
  · refine ⟨fun a h => ?_, ?_⟩
    · rcases List.mem_cons.mp h with rfl | h
      · exact okc_sg.1
      · exact ampL_ok _ _ h
    · show (38 :: ampL n).length ≤ _; rw [List.length_cons, ampL_len]; exact Nat.le_refl _
  · cases n with
    | zero => exact ⟨fun a h => by rw [List.mem_singleton.mp h]; exact okc_sg.2.1, Nat.le_refl _⟩
    | succ m => exact sg_okc m okc_lt rfl
  · cases n with
    | zero => exact ⟨fun a h => by rw [List.mem_singleton.mp h]; exact okc_sg.2.2, Nat.le_refl _⟩
    | succ m => exact sg_okc m okc_gt rfl
theorem rowT_ok : ∀ (l : List (Nat × Nat)) (n : Nat), (∀ p ∈ l, sgn p.1 ∧ p.2 ≤ n) → (∀ a ∈ rowT l, okc a) ∧ (rowT l).length ≤ l.length * (4 * n + 1)
  | [], n, _ => ⟨fun a h => (nomatch h), Nat.zero_le _⟩
  | p :: r, n, h => by
    have e : rowT (p :: r) = sgT p.1 p.2 ++ rowT r := by simp [rowT]
    have h1 := sgT_ok (h p List.mem_cons_self).1 p.2
    have h2 := rowT_ok r n fun q hq => h q (List.mem_cons_of_mem _ hq)
    have h3 := (h p List.mem_cons_self).2
    rw [e]
    refine ⟨fun a ha => (List.mem_append.mp ha).elim (h1.1 a) (h2.1 a), ?_⟩
    rw [List.length_append, List.length_cons, Nat.succ_mul, Nat.add_comm]
    exact Nat.add_le_add h2.2 (Nat.le_trans h1.2 (Nat.add_le_add_right (Nat.mul_le_mul_left 4 h3) 1))
theorem okc_safe : ∀ c ∈ okcL, c ≠ 34 ∧ c ≠ 13 ∧ c ≠ 10 ∧ c ≠ 9 := by decide
theorem okc_ok : ∀ c ∈ okcL, OkC c := by unfold OkC; decide
noncomputable def rowOk (l : List (Nat × Nat)) : Bool := (l.all fun p => decide (p.1 = 38 ∨ p.1 = 60 ∨ p.1 = 62) && decide (p.2 ≤ 8)) && decide (l.length ≤ 8)
theorem rowOk_at {l : List (Nat × Nat)} (h : rowOk l = true) : (∀ p ∈ l, sgn p.1 ∧ p.2 ≤ 8) ∧ l.length ≤ 8 := by
  unfold rowOk at h
  rw [Bool.and_eq_true] at h
  refine ⟨fun p hp => ?_, of_decide_eq_true h.2⟩
  have := List.all_eq_true.mp h.1 p hp
  simp only [Bool.and_eq_true, decide_eq_true_eq] at this
  exact this
theorem row_fit {l : List (Nat × Nat)} (h : rowOk l = true) : (T (rowT l)).length ≤ 1000 ∧ Safe (T (rowT l)) ∧ OkT (T (rowT l)) := by
  obtain ⟨h1, h2⟩ := rowOk_at h
  have h3 := rowT_ok l 8 h1
  refine ⟨?_, fun c hcc => ?_, fun c hcc => ?_⟩
  · show (rowT l).toArray.size ≤ 1000
    rw [List.size_toArray]
    omega
  · rw [T_list] at hcc
    exact okc_safe c (h3.1 c hcc)
  · rw [T_list] at hcc
    exact okc_ok c (h3.1 c hcc)
theorem rowT_app (x y : List (Nat × Nat)) : rowT (x ++ y) = rowT x ++ rowT y := by simp [rowT]
theorem row_join {a b : List (Nat × Nat)} (ha : rowOk a = true) (hb : rowOk b = true) (c : Int) : esc (T (rowT a)) ++ sgC c ++ esc (T (rowT b)) = T (rowT (upR a ++ [(codeC c, 0)] ++ upR b)) := by
  rw [esc_T, esc_T, rowT_esc a fun p hp => ((rowOk_at ha).1 p hp).1, rowT_esc b fun p hp => ((rowOk_at hb).1 p hp).1, sgC_code, T_append, T_append, rowT_app, rowT_app]
  congr 2
  congr 1
  unfold codeC
  split
  · rfl
  split
  · rfl
  · rfl
noncomputable def RowI (c : List (Int × List (Nat × Nat))) (k : Int) : Bool := rowOk (lookR c k)
/-- what the walk of the table asks -/
noncomputable def tbOk (last : Int) (ts : List (Int × Int × Int)) : Bool :=
  ((List.range ts.length).all fun m => match ts.reverse[m]? with
    | some (i, k, j) => (RowI ((ts.reverse.take m).foldl (rowStep (colF last ts)) []) (10 * i + k)) && (RowI ((ts.reverse.take m).foldl (rowStep (colF last ts)) []) (10 * k + j)) && decide (((ts.reverse.take m).foldl (rowStep (colF last ts)) []).length ≤ 20) && decide (0 ≤ i ∧ i < k ∧ k < j ∧ j ≤ last) && decide (((ts.reverse.take m).flatMap hdrT).length ≤ 900)
    | none => false) &&
  (rowOk (rowFin last ts) && ((rowsS last ts).any fun p => decide (p.1 = last)) && decide ((hdrS ts).length ≤ 900))
theorem tb5 : ∀ t ∈ allT 4 [(0, 5)], tbOk 5 t = true := by decide +kernel
theorem tb6 : ∀ t ∈ allT 5 [(0, 6)], tbOk 6 t = true := by decide +kernel
theorem tb7 : ∀ t ∈ allT 6 [(0, 7)], tbOk 7 t = true := by decide +kernel
theorem tbOk_turn {last : Int} {ts : List (Int × Int × Int)} (h : tbOk last ts = true) {m : Nat} {i k j : Int} (hm : ts.reverse[m]? = some (i, k, j)) :
    rowOk (lookR ((ts.reverse.take m).foldl (rowStep (colF last ts)) []) (10 * i + k)) = true ∧ rowOk (lookR ((ts.reverse.take m).foldl (rowStep (colF last ts)) []) (10 * k + j)) = true ∧ ((ts.reverse.take m).foldl (rowStep (colF last ts)) []).length ≤ 20 ∧ (0 ≤ i ∧ i < k ∧ k < j ∧ j ≤ last) ∧ ((ts.reverse.take m).flatMap hdrT).length ≤ 900 := by
  unfold tbOk at h
  rw [Bool.and_eq_true] at h
  have hl : m < ts.length := by simpa using (List.getElem?_eq_some_iff.mp hm).1
  have h1 := List.all_eq_true.mp h.1 m (List.mem_range.mpr hl)
  rw [hm] at h1
  simp only [Bool.and_eq_true, decide_eq_true_eq] at h1
  obtain ⟨⟨⟨⟨a, b⟩, c⟩, d⟩, e⟩ := h1
  exact ⟨a, b, c, d, e⟩
theorem tbOk_end {last : Int} {ts : List (Int × Int × Int)} (h : tbOk last ts = true) : rowOk (rowFin last ts) = true ∧ ((rowsS last ts).any fun p => decide (p.1 = last)) = true ∧ (hdrS ts).length ≤ 900 := by
  unfold tbOk at h
  rw [Bool.and_eq_true] at h
  have h1 := h.2
  simp only [Bool.and_eq_true, decide_eq_true_eq] at h1
  exact ⟨h1.1.1, h1.1.2, h1.2⟩
theorem tab_next {α β : Type} {f : β → α → β} {b : β} {l : List α} {i : Nat} {t : α} (h : l[i]? = some t) : (l.take (i + 1)).foldl f b = f ((l.take i).foldl f b) t := by
  rw [List.take_add_one, h, List.foldl_append]; rfl
theorem flat_next {α β : Type} {f : α → List β} {l : List α} {i : Nat} {t : α} (h : l[i]? = some t) : (l.take (i + 1)).flatMap f = (l.take i).flatMap f ++ f t := by
  rw [List.take_add_one, h, List.flatMap_append]; simp
/-- letters and numbers that the table writes -/
theorem let_ok {c k : Int} (hc : 0 ≤ c ∧ c ≤ 7) : (letC c k).length ≤ 300 ∧ OkT (letC c k) := by
  have : ∀ n : Nat, n < 8 → ((Txt.item (Str.ofString "abcdefgh") (n : Int)).length ≤ 300 ∧ OkT (Txt.item (Str.ofString "abcdefgh") (n : Int))) ∧ ((Txt.upper (Txt.item (Str.ofString "abcdefgh") (n : Int))).length ≤ 300 ∧ OkT (Txt.upper (Txt.item (Str.ofString "abcdefgh") (n : Int)))) := by
    unfold OkT OkC; decide +kernel
  have h := this c.toNat (by omega)
  rw [Int.toNat_of_nonneg hc.1] at h
  unfold letC
  split
  · exact h.2
  · exact h.1
theorem num_ok {k : Int} (hk : 0 ≤ k ∧ k ≤ 7) : (Str.ofString (toString k)).length ≤ 1000 ∧ OkT (Str.ofString (toString k)) := by
  have : ∀ n : Nat, n < 8 → ((Str.ofString (toString (n : Int))).length ≤ 1000 ∧ OkT (Str.ofString (toString (n : Int)))) := by
    unfold OkT OkC; decide +kernel
  have h := this k.toNat (by omega)
  rw [Int.toNat_of_nonneg hk.1] at h
  exact h
end Mine
end
section
open PySem PySem.W PyProof.Rows PySem.Calls
set_option maxRecDepth 100000
set_option maxHeartbeats 4000000
namespace Mine
/-- the state of the table between the turns -/
noncomputable def TabJ (w : World) (x dx hl tA Dq : Addr) (oQ : Obj) (LD : List (Addr × Obj)) (m0 : Str → Option Value) (col : Int → Int) (RT : List (Int × Int × Int)) (i : Nat) (m₁ : Str → Option Value) (nw : List (Addr × Obj)) : Prop :=
  ∃ us c td nd oT kvs tl u1 u2 u3 u4 u5 u6 u7 u8, nw = (x, instObj 182 dx) :: (dx, hdDict w hl td nd) :: (hl, listOf us.toArray c) :: (tA, oT) :: (tl ++ (Dq, oQ) :: LD) ∧ (∀ p ∈ tl, p.1 ≠ hl ∧ p.1 ≠ tA) ∧
    DatAll tl us (hdDat ((RT.take i).flatMap hdrT)) ∧ oT.IsDictOf (intKind PySem.Challenge.rw_ty0056_01.prog w) kvs ∧ PyProof.V.FlatPairs PyData.int kvs (txtD ((RT.take i).foldl (rowStep col) [])) ∧
    m₁ = fun z => if z = Str.ofString "behind" then u1 else if z = Str.ofString "before" then u2 else if z = Str.ofString "hand" then u3 else if z = Str.ofString "letter" then u4 else if z = Str.ofString "corner" then u5 else if z = Str.ofString "j" then u6 else if z = Str.ofString "k" then u7 else if z = Str.ofString "i" then u8 else m0 z
theorem tab_start {h₀ h : Heap} {L Dq tA hl x dx : Addr} {oQ oT oH oX oD : Obj} {LD : List (Addr × Obj)} (N : News h₀ L h ((Dq, oQ) :: (tA, oT) :: (hl, oH) :: (x, oX) :: (dx, oD) :: LD)) : News h₀ L h ((x, oX) :: (dx, oD) :: (hl, oH) :: (tA, oT) :: ([] ++ (Dq, oQ) :: LD)) :=
  news_sub N fun p hp => by simp only [List.mem_cons, List.nil_append] at hp ⊢; rcases hp with h | h | h | h | h | h <;> simp [h]
theorem dat_rev {news : List (Addr × Obj)} : ∀ {vs : List Value} {ds : List Dat}, DatAll news vs ds → DatAll news vs.reverse ds.reverse
  | _, _, .nil => .nil
  | _, _, .cons h r => by
    rw [List.reverse_cons, List.reverse_cons]
    exact (dat_rev r).append (.one h)
noncomputable def IfLet (g : Heap) (L : Addr) (m : Str → Option Value) (news : List (Addr × Obj)) (s : Shared) (y : Str) (f : Flow) (s' : Shared) : Prop :=
  f = .next ∧ ∃ t h' tk, s' = { s with heap := h', toks := tk } ∧ Fr g L h' (fun z => if z = Str.ofString "letter" then some (.str y t) else m z) ∧ News g L h' news
section
variable {M : Model} {A : Around} {env : Env} {E : Value → Shared → Prop} {s : Shared} {g : Heap} {L : Addr} {m : Str → Option Value} {news : List (Addr × Obj)} {Q : Flow → Shared → Prop}
theorem if_let {st : Stmt} {c k : Int} {tc tk : Tok} (F : Fr g L s.heap m) (N : News g L s.heap news) (hc : m (Str.ofString "corner") = some (.int c tc)) (hk : m (Str.ofString "k") = some (.int k tk))
    (h : wpAny M A (exec st env) (IfLet g L m news s (letC c k)) E s)
    (q : ∀ t h' tk, Fr g L h' (fun z => if z = Str.ofString "letter" then some (.str (letC c k) t) else m z) → News g L h' news → Q .next { s with heap := h', toks := tk }) : wpAny M A (exec st env) Q E s :=
  cut h fun f s' ⟨hf, t, h', tk, e, F', N'⟩ => by
    subst hf; subst e
    exact q t h' tk F' N'
theorem let_end {y y' : Str} {t : Tok} {h' : Heap} {tk : Nat} {m' : Str → Option Value} (e : y' = y) (F : Fr g L h' m') (N : News g L h' news) (hm : m' (Str.ofString "letter") = some (.str y' t)) (hr : ∀ z, z ≠ Str.ofString "letter" → m' z = m z) :
    IfLet g L m news s y .next { s with heap := h', toks := tk } := by
  subst e
  refine ⟨rfl, t, h', tk, rfl, ?_, N⟩
  have : (fun z => if z = Str.ofString "letter" then some (.str y' t) else m z) = m' := by
    funext z
    by_cases hz : z = Str.ofString "letter"
    · subst hz; rw [if_pos rfl, hm]
    · rw [if_neg hz, hr z hz]
  rw [this]; exact F
end
theorem sign_item {prog : Program} {w : World} {A : Around} {E : Value → Shared → Prop} {s : Shared} {h₀ : Heap} {L sD : Addr} {news nn : List (Addr × Obj)} {value slice : PySem.Expr} {ss : List Value} {n1 : Nat} {last k : Int} {TT : List (Int × Int × Int)} {t : Tok} {Q : Value → Shared → Prop}
    (N : News h₀ L s.heap news) (hm : (sD, listOf ss.toArray n1) ∈ news) (hd : DatAll nn ss ((signL last TT).map Dat.str)) (hk : 0 ≤ k ∧ k ≤ last) (hk63 : k < 2 ^ 63) (h : ∀ u, Q (.str (sgC (colF last TT k)) u) s)
    (hs : subscripted slice false (.ref sD) (.int k t) = operate [.ref sD, .int k t] (getItem (.ref sD) (.int k t)) := by with_unfolding_all rfl) : wpAny (model prog w) A (subscriptTail value slice (.ref sD) (.int k t)) Q E s := by
  have hl : s.heap.IsList sD ss.toArray := ⟨_, (N _ hm).1, rfl, _, rfl⟩
  have hlen : ss.length = (last + 1).toNat := by rw [hd.length]; simp [signL]
  have hi : k.toNat < ss.length := by omega
  obtain ⟨hi2, hD⟩ := dat_at hd (List.getElem?_eq_getElem hi)
  have e : (signL last TT)[k.toNat] = sgC (colF last TT k) := by
    have e2 : ∀ (n : Nat) (hn : n < (signL last TT).length), (signL last TT)[n] = sgC (kdfLook (colS last TT) (n : Int) 0) := by
      intro n hn; simp [signL]
    rw [e2, Int.toNat_of_nonneg hk.1]; rfl
  rw [e] at hD
  have hv : ∃ u, ss[k.toNat] = .str (sgC (colF last TT k)) u := by
    revert hD
    generalize ss[k.toNat] = v
    intro hD
    cases hD
    exact ⟨_, rfl⟩
  obtain ⟨u, hu⟩ := hv
  exact tail_any hl.typeIs slot_list_getitem.lookup (wpAny_getItem_list hl hk.1 hk63 (by rw [List.getElem?_toArray, List.getElem?_eq_getElem hi, hu]) (h u)) hs
theorem text_get {prog : Program} {w : World} {A : Around} {E : Value → Shared → Prop} {s : Shared} {h₀ : Heap} {L d : Addr} {news : List (Addr × Obj)} {o : Obj} {kvs : List (Int × Value)} {c : List (Int × List (Nat × Nat))} {i : Int} {t t2 : Tok} {y : Str} {Q : Value → Shared → Prop} (N : News h₀ L s.heap news) (hm : (d, o) ∈ news) (lo : (d == sysModules) = false) (hd : o.IsDictOf (intKind prog w) kvs)
    (hf : PyProof.V.FlatPairs PyData.int kvs (txtD c)) (hy : y = Str.ofString "") (h : ∀ u, Q (.str (T (rowT (lookR c i))) u) { s with toks := s.toks + 1 }) :
    wpAny (model prog w) A (call (.builtin "dict.get") [.ref d, .int i t, .str y t2]) Q E s :=
  call_get2_intTab (TabAt.ofObj lo (N _ hm).1 hd hf) (dd := PyData.str y) (by k_flat) fun v hv => by
    rw [txtD_look] at hv
    by_cases hc : (c.any fun p => decide (p.1 = i)) = true
    · rw [if_pos hc] at hv
      cases hv s.heap
      exact h _
    · rw [if_neg hc] at hv
      have hc : (c.any fun p => decide (p.1 = i)) = false := Bool.eq_false_iff.mpr hc
      have h2 := h
      rw [lookR_none hc] at h2
      have e : T (rowT []) = y := by rw [hy]; decide
      rw [e] at h2
      cases hv s.heap
      exact h2 _
theorem text_item {prog : Program} {w : World} {A : Around} {E : Value → Shared → Prop} {s : Shared} {h₀ : Heap} {L d : Addr} {news : List (Addr × Obj)} {value slice : PySem.Expr} {o : Obj} {kvs : List (Int × Value)} {c : List (Int × List (Nat × Nat))} {i : Int} {t : Tok} {Q : Value → Shared → Prop} (N : News h₀ L s.heap news) (hm : (d, o) ∈ news) (lo : (d == sysModules) = false) (hd : o.IsDictOf (intKind prog w) kvs)
    (hf : PyProof.V.FlatPairs PyData.int kvs (txtD c)) (hc : (c.any fun p => decide (p.1 = i)) = true) (h : ∀ u, Q (.str (T (rowT (lookR c i))) u) { s with toks := s.toks + 1 })
    (hs : subscripted slice false (.ref d) (.int i t) = operate [.ref d, .int i t] (getItem (.ref d) (.int i t)) := by with_unfolding_all rfl) (hg : ∀ r, letTemporaryGo value (.ref d) r = pure () := by intro _; with_unfolding_all rfl) :
    wpAny (model prog w) A (subscriptTail value slice (.ref d) (.int i t)) Q E s :=
  item_intTab (TabAt.ofObj lo (N _ hm).1 hd hf) (by rw [txtD_look, if_pos hc]) (fun v hv => by cases hv s.heap; exact h _) hs hg
/-- the state of the inner loop between the turns -/
noncomputable def LetJ (w : World) (x dx hl tA Dq I D : Addr) (oI oD oQ oT : Obj) (LD : List (Addr × Obj)) (m0 : Str → Option Value) (H0 : List (Str × Str)) (tk : Int) (cs : List Int) (j : Nat) (m₁ : Str → Option Value) (nw : List (Addr × Obj)) : Prop :=
  ∃ us c td nd tl u1 u2, nw = (D, oD) :: (I, oI) :: (x, instObj 182 dx) :: (dx, hdDict w hl td nd) :: (hl, listOf us.toArray c) :: (tA, oT) :: (tl ++ (Dq, oQ) :: LD) ∧ (∀ p ∈ tl, p.1 ≠ hl ∧ p.1 ≠ tA ∧ p.1 ≠ I) ∧
    DatAll tl us (hdDat (H0 ++ (cs.take j).map fun c => (letC c tk, Str.ofString (toString tk)))) ∧ m₁ = fun z => if z = Str.ofString "letter" then u1 else if z = Str.ofString "corner" then u2 else m0 z
theorem three_at {a b c : Int} {t u v : Tok} {j : Nat} {x : Value} (h : [Value.int a t, .int b u, .int c v][j]? = some x) : ∃ y z, [a, b, c][j]? = some y ∧ x = .int y z ∧ (y = a ∨ y = b ∨ y = c) := by
  match j, h with
  | 0, h => cases h; exact ⟨_, _, rfl, rfl, .inl rfl⟩
  | 1, h => cases h; exact ⟨_, _, rfl, rfl, .inr (.inl rfl)⟩
  | 2, h => cases h; exact ⟨_, _, rfl, rfl, .inr (.inr rfl)⟩
theorem row_esc_len {l : List (Nat × Nat)} (h : rowOk l = true) : (esc (T (rowT l))).length ≤ 300 := by
  obtain ⟨h1, h2⟩ := rowOk_at h
  rw [esc_T, rowT_esc l fun p hp => (h1 p hp).1]
  have h3 := rowT_ok (upR l) 9 fun p hp => by
    obtain ⟨q, hq, rfl⟩ := List.mem_map.mp hp
    exact ⟨(h1 q hq).1, Nat.succ_le_succ (h1 q hq).2⟩
  have h4 : (upR l).length = l.length := by simp [upR]
  show (rowT (upR l)).toArray.size ≤ 300
  rw [List.size_toArray]
  omega
theorem sg_len (c : Int) : (sgC c).length ≤ 1 := by
  unfold sgC
  split
  · decide
  split <;> decide
theorem app_len {a b : Str} {n m : Nat} (ha : a.length ≤ n) (hb : b.length ≤ m) : (a ++ b).length ≤ n + m := by rw [PySem.Str.length_append]; omega
theorem led_end {t q a b c d : Addr × Obj} {tl r : List (Addr × Obj)} : ∀ p ∈ a :: b :: c :: ((t :: tl) ++ r), p ∈ t :: a :: b :: c :: d :: (tl ++ q :: r) := by
  intro p hp
  simp only [List.mem_cons, List.cons_append, List.mem_append] at hp ⊢
  rcases hp with h | h | h | h | h | h <;> simp [h]
theorem upd_x {w : World} {x dx hl : Addr} {td : Tok} {nd : Nat} {oH : Obj} {r : List (Addr × Obj)} (h1 : x ≠ hl) (h2 : dx ≠ hl) (h : ∀ p ∈ r, p.1 ≠ hl) :
    UpdF hl oH ((x, instObj 182 dx) :: (dx, hdDict w hl td nd) :: (hl, oH) :: r) (fun o' => (x, instObj 182 dx) :: (dx, hdDict w hl td nd) :: (hl, o') :: r) := .tail h1 (.tail h2 (.head h))
theorem tri7 {i k j last : Int} (h : 0 ≤ i ∧ i < k ∧ k < j ∧ j ≤ last) (hl : last ≤ 7) : (0 ≤ i ∧ i ≤ 7) ∧ (0 ≤ k ∧ k ≤ 7) ∧ (0 ≤ j ∧ j ≤ 7) ∧ (0 ≤ k ∧ k ≤ last) ∧ k < 2 ^ 63 := by omega
theorem fd256 {t : Int} (h : 0 ≤ t ∧ t ≤ 300000) : 0 ≤ t.fdiv 256 ∧ t.fdiv 256 ≤ 1172 := by rw [Int.fdiv_eq_ediv_of_nonneg _ (by decide)]; omega
theorem led_move {a b c d e f g t : Addr × Obj} {tl r : List (Addr × Obj)} : ∀ p ∈ a :: b :: c :: d :: e :: f :: g :: ((t :: tl) ++ r), p ∈ t :: a :: b :: c :: d :: e :: f :: g :: (tl ++ r) := by
  intro p hp
  simp only [List.mem_cons, List.cons_append] at hp ⊢
  rcases hp with h | h | h | h | h | h | h | h | h <;> simp [h]
theorem let_next {α β : Type} {f : α → β} {H0 : List β} {cs : List α} {j : Nat} {c : α} (h : cs[j]? = some c) : H0 ++ (cs.take (j + 1)).map f = (H0 ++ (cs.take j).map f) ++ [f c] := by
  rw [List.take_add_one, h, List.map_append, List.append_assoc]; rfl
theorem off_led {I2 D I x dx hl tA Dq : Addr} {oD oI oX oDx oH oT oQ o1 o2 o3 o4 o5 o6 : Obj} {t : Addr × Obj} {tl LD : List (Addr × Obj)} (h : ∀ p ∈ (D, oD) :: (I, oI) :: (x, oX) :: (dx, oDx) :: (hl, oH) :: (tA, oT) :: (tl ++ (Dq, oQ) :: LD), p.1 ≠ I2) (ht : t.1 ≠ I2) :
    ∀ p ∈ (D, o1) :: (I, o2) :: (x, o3) :: (dx, o4) :: (hl, o5) :: (tA, o6) :: ((t :: tl) ++ (Dq, oQ) :: LD), p.1 ≠ I2 := by
  intro p hp
  rcases List.mem_cons.mp hp with rfl | hp
  · exact h (D, oD) List.mem_cons_self
  have h := fun p hp => h p (List.mem_cons_of_mem _ hp)
  rcases List.mem_cons.mp hp with rfl | hp
  · exact h (I, oI) List.mem_cons_self
  have h := fun p hp => h p (List.mem_cons_of_mem _ hp)
  rcases List.mem_cons.mp hp with rfl | hp
  · exact h (x, oX) List.mem_cons_self
  have h := fun p hp => h p (List.mem_cons_of_mem _ hp)
  rcases List.mem_cons.mp hp with rfl | hp
  · exact h (dx, oDx) List.mem_cons_self
  have h := fun p hp => h p (List.mem_cons_of_mem _ hp)
  rcases List.mem_cons.mp hp with rfl | hp
  · exact h (hl, oH) List.mem_cons_self
  have h := fun p hp => h p (List.mem_cons_of_mem _ hp)
  rcases List.mem_cons.mp hp with rfl | hp
  · exact h (tA, oT) List.mem_cons_self
  have h := fun p hp => h p (List.mem_cons_of_mem _ hp)
  rcases List.mem_cons.mp hp with rfl | hp
  · exact ht
  · exact h p hp
theorem spec_table {w mean mg mb loose gd cn cs a ccd cl outer A₀ base h₀ L m news s Q E} (tD sD : Addr) (ts ss : List Value) (TT : List (Int × Int × Int)) (n0 n1 : Nat) (last tot : Int) (t1 t2 : Tok)
    (B : Below A₀ base outer h₀) (F : Fr h₀ L s.heap m) (X : (hd.heap_1 w.params).In h₀) (N : News h₀ L s.heap news) (T : Top hdView loose mean mg mb h₀) (hk : cs.kind = .function)
    (hm : (tD, listOf ts.toArray n0) ∈ news) (hd : DatAll news ts (TT.map triDat)) (hsm : (sD, listOf ss.toArray n1) ∈ news) (hsd : DatAll news ss ((signL last TT).map Dat.str)) (hl : 5 ≤ last ∧ last ≤ 7) (ht : 0 ≤ tot ∧ tot ≤ 300000) (hok : sgOk last TT = true) (hTl : TT.length ≤ 8) (htb : tbOk last TT = true)
    (ret : ∀ x dx hl us td nd c tl h' tk', Fr h₀ L h' m → News h₀ L h' ((x, instObj 182 dx) :: (dx, hdDict w hl td nd) :: (hl, listOf us.toArray c) :: (tl ++ news)) → x ≠ hl → dx ≠ hl → (∀ p ∈ tl ++ news, p.1 ≠ hl) → DatAll tl us (hdDat (hdrS TT ++ [(Str.ofString "Row", PySem.Str.mk (rowT (rowFin last TT)).toArray)])) → Q (.ref x) { s with heap := h', toks := tk' }) :
    wpAny (model PySem.Challenge.rw_ty0056_01.prog w) (ktrTop 330 2000 gd cn cs L a ccd cl outer) (call (.ref 282) [.ref tD, .ref sD, .int last t1, .int tot t2]) Q E s := by
  k_with_none
  w_top off
  k_with "k_all" => assumption
  k_with "k_mem" => assumption
  k_with "call ref" => ((with_reducible show wpAny _ _ (call (Value.ref 179) _) _ _ _); refine Stop.mk ?_)
  k_with "call ref" => ((with_reducible show wpAny _ _ (call (Value.ref 275) _) _ _ _); refine Stop.mk ?_)
  k_with "exec For Name Tuple cons nil" => (k_here; k_dflt (refine wpAny_For ?_ (by intro _; rfl)))
  k_with "exec For Tuple Name cons nil" => (k_here; k_dflt (refine wpAny_For ?_ (by intro _; rfl)))
  k_with "exec For Tuple Subscript cons nil" => (k_here; k_dflt (refine wpAny_For ?_ (by intro _; rfl)))
  k_with "subscriptTail Name Slice ref ref" => (k_here; (with_reducible show wpAny _ _ (subscriptTail _ (PySem.Expr.Slice none none (some _) _) (Value.ref _) (Value.ref _)) _ _ _); (rename News _ _ _ _ => NNq); k_dflt (refine' krv_lit (its := ts.toArray) (zs := ts.reverse) ?rF ?rN ?rl ?rk ?re ?_ ?rs ?rt ?rz; (case rF => k_asm); (case rN => exact NNq); (case rl => exact ⟨_, (NNq _ (List.mem_cons_of_mem _ (List.mem_cons_of_mem _ (List.mem_cons_of_mem _ (List.mem_cons_of_mem _ hm))))).1, rfl, _, rfl⟩); (case rk => exact IsPart.int _ _); (case re => rfl); (case rs => with_unfolding_all rfl); (case rt => kmk_pure); (case rz => (rw [List.size_toArray, sizeLine_eq]; omega))); intro Dq h'q F'q N'q l1q; (try k_lt l1q))
  k_with "call builtin:dict.get" => (k_here; k_dflt (refine' text_get ?gn1 ?gn2 ?gn3 ?gn4 ?gn5 ?gn6 ?_; (case gn1 => k_asm); (case gn2 => k_mem); (case gn3 => with_reducible assumption); (case gn4 => with_reducible assumption); (case gn5 => with_reducible assumption); (case gn6 => rfl)); intro t7q; (try dsimp only); (try k_fold))
  k_with "call ref" => (k_here; (with_reducible show wpAny _ _ (call (Value.ref 275) _) _ _ _); k_dflt (refine' room ?d1 ?d2 (spec_written _ _ _ _ ?k1 ?k2 ?k3 ?k4 ?k5 ?k6 ?k7 ?k8 ?k9 ?k10 ?_); (case d1 => exact Nat.le_of_ble_eq_true rfl); (case d2 => exact Nat.le_of_ble_eq_true rfl); (case k1 => k_asm); (case k2 => k_asm); (case k3 => k_asm); (case k4 => k_asm); (case k5 => k_asm); (case k6 => first | exact rfl | assumption); (case k7 => first | exact fit1.1 | exact fit2.1); (case k8 => first | exact fit1.2.1 | exact fit2.2.1); (case k9 => exact Nat.le_add_left 1 _); (case k10 => (constructor <;> omega))); intro t9q h9q tk9q htk9q F9q N9q; (try dsimp only); (try k_fold))
  k_with "subscriptTail Name Name ref int" => (k_here; k_dflt (refine' sign_item ?q1 ?q2 ?q3 ?q4 ?q5 ?_ (by with_unfolding_all rfl); (case q1 => k_asm); (case q2 => k_mem); (case q3 => exact hsd); (case q4 => exact hkl); (case q5 => exact hk63)); intro t6q; (try dsimp only); (try k_fold))
  k_with "subscriptTail Name Name ref int" => (k_here; k_dflt (refine' text_item ?q1 ?q2 ?q3 ?q4 ?q5 ?q6 ?_ (by with_unfolding_all rfl) (by intro _; with_unfolding_all rfl); (case q1 => k_asm); (case q2 => k_mem); (case q3 => with_reducible assumption); (case q4 => with_reducible assumption); (case q5 => exact hf4); (case q6 => exact hany)); intro t6q; (try dsimp only); (try k_fold))
  k_with "k_mem" => (repeat' (first | exact hsm | exact List.mem_cons_self | (refine List.mem_append.mpr (.inr ?_)) | refine List.mem_cons_of_mem _ ?_))
  k_with "setItem ref int" => (k_here; k_dflt (refine' setItem_K PyProof.V.same_int (intKind_is _ _ _ _) ?siv ?siF ?siN ?siU ?sid ?sif ?_ ?siz; (case siF => k_asm); (case siN => k_asm); (case siU => exact UpdF.tail y1 (UpdF.tail y2 (UpdF.tail q4 (UpdF.tail q5 (UpdF.tail q3 (UpdF.head y3)))))); (case sid => with_reducible assumption); (case sif => with_reducible assumption); (case siz => exact Nat.le_trans hDl (by rw [sizeLine_eq]; decide)); (case siv => k_flat)); intro h'q o'q F'q N'q hd'q hf'q; (try dsimp only at N'q))
  k_with "assign Tuple" => (k_here; k_dflt (refine' assign_three ?q0 ?q1 ?q2 ?q3 ?q4 ?q5 ?q6 ?q7 ?_; (case q1 => k_asm); (case q2 => k_asm); (case q3 => exact List.mem_cons_of_mem _ (List.mem_cons_of_mem _ (List.mem_cons_of_mem _ (List.mem_cons_of_mem _ (List.mem_cons_of_mem _ (List.mem_append.mpr (.inr (List.mem_cons_of_mem _ hTm)))))))); (case q0 => rfl); (case q4 => rfl); (case q5 => rfl); (case q6 => rfl); (case q7 => rfl)); intro h8q tk8q F8q N8q; (try dsimp only); (try k_fold))
  k_with "my letend" => (refine' let_end ?e ?F ?N ?m ?r; (case F => k_asm); (case N => k_asm); (case m => exact rfl); (case e => first | exact (if_pos (by assumption)).symm | exact (if_neg (by assumption)).symm); (case r => intro z9q hz9q; first | rfl | exact if_neg hz9q | (simp [hz9q]; done)))
  k_with "exec If Compare" => (k_here; (with_reducible show wpAny _ _ (exec (Stmt.If (Expr.Compare (Expr.BinOp _ _ _ _) _ _ _) _ _ _) _) _ _ _); (fail_if_success (with_reducible show wpAny _ _ _ (IfLet _ _ _ _ _ _) _ _)); (refine' if_let ?F ?N ?c ?k ?h ?_; (case F => k_asm); (case N => k_asm); (case c => exact rfl); (case k => exact rfl); (case h => (k_steps; all_goals walk_at "my letend")); (intro t9q h9q tk9q F9q N9q; (try dsimp only); (try k_fold))))
  have hul : ts.length = TT.length := by rw [hd.length]; simp
  revert X; k_fill; intro X
  refine wpAny_call ?_
  k_dflt cell_enter
  k_steps
  rename News _ _ _ _ => NN
  rename Fr _ _ _ _ => FF
  refine' for_led (items := []) (n := 0) ?hm1 (fun i m₁ nw => m₁ = _ ∧ nw = _) (by rfl) FF NN ⟨rfl, rfl⟩ ?hS1 ?go1 ?hE1 ?turn1 ?done1
  case hm1 => exact List.mem_cons_self
  case hS1 => rintro i m₁ nw ⟨_, rfl⟩; exact List.mem_cons_self
  case go1 => exact fun v hv => nomatch hv
  case hE1 => passes_own
  case turn1 => intro i v m₁ nw I oI h tk hv; cases hv
  case done1 =>
    rintro m₁ nw h tk ⟨rfl, rfl⟩ F9 N9
    (try dsimp only)
    k_steps
    rename Obj.IsDictOf (intKind _ _) _ [] => hd0
    rename PyProof.V.FlatPairs PyData.int [] [] => hf0
    rename News _ _ _ _ => N8
    rename Fr _ _ _ _ => F8
    have N8 := tab_start N8
    have hA1 := (by assumption : _ ∧ _ ∧ AllLt _ news)
    have hA2 := (by assumption : _ ∧ _ ∧ _ ∧ AllLt _ news)
    have hA3 := (by assumption : _ ∧ _ ∧ _ ∧ _ ∧ AllLt _ news)
    have q1 := Nat.ne_of_lt hA1.1
    have q2 := Nat.ne_of_lt hA1.2.1
    have q3 := Nat.ne_of_lt hA2.1
    have q4 := Nat.ne_of_lt hA2.2.1
    have q5 := Nat.ne_of_lt hA2.2.2.1
    have q6 := Nat.ne_of_gt hA3.1
    have q7 := Nat.ne_of_gt hA3.2.1
    have q8 := fun p hp => Nat.ne_of_lt (allLt_mem hA1.2.2 p hp)
    have q9 := fun p hp => Nat.ne_of_lt (allLt_mem hA2.2.2.2 p hp)
    have hdr := dat_rev hd
    rw [← List.map_reverse] at hdr
    refine' for_led (items := ts.reverse) (n := 0) ?hm2 (TabJ w _ _ _ _ _ _ _ _ (colF last TT) TT.reverse) (by rfl) F8 N8 ⟨[], _, _, _, _, [], [], _, _, _, _, _, _, _, _, rfl, (fun _ h => nomatch h), .nil, hd0, hf0, form8 rfl rfl rfl rfl rfl rfl rfl rfl ?g0⟩ ?hS2 ?go2 ?hE2 ?turn2 ?done2
    case hm2 => exact List.mem_cons_of_mem _ (List.mem_cons_of_mem _ (List.mem_cons_of_mem _ (List.mem_cons_of_mem _ List.mem_cons_self)))
    case g0 => exact fun _ _ _ _ _ _ _ _ _ => rfl
    case hS2 =>
      rintro i m₁ nw ⟨us, c, td, nd, oT, kvs, tl, u1, u2, u3, u4, u5, u6, u7, u8, rfl, _⟩
      exact List.mem_cons_of_mem _ (List.mem_cons_of_mem _ (List.mem_cons_of_mem _ (List.mem_cons_of_mem _ (List.mem_append.mpr (.inr List.mem_cons_self)))))
    case go2 =>
      intro v hv
      obtain ⟨n, hn, rfl⟩ := List.getElem_of_mem hv
      obtain ⟨hi, hD⟩ := dat_at hdr (List.getElem?_eq_getElem hn)
      obtain ⟨T9, t, u, w9, n9, e, _⟩ := dat_tri hD
      exact .inr ⟨⟨T9, e⟩, _, _, _, rfl⟩
    case hE2 => passes_own
    case turn2 =>
      rintro i v m₁ nw I oI h tk hv9 ⟨us, c, td, nd, oT, kvs, tl, u1, u2, u3, u4, u5, u6, u7, u8, rfl, htl, hus, hd3, hf3, rfl⟩ F9 N9 off9
      obtain ⟨hi9, hD9⟩ := dat_at hdr hv9
      rcases hT9 : TT.reverse[i] with ⟨ti, tk9, tj⟩
      rw [hT9] at hD9
      have hTi : TT.reverse[i]? = some (ti, tk9, tj) := by rw [List.getElem?_eq_getElem hi9, hT9]
      obtain ⟨T9, t8, w7, w8, n8, rfl, hTm⟩ := dat_tri hD9
      obtain ⟨b1, b2, b3, b4, b5⟩ := tbOk_turn htb hTi
      k_steps
      rename News _ _ _ _ => N8
      rename Fr _ _ _ _ => F8
      have hDI := (by assumption : _ ∧ _ ∧ _ ∧ _ ∧ _ ∧ AllLt _ (tl ++ _))
      have r1 := off9 _ (List.mem_cons_of_mem _ (List.mem_cons_of_mem _ (List.mem_cons_self)))
      have r2 := off9 _ (List.mem_cons_of_mem _ (List.mem_cons_of_mem _ (List.mem_cons_of_mem _ List.mem_cons_self)))
      have r3 := fun p hp => off9 p (List.mem_cons_of_mem _ (List.mem_cons_of_mem _ (List.mem_cons_of_mem _ (List.mem_cons_of_mem _ (List.mem_append.mpr (.inl hp))))))
      refine' for_tup (n := 0) (items := [.int ti t8, .int tk9 w7, .int tj w8]) (LetJ w _ _ _ _ _ _ _ _ _ _ _ _ _ _ tk9 [ti, tk9, tj]) (by rfl) F8 N8 ⟨us, c, td, nd, tl, _, _, rfl, (fun p hp => ⟨(htl p hp).1, (htl p hp).2, r3 p hp⟩), (by rw [List.take_zero, List.map_nil, List.append_nil]; exact hus), form2 rfl rfl ?g2⟩ ?hS3 ?go3 ?hE3 ?turn3 ?done3
      case g2 => exact fun _ _ _ => rfl
      case hS3 => rintro j m₁ nw ⟨us2, c2, td2, nd2, tl2, v1, v2, rfl, _⟩; exact List.mem_cons_self
      case go3 => intro v hv it; first | rfl | exact letOwnedTupleGo_name .. | (with_unfolding_all rfl)
      case hE3 => passes_own
      case turn3 =>
        rintro j v m₁ nw I2 oI2 h2 tk2 hv2 ⟨us2, c2, td2, nd2, tl2, v1, v2, rfl, htl2, hus2, rfl⟩ F2 N2 off2
        obtain ⟨ci, tc, hci, rfl, hcc⟩ := three_at hv2
        have h77 := tri7 b4 hl.2
        have hci7 : 0 ≤ ci ∧ ci ≤ 7 := by
          rcases hcc with e | e | e <;> rw [e]
          · exact h77.1
          · exact h77.2.1
          · exact h77.2.2.1
        have hk7 := h77.2.1
        clear hv9 hD9 hT9 hcc hv2 N9 F9 hdr hd hsd hf3 b1 b2 hus
        k_steps
        unfold Stop
        have U9 := upd_tail (o1 := oI2) (off2 _ (List.mem_cons_of_mem _ (List.mem_cons_of_mem _ (List.mem_cons_of_mem _ (List.mem_cons_of_mem _ List.mem_cons_self))))).symm (upd_tail (o1 := ({ cls := .type "tuple", data := .seq #[.int ti t8, .int tk9 w7, .int tj w8] 0 } : Obj)) (Nat.ne_of_gt hDI.2.2.2.1) (upd_tail (o1 := oI) r1.symm (upd_x (w := w) (td := td2) (nd := nd2) (oH := listOf us2.toArray c2) q1 q2 (off_cons (o := oT) q3.symm (off_rest (oQ := listOf ts.reverse.toArray 0) (fun p hp => (htl2 p hp).1) q7 q8)))))
        k_dflt (refine' room ?e1 ?e2 (spec_add_U _ _ _ td2 nd2 c2 us2 _ _ _ _ _ ?k1 ?k2 ?k3 N9q ?k5 ?k6 ?k7 ?k8 U9 hus2 (let_ok hci7).1 (let_ok hci7).2 (num_ok hk7).2 (num_ok hk7).1 ?k14 q1 q2 ?ret9))
        case e1 => exact Nat.le_of_ble_eq_true rfl
        case e2 => exact Nat.le_of_ble_eq_true rfl
        case k1 => k_asm
        case k2 => k_asm
        case k3 => k_asm
        case k5 => k_asm
        case k6 => first | exact rfl | assumption
        case k7 => exact List.mem_cons_of_mem _ (List.mem_cons_of_mem _ (List.mem_cons_of_mem _ List.mem_cons_self))
        case k8 => exact List.mem_cons_of_mem _ (List.mem_cons_of_mem _ (List.mem_cons_of_mem _ (List.mem_cons_of_mem _ List.mem_cons_self)))
        case k14 =>
          rw [List.length_append, List.length_map]
          have : ([ti, tk9, tj].take j).length ≤ 3 := by rw [List.length_take]; exact Nat.min_le_right _ _
          omega
        case ret9 =>
          intro ys c9 t9 o9 h9 tk9' F10 N10 hth10 hne10 hD10
          (try dsimp only)
          have x1 := hne10 _ List.mem_cons_self
          have x2 := hne10 _ (List.mem_cons_of_mem _ (List.mem_cons_of_mem _ List.mem_cons_self))
          have x3 := hne10 _ (List.mem_cons_of_mem _ (List.mem_cons_of_mem _ (List.mem_cons_of_mem _ (List.mem_cons_of_mem _ (List.mem_cons_of_mem _ List.mem_cons_self)))))
          have x4 := hne10 _ (List.mem_cons_of_mem _ (List.mem_cons_of_mem _ (List.mem_cons_of_mem _ (List.mem_cons_of_mem _ (List.mem_cons_of_mem _ (List.mem_cons_of_mem _ List.mem_cons_self))))))
          k_steps
          refine ForPost.intro _ (by assumption) (by assumption) led_move (off_led (t := (t9, o9)) off2 x1.symm) ⟨ys, c9, td2, nd2, (t9, o9) :: tl2, _, _, rfl, List.forall_mem_cons.mpr ⟨⟨x3.symm, x4.symm, x2.symm⟩, htl2⟩, by rw [let_next hci]; exact hD10, form2 (by rfl) (by rfl) (by intro z h1 h2; simp only [h1, h2, if_false])⟩
      case done3 =>
        rintro m₁ nw h3 tk3 ⟨us2, c2, td2, nd2, tl2, v1, v2, rfl, htl2, hus2, rfl⟩ F3 N3
        have hus3 : DatAll tl2 us2 (hdDat ((TT.reverse.take (i + 1)).flatMap hdrT)) := by rw [flat_next hTi]; exact hus2
        have hfd := fd256 ht
        obtain ⟨cT, hcT⟩ : ∃ c, c = List.foldl (rowStep (colF last TT)) [] (List.take i TT.reverse) := ⟨_, rfl⟩
        have hnx : List.foldl (rowStep (colF last TT)) [] (List.take (i + 1) TT.reverse) = rowStep (colF last TT) cT (ti, tk9, tj) := by rw [hcT]; exact tab_next hTi
        rw [← hcT] at hf3 b1 b2 b3
        have fit1 := row_fit b1
        have fit2 := row_fit b2
        have g1 := row_esc_len b1
        have g2 := row_esc_len b2
        have g3 := sg_len (colF last TT tk9)
        have g4 := app_len g1 g3
        have y1 := Nat.ne_of_gt hDI.2.2.2.2.1
        have y2 := r2.symm
        have y3 := off_rest (oQ := listOf ts.reverse.toArray 0) (fun p hp => (htl2 p hp).2.1) q6 q9
        have h77 := tri7 b4 hl.2
        have hkl := h77.2.2.2.1
        have hk63 := h77.2.2.2.2
        have hDl : (txtD cT).length ≤ 20 := by unfold txtD; rw [List.length_map]; exact b3
        have hval : PyProof.V.putD (PyData.int (10 * ti + tj)) (PyData.str (esc (Mine.T (rowT (lookR cT (10 * ti + tk9)))) ++ sgC (colF last TT tk9) ++ esc (Mine.T (rowT (lookR cT (10 * tk9 + tj)))))) (txtD cT) = txtD (List.foldl (rowStep (colF last TT)) [] (List.take (i + 1) TT.reverse)) := by
          rw [hnx]
          show _ = txtD (putR cT (10 * ti + tj) (upR (lookR cT (10 * ti + tk9)) ++ [(codeC (colF last TT tk9), 0)] ++ upR (lookR cT (10 * tk9 + tj))))
          rw [← txtD_put, ← row_join b1 b2]
        have y4 := off9 _ List.mem_cons_self
        have y5 := off9 _ (List.mem_cons_of_mem _ List.mem_cons_self)
        have y6 := off9 _ (List.mem_cons_of_mem _ (List.mem_cons_of_mem _ (List.mem_cons_of_mem _ (List.mem_cons_of_mem _ (List.mem_append.mpr (.inr List.mem_cons_self))))))
        have y7 := fun p hp => off9 p (List.mem_cons_of_mem _ (List.mem_cons_of_mem _ (List.mem_cons_of_mem _ (List.mem_cons_of_mem _ (List.mem_append.mpr (.inr (List.mem_cons_of_mem _ hp)))))))
        clear hcT hus hus2 hv9 hD9 hT9 N9 F9 hdr hd
        k_steps
        rw [hval] at hf'q
        refine ForPost.intro _ (by assumption) (by assumption) (fun p hp => List.mem_cons_of_mem _ hp) (off_cons y4 (off_cons y5 (off_cons r1 (off_cons r2 (off_rest (fun p hp => (htl2 p hp).2.2) y6 y7))))) ⟨us2, c2, td2, nd2, _, _, tl2, _, _, _, _, _, _, _, _, rfl, (fun p hp => ⟨(htl2 p hp).1, (htl2 p hp).2.1⟩), hus3, hd'q, hf'q, form8 (by rfl) (by rfl) (by rfl) (by rfl) (by rfl) (by rfl) (by rfl) (by rfl) (by intro z h1 h2 h3 h4 h5 h6 h7 h8; simp only [h1, h2, h3, h4, h5, h6, h7, h8, if_false])⟩
    case done2 =>
      rintro m₁ nw h tk ⟨us, c, td, nd, oT, kvs, tl, u1, u2, u3, u4, u5, u6, u7, u8, rfl, htl, hus, hd3, hf3, rfl⟩ F9 N9
      have e9 : TT.reverse.take ts.reverse.length = TT.reverse := by rw [List.length_reverse, hul, ← List.length_reverse (as := TT), List.take_length]
      rw [e9] at hus hf3
      obtain ⟨b1, hany, b3⟩ := tbOk_end htb
      have hf4 : PyProof.V.FlatPairs PyData.int kvs (txtD (rowsS last TT)) := hf3
      have hus4 : DatAll tl us (hdDat (hdrS TT)) := hus
      have fit := row_fit b1
      clear hf3 hf0 e9 hdr hd hus
      (try dsimp only)
      k_steps
      unfold Stop
      have U9 := upd_x (w := w) (td := td) (nd := nd) (oH := listOf us.toArray c) q1 q2 (off_cons (o := oT) q3.symm (off_rest (oQ := listOf ts.reverse.toArray 0) (fun p hp => (htl p hp).1) q7 q8))
      k_dflt (refine' room ?e1 ?e2 (spec_add_U _ _ _ td nd c us _ _ _ _ _ ?k1 ?k2 ?k3 ?k4 ?k5 ?k6 ?k7 ?k8 U9 hus4 (by decide) ?k9 fit.2.2 fit.1 ?k14 q1 q2 ?ret9))
      case e1 => exact Nat.le_of_ble_eq_true rfl
      case e2 => exact Nat.le_of_ble_eq_true rfl
      case k1 => k_asm
      case k2 => k_asm
      case k3 => k_asm
      case k4 => k_asm
      case k5 => k_asm
      case k6 => first | exact rfl | assumption
      case k7 => exact List.mem_cons_self
      case k8 => exact List.mem_cons_of_mem _ List.mem_cons_self
      case k9 => unfold OkT OkC; decide
      case k14 => omega
      case ret9 =>
        intro ys c9 t9 o9 h9 tk9' F10 N10 hth10 hne10 hD10
        (try dsimp only)
        have x3 := hne10 _ (List.mem_cons_of_mem _ (List.mem_cons_of_mem _ List.mem_cons_self))
        k_steps
        exact ret _ _ _ ys td nd c9 ((t9, o9) :: tl) _ _ (by assumption) (news_sub (by assumption) led_end) q1 q2 (fun p hp => (List.mem_append.mp hp).elim (fun hp => off_cons (o := o9) x3.symm (fun p hp => (htl p hp).1) p hp) (q8 p)) hD10
end Mine
end
section
open PySem PySem.W PyProof.Rows PySem.Calls
set_option maxRecDepth 100000
set_option maxHeartbeats 4000000
namespace Mine
/-- what a corner's letter is under lower -/
theorem let_low {c k : Int} (hc : 0 ≤ c ∧ c ≤ 7) : Txt.lower (letC c k) = Txt.lower (Txt.item (Str.ofString "abcdefgh") c) := by
  have : ∀ n : Nat, n < 8 → Txt.lower (Txt.upper (Txt.item (Str.ofString "abcdefgh") (n : Int))) = Txt.lower (Txt.item (Str.ofString "abcdefgh") (n : Int)) := by decide +kernel
  have h := this c.toNat (by omega)
  rw [Int.toNat_of_nonneg hc.1] at h
  unfold letC
  split
  · exact h
  · rfl
theorem let_row {c k : Int} (hc : 0 ≤ c ∧ c ≤ 7) : (Txt.lower (letC c k) == Txt.lower (Str.ofString "rOW")) = false := by
  have : ∀ n : Nat, n < 8 → (Txt.lower (Txt.item (Str.ofString "abcdefgh") (n : Int)) == Txt.lower (Str.ofString "rOW")) = false := by decide +kernel
  have h := this c.toNat (by omega)
  rw [Int.toNat_of_nonneg hc.1] at h
  rw [let_low hc]; exact h
theorem let_big {a c : Nat} {k : Int} (ha : a ≤ 7) (hc : c ≤ 7) : (Txt.lower (letC (a : Int) k) == Txt.lower (⟨#[65 + c]⟩ : Str)) = decide (c = a) := by
  have : ∀ a : Nat, a < 8 → ∀ c : Nat, c < 8 → (Txt.lower (Txt.item (Str.ofString "abcdefgh") (a : Int)) == Txt.lower (⟨#[65 + c]⟩ : Str)) = decide (c = a) := by decide +kernel
  rw [let_low ⟨by omega, by omega⟩]
  exact this a (by omega) c (by omega)
theorem row_big : ∀ c : Nat, c < 8 → (Txt.lower (Str.ofString "Row") == Txt.lower (⟨#[65 + c]⟩ : Str)) = false ∧ OkT (Txt.lower (⟨#[65 + c]⟩ : Str)) := by unfold OkT OkC; decide +kernel
noncomputable def TriIn (t : Int × Int × Int) : Prop := 0 ≤ t.1 ∧ t.1 < t.2.1 ∧ t.2.1 < t.2.2 ∧ t.2.2 ≤ 7
theorem hdr_row : ∀ {l : List (Int × Int × Int)}, (∀ t ∈ l, TriIn t) → ∀ p ∈ l.flatMap hdrT, (Txt.lower p.1 == Txt.lower (Str.ofString "rOW")) = false ∧ p.1.length ≤ 300 := by
  intro l h p hp
  obtain ⟨t, ht, hp⟩ := List.mem_flatMap.mp hp
  obtain ⟨a, b, c, d⟩ := h t ht
  unfold hdrT at hp
  simp only [List.mem_cons, List.not_mem_nil, or_false] at hp
  rcases hp with rfl | rfl | rfl
  · exact ⟨let_row ⟨by omega, by omega⟩, (let_ok ⟨by omega, by omega⟩).1⟩
  · exact ⟨let_row ⟨by omega, by omega⟩, (let_ok ⟨by omega, by omega⟩).1⟩
  · exact ⟨let_row ⟨by omega, by omega⟩, (let_ok ⟨by omega, by omega⟩).1⟩
theorem get_row {ts : List (Int × Int × Int)} {v : Str} (h : ∀ t ∈ ts, TriIn t) : getFirst (hdrS ts ++ [(Str.ofString "Row", v)]) (Str.ofString "rOW") = some v := by
  unfold getFirst hdrS
  rw [List.find?_append, List.find?_eq_none.mpr]
  · have : (Txt.lower (Str.ofString "Row") == Txt.lower (Str.ofString "rOW")) = true := by decide +kernel
    simp [this]
  · intro p hp
    rw [(hdr_row (fun t ht => h t (List.mem_reverse.mp ht)) p hp).1]
    exact Bool.false_ne_true
theorem row_names {ts : List (Int × Int × Int)} {v : Str} (h : ∀ t ∈ ts, TriIn t) : ∀ p ∈ hdrS ts ++ [(Str.ofString "Row", v)], p.1.length ≤ 300 := by
  intro p hp
  rcases List.mem_append.mp hp with hp | hp
  · exact (hdr_row (fun t ht => h t (List.mem_reverse.mp ht)) p hp).2
  · rw [List.mem_singleton.mp hp]; exact Nat.le_of_ble_eq_true rfl
theorem corner_go {c : Nat} (hc : c ≤ 7) : ∀ (l : List (Int × Int × Int)), (∀ t ∈ l, TriIn t) →
    ((l.flatMap hdrT).filter fun p => Txt.lower p.1 == Txt.lower (⟨#[65 + c]⟩ : Str)).map (·.2) = ((l.filter fun t => decide ((c : Int) = t.1) || decide ((c : Int) = t.2.1) || decide ((c : Int) = t.2.2)).map fun t => t.2.1).map fun k => Str.ofString (toString k)
  | [], _ => rfl
  | (i, k, j) :: r, h => by
    obtain ⟨a, b, d, e⟩ := h _ List.mem_cons_self
    dsimp only at a b d e
    have ih := corner_go hc r fun t ht => h t (List.mem_cons_of_mem _ ht)
    rw [List.flatMap_cons, List.filter_append, List.map_append, ih, List.filter_cons]
    obtain ⟨i', rfl⟩ := Int.eq_ofNat_of_zero_le a
    obtain ⟨k', rfl⟩ := Int.eq_ofNat_of_zero_le (show 0 ≤ k by omega)
    obtain ⟨j', rfl⟩ := Int.eq_ofNat_of_zero_le (show 0 ≤ j by omega)
    have e1 := let_big (a := i') (c := c) (k := (k' : Int)) (by omega) hc
    have e2 := let_big (a := k') (c := c) (k := (k' : Int)) (by omega) hc
    have e3 := let_big (a := j') (c := c) (k := (k' : Int)) (by omega) hc
    unfold hdrT
    simp only [List.filter_cons, List.filter_nil, e1, e2, e3]
    by_cases c1 : c = i'
    · have c2 : ¬ c = k' := by omega
      have c3 : ¬ c = j' := by omega
      have c4 : ¬ i' = k' := by omega
      have c5 : ¬ i' = j' := by omega
      subst c1
      simp [c4, c5]
    by_cases c2 : c = k'
    · have c4 : ¬ k' = i' := by omega
      have c5 : ¬ k' = j' := by omega
      subst c2
      simp [c4, c5]
    by_cases c3 : c = j'
    · have c4 : ¬ j' = i' := by omega
      have c5 : ¬ j' = k' := by omega
      subst c3
      simp [c4, c5]
    · simp [c1, c2, c3, Int.ofNat_inj]
theorem get_corner {ts : List (Int × Int × Int)} {v : Str} (h : ∀ t ∈ ts, TriIn t) {c : Nat} (hc : c ≤ 7) : getAll (hdrS ts ++ [(Str.ofString "Row", v)]) (⟨#[65 + c]⟩ : Str) = (atS ts c).map fun k => Str.ofString (toString k) := by
  unfold getAll hdrS atS
  rw [List.filter_append, List.map_append, corner_go hc _ fun t ht => h t (List.mem_reverse.mp ht)]
  have e : (List.filter (fun (p : Str × Str) => Txt.lower p.1 == Txt.lower (⟨#[65 + c]⟩ : Str)) [(Str.ofString "Row", v)]) = [] := by
    rw [List.filter_cons, if_neg (by rw [(row_big c (by omega)).1]; exact Bool.false_ne_true)]; rfl
  rw [e, List.map_nil, List.append_nil]
theorem tri_in {last : Int} {ts : List (Int × Int × Int)} (h : tbOk last ts = true) (hl : last ≤ 7) : ∀ t ∈ ts, TriIn t := by
  intro t ht
  obtain ⟨n, hn, e⟩ := List.getElem_of_mem (List.mem_reverse.mpr ht)
  obtain ⟨i, k, j⟩ := t
  have := (tbOk_turn h (m := n) (i := i) (k := k) (j := j) (by rw [List.getElem?_eq_getElem hn, e])).2.2.2.1
  exact ⟨this.1, this.2.1, this.2.2.1, by show j ≤ 7; omega⟩
/-- what the walk of the agreement asks besides -/
noncomputable def signsA (last : Int) (ts : List (Int × Int × Int)) : List Str := [Str.ofString "<"] ++ (rowR (rowFin last ts)).map (·.1) ++ [Str.ofString ">"]
noncomputable def levelsA (last : Int) (ts : List (Int × Int × Int)) : List Int := [-1] ++ (rowR (rowFin last ts)).map (·.2) ++ [-1]
noncomputable def adOk (last : Int) (ts : List (Int × Int × Int)) : Bool :=
  decide (signsA last ts = signL last ts) && decide (levelsA last ts = (List.range (last + 1).toNat).map fun (k : Nat) => lvS last ts (k : Int)) &&
  ((List.range ts.length).all fun m => match ts[m]? with
    | some (i, k, j) => ptHas (ptS last (ts.take m)) i && ptHas (ptS last (ts.take m)) j && !ptHas (ptS last (ts.take m)) k
    | none => false) &&
  ((List.range (last + 1).toNat).all fun k => ptHas (ptS last ts) (k : Int) && ((atS ts (k : Int)).all fun x => decide (0 ≤ x ∧ x ≤ 7)) && decide ((atS ts (k : Int)).length ≤ 100) && decide (0 ≤ (ptLook (ptS last ts) (k : Int)).2 ∧ (ptLook (ptS last ts) (k : Int)).2 ≤ 100))
theorem ad5 : ∀ t ∈ allT 4 [(0, 5)], adOk 5 t = true := by decide +kernel
theorem ad6 : ∀ t ∈ allT 5 [(0, 6)], adOk 6 t = true := by decide +kernel
theorem ad7 : ∀ t ∈ allT 6 [(0, 7)], adOk 7 t = true := by decide +kernel
theorem adOk_at {last : Int} {ts : List (Int × Int × Int)} (h : adOk last ts = true) : signsA last ts = signL last ts ∧ levelsA last ts = ((List.range (last + 1).toNat).map fun (k : Nat) => lvS last ts (k : Int)) ∧
    (∀ m i k j, ts[m]? = some (i, k, j) → ptHas (ptS last (ts.take m)) i = true ∧ ptHas (ptS last (ts.take m)) j = true ∧ ptHas (ptS last (ts.take m)) k = false) ∧
    (∀ k : Nat, (k : Int) ≤ last → ptHas (ptS last ts) (k : Int) = true ∧ (∀ x ∈ atS ts (k : Int), 0 ≤ x ∧ x ≤ 7) ∧ (atS ts (k : Int)).length ≤ 100 ∧ (0 ≤ (ptLook (ptS last ts) (k : Int)).2 ∧ (ptLook (ptS last ts) (k : Int)).2 ≤ 100)) := by
  unfold adOk at h
  simp only [Bool.and_eq_true, decide_eq_true_eq] at h
  obtain ⟨⟨⟨a, b⟩, c⟩, d⟩ := h
  refine ⟨a, b, fun m i k j hm => ?_, fun k hk => ?_⟩
  · have h1 := List.all_eq_true.mp c m (List.mem_range.mpr (List.getElem?_eq_some_iff.mp hm).1)
    rw [hm] at h1
    simp only [Bool.and_eq_true, Bool.not_eq_true'] at h1
    exact ⟨h1.1.1, h1.1.2, h1.2⟩
  · have h1 := List.all_eq_true.mp d k (List.mem_range.mpr (by omega))
    simp only [Bool.and_eq_true, decide_eq_true_eq, List.all_eq_true] at h1
    exact ⟨h1.1.1.1, h1.1.1.2, h1.1.2, h1.2⟩
end Mine
end
section
open PySem PySem.W PyProof.Rows PySem.Calls
set_option maxRecDepth 100000
set_option maxHeartbeats 4000000
namespace Mine
theorem pow_b {prog : Program} {w : World} {A : Around} {E : Value → Shared → Prop} {s : Shared} {n : Int} {t u : Tok} {Q : Value → Shared → Prop} (h : 0 ≤ n ∧ n ≤ 7) (q : ∀ b : Int, b = 2 ^ n.toNat → 1 ≤ b → ∀ t' k, Q (.int b t') { s with toks := k }) :
    wpAny (model prog w) A (binaryOp .Pow (.int 2 t) (.int n u)) Q E s :=
  pow_int_small h.1 (by omega) (by decide) (q _ rfl (by
    have : ∀ k : Nat, k < 8 → (1 : Int) ≤ 2 ^ k := by decide
    exact this _ (by omega)) _ _)
noncomputable def moreP (c : List (Int × Int)) (ch : List Int) (i : Nat) : List (Int × Int) := (c.take i).foldl (fun m p => ch.foldl (moreIn p.1 (kdfLook c p.1 0)) m) []
theorem moreIn_len (h v : Int) (m : List (Int × Int)) (t : Int) : (moreIn h v m t).length ≤ m.length + 1 := by
  unfold moreIn
  split
  · exact kdfPut_len _ _ _
  · omega
theorem moreF_len (h v : Int) : ∀ (ch : List Int) (m : List (Int × Int)), (ch.foldl (moreIn h v) m).length ≤ m.length + ch.length
  | [], m => Nat.le_refl _
  | t :: r, m => by
    have h1 := moreIn_len h v m t
    have h2 := moreF_len h v r (moreIn h v m t)
    rw [List.foldl_cons, List.length_cons]
    omega
theorem moreP_len (c : List (Int × Int)) (ch : List Int) (i : Nat) : (moreP c ch i).length ≤ i * ch.length := by
  unfold moreP
  suffices h : ∀ (l : List (Int × Int)) (m : List (Int × Int)), (l.foldl (fun m p => ch.foldl (moreIn p.1 (kdfLook c p.1 0)) m) m).length ≤ m.length + l.length * ch.length by
    have := h (c.take i) []
    have h2 : (c.take i).length ≤ i := by rw [List.length_take]; omega
    have h3 := Nat.mul_le_mul_right ch.length h2
    simp only [List.length_nil, Nat.zero_add] at this
    omega
  intro l
  induction l with
  | nil => intro m; simp
  | cons p r ih =>
    intro m
    have h1 := moreF_len p.1 (kdfLook c p.1 0) ch m
    have h2 := ih (ch.foldl (moreIn p.1 (kdfLook c p.1 0)) m)
    rw [List.foldl_cons, List.length_cons, Nat.succ_mul]
    omega
theorem key_at {kvs : List (Int × Value)} {c : List (Int × Int)} {i : Nat} {k : Int} {y : Value} (hf : PyProof.V.FlatPairs PyData.int kvs (kdfD c)) (h : kvs[i]? = some (k, y)) : ∃ v, c[i]? = some (k, v) := by
  obtain ⟨dv, hD, _⟩ := hf.at h
  unfold kdfD at hD
  rw [List.getElem?_map] at hD
  cases hc : c[i]? with
  | none => rw [hc] at hD; cases hD
  | some p =>
    rw [hc] at hD
    simp only [Option.map_some, Option.some.injEq, Prod.mk.injEq, PyData.int.injEq] at hD
    exact ⟨p.2, by rw [← hD.1]⟩
theorem has_at {c : List (Int × Int)} {i : Nat} {k v : Int} (h : c[i]? = some (k, v)) : kdfHas c k = true := by
  unfold kdfHas
  rw [List.any_eq_true]
  exact ⟨(k, v), List.mem_of_getElem? h, by simp⟩
theorem more_get {prog : Program} {w : World} {A : Around} {E : Value → Shared → Prop} {s : Shared} {h₀ : Heap} {L d : Addr} {news : List (Addr × Obj)} {o : Obj} {kvs : List (Int × Value)} {c : List (Int × Int)} {i e : Int} {t te : Tok} {Q : Value → Shared → Prop} (N : News h₀ L s.heap news) (hm : (d, o) ∈ news) (lo : (d == sysModules) = false) (hd : o.IsDictOf (intKind prog w) kvs)
    (hf : PyProof.V.FlatPairs PyData.int kvs (kdfD c)) (h : ∀ u, Q (.int (kdfLook c i e) u) { s with toks := s.toks + 1 }) :
    wpAny (model prog w) A (call (.builtin "dict.get") [.ref d, .int i t, .int e te]) Q E s := kdf_get2 (TabAt.ofObj lo (N _ hm).1 hd hf) h
theorem more_item {prog : Program} {w : World} {A : Around} {E : Value → Shared → Prop} {s : Shared} {h₀ : Heap} {L d : Addr} {news : List (Addr × Obj)} {value slice : PySem.Expr} {o : Obj} {kvs : List (Int × Value)} {c : List (Int × Int)} {i : Int} {t : Tok} {Q : Value → Shared → Prop} (N : News h₀ L s.heap news) (hm : (d, o) ∈ news) (lo : (d == sysModules) = false) (hd : o.IsDictOf (intKind prog w) kvs)
    (hf : PyProof.V.FlatPairs PyData.int kvs (kdfD c)) (hk : kdfHas c i = true) (h : ∀ u, Q (.int (kdfLook c i 0) u) { s with toks := s.toks + 1 })
    (hs : subscripted slice false (.ref d) (.int i t) = operate [.ref d, .int i t] (getItem (.ref d) (.int i t)) := by with_unfolding_all rfl) (hg : ∀ r, letTemporaryGo value (.ref d) r = pure () := by intro _; with_unfolding_all rfl) :
    wpAny (model prog w) A (subscriptTail value slice (.ref d) (.int i t)) Q E s :=
  item_intTab (TabAt.ofObj lo (N _ hm).1 hd hf) (kdfD_item hk) (fun v hv => by cases hv s.heap; exact h _) hs hg
theorem num_at {us : List Value} {ch : List Int} {j : Nat} {v : Value} (h : DatAll [] us (ch.map fun k => Dat.str (Str.ofString (toString k)))) (hv : us[j]? = some v) : ∃ k t, ch[j]? = some k ∧ v = .str (Str.ofString (toString k)) t := by
  obtain ⟨hj, hD⟩ := dat_at h hv
  refine ⟨ch[j], ?_⟩
  cases hD
  exact ⟨_, List.getElem?_eq_getElem hj, rfl⟩
theorem more_next {c : List (Int × Int)} {ch : List Int} {i : Nat} {k v : Int} (h : c[i]? = some (k, v)) : moreP c ch (i + 1) = ch.foldl (moreIn k (kdfLook c k 0)) (moreP c ch i) := by
  unfold moreP
  rw [List.take_add_one, h, List.foldl_append]; rfl
theorem more_in {h v b : Int} {m : List (Int × Int)} {k : Int} (e : b = 2 ^ k.toNat) (hc : (h.fdiv b).fmod 2 = 0) : kdfPut m (h + b) (kdfLook m (h + b) 0 + v) = moreIn h v m k := by
  unfold moreIn; rw [← e, if_pos hc]
theorem more_out {h v b : Int} {m : List (Int × Int)} {k : Int} (e : b = 2 ^ k.toNat) (hc : ¬ (h.fdiv b).fmod 2 = 0) : m = moreIn h v m k := by
  unfold moreIn; rw [← e, if_neg hc]
noncomputable def MoreJ (w : World) (D : Addr) (LED : List (Addr × Obj)) (m0 : Str → Option Value) (c : List (Int × Int)) (ch : List Int) (i : Nat) (m₁ : Str → Option Value) (nw : List (Addr × Obj)) : Prop :=
  ∃ o kvs u1 u2 u3, nw = (D, o) :: LED ∧ o.IsDictOf (intKind PySem.Challenge.rw_ty0056_01.prog w) kvs ∧ PyProof.V.FlatPairs PyData.int kvs (kdfD (moreP c ch i)) ∧
    m₁ = fun z => if z = Str.ofString "bit" then u1 else if z = Str.ofString "told" then u2 else if z = Str.ofString "held" then u3 else m0 z
noncomputable def MoreI (w : World) (D I : Addr) (oI : Obj) (LED : List (Addr × Obj)) (m0 : Str → Option Value) (M0 : List (Int × Int)) (h v : Int) (ch : List Int) (j : Nat) (m₁ : Str → Option Value) (nw : List (Addr × Obj)) : Prop :=
  ∃ o kvs u1 u2, nw = (I, oI) :: (D, o) :: LED ∧ o.IsDictOf (intKind PySem.Challenge.rw_ty0056_01.prog w) kvs ∧ PyProof.V.FlatPairs PyData.int kvs (kdfD ((ch.take j).foldl (moreIn h v) M0)) ∧
    m₁ = fun z => if z = Str.ofString "bit" then u1 else if z = Str.ofString "told" then u2 else m0 z
theorem spec_more {w mean mg mb loose gd cn cs a ccd cl outer A₀ base h₀ L m news s Q E} (pD cD : Addr) (oP : Obj) (kvs0 : List (Int × Value)) (c : List (Int × Int)) (us : List Value) (ch : List Int) (n0 : Nat)
    (B : Below A₀ base outer h₀) (F : Fr h₀ L s.heap m) (X : (hd.heap_1 w.params).In h₀) (N : News h₀ L s.heap news) (T : Top hdView loose mean mg mb h₀) (hk : cs.kind = .function)
    (hp : (pD, oP) ∈ news) (lo : (pD == sysModules) = false) (hdP : oP.IsDictOf (intKind PySem.Challenge.rw_ty0056_01.prog w) kvs0) (hfP : PyProof.V.FlatPairs PyData.int kvs0 (kdfD c))
    (hc : (cD, listOf us.toArray n0) ∈ news) (hu : DatAll [] us (ch.map fun k => Dat.str (Str.ofString (toString k)))) (hch : ∀ k ∈ ch, 0 ≤ k ∧ k ≤ 7) (hcl : c.length ≤ 100) (hchl : ch.length ≤ 100)
    (ret : ∀ D o kvs h' tk', Fr h₀ L h' m → News h₀ L h' ((D, o) :: news) → (∀ p ∈ news, p.1 ≠ D) → (D == sysModules) = false → o.IsDictOf (intKind PySem.Challenge.rw_ty0056_01.prog w) kvs → PyProof.V.FlatPairs PyData.int kvs (kdfD (moreS c ch)) → Q (.ref D) { s with heap := h', toks := tk' }) :
    wpAny (model PySem.Challenge.rw_ty0056_01.prog w) (ktrTop 350 2500 gd cn cs L a ccd cl outer) (call (.ref 296) [.ref pD, .ref cD]) Q E s := by
  k_with_none
  w_top off
  k_with "k_all" => assumption
  k_with "k_mem" => assumption
  k_with "exec For Name Name cons nil" => (k_here; k_dflt (refine wpAny_For ?_ (by intro _; rfl)))
  k_with "binaryOp Pow int int" => (k_here; k_dflt (refine' pow_b ?pb ?_; (case pb => with_reducible assumption)); intro bq hbq hb1q tbq kbq; (try dsimp only); (try k_fold))
  k_with "call type:int" => (k_here; k_dflt (refine KIN.call_num ?ci1 ?ci2 ?_; (case ci1 => omega); (case ci2 => omega)); (try dsimp only))
  k_with "call builtin:dict.get" => (k_here; k_dflt (refine' more_get ?gn1 ?gn2 ?gn3 ?gn4 ?gn5 ?_; (case gn1 => k_asm); (case gn2 => k_mem); (case gn3 => with_reducible assumption); (case gn4 => with_reducible assumption); (case gn5 => with_reducible assumption)); intro t7q; (try dsimp only); (try k_fold))
  k_with "subscriptTail Name Name ref int" => (k_here; k_dflt (refine' more_item ?q1 ?q2 ?q3 ?q4 ?q5 ?q6 ?_ (by with_unfolding_all rfl) (by intro _; with_unfolding_all rfl); (case q1 => k_asm); (case q2 => k_mem); (case q3 => with_reducible assumption); (case q4 => with_reducible assumption); (case q5 => exact hfP); (case q6 => exact has9)); intro t6q; (try dsimp only); (try k_fold))
  k_with "setItem ref int" => (k_here; k_dflt (refine' setItem_K PyProof.V.same_int (intKind_is _ _ _ _) ?siv ?siF ?siN ?siU ?sid ?sif ?_ ?siz; (case siF => k_asm); (case siN => k_asm); (case siU => exact UpdF.tail x1 (UpdF.tail x2 (UpdF.head x3))); (case sid => with_reducible assumption); (case sif => with_reducible assumption); (case siz => exact hDl); (case siv => k_flat)); intro h'q o'q F'q N'q hd'q hf'q; (try dsimp only at N'q))
  k_with "k_mem" => (repeat' (first | exact hp | exact List.mem_cons_self | refine List.mem_cons_of_mem _ ?_))
  have hul : us.length = ch.length := by rw [hu.length]; simp
  revert X; k_fill; intro X
  refine wpAny_call ?_
  k_dflt cell_enter
  k_steps
  have lD := (by assumption : ∀ p ∈ news, p.1 < _)
  have x3 := fun p hp => Nat.ne_of_lt (lD p hp)
  rename Obj.IsDictOf (intKind _ _) _ [] => hd0
  rename PyProof.V.FlatPairs PyData.int [] [] => hf0
  rename News _ _ _ _ => NN
  rename Fr _ _ _ _ => FF
  refine' for_keys (MoreJ w _ news _ c ch) (by rfl) lo hdP FF NN ⟨_, _, _, _, _, rfl, hd0, (show PyProof.V.FlatPairs PyData.int [] (kdfD (moreP c ch 0)) from hf0), form3 rfl rfl rfl ?g0⟩ ?hS ?go ?hE ?turn ?done
  case g0 => exact fun _ _ _ _ => rfl
  case hS => rintro i m₁ nw ⟨o, kvs, u1, u2, u3, rfl, _⟩; exact List.mem_cons_of_mem _ hp
  case go => exact fun _ _ => rfl
  case hE => passes_own
  case done =>
    rintro m₁ nw h tk ⟨o, kvs, u1, u2, u3, rfl, hd3, hf3, rfl⟩ F9 N9
    have hkl : kvs0.length = c.length := by have := hfP.length; rw [kdfD_length] at this; exact this.symm
    have e9 : moreP c ch kvs0.length = moreS c ch := by unfold moreP moreS; rw [hkl, List.take_length]
    rw [e9] at hf3
    (try dsimp only)
    k_steps
    exact ret _ _ _ _ _ (by assumption) (by assumption) x3 (by assumption) hd3 hf3
  case turn =>
    rintro i v m₁ nw I oI h tk ⟨k9, y9, hk9, hkv⟩ ⟨o, kvs, u1, u2, u3, rfl, hd3, hf3, rfl⟩ F9 N9 off9
    obtain ⟨tv, rfl⟩ := Value.isInt_shape hkv
    obtain ⟨v9, hc9⟩ := key_at hfP hk9
    have has9 := has_at hc9
    have hi9 : i < c.length := (List.getElem?_eq_some_iff.mp hc9).1
    have x2 := (off9 _ List.mem_cons_self).symm
    k_steps
    rename News _ _ _ _ => N8
    rename Fr _ _ _ _ => F8
    refine' for_led (items := us) (n := n0) ?hm (MoreI w _ I oI news _ (moreP c ch i) k9 (kdfLook c k9 0) ch) (by rfl) F8 N8 ⟨_, _, _, _, rfl, hd3, hf3, form2 rfl rfl ?g2⟩ ?hS2 ?go2 ?hE2 ?turn2 ?done2
    case hm => exact List.mem_cons_of_mem _ (List.mem_cons_of_mem _ hc)
    case g2 => exact fun _ _ _ => rfl
    case hS2 => rintro j m₁ nw ⟨o, kvs, u1, u2, rfl, _⟩; exact List.mem_cons_of_mem _ (List.mem_cons_of_mem _ hc)
    case go2 => exact fun v hv => .inl fun _ => rfl
    case hE2 => passes_own
    case done2 =>
      rintro m₁ nw h tk ⟨o, kvs, u1, u2, rfl, hd3, hf3, rfl⟩ F9 N9
      have e9 : moreP c ch (i + 1) = (ch.take us.length).foldl (moreIn k9 (kdfLook c k9 0)) (moreP c ch i) := by rw [more_next hc9, hul, List.take_length]
      rw [← e9] at hf3
      (try dsimp only)
      k_steps
      exact ForPost.intro _ F9 N9 (fun p hp => hp) (off_cons x2.symm fun p hp => off9 p (List.mem_cons_of_mem _ hp)) ⟨_, _, _, _, _, rfl, hd3, hf3, form3 (by rfl) (by rfl) (by rfl) (by intro z h1 h2 h3; simp only [h1, h2, h3, if_false])⟩
    case turn2 =>
      rintro j v m₁ nw I2 oI2 h tk hv9 ⟨o, kvs, u1, u2, rfl, hd3, hf3, rfl⟩ F9 N9 off2
      obtain ⟨kj, tj, hkj, rfl⟩ := num_at hu hv9
      have hj9 : j < ch.length := (List.getElem?_eq_some_iff.mp hkj).1
      have hkj7 := hch kj (List.mem_of_getElem? hkj)
      have x1 := (off2 _ (List.mem_cons_of_mem _ List.mem_cons_self)).symm
      have hnx : (ch.take (j + 1)).foldl (moreIn k9 (kdfLook c k9 0)) (moreP c ch i) = moreIn k9 (kdfLook c k9 0) ((ch.take j).foldl (moreIn k9 (kdfLook c k9 0)) (moreP c ch i)) kj := by rw [List.take_add_one, hkj, List.foldl_append]; rfl
      have hDl : (kdfD ((ch.take j).foldl (moreIn k9 (kdfLook c k9 0)) (moreP c ch i))).length ≤ sizeLine := by
        rw [kdfD_length]
        have h1 := moreF_len k9 (kdfLook c k9 0) (ch.take j) (moreP c ch i)
        have h2 := moreP_len c ch i
        have h3 : i * ch.length ≤ 100 * 100 := Nat.mul_le_mul (by omega) hchl
        have h4 : (ch.take j).length ≤ 100 := by rw [List.length_take]; omega
        rw [sizeLine_eq]; omega
      clear hv9 hkv hk9 hc9
      generalize (ch.take j).foldl (moreIn k9 (kdfLook c k9 0)) (moreP c ch i) = M9 at hf3 hnx hDl
      k_steps
      all_goals first
        | (exfalso; omega)
        | (rw [kdfD_put, more_in hbq (by assumption), ← hnx] at hf'q
           (rename News _ _ _ _ => NZ); (rename Fr _ _ _ _ => FZ)
           exact ForPost.intro ((I, oI) :: (_, _) :: news) FZ NZ (fun p hp => hp) (List.forall_mem_cons.mpr ⟨off2 _ List.mem_cons_self, List.forall_mem_cons.mpr ⟨x1.symm, fun p hp => off2 p (List.mem_cons_of_mem _ (List.mem_cons_of_mem _ hp))⟩⟩) ⟨_, _, _, _, rfl, hd'q, hf'q, form2 (by rfl) (by rfl) (by intro z h1 h2; simp only [h1, h2, if_false])⟩)
        | (have hf5 : PyProof.V.FlatPairs PyData.int kvs (kdfD ((ch.take (j + 1)).foldl (moreIn k9 (kdfLook c k9 0)) (moreP c ch i))) := by
             rw [hnx, ← more_out hbq (by assumption)]; exact hf3
           (rename News _ _ _ _ => NZ); (rename Fr _ _ _ _ => FZ)
           exact ForPost.intro ((I, oI) :: (_, _) :: news) FZ NZ (fun p hp => hp) (List.forall_mem_cons.mpr ⟨off2 _ List.mem_cons_self, List.forall_mem_cons.mpr ⟨x1.symm, fun p hp => off2 p (List.mem_cons_of_mem _ (List.mem_cons_of_mem _ hp))⟩⟩) ⟨_, _, _, _, rfl, hd3, hf5, form2 (by rfl) (by rfl) (by intro z h1 h2; simp only [h1, h2, if_false])⟩)
end Mine
end
section
open PySem PySem.W PyProof.Rows PySem.Calls
set_option maxRecDepth 100000
set_option maxHeartbeats 4000000
namespace Mine
theorem spec_get_M {w mean mg mb loose gd cn cs a ccd cl outer A₀ base h₀ L m news nn s Q E} (x dx hl : Addr) (td : Tok) (nd c : Nat) (us : List Value) (rows : List (Str × Str)) (y : Str) (ty : Tok) (res : Str)
    (B : Below A₀ base outer h₀) (F : Fr h₀ L s.heap m) (X : (hd.heap_1 w.params).In h₀) (N : News h₀ L s.heap news) (T : Top hdView loose mean mg mb h₀) (hk : cs.kind = .function)
    (hx : (x, instObj 182 dx) ∈ news) (hdx : (dx, hdDict w hl td nd) ∈ news) (hhl : (hl, listOf us.toArray c) ∈ news) (hnn : ∀ p ∈ nn, p ∈ news)
    (hu : DatAll nn us (hdDat rows)) (hy : y.length ≤ 300) (hok : OkT (Txt.lower y)) (hrow : ∀ p ∈ rows, p.1.length ≤ 300) (hres : getFirst rows y = some res)
    (ret : ∀ t h' tk', Fr h₀ L h' m → News h₀ L h' news → Q (.str res t) { s with heap := h', toks := tk' }) :
    wpAny (model PySem.Challenge.rw_ty0056_01.prog w) (ktrTop 400 3000 gd cn cs L a ccd cl outer) (call (.ref 129) [.ref x, .str y ty]) Q E s := by
  refine spec_get (news := news) x dx hl td nd c us rows y ty res B F X (news_sub N fun p hp => ?_) T hk (DatAll.mono hnn hu) hy hok hrow hres fun t h' tk' F' N' => ret t h' tk' F' (news_sub N' fun p hp => List.mem_cons_of_mem _ (List.mem_cons_of_mem _ (List.mem_cons_of_mem _ hp)))
  rcases List.mem_cons.mp hp with rfl | hp
  · exact hx
  rcases List.mem_cons.mp hp with rfl | hp
  · exact hdx
  rcases List.mem_cons.mp hp with rfl | hp
  · exact hhl
  · exact hp
theorem spec_all_M {w mean mg mb loose gd cn cs a ccd cl outer A₀ base h₀ L m news nn s Q E} (x dx hl : Addr) (td : Tok) (nd c : Nat) (us : List Value) (rows : List (Str × Str)) (y : Str) (ty : Tok)
    (B : Below A₀ base outer h₀) (F : Fr h₀ L s.heap m) (X : (hd.heap_1 w.params).In h₀) (N : News h₀ L s.heap news) (T : Top hdView loose mean mg mb h₀) (hk : cs.kind = .function)
    (hx : (x, instObj 182 dx) ∈ news) (hdx : (dx, hdDict w hl td nd) ∈ news) (hhl : (hl, listOf us.toArray c) ∈ news) (hnn : ∀ p ∈ nn, p ∈ news)
    (hu : DatAll nn us (hdDat rows)) (hy : y.length ≤ 300) (hok : OkT (Txt.lower y)) (hrow : ∀ p ∈ rows, p.1.length ≤ 300) (hlen : rows.length ≤ 1000)
    (ret : ∀ D ys h' tk', Fr h₀ L h' m → News h₀ L h' ((D, listOf ys.toArray ys.length) :: news) → (∀ p ∈ news, p.1 ≠ D) → DatAll [] ys ((getAll rows y).map Dat.str) → Q (.ref D) { s with heap := h', toks := tk' }) :
    wpAny (model PySem.Challenge.rw_ty0056_01.prog w) (ktrTop 400 3000 gd cn cs L a ccd cl outer) (call (.ref 121) [.ref x, .str y ty]) Q E s := by
  refine spec_get_all (news := news) x dx hl td nd c us rows y ty B F X (news_sub N fun p hp => ?_) T hk (DatAll.mono hnn hu) hy hok hrow hlen fun D ys h' tk' F' N' off hD => ret D ys h' tk' F' (news_sub N' fun p hp => ?_) (fun p hp => off p (List.mem_cons_of_mem _ (List.mem_cons_of_mem _ (List.mem_cons_of_mem _ hp)))) hD
  · rcases List.mem_cons.mp hp with rfl | hp
    · exact hx
    rcases List.mem_cons.mp hp with rfl | hp
    · exact hdx
    rcases List.mem_cons.mp hp with rfl | hp
    · exact hhl
    · exact hp
  · rcases List.mem_cons.mp hp with rfl | hp
    · exact List.mem_cons_self
    · exact List.mem_cons_of_mem _ (List.mem_cons_of_mem _ (List.mem_cons_of_mem _ (List.mem_cons_of_mem _ hp)))
theorem row_at {news : List (Addr × Obj)} {us : List Value} {r : List (Str × Int)} {i : Nat} {v : Value} (h : DatAll news us (rowDat r)) (hv : us[i]? = some v) :
    ∃ T x y n, v = .ref T ∧ (T, ({ cls := .type "tuple", data := .seq #[x, y] n } : Obj)) ∈ news ∧ ∃ p t u, r[i]? = some p ∧ x = .str p.1 t ∧ y = .int p.2 u := by
  obtain ⟨hi, hD⟩ := dat_at h hv
  obtain ⟨T, x, y, n, e, hm, h1, h2⟩ := datTwo hD
  obtain ⟨t, rfl⟩ := datStr h1
  obtain ⟨u, rfl⟩ := datInt h2
  exact ⟨T, _, _, n, e, hm, _, t, u, List.getElem?_eq_getElem hi, rfl, rfl⟩
theorem add_M {prog : Program} {w : World} {A : Around} {E : Value → Shared → Prop} {s : Shared} {h₀ : Heap} {L a b : Addr} {m : Str → Option Value} {news : List (Addr × Obj)} {vs ws : List Value} {n k : Nat} {Q : Value → Shared → Prop} (F : Fr h₀ L s.heap m) (N : News h₀ L s.heap news)
    (ha : (a, listOf vs.toArray n) ∈ news) (hb : (b, listOf ws.toArray k) ∈ news) (hz : vs.length + ws.length ≤ 1000)
    (h : ∀ D h', Fr h₀ L h' m → News h₀ L h' ((D, listOf (vs ++ ws).toArray 0) :: news) → (∀ p ∈ news, p.1 < D) → Q (.ref D) { s with heap := h' }) : wpAny (model prog w) A (binaryOp .Add (.ref a) (.ref b)) Q E s :=
  kmk_add_lit F N ⟨_, (N _ ha).1, rfl, _, rfl⟩ ⟨_, (N _ hb).1, rfl, _, rfl⟩ (zs := vs ++ ws) (by simp) h (by simp only [List.toList_toArray]; rw [sizeLine_eq]; omega)
theorem row_next {r : List (Str × Int)} {f : Str × Int → Dat} {i : Nat} {p : Str × Int} {ys : List Value} {v : Value} (h : r[i]? = some p) (hJ : DatAll [] ys ((r.take i).map f)) (hv : DatIn [] v (f p)) : DatAll [] (ys ++ [v]) ((r.take (i + 1)).map f) := by
  rw [List.take_add_one, h]
  exact dat_snoc hJ hv
theorem led_lv {a b c d e f g : Addr × Obj} {r : List (Addr × Obj)} : ∀ p ∈ a :: b :: g :: r, p ∈ a :: b :: c :: d :: e :: f :: g :: r := by
  intro p hp
  simp only [List.mem_cons] at hp ⊢
  rcases hp with h | h | h | h <;> simp [h]
theorem ite_ff {A B : Prop} (h : B) : if false = true then A else B := h
theorem ite_tt {A B : Prop} (h : A) : if true = true then A else B := h
theorem strs_of {α : Type} {g : α → Str} (l : List α) : ∀ {ys : List Value}, DatAll [] ys (l.map fun p => Dat.str (g p)) → StrsAre ys (l.map g) := by
  induction l with
  | nil => intro ys h; obtain rfl := datNil h; exact .nil
  | cons p r ih =>
    intro ys h
    obtain ⟨x, r', rfl, h1, h2⟩ := datCons h
    obtain ⟨t, rfl⟩ := datStr h1
    exact .cons _ _ (ih h2)
theorem ints_of {α : Type} {g : α → Int} (l : List α) : ∀ {ys : List Value}, DatAll [] ys (l.map fun p => Dat.int (g p)) → IntsAre ys (l.map g) := by
  induction l with
  | nil => intro ys h; obtain rfl := datNil h; exact .nil
  | cons p r ih =>
    intro ys h
    obtain ⟨x, r', rfl, h1, h2⟩ := datCons h
    obtain ⟨t, rfl⟩ := datInt h1
    exact .cons _ _ (ih h2)
theorem strs_app : ∀ {vs ws : List Value} {xs ys : List Str}, StrsAre vs xs → StrsAre ws ys → StrsAre (vs ++ ws) (xs ++ ys)
  | _, _, _, _, .nil, h => h
  | _, _, _, _, .cons _ _ r, h => .cons _ _ (strs_app r h)
theorem ints_app : ∀ {vs ws : List Value} {xs ys : List Int}, IntsAre vs xs → IntsAre ws ys → IntsAre (vs ++ ws) (xs ++ ys)
  | _, _, _, _, .nil, h => h
  | _, _, _, _, .cons _ _ r, h => .cons _ _ (ints_app r h)
theorem led_gen {h₀ h : Heap} {L a b : Addr} {x1 x2 x3 x4 g : Addr × Obj} {r : List (Addr × Obj)} {vs ws : List Value} {S : List Str} {I : List Int} {G : Prop} (N : News h₀ L h ((a, listOf ws.toArray 0) :: x1 :: x2 :: x3 :: x4 :: (b, listOf vs.toArray 0) :: g :: r)) (hs : StrsAre vs S) (hi : IntsAre ws I)
    (k : ∀ vs ws, News h₀ L h ((a, listOf ws.toArray 0) :: (b, listOf vs.toArray 0) :: g :: r) → StrsAre vs S → IntsAre ws I → G) : G :=
  k vs ws (news_sub N fun p hp => by
    simp only [List.mem_cons] at hp ⊢
    rcases hp with h | h | h | h <;> simp [h]) hs hi
theorem no_ask (last : Int) (ts : List (Int × Int × Int)) : ((signL last ts).any fun y => y == Str.ofString "?") = false := by
  rw [List.any_eq_false]
  intro y hy
  obtain ⟨k, _, rfl⟩ := List.mem_map.mp hy
  unfold sgC
  split
  · decide
  split <;> decide
theorem len_M {prog : Program} {w : World} {A : Around} {E : Value → Shared → Prop} {s : Shared} {h₀ : Heap} {L l : Addr} {news : List (Addr × Obj)} {us : List Value} {n : Nat} {k : Int} {Q : Value → Shared → Prop} (N : News h₀ L s.heap news) (hm : (l, listOf us.toArray n) ∈ news) (e : (us.length : Int) = k) (hk : k ≤ 1000) (h : ∀ t tk, Q (.int k t) { s with toks := tk }) :
    wpAny (model prog w) A (call (.builtin "len") [.ref l]) Q E s :=
  len_list ⟨_, (N _ hm).1, rfl, _, rfl⟩ (by rw [List.size_toArray]; omega) (by rw [List.size_toArray, e]; exact h _ _)
theorem in_M {prog : Program} {w : World} {A : Around} {E : Value → Shared → Prop} {s : Shared} {h₀ : Heap} {L l : Addr} {news : List (Addr × Obj)} {us : List Value} {S : List Str} {n : Nat} {k : Str} {t : Tok} {Q : Value → Shared → Prop} (N : News h₀ L s.heap news) (hm : (l, listOf us.toArray n) ∈ news) (hs : StrsAre us S) (hb : (S.any fun y => y == k) = false) (h : Q (.bool false) s) :
    wpAny (model prog w) A (compareOp .In (.str k t) (.ref l)) Q E s :=
  in_list_strs ⟨_, (N _ hm).1, rfl, _, rfl⟩ hs (by rw [hb]; exact h)
/-- the state of the points between the turns -/
noncomputable def PtsJ (w : World) (PD : Addr) (LED : List (Addr × Obj)) (m0 : Str → Option Value) (last : Int) (TT : List (Int × Int × Int)) (i : Nat) (m₁ : Str → Option Value) (nw : List (Addr × Obj)) : Prop :=
  ∃ o kvs tl u1 u2 u3, nw = (PD, o) :: (tl ++ LED) ∧ (∀ p ∈ tl, p.1 ≠ PD) ∧ o.IsDictOf (intKind PySem.Challenge.rw_ty0056_01.prog w) kvs ∧ PtsD tl kvs (ptS last (TT.take i)) ∧
    m₁ = fun z => if z = Str.ofString "j" then u1 else if z = Str.ofString "k" then u2 else if z = Str.ofString "i" then u3 else m0 z
theorem nodup_two' {a b : Int} (h : a ≠ b) : [a, b].Nodup := by simp [h]
theorem led_pts {a b c : Addr × Obj} {r : List (Addr × Obj)} : ∀ p ∈ c :: ([a, b] ++ r), p ∈ a :: b :: c :: r := by
  intro p hp
  simp only [List.mem_cons, List.cons_append, List.nil_append] at hp ⊢
  rcases hp with h | h | h | h <;> simp [h]
theorem pts_start {prog : Program} {w : World} {h₀ h : Heap} {L dq T1 T2 : Addr} {o : Obj} {t u t' u' : Tok} {n n' : Nat} {last : Int} {r : List (Addr × Obj)} {G : Prop}
    (N : News h₀ L h ((T2, ({ cls := .type "tuple", data := .seq #[.int 0 t, .int 1 u] n } : Obj)) :: (T1, ({ cls := .type "tuple", data := .seq #[.int 1 t', .int 0 u'] n' } : Obj)) :: (dq, o) :: r)) (hd : o.IsDictOf (intKind prog w) [(0, .ref T1), (last, .ref T2)]) (h1 : T1 ≠ dq) (h2 : T2 ≠ dq)
    (k : ∀ kvs tl, News h₀ L h ((dq, o) :: (tl ++ r)) → o.IsDictOf (intKind prog w) kvs → (∀ p ∈ tl, p.1 ≠ dq) → PtsD tl kvs [(0, (1, 0)), (last, (0, 1))] → G) : G :=
  k [(0, .ref T1), (last, .ref T2)] [(T2, { cls := .type "tuple", data := .seq #[.int 0 t, .int 1 u] n }), (T1, { cls := .type "tuple", data := .seq #[.int 1 t', .int 0 u'] n' })]
    (news_sub N led_pts) hd (off_cons h2 (off_cons h1 fun _ h => nomatch h)) ⟨rfl, ⟨T1, t', u', n', rfl, List.mem_cons_of_mem _ List.mem_cons_self⟩, rfl, ⟨T2, t, u, n, rfl, List.mem_cons_self⟩, trivial⟩
theorem led_abs {h₀ h : Heap} {L dq : Addr} {o : Obj} {tl news tl2 : List (Addr × Obj)} {a b c e : Addr × Obj} {G : Prop} (N : News h₀ L h ((dq, o) :: (tl ++ a :: b :: c :: (e :: news ++ tl2)))) (off : ∀ p ∈ a :: b :: c :: (e :: news ++ tl2), p.1 ≠ dq)
    (k : ∀ LG, a ∈ LG → b ∈ LG → e ∈ LG → (∀ p ∈ news, p ∈ LG) → (∀ p ∈ LG, p.1 ≠ dq) → News h₀ L h ((dq, o) :: (tl ++ LG)) → G) : G :=
  k _ List.mem_cons_self (List.mem_cons_of_mem _ List.mem_cons_self) (List.mem_cons_of_mem _ (List.mem_cons_of_mem _ (List.mem_cons_of_mem _ (List.mem_append.mpr (.inl List.mem_cons_self))))) (fun p hp => List.mem_cons_of_mem _ (List.mem_cons_of_mem _ (List.mem_cons_of_mem _ (List.mem_append.mpr (.inl (List.mem_cons_of_mem _ hp)))))) off N
theorem led_pt {t a b : Addr × Obj} {tl r : List (Addr × Obj)} : ∀ p ∈ a :: b :: ((t :: tl) ++ r), p ∈ t :: a :: b :: (tl ++ r) := by
  intro p hp
  simp only [List.mem_cons, List.cons_append] at hp ⊢
  rcases hp with h | h | h | h <;> simp [h]
theorem off_app {d : Addr} {l r : List (Addr × Obj)} (h1 : ∀ p ∈ l, p.1 ≠ d) (h2 : ∀ p ∈ r, p.1 ≠ d) : ∀ p ∈ l ++ r, p.1 ≠ d := fun p hp => (List.mem_append.mp hp).elim (h1 p) (h2 p)
theorem abc_ok {last : Int} (h : 5 ≤ last ∧ last ≤ 7) : ((Txt.slice (Str.ofString "ABCDEFGH") none (some (last + 1))).cps.all (· < 128)) = true ∧ (Txt.slice (Str.ofString "ABCDEFGH") none (some (last + 1))).cps.size = (last + 1).toNat ∧ ∀ i : Nat, i < 8 → ∀ c, (Txt.slice (Str.ofString "ABCDEFGH") none (some (last + 1))).cps[i]? = some c → c = 65 + i := by
  have key : ∀ i : Nat, i < 8 → (Txt.slice (Str.ofString "ABCDEFGH") none (some (last + 1))).cps[i]? = none ∨ (Txt.slice (Str.ofString "ABCDEFGH") none (some (last + 1))).cps[i]? = some (65 + i) := by
    have : last = 5 ∨ last = 6 ∨ last = 7 := by omega
    rcases this with rfl | rfl | rfl <;> decide +kernel
  have k2 : ((Txt.slice (Str.ofString "ABCDEFGH") none (some (last + 1))).cps.all (· < 128)) = true ∧ (Txt.slice (Str.ofString "ABCDEFGH") none (some (last + 1))).cps.size = (last + 1).toNat := by
    have : last = 5 ∨ last = 6 ∨ last = 7 := by omega
    rcases this with rfl | rfl | rfl <;> decide +kernel
  refine ⟨k2.1, k2.2, fun i hi c hc => ?_⟩
  rcases key i hi with e | e
  · rw [e] at hc; cases hc
  · rw [e] at hc; exact (Option.some.inj hc).symm
/-- the corners' lists -/
noncomputable def AtsL (al : List (Addr × Obj)) (TT : List (Int × Int × Int)) (ys : List Value) : Prop :=
  ∀ (k : Nat) (v : Value), ys[k]? = some v → ∃ A us n, v = .ref A ∧ (A, listOf us.toArray n) ∈ al ∧ DatAll [] us ((atS TT (k : Int)).map fun x => Dat.str (Str.ofString (toString x)))
theorem atsL_next {al : List (Addr × Obj)} {TT : List (Int × Int × Int)} {ys us : List Value} {A : Addr} {n i : Nat} (h : AtsL al TT ys) (hl : ys.length = i) (hD : DatAll [] us ((atS TT (i : Int)).map fun x => Dat.str (Str.ofString (toString x)))) : AtsL ((A, listOf us.toArray n) :: al) TT (ys ++ [.ref A]) := by
  intro k v hv
  rw [List.getElem?_append] at hv
  split at hv
  · obtain ⟨A', us', n', e, hm, hD'⟩ := h k v hv
    exact ⟨A', us', n', e, List.mem_cons_of_mem _ hm, hD'⟩
  · next hk =>
    have hk2 : k - ys.length = 0 := by
      have := (List.getElem?_eq_some_iff.mp hv).1
      simp at this; omega
    rw [hk2] at hv
    cases hv
    obtain rfl : k = i := by omega
    exact ⟨A, us, n, rfl, List.mem_cons_self, hD⟩
theorem led_at {a b c d : Addr × Obj} {r : List (Addr × Obj)} : ∀ p ∈ a :: b :: c :: d :: r, p ∈ d :: a :: b :: c :: r := by
  intro p hp
  simp only [List.mem_cons] at hp ⊢
  rcases hp with h | h | h | h | h <;> simp [h]
theorem mul_ok2 {a b : Int} (h : 0 ≤ b ∧ b ≤ 100) : IntMulOk a b := IntMulOk.of_right (PySem.intBits_le_64 (by omega) (by omega))
theorem bne_of_iff {p q : Prop} [Decidable p] [Decidable q] (h : p ↔ q) {b1 b2 : Bool} (e1 : b1 = decide p) (e2 : b2 = decide q) : (b1 != b2) = false := by
  rw [e1, e2, decide_eq_decide.mpr h]; exact bne_self_eq_false _
theorem sgC_beq {a b : Int} (ha : 0 ≤ a ∧ a ≤ 2) (hb : 0 ≤ b ∧ b ≤ 2) : (sgC a == sgC b) = decide (a = b) := by
  have h1 : a = 0 ∨ a = 1 ∨ a = 2 := by omega
  have h2 : b = 0 ∨ b = 1 ∨ b = 2 := by omega
  rcases h1 with rfl | rfl | rfl <;> rcases h2 with rfl | rfl | rfl <;> decide
theorem max_if (x y : Int) : (if y > x then y else x) = max x y := by
  simp only [Int.max_def]
  split <;> split <;> omega
theorem min_if (x y : Int) : (if y < x then y else x) = min x y := by
  simp only [Int.min_def]
  split <;> split <;> omega
theorem led_in {a b c d e : Addr × Obj} {r : List (Addr × Obj)} : ∀ p ∈ c :: a :: e :: r, p ∈ a :: b :: c :: d :: e :: r := by
  intro p hp
  simp only [List.mem_cons] at hp ⊢
  rcases hp with h | h | h | h <;> simp [h]
theorem kij {i n : Nat} {last : Int} (hl : 5 ≤ last ∧ last ≤ 7) (h1 : i < last.toNat) (h2 : n < (last - (i : Int)).toNat) :
    (i : Int) < last ∧ (n : Int) < last - (i : Int) ∧ (i : Int) ≤ last ∧ ((i + 1 + n : Nat) : Int) ≤ last ∧ min n (last - (i : Int) - 1).toNat = n ∧ (0 ≤ (i : Int) ∧ (i : Int) ≤ last) ∧ (0 ≤ (i : Int) + 1 + (n : Int) ∧ (i : Int) + 1 + (n : Int) ≤ last) := by omega
theorem kys {k last : Int} {m : Nat} (hl : 5 ≤ last ∧ last ≤ 7) (h : m = (last + 1).toNat) (hk : 0 ≤ k ∧ k ≤ last) : (0 ≤ k ∧ k < (m : Int)) ∧ m ≤ 8 := by omega
theorem kmin1 {i n : Nat} {last : Int} (h : (i : Int) + 1 + (n : Int) < last) : min (n + 1) (last - (i : Int) - 1).toNat = n + 1 := by omega
theorem kmin2 {i n : Nat} {last : Int} (h : ¬ (i : Int) + 1 + (n : Int) < last) (h2 : (i : Int) + 1 + (n : Int) ≤ last) : min (n + 1) (last - (i : Int) - 1).toNat = n := by omega
theorem rngA {last : Int} (h : 5 ≤ last ∧ last ≤ 7) : Builtin.Range.rangeSize 0 last 1 = (last.toNat : Int) ∧ Builtin.Range.small 0 last 1 = true := ⟨size_of (by omega), small_of (by omega) (by omega) (by omega) (by omega)⟩
theorem rngB {i : Nat} {last : Int} (h : 5 ≤ last ∧ last ≤ 7) (hi : i < last.toNat) : Builtin.Range.rangeSize ((i : Int) + 1) (last + 1) 1 = ((last - (i : Int)).toNat : Int) ∧ Builtin.Range.small ((i : Int) + 1) (last + 1) 1 = true := ⟨size_of (by omega), small_of (by omega) (by omega) (by omega) (by omega)⟩
theorem made_one {prog : Program} {w : World} {s : Shared} {h₀ : Heap} {L d : Addr} {m : Str → Option Value} {news : List (Addr × Obj)} {g : Obj → List (Addr × Obj)} {o : Obj} {Q : Value → Shared → Prop} {vs : List (Value × Value)} {c : List (Int × Int)}
    (F : Fr h₀ L s.heap m) (N : News h₀ L s.heap news) (U : UpdF d o news g) (hd : o.IsDictOf (PySem.intKind prog w) []) (hk : allIntKeys vs = true) (hn : ((intKeyPairs vs).map (·.1)).Nodup) (hv : allFlat vs = true) (hD : intData vs = kdfD c)
    (h : ∀ h' o' kvs tk, Fr h₀ L h' m → News h₀ L h' (g o') → o'.IsDictOf (PySem.intKind prog w) kvs → PyProof.V.FlatPairs PyData.int kvs (kdfD c) → Q (.ref d) { s with heap := h', toks := tk }) : KdnMade prog w (PySem.intKind prog w) d Q vs s :=
  kdn_made_intF F N U hd hk hn hv fun h' o' F' N' x y => h h' o' _ _ F' N' x (hD ▸ y)
theorem strs_at : ∀ {vs : List Value} {S : List Str} {k : Nat} {y : Str}, StrsAre vs S → S[k]? = some y → ∃ t, vs[k]? = some (.str y t)
  | _, _, 0, _, .cons y t _, h => by cases h; exact ⟨t, rfl⟩
  | _, _, k + 1, _, .cons _ _ r, h => strs_at (k := k) r h
theorem ints_at : ∀ {vs : List Value} {S : List Int} {k : Nat} {y : Int}, IntsAre vs S → S[k]? = some y → ∃ t, vs[k]? = some (.int y t)
  | _, _, 0, _, .cons y t _, h => by cases h; exact ⟨t, rfl⟩
  | _, _, k + 1, _, .cons _ _ r, h => ints_at (k := k) r h
section
variable {prog : Program} {w : World} {A : Around} {E : Value → Shared → Prop} {s : Shared} {h₀ : Heap} {L a : Addr} {news : List (Addr × Obj)} {value slice : PySem.Expr} {us : List Value} {n : Nat} {last k : Int} {TT : List (Int × Int × Int)} {tk : Tok} {Q : Value → Shared → Prop}
theorem sgL_item (N : News h₀ L s.heap news) (hm : (a, listOf us.toArray n) ∈ news) (hs : StrsAre us (signL last TT)) (hk : 0 ≤ k ∧ k ≤ last) (hl : last ≤ 7) (h : ∀ t, Q (.str (sgC (colF last TT k)) t) s)
    (hs : subscripted slice false (.ref a) (.int k tk) = operate [.ref a, .int k tk] (getItem (.ref a) (.int k tk)) := by with_unfolding_all rfl) (hg : ∀ r, letTemporaryGo value (.ref a) r = pure () := by intro _; with_unfolding_all rfl) :
    wpAny (model prog w) A (subscriptTail value slice (.ref a) (.int k tk)) Q E s := by
  have e : (signL last TT)[k.toNat]? = some (sgC (colF last TT k)) := by
    unfold signL colF
    rw [List.getElem?_map, List.getElem?_range (by omega), Option.map_some, Int.toNat_of_nonneg hk.1]
  obtain ⟨t, ht⟩ := strs_at (by assumption) e
  exact list_item N hm hk.1 (by omega) ht (h t) hs hg
theorem lvL_item (N : News h₀ L s.heap news) (hm : (a, listOf us.toArray n) ∈ news) (hs : IntsAre us ((List.range (last + 1).toNat).map fun (k : Nat) => lvS last TT (k : Int))) (hk : 0 ≤ k ∧ k ≤ last) (hl : last ≤ 7) (h : ∀ t, Q (.int (lvS last TT k) t) s)
    (hs : subscripted slice false (.ref a) (.int k tk) = operate [.ref a, .int k tk] (getItem (.ref a) (.int k tk)) := by with_unfolding_all rfl) (hg : ∀ r, letTemporaryGo value (.ref a) r = pure () := by intro _; with_unfolding_all rfl) :
    wpAny (model prog w) A (subscriptTail value slice (.ref a) (.int k tk)) Q E s := by
  have e : ((List.range (last + 1).toNat).map fun (k : Nat) => lvS last TT (k : Int))[k.toNat]? = some (lvS last TT k) := by
    rw [List.getElem?_map, List.getElem?_range (by omega), Option.map_some, Int.toNat_of_nonneg hk.1]
  obtain ⟨t, ht⟩ := ints_at (by assumption) e
  exact list_item N hm hk.1 (by omega) ht (h t) hs hg
theorem atL_item {al : List (Addr × Obj)} (N : News h₀ L s.heap news) (hm : (a, LCg.lst us) ∈ news) (hs : AtsL al TT us) (hk : 0 ≤ k ∧ k < us.length) (hl : us.length ≤ 8)
    (h : ∀ A ws n, (A, listOf ws.toArray n) ∈ al → DatAll [] ws ((atS TT k).map fun x => Dat.str (Str.ofString (toString x))) → Q (.ref A) s)
    (hs : subscripted slice false (.ref a) (.int k tk) = operate [.ref a, .int k tk] (getItem (.ref a) (.int k tk)) := by with_unfolding_all rfl) (hg : ∀ r, letTemporaryGo value (.ref a) r = pure () := by intro _; with_unfolding_all rfl) :
    wpAny (model prog w) A (subscriptTail value slice (.ref a) (.int k tk)) Q E s := by
  have hk2 : k.toNat < us.length := by omega
  obtain ⟨A, ws, n, e, hA, hD⟩ := ‹AtsL al TT us› k.toNat _ (List.getElem?_eq_getElem hk2)
  rw [Int.toNat_of_nonneg hk.1] at hD
  exact list_item (n := us.length) N hm hk.1 (by omega) (List.getElem?_eq_getElem hk2) (by rw [e]; exact h A ws n hA hD) hs hg
end
theorem agOk_at {last : Int} {ts : List (Int × Int × Int)} (h : agOk last ts = true) {i n : Nat} (hi : (i : Int) < last) (hn : (n : Int) < last - (i : Int)) :
    ((picksS ts i n).map (·.2)).sum = areaS last ts i ((i : Int) + 1 + (n : Int)) ∧ ((colF last ts i = colF last ts ((i : Int) + 1 + (n : Int))) ↔ ((areaS last ts i ((i : Int) + 1 + (n : Int))).fmod 2 = 0)) ∧
      ((max (lvS last ts i) (lvS last ts ((i : Int) + 1 + (n : Int))) < leastS last ts i n) ↔ (areaS last ts i ((i : Int) + 1 + (n : Int)) = 1)) ∧ (picksS ts i n).length ≤ 100 := by
  unfold agOk at h
  rw [Bool.and_eq_true] at h
  have h1 := List.all_eq_true.mp (List.all_eq_true.mp h.2 i (List.mem_range.mpr (by omega))) n (List.mem_range.mpr (by omega))
  simp only [Bool.and_eq_true, decide_eq_true_eq, beq_iff_eq] at h1
  obtain ⟨⟨⟨a, b⟩, c⟩, d⟩ := h1
  exact ⟨a, decide_eq_decide.mp b, decide_eq_decide.mp c, d⟩
noncomputable def OutJ (LH : List (Addr × Obj)) (m0 : Str → Option Value) (i : Nat) (m₁ : Str → Option Value) (nw : List (Addr × Obj)) : Prop :=
  ∃ u1 u2 u3 u4 u5, nw = LH ∧ m₁ = fun z => if z = Str.ofString "area" then u1 else if z = Str.ofString "j" then u2 else if z = Str.ofString "least" then u3 else if z = Str.ofString "picks" then u4 else if z = Str.ofString "i" then u5 else m0 z
noncomputable def InJ (w : World) (I : Addr) (oI : Obj) (LH : List (Addr × Obj)) (m0 : Str → Option Value) (last : Int) (TT : List (Int × Int × Int)) (i n : Nat) (m₁ : Str → Option Value) (nw : List (Addr × Obj)) : Prop :=
  ∃ D o kvs t u1 u2, nw = (D, o) :: (I, oI) :: LH ∧ (D == sysModules) = false ∧ (∀ p ∈ (I, oI) :: LH, p.1 ≠ D) ∧ o.IsDictOf (intKind PySem.Challenge.rw_ty0056_01.prog w) kvs ∧ PyProof.V.FlatPairs PyData.int kvs (kdfD (picksS TT i (min n (last - (i : Int) - 1).toNat))) ∧
    m₁ = fun z => if z = Str.ofString "area" then u1 else if z = Str.ofString "least" then some (.int (leastS last TT i n) t) else if z = Str.ofString "picks" then some (.ref D) else if z = Str.ofString "j" then u2 else m0 z
theorem spec_agrees {w mean mg mb loose gd cn cs a ccd cl outer A₀ base h₀ L m news s Q E} (x dx hl : Addr) (td : Tok) (nd c : Nat) (us : List Value) (tD : Addr) (ts : List Value) (n0 : Nat) (TT : List (Int × Int × Int)) (last : Int) (t1 : Tok)
    (B : Below A₀ base outer h₀) (F : Fr h₀ L s.heap m) (X : (hd.heap_1 w.params).In h₀) (N : News h₀ L s.heap news) (T : Top hdView loose mean mg mb h₀) (hk : cs.kind = .function)
    (hx : (x, instObj 182 dx) ∈ news) (hdx : (dx, hdDict w hl td nd) ∈ news) (hhl : (hl, listOf us.toArray c) ∈ news) (hu : DatAll news us (hdDat (hdrS TT ++ [(Str.ofString "Row", Mine.T (rowT (rowFin last TT)))])))
    (hm : (tD, listOf ts.toArray n0) ∈ news) (hd : DatAll news ts (TT.map triDat)) (hlast : 5 ≤ last ∧ last ≤ 7) (hTl : TT.length ≤ 8) (tb : tbOk last TT = true) (hok : sgOk last TT = true) (ag : agOk last TT = true) (ad : adOk last TT = true)
    (ret : ∀ h' tk', Fr h₀ L h' m → Q (.bool true) { s with heap := h', toks := tk' }) :
    wpAny (model PySem.Challenge.rw_ty0056_01.prog w) (ktrTop 330 2000 gd cn cs L a ccd cl outer) (call (.ref 301) [.ref x, .ref tD, .int last t1]) Q E s := by
  k_with_none
  w_top off
  k_with "k_all" => assumption
  k_with "k_mem" => ((repeat' (first | exact hm | exact List.mem_cons_self | with_reducible assumption | exact List.mem_append.mpr (.inl (by with_reducible assumption)) | refine List.mem_append.mpr (.inr ?_) | refine List.mem_cons_of_mem _ ?_)); done)
  k_with "call ref" => (refine Stop.mk ?_)
  k_with "call builtin:len" => (refine Stop.mk ?_)
  k_with "compareOp In str ref" => (k_here; k_dflt (refine' in_M ?ia ?ib ?ic ?id ?_; (case ia => k_asm); (case ib => k_mem); (case ic => exact hSG); (case id => exact no_ask _ _)))
  k_with "eval Dict" => (k_here; (with_reducible show wpAny _ _ (eval (Expr.Dict (_ :: _) _ _) _) _ _ _); k_dflt (refine' kdn_eval (knd := PySem.intKind _ _) ?F ?N ?b ?a ?l ?e ?n ?_; (case F => k_asm); (case N => k_asm); (case b => exact Top.nolimit (by k_asm)); (case a => rfl); (case l => rfl); (case e => exact List.cons_ne_nil _ _); (case n => exact Nat.le_of_ble_eq_true rfl)); intro dq h'q o'q F'q N'q l1q loq hdq; (try k_lt l1q))
  k_with "ite" => (with_reducible refine ite_ff ?_)
  k_with "ite" => (with_reducible refine ite_tt ?_)
  k_with "assign Tuple" => (k_here; k_dflt (refine' assign_three ?q0 ?q1 ?q2 ?q3 ?q4 ?q5 ?q6 ?q7 ?_; (case q1 => k_asm); (case q2 => k_asm); (case q3 => exact hTM); (case q0 => rfl); (case q4 => rfl); (case q5 => rfl); (case q6 => rfl); (case q7 => rfl)); intro h8q tk8q F8q N8q; (try dsimp only); (try k_fold))
  k_with "my tmem" => ((repeat' (first | with_reducible assumption | exact mTL _ (by with_reducible assumption) | exact List.mem_append.mpr (.inl (by with_reducible assumption)) | refine List.mem_cons_of_mem _ ?_)); done)
  k_with "subscriptTail Name Name ref int" => (k_here; k_dflt (refine' sgL_item ?qa ?qb ?qc ?qd ?qe ?_ (by with_unfolding_all rfl) (by intro _; with_unfolding_all rfl); (case qa => k_asm); (case qb => k_mem); (case qc => exact hSG); (case qd => with_reducible assumption); (case qe => exact hlast.2)); intro t6q; (try dsimp only); (try k_fold))
  k_with "subscriptTail Name Name ref int" => (k_here; k_dflt (refine' lvL_item ?qa ?qb ?qc ?qd ?qe ?_ (by with_unfolding_all rfl) (by intro _; with_unfolding_all rfl); (case qa => k_asm); (case qb => k_mem); (case qc => exact hLV); (case qd => with_reducible assumption); (case qe => exact hlast.2)); intro t6q; (try dsimp only); (try k_fold))
  k_with "subscriptTail Name Name ref int" => (k_here; k_dflt (refine' atL_item ?qa ?qb ?qc ?qd ?qe ?_ (by with_unfolding_all rfl) (by intro _; with_unfolding_all rfl); (case qa => k_asm); (case qb => k_mem); (case qc => exact hal); (case qd => with_reducible assumption); (case qe => with_reducible assumption)); intro A6q ws6q n6q mA6q hD6q; (try dsimp only); (try k_fold))
  k_with "subscriptTail Name Name ref int" => (k_here; (with_reducible show wpAny _ _ (subscriptTail _ _ (Value.ref _) (Value.int _ _)) _ _ _); k_dflt (refine' pt_item ?qa ?qb ?qc ?qd ?qe ?_ (by with_unfolding_all rfl) (by intro _; with_unfolding_all rfl); (case qa => k_asm); (case qb => k_mem); (case qc => with_reducible assumption); (case qd => with_reducible assumption); (case qe => with_reducible assumption)); intro T9q t9q u9q n9q hT9q; (try dsimp only); (try k_fold))
  k_with "subscriptTail Name Constant ref int" => (k_here; k_dflt (refine' pair_fst ?qa ?qb ?_ (by with_unfolding_all rfl) (by intro _; with_unfolding_all rfl); (case qa => k_asm); (case qb => walk_at "my tmem")); (try dsimp only); (try k_fold))
  k_with "subscriptTail Name Constant ref int" => (k_here; (with_reducible show wpAny _ _ (subscriptTail _ _ (Value.ref _) (Value.int 1 _)) _ _ _); k_dflt (refine' pair_snd ?qa ?qb ?_ (by with_unfolding_all rfl) (by intro _; with_unfolding_all rfl); (case qa => k_asm); (case qb => walk_at "my tmem")); (try dsimp only); (try k_fold))
  k_with "setItem ref int" => (k_here; k_dflt (refine' kda_set (knd := PySem.intKind _ _) ?siF ?siN ?siU ?sid (intKind_is _ _ _ _) ?siz ?_; (case siF => k_asm); (case siN => k_asm); (case siU => exact UpdF.tail (Nat.ne_of_gt (And.left (And.right (by assumption : _ ∧ dq < _ ∧ AllLt _ _)))) (UpdF.tail hI0 (UpdF.head hR0))); (case sid => with_reducible assumption); (case siz => exact hz0)); intro h'q o'q F'q N'q hd'q; (try dsimp only at N'q))
  k_with "exec For Tuple Name cons nil" => (k_here; k_dflt (refine wpAny_For ?_ (by intro _; rfl)))
  k_with "exec Assign cons ListComp" => (refine Stop.mk ?_)
  k_with "eval Name" => (k_here; (with_reducible show wpAny _ _ (eval (Expr.Name _ _) (compEnvC _ _ _ _)) _ _ _); k_dflt (refine' lcf_free ?lN ?lc ?lm ?ld ?_ ?la ?lb; (case la => rfl); (case lb => rfl); (case lN => exact N14); (case lc => rfl); (case lm => exact mCE3); (case ld => exact d1q)))
  k_with "exec For Name Call cons nil" => (k_here; k_dflt (refine wpAny_For ?_ (by intro _; rfl)))
  k_with "binaryOp Mult int int" => (k_here; (with_reducible refine mul_int ?_ (mul_ok2 ?m1)); (case m1 => with_reducible assumption); (try dsimp only); (try k_fold))
  k_with "KdnMade" => (refine Stop.mk ?_)
  k_with "binaryOp Add ref ref" => (k_here; k_dflt (refine' add_M ?aF ?aN ?aa ?ab ?az ?_; (case aF => k_asm); (case aN => k_asm); (case aa => k_mem); (case ab => k_mem); (case az => (simp only [List.length_cons, List.length_nil, List.length_append]; omega))); intro Dq h'q F'q N'q l1q; (try k_lt l1q))
  k_with "k_mem" => ((repeat' (first | exact hm | exact List.mem_cons_self | with_reducible assumption | exact List.mem_append.mpr (.inr (by with_reducible assumption)) | refine List.mem_cons_of_mem _ ?_)); done)
  have hul : ts.length = TT.length := by rw [hd.length]; simp
  revert X; k_fill; intro X
  rcases cs with ⟨ck, c2, c3, c4, c5⟩
  obtain rfl : ck = .function := hk
  refine wpAny_call ?_
  k_dflt k_enter
  k_steps
  unfold Stop
  have hin := tri_in tb hlast.2
  have hro := (tbOk_end tb).1
  have hrl := (tbOk_end tb).2.2
  have hrr := rowOk_at hro
  have hfit := row_fit hro
  obtain ⟨RO, hRO⟩ : ∃ r, r = hdrS TT ++ [(Str.ofString "Row", Mine.T (rowT (rowFin last TT)))] := ⟨_, rfl⟩
  have hnm : ∀ p ∈ RO, p.1.length ≤ 300 := by rw [hRO]; exact row_names hin
  have hrw : getFirst RO (Str.ofString "rOW") = some (Mine.T (rowT (rowFin last TT))) := by rw [hRO]; exact get_row hin
  have hcn : ∀ c : Nat, c ≤ 7 → getAll RO (⟨#[65 + c]⟩ : Str) = (atS TT c).map fun k => Str.ofString (toString k) := by intro c hc; rw [hRO]; exact get_corner hin hc
  have hrn : RO.length ≤ 1000 := by rw [hRO, List.length_append]; show _ + 1 ≤ 1000; omega
  rw [← hRO] at hu
  clear hRO
  rename News _ _ _ _ => N1
  k_dflt (refine' room ?e1 ?e2 (spec_get_M x dx hl td nd c us RO _ _ _ ?k1 ?k2 ?k3 N1 ?k5 ?k6 (List.mem_cons_of_mem _ hx) (List.mem_cons_of_mem _ hdx) (List.mem_cons_of_mem _ hhl) (fun p hp => List.mem_cons_of_mem _ hp) hu (by decide) ?k7 hnm hrw ?ret1))
  case e1 => exact Nat.le_of_ble_eq_true rfl
  case e2 => exact Nat.le_of_ble_eq_true rfl
  case k1 => k_asm
  case k2 => k_asm
  case k3 => k_asm
  case k5 => k_asm
  case k6 => first | exact rfl | assumption
  case k7 => unfold OkT OkC; decide +kernel
  case ret1 =>
    intro t2 h2 tk2 F2 N2
    k_steps
    unfold Stop
    rename News _ _ _ _ => N3
    k_dflt (refine' room ?e1 ?e2 (spec_read _ _ 600 (rowR (rowFin last TT)) ?k1 ?k2 ?k3 N3 ?k5 ?k6 hfit.1 ?k7 (Nat.le_of_ble_eq_true rfl) ?ret2))
    case e1 => exact Nat.le_of_ble_eq_true rfl
    case e2 => exact Nat.le_of_ble_eq_true rfl
    case k1 => k_asm
    case k2 => k_asm
    case k3 => k_asm
    case k5 => k_asm
    case k6 => first | exact rfl | assumption
    case k7 => exact read_row _ _ (fun p hp => ⟨(hrr.1 p hp).1, Nat.le_trans (hrr.1 p hp).2 (by decide)⟩) (by omega)
    case ret2 =>
      intro l2 us2 n2 tl2 h3 tk3 htk3 F3 N4 lt2 lt3 hu2
      k_steps
      have hul2 : us2.length = (rowFin last TT).length := by rw [hu2.length]; simp [rowDat, rowR]
      rename News _ _ _ _ => N5
      rename Fr _ _ _ _ => F5
      refine' ListComp_pair (n := us2.length) (J := fun i ys => DatAll [] ys (((rowR (rowFin last TT)).take i).map fun p => Dat.str p.1)) (R := fun i x y => ∃ p t u, (rowR (rowFin last TT))[i]? = some p ∧ x = .str p.1 t ∧ y = .int p.2 u) F5 N5 (by rfl) (by with_unfolding_all rfl) (by decide) (by rfl) (by decide) (by rfl) (by rfl) (by decide) (by omega) .nil ?hz1 ?turn1 ?fin1
      case hz1 =>
        k_steps
        refine row_src (by rfl) (by assumption) (by assumption) (List.mem_cons_of_mem _ List.mem_cons_self) (fun p hp => List.mem_cons_of_mem _ (List.mem_cons_of_mem _ (List.mem_append.mpr (.inr hp)))) (fun i v hv => row_at hu2 hv) (fun it s₂ e hs => ⟨e, hs⟩)
      case turn1 =>
        rintro j ys x y C oC D m₂ h3 tk3 E3 hj hJ ⟨p, t, u, hp, rfl, rfl⟩ hN3 hma hmb F3 N3 hne3 hoff3
        k_steps
        exact row_next hp hJ (.str _ _)
      case fin1 =>
        intro D h4 tk4 ys F6 N6 hD6 hlen6 hJ6
        have e6 : (rowR (rowFin last TT)).take us2.length = rowR (rowFin last TT) := List.take_of_length_le (by rw [hul2]; simp [rowR])
        have hJ7 : DatAll [] ys ((rowR (rowFin last TT)).map fun p => Dat.str p.1) := by rw [e6] at hJ6; exact hJ6
        clear hJ6
        dsimp only
        k_steps
        rename News _ _ _ _ => N7
        rename Fr _ _ _ _ => F7
        have N7 := news_sub N7 led_lv
        refine' ListComp_pair (n := us2.length) (J := fun i ys => DatAll [] ys (((rowR (rowFin last TT)).take i).map fun p => Dat.int p.2)) (R := fun i x y => ∃ p t u, (rowR (rowFin last TT))[i]? = some p ∧ x = .str p.1 t ∧ y = .int p.2 u) F7 N7 (by rfl) (by with_unfolding_all rfl) (by decide) (by rfl) (by decide) (by rfl) (by rfl) (by decide) (by omega) .nil ?hz2 ?turn2 ?fin2
        case hz2 =>
          k_steps
          refine row_src (by rfl) (by assumption) (by assumption) (List.mem_cons_of_mem _ (List.mem_cons_of_mem _ List.mem_cons_self)) (fun p hp => List.mem_cons_of_mem _ (List.mem_cons_of_mem _ (List.mem_cons_of_mem _ (List.mem_append.mpr (.inr hp))))) (fun i v hv => row_at hu2 hv) (fun it s₂ e hs => ⟨e, hs⟩)
        case turn2 =>
          rintro j ys x y C oC D m₂ h3 tk3 E3 hj hJ ⟨p, t, u, hp, rfl, rfl⟩ hN3 hma hmb F3 N3 hne3 hoff3
          k_steps
          exact row_next hp hJ (.int _ _)
        case fin2 =>
          intro D2 h5 tk5 zs F8 N8 hD8 hlen8 hJ8
          have hJ9 : DatAll [] zs ((rowR (rowFin last TT)).map fun p => Dat.int p.2) := by rw [e6] at hJ8; exact hJ8
          clear hJ8
          dsimp only
          k_steps
          unfold Stop
          rename News _ _ _ _ => N9
          rename Fr _ _ _ _ => F9
          have hA := adOk_at ad
          refine led_gen N9 (S := signL last TT) (I := (List.range (last + 1).toNat).map fun (k : Nat) => lvS last TT (k : Int)) (by rw [← hA.1]; exact strs_app (strs_app (.cons _ _ .nil) (strs_of _ hJ7)) (.cons _ _ .nil)) (by rw [← hA.2.1]; exact ints_app (ints_app (.cons _ _ .nil) (ints_of _ hJ9)) (.cons _ _ .nil)) ?_
          clear N9
          intro SG LV N9 hSG hLV
          have hlr : (us2.length : Int) = last - 1 := by
            have := ag
            unfold agOk at this
            simp only [Bool.and_eq_true, decide_eq_true_eq] at this
            rw [hul2, this.1.1]; omega
          k_dflt (refine' len_M N9 (List.mem_cons_of_mem _ (List.mem_cons_of_mem _ List.mem_cons_self)) hlr (by omega) ?_)
          intro tl tkl
          (try dsimp only)
          clear hJ7 hJ9 hD6 hD8 hu2 e6 lt3 hul2
          k_steps
          · exact absurd rfl (by assumption : ¬ _ = _)
          unfold Stop
          rename News _ _ _ _ => N10
          rename Fr _ _ _ _ => F10
          have hlp := (by assumption : _ ∧ _ ∧ _ ∧ AllLt dq _)
          have hT1 := (by assumption : dq < _ ∧ _ ∧ _ ∧ _ ∧ AllLt _ _)
          have hT2 := (by assumption : _ ∧ dq < _ ∧ _ ∧ _ ∧ _ ∧ AllLt _ _)
          have hoL := off_cons (o := listOf LV.toArray 0) (Nat.ne_of_lt hlp.1) (off_cons (o := listOf SG.toArray 0) (Nat.ne_of_lt hlp.2.1) (off_cons (o := listOf us2.toArray n2) (Nat.ne_of_lt hlp.2.2.1) fun p hp => Nat.ne_of_lt (allLt_mem hlp.2.2.2 p hp)))
          refine' kdn_made_int F10 N10 ?U ?d ?k ?n ?_
          case U => exact UpdF.tail (Nat.ne_of_gt hT2.2.1) (UpdF.tail (Nat.ne_of_gt hT1.1) (UpdF.head hoL))
          case d => with_reducible assumption
          case k => rfl
          case n => with_unfolding_all (show List.Nodup [(0 : Int), last]; exact nodup_two' (by omega))
          intro h11 o11 F11 N11 hd11
          refine pts_start N11 hd11 (Nat.ne_of_gt hT1.1) (Nat.ne_of_gt hT2.2.1) ?_
          clear N11 hd11
          intro kvs0 tl0 N11 hd11 htl0 hP0
          refine led_abs N11 hoL ?_
          clear N11 hoL
          intro LG mLV mSG mCE mNW oLG N11
          (try dsimp only)
          k_steps
          rename News _ _ _ _ => N12
          rename Fr _ _ _ _ => F12
          refine' for_led (items := ts) (n := n0) ?hm5 (PtsJ w dq LG _ last TT) (by rfl) F12 N12 ⟨_, _, _, _, _, _, rfl, htl0, hd11, hP0, form3 rfl rfl rfl ?g5⟩ ?hS5 ?go5 ?hE5 ?turn5 ?done5
          case hm5 => exact List.mem_cons_of_mem _ (List.mem_append.mpr (.inr (mNW _ hm)))
          case g5 => exact fun _ _ _ _ => rfl
          case hS5 =>
            rintro i m₁ nw ⟨o, kvs, tl, u1, u2, u3, rfl, _⟩
            exact List.mem_cons_of_mem _ (List.mem_append.mpr (.inr (mNW _ hm)))
          case go5 =>
            intro v hv
            obtain ⟨n, hn, rfl⟩ := List.getElem_of_mem hv
            obtain ⟨hi, hD⟩ := dat_at hd (List.getElem?_eq_getElem hn)
            obtain ⟨T9, t, u, w9, n9, e, _⟩ := dat_tri hD
            exact .inr ⟨⟨T9, e⟩, _, _, _, rfl⟩
          case hE5 => passes_own
          case turn5 =>
            rintro i v m₁ nw I oI h tk hv9 ⟨o, kvs, tl, u1, u2, u3, rfl, htl, hdk, hP, rfl⟩ F9 N9 off9
            obtain ⟨hi9, hD9⟩ := dat_at hd hv9
            rcases hT9 : TT[i] with ⟨ti, tk9, tj⟩
            rw [hT9] at hD9
            have hTi : TT[i]? = some (ti, tk9, tj) := by rw [List.getElem?_eq_getElem hi9, hT9]
            obtain ⟨T9, t8, w7, w8, n8, rfl, hTm⟩ := dat_tri hD9
            obtain ⟨p1, p2, p3⟩ := hA.2.2.1 i ti tk9 tj hTi
            have hTM : (T9, ({ cls := .type "tuple", data := .seq #[.int ti t8, .int tk9 w7, .int tj w8] n8 } : Obj)) ∈ (I, oI) :: (dq, o) :: (tl ++ LG) := List.mem_cons_of_mem _ (List.mem_cons_of_mem _ (List.mem_append.mpr (.inr (mNW _ hTm))))
            have hI0 := (off9 _ List.mem_cons_self).symm
            have hR0 := off_app htl oLG
            have hz0 : kvs.length ≤ sizeLine := by
              have h1 := ptsD_len hP
              have h2 := ptS_len last (TT.take i)
              have h3 : (TT.take i).length ≤ 8 := by rw [List.length_take]; omega
              rw [sizeLine_eq]; omega
            have hnx := ptS_next (last := last) hTi
            clear hv9 hD9 hT9 N12 F12 hP0 htl0 hd11 hT1 hT2 hlp hA
            k_steps
            rename News _ _ _ _ => NZ
            rename Fr _ _ _ _ => FZ
            have hTn := (by assumption : I < _ ∧ dq < _ ∧ AllLt _ (tl ++ LG))
            refine ForPost.intro _ FZ NZ led_pt (off_cons hI0.symm (off_app (off_cons (Nat.ne_of_gt hTn.1) fun p hp => off9 p (List.mem_cons_of_mem _ (List.mem_append.mpr (.inl hp)))) fun p hp => off9 p (List.mem_cons_of_mem _ (List.mem_append.mpr (.inr hp))))) ⟨_, _, _, _, _, _, rfl, off_cons (Nat.ne_of_gt hTn.2.1) htl, hd'q, ?_, form3 (by rfl) (by rfl) (by rfl) (by intro z h1 h2 h3; simp only [h1, h2, h3, if_false])⟩
            rw [hnx]
            exact ptsD_put (ptsD_mono (fun p hp => List.mem_cons_of_mem _ hp) hP) p3 ⟨_, _, _, _, rfl, List.mem_cons_self⟩
          case done5 =>
            rintro m₁ nw h tk ⟨o, kvs, tl, u1, u2, u3, rfl, htl, hdk, hP, rfl⟩ F9 N9
            rw [hul, List.take_length] at hP
            (try dsimp only)
            k_steps
            unfold Stop
            have habc := abc_ok hlast
            refine' Assign_signs F9 (by rfl) (by with_unfolding_all rfl) (by with_unfolding_all rfl) (by decide) (by rfl) (by decide) (by rfl) (by rfl) (by rfl) ?hz6
            case hz6 =>
              refine stopped ?_
              k_steps
              unfold Stop
              rename News _ _ _ _ => N13
              rename Fr _ _ _ _ => F13
              generalize Txt.slice (Str.ofString "ABCDEFGH") none (some (last + 1)) = z9 at habc ⊢
              refine ⟨z9, _, _, rfl, habc.1, by rw [habc.2.1]; omega, by rfl, F13, N13, ?_⟩
              rintro s₂ ⟨g9, rfl⟩
              obtain ⟨n9, hn9⟩ : ∃ n, n = z9.cps.size := ⟨_, rfl⟩
              rw [← hn9] at habc ⊢
              refine comp_ind_U n9 (fun i ys nw => ∃ al, nw = al ++ (dq, o) :: (tl ++ LG) ∧ ys.length = i ∧ AtsL al TT ys) ?turn6 ?fin6 n9 0 [] _ (Nat.zero_add n9) ⟨[], rfl, rfl, fun k v h => by cases h⟩
              case turn6 =>
                rintro i ys nw v I oI C oC D m₂ h6 tk6 E6 hi6 ⟨al, rfl, hlen6, hal⟩ ⟨cc, uu, hcc, rfl⟩ hN6 hm6 F14 N14 off14 hne14
                rw [habc.2.1] at hi6
                obtain rfl := habc.2.2 i (by omega) cc hcc
                have mCE3 : (_, _) ∈ (I, oI) :: (C, oC) :: (D, LCg.lst ys) :: (al ++ (dq, o) :: (tl ++ LG)) := List.mem_cons_of_mem _ (List.mem_cons_of_mem _ (List.mem_cons_of_mem _ (List.mem_append.mpr (.inr (List.mem_cons_of_mem _ (List.mem_append.mpr (.inr mCE)))))))
                have mX := mNW _ hx
                have mDX := mNW _ hdx
                have mHL := mNW _ hhl
                have d1q := (by assumption : Obj.data _ = Data.cell _)
                refine stopped ?_
                k_steps
                unfold Stop
                have hcx : i ≤ 7 := by omega
                have inL : ∀ p ∈ LG, p ∈ (I, oI) :: (C, oC) :: (D, LCg.lst ys) :: (al ++ (dq, o) :: (tl ++ LG)) := fun p hp => List.mem_cons_of_mem _ (List.mem_cons_of_mem _ (List.mem_cons_of_mem _ (List.mem_append.mpr (.inr (List.mem_cons_of_mem _ (List.mem_append.mpr (.inr hp)))))))
                k_dflt (refine' room ?e1 ?e2 (spec_all_M x dx hl td nd c us RO _ _ ?k1 F14 ?k3 N14 ?k5 ?k6 (inL _ mX) (inL _ mDX) (inL _ mHL) (fun p hp => inL p (mNW p hp)) hu ?k8 ?k7 hnm hrn ?ret6))
                case e1 => exact Nat.le_of_ble_eq_true rfl
                case e2 => exact Nat.le_of_ble_eq_true rfl
                case k1 => k_asm
                case k3 => k_asm
                case k5 => k_asm
                case k6 => first | exact rfl | assumption
                case k8 => exact Nat.le_of_ble_eq_true rfl
                case k7 => exact (row_big i (by omega)).2
                case ret6 =>
                  intro D9 ys9 h9 tk9 F15 N15 off15 hD15
                  rw [hcn i hcx, List.map_map] at hD15
                  (try dsimp only)
                  k_steps
                  (try unfold Stop)
                  refine LCg.CompEnd.intro F15 N15 ((D9, listOf ys9.toArray ys9.length) :: (al ++ (dq, o) :: (tl ++ LG))) led_at ⟨⟨(off15 _ List.mem_cons_self).symm, (off15 _ (List.mem_cons_of_mem _ List.mem_cons_self)).symm, (off15 _ (List.mem_cons_of_mem _ (List.mem_cons_of_mem _ List.mem_cons_self))).symm⟩, off14⟩ trivial ⟨(D9, listOf ys9.toArray ys9.length) :: al, rfl, by rw [List.length_append, hlen6]; rfl, atsL_next hal hlen6 hD15⟩
              case fin6 =>
                rintro ys nw ⟨al, rfl, hlen6, hal⟩ D h6 tk6 F14 N14 off14
                rw [habc.2.1] at hlen6
                (try dsimp only)
                k_steps
                rename IsRange _ _ _ _ _ _ _ _ => hrg
                rename News _ _ _ _ => N16
                rename Fr _ _ _ _ => F16
                obtain ⟨LH, hLH⟩ : ∃ l, l = (D, LCg.lst ys) :: (al ++ (dq, o) :: (tl ++ LG)) := ⟨_, rfl⟩
                rw [← hLH] at N16
                have mAT : (D, LCg.lst ys) ∈ LH := hLH ▸ List.mem_cons_self
                have mAL : ∀ p ∈ al, p ∈ LH := fun p hp => hLH ▸ List.mem_cons_of_mem _ (List.mem_append.mpr (.inl hp))
                have mPD : (dq, o) ∈ LH := hLH ▸ List.mem_cons_of_mem _ (List.mem_append.mpr (.inr List.mem_cons_self))
                have mTL : ∀ p ∈ tl, p ∈ LH := fun p hp => hLH ▸ List.mem_cons_of_mem _ (List.mem_append.mpr (.inr (List.mem_cons_of_mem _ (List.mem_append.mpr (.inl hp)))))
                have mGH : ∀ p ∈ LG, p ∈ LH := fun p hp => hLH ▸ List.mem_cons_of_mem _ (List.mem_append.mpr (.inr (List.mem_cons_of_mem _ (List.mem_append.mpr (.inr hp)))))
                have mLV2 := mGH _ mLV
                have mSG2 := mGH _ mSG
                clear hLH off14 habc hn9 hT1 hT2 hlp hd11 htl0 hP0
                refine' for_range last.toNat (OutJ LH _) (by rfl) F16 N16 ⟨_, _, _, _, _, rfl, form5 rfl rfl rfl rfl rfl ?g7⟩ hrg (rngA hlast).1 (rngA hlast).2 (by rfl) (by rfl) ?hE7 ?turn7 ?done7
                case g7 => exact fun _ _ _ _ _ _ => rfl
                case hE7 => passes_own
                case turn7 =>
                  rintro i ti m₁ nw I oI h7 tk7 hi7 ⟨u1, u2, u3, u4, u5, rfl, rfl⟩ htk7 F17 N17 off17 hoI7
                  rw [Int.zero_add] at F17
                  k_steps
                  unfold Stop
                  rename News _ _ _ _ => N18
                  rename Fr _ _ _ _ => F18
                  have hld := (by assumption : I < dq ∧ AllLt dq nw)
                  have hof := off_cons (o := oI) (Nat.ne_of_lt hld.1) fun p hp => Nat.ne_of_lt (allLt_mem hld.2 p hp)
                  refine' made_one (c := [(0, 1)]) F18 N18 (UpdF.head hof) hdq ?k1 ?k2 ?k3 ?k4 ?_
                  case k1 => rfl
                  case k2 => with_unfolding_all (show List.Nodup [(0 : Int)]; simp)
                  case k3 => rfl
                  case k4 => rfl
                  intro h19 o19 kvs19 tk19 F19 N19 hd19 hf19
                  (try dsimp only)
                  k_steps
                  rename IsRange _ _ _ _ _ _ _ _ => hrg2
                  rename News _ _ _ _ => N20
                  rename Fr _ _ _ _ => F20
                  refine' for_range (last - (i : Int)).toNat (InJ w I oI nw _ last TT i) (by rfl) F20 N20 ⟨dq, o19, kvs19, _, _, _, rfl, loq, hof, hd19, by rw [Nat.zero_min]; exact hf19, form4 rfl rfl rfl rfl ?g8⟩ hrg2 (rngB hlast hi7).1 (rngB hlast hi7).2 (by rfl) (by rfl) ?hE8 ?turn8 ?done8
                  case g8 => exact fun _ _ _ _ _ => rfl
                  case hE8 => passes_own
                  case turn8 =>
                    rintro n tn m₂ nw2 J oJ h8 tk8 hn8 ⟨D3, o3, kvs3, t3, v1, v2, rfl, lo3, off3, hd3, hf3, rfl⟩ htk8 F21 N21 off21 hoJ8
                    obtain ⟨w1, w2, w3, w4, emin, w6, w7⟩ := kij hlast hi7 hn8
                    obtain ⟨w8, w9⟩ := kys hlast hlen6 w7
                    obtain ⟨z1, z2, z3, z4⟩ := agOk_at ag w1 w2
                    rw [emin] at hf3
                    have pi9 := (hA.2.2.2 i w3).1
                    have pj9 := (hA.2.2.2 (i + 1 + n) w4).1
                    rw [show ((i + 1 + n : Nat) : Int) = (i : Int) + 1 + (n : Int) by push_cast; rfl] at pj9
                    have bi9 := (hA.2.2.2 i w3).2.2.2
                    have bj9 := (hA.2.2.2 (i + 1 + n) w4).2.2.2
                    rw [show ((i + 1 + n : Nat) : Int) = (i : Int) + 1 + (n : Int) by push_cast; rfl] at bj9
                    have ci9 := (sgOk_end hok (k := i) w3).2
                    have cj9 := (sgOk_end hok (k := i + 1 + n) w4).2
                    rw [show ((i + 1 + n : Nat) : Int) = (i : Int) + 1 + (n : Int) by push_cast; rfl] at cj9
                    have hch9 := (hA.2.2.2 (i + 1 + n) w4).2.1
                    have hcl9 := (hA.2.2.2 (i + 1 + n) w4).2.2.1
                    rw [show ((i + 1 + n : Nat) : Int) = (i : Int) + 1 + (n : Int) by push_cast; rfl] at hch9 hcl9
                    have y1 : ((sgC (colF last TT (i : Int)) == sgC (colF last TT ((i : Int) + 1 + (n : Int)))) != (((ptLook (ptS last TT) (i : Int)).1 * (ptLook (ptS last TT) ((i : Int) + 1 + (n : Int))).2 - (ptLook (ptS last TT) ((i : Int) + 1 + (n : Int))).1 * (ptLook (ptS last TT) (i : Int)).2).fmod 2 == 0)) = false := bne_of_iff z2 (sgC_beq ci9 cj9) rfl
                    have y2 : (decide ((if lvS last TT ((i : Int) + 1 + (n : Int)) > lvS last TT (i : Int) then lvS last TT ((i : Int) + 1 + (n : Int)) else lvS last TT (i : Int)) < leastS last TT (i : Int) n) != ((ptLook (ptS last TT) (i : Int)).1 * (ptLook (ptS last TT) ((i : Int) + 1 + (n : Int))).2 - (ptLook (ptS last TT) ((i : Int) + 1 + (n : Int))).1 * (ptLook (ptS last TT) (i : Int)).2 == 1)) = false := bne_of_iff z3 (by rw [max_if]) rfl
                    have eL : (if lvS last TT ((i : Int) + 1 + (n : Int)) < leastS last TT (i : Int) n then lvS last TT ((i : Int) + 1 + (n : Int)) else leastS last TT (i : Int) n) = leastS last TT (i : Int) (n + 1) := min_if _ _
                    have y0 : ((picksS TT (i : Int) n).map (·.2)).sum = (ptLook (ptS last TT) (i : Int)).1 * (ptLook (ptS last TT) ((i : Int) + 1 + (n : Int))).2 - (ptLook (ptS last TT) ((i : Int) + 1 + (n : Int))).1 * (ptLook (ptS last TT) (i : Int)).2 := z1
                    clear N20 F20 N18 F18 N19 F19 hA hin hro hrr hfit hnm hrw hcn hrn hdq hof hld hd19 hf19 emin z1 z2 z3
                    k_steps
                    all_goals first | exact absurd y0 (by with_reducible assumption) | skip
                    · unfold Stop
                      rename News _ _ _ _ => NZ
                      k_dflt (refine' room ?e1 ?e2 (spec_more D3 A6q o3 kvs3 (picksS TT i n) ws6q (atS TT ((i : Int) + 1 + (n : Int))) n6q ?k1 ?k2 ?k3 NZ ?k5 ?k6 (List.mem_cons_of_mem _ (List.mem_cons_of_mem _ List.mem_cons_self)) lo3 hd3 hf3 (List.mem_cons_of_mem _ (List.mem_cons_of_mem _ (List.mem_cons_of_mem _ (List.mem_cons_of_mem _ (mAL _ mA6q))))) hD6q hch9 z4 hcl9 ?ret9))
                      case e1 => exact Nat.le_of_ble_eq_true rfl
                      case e2 => exact Nat.le_of_ble_eq_true rfl
                      case k1 => k_asm
                      case k2 => k_asm
                      case k3 => k_asm
                      case k5 => k_asm
                      case k6 => first | exact rfl | assumption
                      case ret9 =>
                        intro D9 o9 kvs9 h9 tk9 F22 N22 off22 lo9 hd9 hf9
                        (try dsimp only)
                        k_steps
                        have emin := kmin1 (i := i) (n := n) (last := last) (by with_reducible assumption)
                        rename News _ _ _ _ => NY
                        rename Fr _ _ _ _ => FY
                        refine ForPost.intro _ FY NY led_in (off_cons (off22 _ (List.mem_cons_of_mem _ List.mem_cons_self)).symm fun p hp => off21 p (List.mem_cons_of_mem _ hp)) ⟨D9, o9, kvs9, _, _, _, rfl, lo9, fun p hp => off22 p (List.mem_cons_of_mem _ (List.mem_cons_of_mem _ (List.mem_cons_of_mem _ hp))), hd9, by rw [emin]; exact hf9, form4 (by rfl) (congrArg (fun z => some (Value.int z _)) eL) (by rfl) (by rfl) (by intro z h1 h2 h3 h4; simp only [h1, h2, h3, h4, if_false])⟩
                    · have emin := kmin2 (i := i) (n := n) (last := last) (by with_reducible assumption) w7.2
                      rename News _ _ _ _ => NY
                      rename Fr _ _ _ _ => FY
                      refine ForPost.intro _ FY NY (fun p hp => List.mem_cons_of_mem _ hp) off21 ⟨D3, o3, kvs3, _, _, _, rfl, lo3, off3, hd3, by rw [emin]; exact hf3, form4 (by rfl) (congrArg (fun z => some (Value.int z _)) eL) (by rfl) (by rfl) (by intro z h1 h2 h3 h4; simp only [h1, h2, h3, h4, if_false])⟩
                  case done8 =>
                    rintro m₂ nw2 h8 tk8 ⟨D3, o3, kvs3, t3, v1, v2, rfl, lo3, off3, hd3, hf3, rfl⟩ F21 N21
                    (try dsimp only)
                    k_steps
                    exact ForPost.intro nw (by assumption) (by assumption) (fun p hp => List.mem_cons_of_mem _ hp) off17 ⟨_, _, _, _, _, rfl, form5 (by rfl) (by rfl) (by rfl) (by rfl) (by rfl) (by intro z h1 h2 h3 h4 h5; simp only [h1, h2, h3, h4, h5, if_false])⟩
                case done7 =>
                  rintro m₁ nw h tk ⟨u1, u2, u3, u4, u5, rfl, rfl⟩ F17 N17
                  (try dsimp only)
                  k_steps
                  exact ret _ _ (by assumption)
end Mine
end
section
open PySem PySem.W PyProof.Rows PySem.Calls
set_option maxRecDepth 100000
set_option maxHeartbeats 4000000
namespace Mine
local macro_rules | `(tactic| k_qdec) => `(tactic| decide +kernel)
theorem lv_d : callerA.depth + 1 ≤ 330 := by unfold callerA claimMargin; decide
theorem lv_u : callerA.units + 3 ≤ 2000 := by unfold callerA; decide
theorem unstop {P : Prop} (h : P) : Stop P := h
theorem all_ok {la : Int} (h : 5 ≤ la ∧ la ≤ 7) {cz : List Int} (h6 : cz.length = 6) {TT : List (Int × Int × Int)} (e : TT = (triS la (cz.take (la - 1).toNat)).2) : sgOk la TT = true ∧ agOk la TT = true ∧ tbOk la TT = true ∧ adOk la TT = true ∧ TT.length ≤ 8 := by
  have hlen : TT.length ≤ 8 := by
    rw [e]
    have := tri_len la cz (la - 1).toNat
    omega
  have hc : la = 5 ∨ la = 6 ∨ la = 7 := by omega
  rcases hc with rfl | rfl | rfl
  · have hm := triS_mem (last := 5) (by decide) (by decide) (cz := cz.take 4) (n := 4) (by rw [List.length_take, h6]; rfl) (by decide)
    rw [show ((5 : Int) - 1).toNat = 4 by decide] at e
    rw [← e] at hm
    exact ⟨sg5 _ hm, ag5 _ hm, tb5 _ hm, ad5 _ hm, hlen⟩
  · have hm := triS_mem (last := 6) (by decide) (by decide) (cz := cz.take 5) (n := 5) (by rw [List.length_take, h6]; rfl) (by decide)
    rw [show ((6 : Int) - 1).toNat = 5 by decide] at e
    rw [← e] at hm
    exact ⟨sg6 _ hm, ag6 _ hm, tb6 _ hm, ad6 _ hm, hlen⟩
  · have hm := triS_mem (last := 7) (by decide) (by decide) (cz := cz.take 6) (n := 6) (by rw [List.length_take, h6]; rfl) (by decide)
    rw [show ((7 : Int) - 1).toNat = 6 by decide] at e
    rw [← e] at hm
    exact ⟨sg7 _ hm, ag7 _ hm, tb7 _ hm, ad7 _ hm, hlen⟩
theorem lawT : PySem.Challenge.rw_ty0056_01.Holds := hd (by
  k_with_none
  k_with "k_all" => assumption
  k_with "k_mem" => assumption
  k_with "call ref" => (refine Stop.mk ?_)
  k_with "assign Tuple" => (k_here; k_dflt (refine' assign_two ?q0 ?q1 ?q2 ?q3 ?q4 ?q5 ?q6 ?_; (case q1 => k_asm); (case q2 => k_asm); (case q3 => exact List.mem_cons_self); (case q0 => rfl); (case q4 => rfl); (case q5 => rfl); (case q6 => rfl)); intro h8q tk8q F8q N8q; (try dsimp only); (try k_fold))
  k_go0
  all_goals (try k_fold)
  iterate 9 walk1
  rename_i w0 s0 s1 mg0 mb0 G Y fa o0 pm0 doc0 kV0 ho0 hg0 KX XX V GL T0 BT TE TW w9 w8 M0 w7 w6 hcd ns hs0 hlay0 hLa hra hl2 w4 w3 scA vs0 w00 hL0 ra0 ww0 r00 hI0 hrr hc1 hc2 K0 hD0 h1 F0 N0
  clear hD0 hc2 hrr r00 ww0 ra0 hl2 hra hLa hlay0 hs0 hcd M0 TW TE BT GL V XX ho0 Y G
  have K1 : Below callerA s1.heap [] s1.heap := K0
  clear K0
  have hc63 : ns.length ≤ 63 := by omega
  k_steps
  refine unstop ?_
  k_dflt (refine' room lv_d lv_u (spec_cells1 scA vs0 ns ?k1 ?k2 ?k3 ?k4 ?k5 ?k6 hL0 hI0 hc63 ?ret1))
  case k1 => k_asm
  case k2 => k_asm
  case k3 => k_asm
  case k4 => k_asm
  case k5 => k_asm
  case k6 => first | exact rfl | assumption
  case ret1 =>
    intro D l cz us n n2 tot tt h2 tk2 F2 N2 lt1 lt2 hus h6 hcb ht0
    (try dsimp only)
    k_steps
    refine unstop ?_
    have hla : 5 ≤ 5 + (if (4 : Int) < (ns.length : Int) then (4 : Int) else (ns.length : Int)).fdiv 2 ∧ 5 + (if (4 : Int) < (ns.length : Int) then (4 : Int) else (ns.length : Int)).fdiv 2 ≤ 7 := by
      rw [Int.fdiv_eq_ediv_of_nonneg _ (by decide)]
      split <;> omega
    rename Fr _ _ _ _ => FQ
    rename News _ _ _ _ => NQ
    generalize 5 + (if (4 : Int) < (ns.length : Int) then (4 : Int) else (ns.length : Int)).fdiv 2 = la at hla FQ ⊢
    k_dflt (refine' room lv_d lv_u (spec_tri l us cz n la _ ?k1 FQ ?k3 NQ ?k5 ?k6 (List.mem_cons_of_mem _ List.mem_cons_self) hus h6 hcb hla ?ret2))
    case k1 => k_asm
    case k3 => k_asm
    case k5 => k_asm
    case k6 => first | exact rfl | assumption
    case ret2 =>
      intro D3 ys tl3 n3 h3 tk3 F3 N3 lt3 off3 hd3
      obtain ⟨TT, hTT⟩ : ∃ t, t = (triS la (cz.take (la - 1).toNat)).2 := ⟨_, rfl⟩
      rw [← hTT] at hd3
      have ho := all_ok hla h6 hTT
      obtain ⟨o1, o2, o3, o4, o5⟩ := ho
      clear hTT hus hcb h6
      (try dsimp only)
      k_steps
      refine unstop ?_
      rename Fr _ _ _ _ => F4
      rename News _ _ _ _ => N4
      k_dflt (refine' room lv_d lv_u (spec_signs D3 ys TT n3 la tot _ _ ?k1 F4 ?k3 N4 ?k5 ?k6 List.mem_cons_self (DatAll.mono (fun p hp => List.mem_cons_of_mem _ (List.mem_append.mpr (.inl hp))) hd3) hla ht0 o1 o5 ?ret3))
      case k1 => k_asm
      case k3 => k_asm
      case k5 => k_asm
      case k6 => first | exact rfl | assumption
      case ret3 =>
        intro D5 ss n5 h5 tk5 F5 N5 off5 hs5
        (try dsimp only)
        k_steps
        refine unstop ?_
        rename Fr _ _ _ _ => F6
        rename News _ _ _ _ => N6
        k_dflt (refine' room lv_d lv_u (spec_table D3 D5 ys ss TT n3 n5 la tot _ _ ?k1 F6 ?k3 N6 ?k5 ?k6 (List.mem_cons_of_mem _ List.mem_cons_self) (DatAll.mono (fun p hp => List.mem_cons_of_mem _ (List.mem_cons_of_mem _ (List.mem_append.mpr (.inl hp)))) hd3) List.mem_cons_self (DatAll.mono (fun p hp => absurd hp List.not_mem_nil) hs5) hla ht0 o1 o5 o3 ?ret4))
        case k1 => k_asm
        case k3 => k_asm
        case k5 => k_asm
        case k6 => first | exact rfl | assumption
        case ret4 =>
          intro x dx hl us6 td nd c6 tl6 h8 tk8 F7 N7 hx7 hdx7 off7 hu7
          (try dsimp only)
          k_steps
          refine unstop ?_
          rename Fr _ _ _ _ => F8
          rename News _ _ _ _ => N8
          k_dflt (refine' room lv_d lv_u (spec_agrees x dx hl td nd c6 us6 D3 ys n3 TT la _ ?k1 F8 ?k3 N8 ?k5 ?k6 List.mem_cons_self (List.mem_cons_of_mem _ List.mem_cons_self) (List.mem_cons_of_mem _ (List.mem_cons_of_mem _ List.mem_cons_self)) (DatAll.mono (fun p hp => List.mem_cons_of_mem _ (List.mem_cons_of_mem _ (List.mem_cons_of_mem _ (List.mem_append.mpr (.inl hp))))) hu7) (List.mem_cons_of_mem _ (List.mem_cons_of_mem _ (List.mem_cons_of_mem _ (List.mem_append.mpr (.inr (List.mem_cons_of_mem _ List.mem_cons_self)))))) (DatAll.mono (fun p hp => List.mem_cons_of_mem _ (List.mem_cons_of_mem _ (List.mem_cons_of_mem _ (List.mem_append.mpr (.inr (List.mem_cons_of_mem _ (List.mem_cons_of_mem _ (List.mem_append.mpr (.inl hp)))))))))  hd3) hla o5 o3 o1 o2 o4 ?ret5))
          case k1 => k_asm
          case k3 => k_asm
          case k5 => k_asm
          case k6 => first | exact rfl | assumption
          case ret5 =>
            intro h9 tk9 F9
            (try dsimp only)
            k_steps)
end Mine
end
theorem PySem.Challenge.cw_ty0056_01_holds : PySem.Challenge.rw_ty0056_01.Holds :=
  Mine.lawT
