import PyProof.Rows.All
import Wide.All
import OpenK.AllK
import Wide.FinOn
import PySem.Sre
import PySem.Builtin.Re_Pattern.W2All
import PySem.Challenge.RW_ty0056_02
set_option Elab.async false
set_option compiler.extract_closed false
set_option linter.unusedVariables false
set_option linter.unusedSimpArgs false
section
open PySem PySem.W PyProof.Rows
set_option maxRecDepth 100000
set_option maxHeartbeats 8000000
namespace Mine
/-- the row's program without the statements that its view leaves out -/
noncomputable abbrev hdPick {a0 a1 a2 a3 a4 a5 a6 a7 a8 a9 a10 a11 a12 a13 a14 a15 a16 a17 a18 a19 a20 a21 a22 a23 a24 a25 a26 a27 a28 a29 : Stmt} (_ : PySem.Challenge.pw_ty0056_02.main.body = [a0, a1, a2, a3, a4, a5, a6, a7, a8, a9, a10, a11, a12, a13, a14, a15, a16, a17, a18, a19, a20, a21, a22, a23, a24, a25, a26, a27, a28, a29]) : Program := { PySem.Challenge.pw_ty0056_02 with main := { PySem.Challenge.pw_ty0056_02.main with body := [a0, a1, a3, a4, a5, a6, a7, a8, a9, a10, a12, a13, a14, a16, a18, a19, a20, a21, a23, a24, a25, a26, a27, a28, a29] } }
noncomputable def hdView : Program := hdPick (rfl : PySem.Challenge.pw_ty0056_02.main.body = [_, _, _, _, _, _, _, _, _, _, _, _, _, _, _, _, _, _, _, _, _, _, _, _, _, _, _, _, _, _])
abbrev hdLoose : List Str := [Str.ofString "ONE_THIRD", Str.ofString "ONE_SIXTH", Str.ofString "TWO_THIRD", Str.ofString "tspecials", Str.ofString "_name_disallowed_re", Str.ofString "_value_disallowed_re", Str.ofString "_formatparam"]
abbrev hdLv : List (Str × WData) := [(Str.ofString "ONE_THIRD", WData.float 4599676419421066581), (Str.ofString "ONE_SIXTH", WData.float 4595172819793696085), (Str.ofString "TWO_THIRD", WData.float 4604180019048437077)]
local macro_rules | `(tactic| o_law) => `(tactic| refine holds_law (by decide +kernel) fun said => ?_)
local macro_rules | `(tactic| o_head $H) => do
  let (hl, hw, hc) := (Lean.mkIdent `hl, Lean.mkIdent `hw, Lean.mkIdent `hc)
  `(tactic| (refine holds_open (q := hdView) (loose := hdLoose) (Xt := fun s => xlAt hdView hdLv s && recOk (RowW.records (PySem.Challenge.rw_ty0056_02.row.toRowW)) s) (XP := XL hdView hdLv) (Yf := Hook.obs $H) (Ya := Hook.val $H) (YP := Hook.says $H) (N := 3326) ?$hl (Hook.of $H) (Hook.keeps $H) (fun s e => xl_of s (Bool.and_eq_true_iff.mp e).1) XL.keeps (by rfl) (by rfl) (by rfl) (fun s e => recFacts_of (Bool.and_eq_true_iff.mp e).2) (by rfl) (by first | assumption | decide +kernel) (by decide +kernel) ⟨rfl, rfl, rfl, rfl, rfl, by decide +kernel⟩ ?$hw ?$hc
             (case _ => (intro w; kernel_rfl!))))
open_top hd for PySem.Challenge.rw_ty0056_02
end Mine
end
local macro_rules | `(tactic| walk_at $s:str) => `(tactic| k_extra $s)
local macro_rules | `(tactic| k_all) => `(tactic| k_extra "k_all")
local macro_rules | `(tactic| k_mem) => `(tactic| k_extra "k_mem")
local macro_rules | `(tactic| k_ne) => `(tactic| k_extra "k_ne")
section
open PySem PySem.W PyProof.Rows PySem.Calls
set_option maxRecDepth 100000
namespace Mine
/-- every sign c of a text replaced by the text z -/
noncomputable def repl (c : Nat) (z : Str) (x : Str) : Str := ⟨(x.cps.toList.flatMap fun a => if a = c then z.cps.toList else [a]).toArray⟩

theorem flat_free (c : Nat) (z : List Nat) : ∀ l : List Nat, c ∉ l → (l.flatMap fun a => if a = c then z else [a]) = l
  | [], _ => rfl
  | a :: r, h => by
    have h1 : a ≠ c := fun e => h (e ▸ List.mem_cons_self)
    have h2 : c ∉ r := fun e => h (List.mem_cons_of_mem _ e)
    rw [List.flatMap_cons, flat_free c z r h2, if_neg h1]; rfl

theorem joinL (sep : Str) : ∀ (rest : List Str) (acc : Array Nat), (rest.foldl (fun acc p => acc ++ sep.cps ++ p.cps) acc).toList = acc.toList ++ rest.flatMap fun p => sep.cps.toList ++ p.cps.toList
  | [], acc => by simp
  | p :: r, acc => by
    rw [List.foldl_cons, joinL sep r, List.flatMap_cons]
    simp [List.append_assoc]

theorem glued_toList (sep : Str) (p : Str) (r : List Str) : (Builtin.Str.glued sep (p :: r)).cps.toList = p.cps.toList ++ r.flatMap fun q => sep.cps.toList ++ q.cps.toList := by
  show (r.foldl (fun acc p => acc ++ sep.cps ++ p.cps) p.cps).toList = _
  rw [joinL]

theorem flat_join (c : Nat) (z : Str) : ∀ (r : List Str), (∀ p ∈ r, c ∉ p.cps.toList) →
    ((r.flatMap fun q => (⟨#[c]⟩ : Str).cps.toList ++ q.cps.toList).flatMap fun a => if a = c then z.cps.toList else [a]) = r.flatMap fun q => z.cps.toList ++ q.cps.toList
  | [], _ => rfl
  | p :: r, h => by
    have h1 := h p List.mem_cons_self
    have ih := flat_join c z r fun q hq => h q (List.mem_cons_of_mem _ hq)
    rw [List.flatMap_cons, List.flatMap_append, ih, List.flatMap_cons, List.flatMap_append, flat_free c _ _ h1]
    congr 1
    simp

theorem replace_repl (x z : Str) (c : Nat) : Txt.replace x ⟨#[c]⟩ z = repl c z x := by
  rw [StrLaws.replace_one]
  have hj := StrLaws.join_split x ⟨#[c]⟩
  have hf := StrLaws.split_free x c
  apply Str.ext'
  apply Array.ext'
  show _ = (x.cps.toList.flatMap fun a => if a = c then z.cps.toList else [a])
  cases hs : Txt.split x ⟨#[c]⟩ with
  | nil =>
    rw [hs] at hj
    rw [← hj]
    rfl
  | cons p r =>
    rw [hs] at hj hf
    have hx : x.cps.toList = p.cps.toList ++ r.flatMap fun q => (⟨#[c]⟩ : Str).cps.toList ++ q.cps.toList := by
      conv => lhs; rw [← hj]
      rw [← StrLaws.glued_eq_join, glued_toList]
    rw [hx, List.flatMap_append, flat_join c z r fun q hq => hf q (List.mem_cons_of_mem _ hq), flat_free c _ _ (hf p List.mem_cons_self)]
    rw [← StrLaws.glued_eq_join, glued_toList]
end Mine
end
section
open PySem PySem.W PyProof.Rows PySem.Calls
set_option maxRecDepth 100000
namespace Mine
noncomputable def Stop (P : Prop) : Prop := P
theorem Stop.mk {P : Prop} (h : Stop P) : P := h
/-- the inner loop of the reader: amp; after an ampersand -/
noncomputable def ampS : Nat → Str → Str → Int → Option (Str × Int)
  | 0, _, _, _ => none
  | k + 1, sg, t, n => if (sg == Str.ofString "&") = true then (if (Txt.slice t none (some 4) == Str.ofString "amp;") = true then ampS k sg (Txt.slice t (some 4) none) (n + 1) else some (t, n)) else some (t, n)
noncomputable def finS (sg t : Str) (n : Int) : Str × Str × Int :=
  if (sg == Str.ofString "&") = true then
    (if (Txt.slice t none (some 3) == Str.ofString "lt;") = true then (Str.ofString "<", Txt.slice t (some 3) none, n + 1)
     else if (Txt.slice t none (some 3) == Str.ofString "gt;") = true then (Str.ofString ">", Txt.slice t (some 3) none, n + 1)
     else (sg, t, n))
  else (sg, t, n)
noncomputable def readS : Nat → Str → Option (List (Str × Int))
  | 0, _ => none
  | k + 1, x => if (x != Str.ofString "") = true then
      (match ampS k (Txt.item x 0) (Txt.slice x (some 1) none) 0 with
        | none => none
        | some (t, n) => (readS k (finS (Txt.item x 0) t n).2.1).map (((finS (Txt.item x 0) t n).1, (finS (Txt.item x 0) t n).2.2) :: ·))
      else some []
noncomputable def rowDat (r : List (Str × Int)) : List Dat := r.map fun p => .tuple [.str p.1, .int p.2]
end Mine
end
section
open PySem PySem.W PyProof.Rows PySem.Calls PySem.Flt
set_option maxRecDepth 100000
namespace Mine
noncomputable def fLt (x y : UInt64) : Bool := Float64.cmp x y == some .lt
/-- max and min of three floats, as CPython's loop picks them -/
noncomputable def max3 (a b c : UInt64) : UInt64 := if fLt a b = true then (if fLt b c = true then c else b) else (if fLt a c = true then c else a)
noncomputable def min3 (a b c : UInt64) : UInt64 := if fLt b a = true then (if fLt c b = true then c else b) else (if fLt c a = true then c else a)
section
variable {prog : Program} {w : World} {A : Around} {E : Value → Shared → Prop} {s : Shared} {Q : Value → Shared → Prop} {a b c : UInt64} {t u x : Tok} {h₀ : Heap} {L : Addr} {m : Str → Option Value} {news : List (Addr × Obj)}
theorem max_three_f (hh : A.handled = none) (F : Fr h₀ L s.heap m) (N : News h₀ L s.heap news)
    (h : ∀ h' tk v, Fr h₀ L h' m → News h₀ L h' news → Q (.float (max3 a b c) v) { s with heap := h', toks := tk }) :
    wpAny (model prog w) A (call (.builtin "max") [.float a t, .float b u, .float c x]) Q E s := by
  have hT : (s.heap.push { cls := .type "tuple", data := .seq #[.float a t, .float b u, .float c x] }).IsTuple s.heap.objs.size #[.float a t, .float b u, .float c x] := ⟨_, Heap.get?_push_size _ rfl, rfl, 0, rfl⟩
  refine call_max_three (wpAny_pyIter_tuple hT ?_)
  have hsz : (s.heap.push { cls := .type "tuple", data := .seq #[.float a t, .float b u, .float c x] }).objs.size = s.heap.objs.size + 1 := Heap.size_push ..
  refine ⟨_, [_, s.heap.objs.size], [_], _, _, _, _, rfl, Walks.tuple (A := A.in1) hh _ s.heap.objs.size (by rw [hsz]; exact Nat.ne_of_lt (Nat.lt_succ_self _)) #[.float a t, .float b u, .float c x],
    ⟨⟨_, Heap.get?_push_size _ rfl, rfl, rfl⟩, hT.push _⟩, fun d hd => ?_, by simp, cmpOf_gt #[.float a t, .float b u, .float c x] (by intro v hv; simp at hv; rcases hv with rfl | rfl | rfl <;> exact .float _ _), fun v h' tk hP hk => ?_⟩
  · show d < ((s.heap.push _).push _).objs.size
    rw [Heap.size_push, hsz]
    rcases List.mem_cons.mp hd with rfl | hd
    · rw [hsz]; exact Nat.lt_succ_self _
    · rcases List.mem_cons.mp hd with rfl | hd
      · exact Nat.lt_succ_of_lt (Nat.lt_succ_self _)
      · cases hd
  · have hold : ∀ d o, s.heap.get? d = some o → h'.get? d = some o := fun d o e => by
      refine hk d o (fun hm => ?_) (Heap.get?_push_of_some _ (Heap.get?_push_of_some _ e))
      rcases List.mem_cons.mp hm with e1 | hm
      · have := Heap.lt_size e; rw [e1, hsz] at this; exact Nat.lt_irrefl _ (Nat.lt_of_succ_lt this)
      · cases hm
    have hv : ∃ k, v = .float (max3 a b c) k := by
      unfold max3 fLt
      cases h1 : (Float64.cmp a b == some .lt) <;> cases h2 : (Float64.cmp b c == some .lt) <;> cases h3 : (Float64.cmp a c == some .lt) <;>
        (simp [argBest, ltV, h1, h2, h3] at hP; exact ⟨_, hP.symm⟩)
    obtain ⟨k, rfl⟩ := hv
    exact h h' tk k (F.grownK hold) (N.grown hold)
theorem min_three_f (hh : A.handled = none) (F : Fr h₀ L s.heap m) (N : News h₀ L s.heap news)
    (h : ∀ h' tk v, Fr h₀ L h' m → News h₀ L h' news → Q (.float (min3 a b c) v) { s with heap := h', toks := tk }) :
    wpAny (model prog w) A (call (.builtin "min") [.float a t, .float b u, .float c x]) Q E s := by
  have hT : (s.heap.push { cls := .type "tuple", data := .seq #[.float a t, .float b u, .float c x] }).IsTuple s.heap.objs.size #[.float a t, .float b u, .float c x] := ⟨_, Heap.get?_push_size _ rfl, rfl, 0, rfl⟩
  refine call_min_three (wpAny_pyIter_tuple hT ?_)
  have hsz : (s.heap.push { cls := .type "tuple", data := .seq #[.float a t, .float b u, .float c x] }).objs.size = s.heap.objs.size + 1 := Heap.size_push ..
  refine ⟨_, [_, s.heap.objs.size], [_], _, _, _, _, rfl, Walks.tuple (A := A.in1) hh _ s.heap.objs.size (by rw [hsz]; exact Nat.ne_of_lt (Nat.lt_succ_self _)) #[.float a t, .float b u, .float c x],
    ⟨⟨_, Heap.get?_push_size _ rfl, rfl, rfl⟩, hT.push _⟩, fun d hd => ?_, by simp, cmpOf_lt #[.float a t, .float b u, .float c x] (by intro v hv; simp at hv; rcases hv with rfl | rfl | rfl <;> exact .float _ _), fun v h' tk hP hk => ?_⟩
  · show d < ((s.heap.push _).push _).objs.size
    rw [Heap.size_push, hsz]
    rcases List.mem_cons.mp hd with rfl | hd
    · rw [hsz]; exact Nat.lt_succ_self _
    · rcases List.mem_cons.mp hd with rfl | hd
      · exact Nat.lt_succ_of_lt (Nat.lt_succ_self _)
      · cases hd
  · have hold : ∀ d o, s.heap.get? d = some o → h'.get? d = some o := fun d o e => by
      refine hk d o (fun hm => ?_) (Heap.get?_push_of_some _ (Heap.get?_push_of_some _ e))
      rcases List.mem_cons.mp hm with e1 | hm
      · have := Heap.lt_size e; rw [e1, hsz] at this; exact Nat.lt_irrefl _ (Nat.lt_of_succ_lt this)
      · cases hm
    have hv : ∃ k, v = .float (min3 a b c) k := by
      unfold min3 fLt
      cases h1 : (Float64.cmp b a == some .lt) <;> cases h2 : (Float64.cmp c b == some .lt) <;> cases h3 : (Float64.cmp c a == some .lt) <;>
        (simp [argBest, ltV, h1, h2, h3] at hP; exact ⟨_, hP.symm⟩)
    obtain ⟨k, rfl⟩ := hv
    exact h h' tk k (F.grownK hold) (N.grown hold)
end
end Mine
end
section
open PySem PySem.W PyProof.Rows PySem.Calls PySem.Flt
set_option maxRecDepth 100000
namespace Mine
noncomputable def fEq (x y : UInt64) : Bool := Float64.cmp x y == some .eq
noncomputable def divO (a b : UInt64) : Option UInt64 := if Float64.isZero b = true then none else some (Float64.div a b)
/-- colorsys, as CPython's floats reckon it; none where it raises -/
noncomputable def vF (m1 m2 hue : UInt64) : UInt64 :=
  if (Float64.cmp (Float64.divmod hue 4607182418800017408).snd 4595172819793696085 == some Ordering.lt) = true then
    Float64.add m1 (Float64.mul (Float64.mul (Float64.sub m2 m1) (Float64.divmod hue 4607182418800017408).snd) 4618441417868443648)
  else if (Float64.cmp (Float64.divmod hue 4607182418800017408).snd 4602678819172646912 == some Ordering.lt) = true then m2
  else if (Float64.cmp (Float64.divmod hue 4607182418800017408).snd 4604180019048437077 == some Ordering.lt) = true then
    Float64.add m1 (Float64.mul (Float64.mul (Float64.sub m2 m1) (Float64.sub 4604180019048437077 (Float64.divmod hue 4607182418800017408).snd)) 4618441417868443648)
  else m1
noncomputable def hlsRgbF (h l s : UInt64) : UInt64 × UInt64 × UInt64 :=
  if (Float64.cmp s 0 == some Ordering.eq) = true then (l, l, l)
  else if (Float64.cmp l 4602678819172646912 == some Ordering.lt || Float64.cmp l 4602678819172646912 == some Ordering.eq) = true then
    (let m2 := Float64.mul l (Float64.add 4607182418800017408 s)
     let m1 := Float64.sub (Float64.mul 4611686018427387904 l) m2
     (vF m1 m2 (Float64.add h 4599676419421066581), vF m1 m2 h, vF m1 m2 (Float64.sub h 4599676419421066581)))
  else
    (let m2 := Float64.sub (Float64.add l s) (Float64.mul l s)
     let m1 := Float64.sub (Float64.mul 4611686018427387904 l) m2
     (vF m1 m2 (Float64.add h 4599676419421066581), vF m1 m2 h, vF m1 m2 (Float64.sub h 4599676419421066581)))
noncomputable def hueOf (x y _z mx rc gc bc : UInt64) : UInt64 :=
  if (Float64.cmp x mx == some Ordering.eq) = true then (Float64.divmod (Float64.div (Float64.sub bc gc) 4618441417868443648) 4607182418800017408).snd
  else if (Float64.cmp y mx == some Ordering.eq) = true then (Float64.divmod (Float64.div (Float64.sub (Float64.add 4611686018427387904 rc) bc) 4618441417868443648) 4607182418800017408).snd
  else (Float64.divmod (Float64.div (Float64.sub (Float64.add 4616189618054758400 gc) rc) 4618441417868443648) 4607182418800017408).snd
noncomputable def rgbHlsF (x y z : UInt64) : Option (UInt64 × UInt64 × UInt64) :=
  let mx := max3 x y z
  let mn := min3 x y z
  let l := Float64.div (Float64.add mx mn) 4611686018427387904
  if (Float64.cmp mn mx == some Ordering.eq) = true then some (0, l, 0)
  else if Float64.isZero (Float64.sub mx mn) = true then none
  else
    let h := hueOf x y z mx (Float64.div (Float64.sub mx x) (Float64.sub mx mn)) (Float64.div (Float64.sub mx y) (Float64.sub mx mn)) (Float64.div (Float64.sub mx z) (Float64.sub mx mn))
    if (Float64.cmp l 4602678819172646912 == some Ordering.lt || Float64.cmp l 4602678819172646912 == some Ordering.eq) = true then
      (if Float64.isZero (Float64.add mx mn) = true then none else some (h, l, Float64.div (Float64.sub mx mn) (Float64.add mx mn)))
    else (if Float64.isZero (Float64.sub (Float64.sub 4611686018427387904 mx) mn) = true then none else some (h, l, Float64.div (Float64.sub mx mn) (Float64.sub (Float64.sub 4611686018427387904 mx) mn)))
noncomputable def rgbHsvF (x y z : UInt64) : Option (UInt64 × UInt64 × UInt64) :=
  let mx := max3 x y z
  let mn := min3 x y z
  if (Float64.cmp mn mx == some Ordering.eq) = true then some (0, 0, mx)
  else if Float64.isZero (Float64.sub mx mn) = true then none
  else if Float64.isZero mx = true then none
  else
    some (hueOf x y z mx (Float64.div (Float64.sub mx x) (Float64.sub mx mn)) (Float64.div (Float64.sub mx y) (Float64.sub mx mn)) (Float64.div (Float64.sub mx z) (Float64.sub mx mn)), Float64.div (Float64.sub mx mn) mx, mx)
end Mine
namespace Mine
open PySem PySem.Flt
noncomputable def hsvRgbF (h s v : UInt64) : UInt64 × UInt64 × UInt64 :=
  if (Float64.cmp s 0 == some Ordering.eq) = true then (v, v, v)
  else
    let k := Float64.mul h 4618441417868443648
    let i := Flt.toInt Float64.truncOf k
    let f := Float64.sub k (Float64.ofInt i)
    let p := Float64.mul v (Float64.sub 4607182418800017408 s)
    let q := Float64.mul v (Float64.sub 4607182418800017408 (Float64.mul s f))
    let t := Float64.mul v (Float64.sub 4607182418800017408 (Float64.mul s (Float64.sub 4607182418800017408 f)))
    if i.fmod 6 = 0 then (v, t, p) else if i.fmod 6 = 1 then (q, v, p) else if i.fmod 6 = 2 then (p, v, t) else if i.fmod 6 = 3 then (p, q, v) else if i.fmod 6 = 4 then (t, p, v) else if i.fmod 6 = 5 then (v, p, q) else (0, 0, 0)
/-- the hue times six is a number of a small whole part -/
noncomputable def hsvOk (h : UInt64) : Bool := !(Float64.isNaN (Float64.mul h 4618441417868443648)) && !(Float64.isInf (Float64.mul h 4618441417868443648)) && decide ((Flt.toInt Float64.truncOf (Float64.mul h 4618441417868443648)).natAbs < 1000)
theorem big_no {n : Nat} (h : 2 ^ 1024 - 2 ^ 970 ≤ n) (h2 : n < 1000) : False := absurd (Nat.lt_of_le_of_lt h h2) (by decide +kernel)
theorem fmod6 (i : Int) (h0 : i.fmod 6 ≠ 0) (h1 : i.fmod 6 ≠ 1) (h2 : i.fmod 6 ≠ 2) (h3 : i.fmod 6 ≠ 3) (h4 : i.fmod 6 ≠ 4) (h5 : i.fmod 6 ≠ 5) : False := by
  have a := Int.fmod_nonneg_of_pos i (b := 6) (by decide)
  have b := Int.fmod_lt_of_pos i (b := 6) (by decide)
  omega
end Mine
end
section
open PySem PySem.W PyProof.Rows PySem.Calls PySem.Sre
set_option maxRecDepth 100000
namespace Mine
noncomputable def nameCode : Array Nat := #[14, 10, 4, 1, 1, 22, 0, 31, 16, 127, 0, 13, 7, 22, 0, 31, 16, 127, 0, 1]
noncomputable def valCode : Array Nat := #[14, 14, 4, 1, 1, 9, 4294966783, 0, 0, 2147483648, 0, 0, 0, 0, 0, 13, 11, 9, 4294966783, 0, 0, 2147483648, 0, 0, 0, 0, 0, 1]
noncomputable def OkC (c : Nat) : Prop := 32 ≤ c ∧ c < 127
noncomputable def OkT (x : Str) : Prop := ∀ c ∈ x.cps.toList, OkC c
theorem name_two : nameCode.getD 2 0 = 4 := rfl
theorem val_two : valCode.getD 2 0 = 4 := rfl
theorem name_info : ops[nameCode.getD 0 0]? = some .INFO := rfl
theorem val_info : ops[valCode.getD 0 0]? = some .INFO := rfl
/-- a set that takes none of the plain signs -/
noncomputable def Shuts (code : Array Nat) : Prop := ∀ c, OkC c → ∀ seen, ∃ seen', inSet code c code.size 5 true seen = .ok (false, seen')
theorem name_shuts : Shuts nameCode := by
  rintro c ⟨h1, h2⟩ seen
  refine ⟨((seen.add 22).add 16).add 0, ?_⟩
  show inSet nameCode c 20 5 true seen = _
  unfold inSet
  show (if (0 ≤ c && c ≤ 31) = true then _ else inSet nameCode c 19 8 true (seen.add 22)) = _
  rw [if_neg (by simp; omega)]
  unfold inSet
  show (if (c == 127) = true then _ else inSet nameCode c 18 10 true ((seen.add 22).add 16)) = _
  rw [if_neg (by simp; omega)]
  unfold inSet
  rfl
theorem val_bits : ∀ c < 127, 32 ≤ c → (valCode.getD (5 + (1 + c / 32)) 0).testBit (c % 32) = false := by decide +kernel
theorem val_shuts : Shuts valCode := by
  rintro c ⟨h1, h2⟩ seen
  refine ⟨(seen.add 9).add 0, ?_⟩
  show inSet valCode c 28 5 true seen = _
  unfold inSet
  show (if (c < 256 && (valCode.getD (5 + (1 + c / 32)) 0).testBit (c % 32)) = true then _ else inSet valCode c 27 14 true (seen.add 9)) = _
  rw [if_neg (by rw [val_bits c h2 h1]; simp)]
  unfold inSet
  rfl
theorem admitted_none {m : M} (hc : Shuts m.code) (ht : ∀ i, i < m.lim → OkC (m.text.getD i 0)) : ∀ fuel s seen, ∃ seen', m.admitted fuel s seen = .ok (none, seen')
  | 0, s, seen => ⟨seen, rfl⟩
  | fuel + 1, s, seen => by
    unfold M.admitted
    by_cases h : s ≥ m.lim
    · exact ⟨seen, by rw [if_pos h]⟩
    · rw [if_neg h]
      obtain ⟨s', e⟩ := hc _ (ht s (by omega)) seen
      rw [e]
      exact admitted_none hc ht fuel (s + 1) s'
theorem attempt_no {code text : Array Nat} (hc : Shuts code) (h4 : code.getD 2 0 = 4) (h0 : ops[code.getD 0 0]? = some .INFO) (ht : ∀ i, i < text.size → OkC (text.getD i 0)) (m : M) (e1 : m.code = code) (e2 : m.text = text) (e3 : m.lim = text.size) (e4 : m.frames = []) (e5 : m.outcome = none) :
    (m.attemptFrom 0 true).answer = some false ∧ (m.attemptFrom 0 true).frames = [] ∧ (m.attemptFrom 0 true).outcome = none := by
  unfold M.attemptFrom
  have hf : m.hasFirstSet = true := by
    unfold M.hasFirstSet
    rw [e1, h0, h4]; rfl
  rw [hf]
  obtain ⟨s', e⟩ := admitted_none (m := m) (by rw [e1]; exact hc) (by rw [e2, e3]; exact ht) (m.lim + 1 - 0) 0 m.seen
  simp only [Bool.not_true, Bool.false_eq_true, if_false]
  rw [e]
  exact ⟨rfl, e4, e5⟩
/-- the search's machine before its first turn: it has said no -/
theorem search_says {code text : Array Nat} (hc : Shuts code) (h4 : code.getD 2 0 = 4) (h0 : ops[code.getD 0 0]? = some .INFO) (ht : ∀ i, i < text.size → OkC (text.getD i 0)) :
    (forSearch code text 0 0 text.size false).answer = some false ∧ (forSearch code text 0 0 text.size false).frames = [] ∧ (forSearch code text 0 0 text.size false).outcome = none := by
  unfold forSearch
  dsimp only
  split
  · exact ⟨rfl, rfl, rfl⟩
  · exact attempt_no hc h4 h0 ht _ rfl rfl rfl rfl rfl
theorem says_no {m : M} (h1 : m.answer = some false) (h2 : m.frames = []) (h3 : m.outcome = none) : (m.runFor 4).outcome = some .failed := by
  unfold M.runFor
  rw [h3]
  have hs : m.step.outcome = some .failed := by
    unfold M.step
    rw [h3, h1, h2]; rfl
  simp only [Option.isSome_none, Bool.false_eq_true, if_false]
  unfold M.runFor
  rw [hs]
  simp only [Option.isSome_some, if_true]
  exact hs
section
variable {M' : Model} {A : Around} {E : Value → Shared → Prop} {s : Shared}
theorem drive_no {m : M} {Q : M → Shared → Prop} (h1 : m.answer = some false) (h2 : m.frames = []) (h3 : m.outcome = none) (h : Q (m.runFor 4) s) : wpAny M' A (Builtin.Re.reDrive (2 ^ 64) m) Q E s := by
  have e : (2 ^ 64 : Nat) = (2 ^ 64 - 1) + 1 := by decide
  rw [e]
  unfold Builtin.Re.reDrive
  show wpAny M' A (if (m.runFor Builtin.Re.reTurnSteps).outcome.isSome = true then _ else _) Q E s
  rw [if_pos (by show (m.runFor 4).outcome.isSome = true; rw [says_no h1 h2 h3]; rfl)]
  exact wpAny_pure h
theorem forIn_still {α : Type} {f : α → PUnit → Sem (ForInStep PUnit)} {Q : PUnit → Shared → Prop} (hf : ∀ a, wpAny M' A (f a ⟨⟩) (fun r s' => r = .yield ⟨⟩ ∧ s' = s) E s) (l : List α) (h : Q ⟨⟩ s) : wpAny M' A (forIn l PUnit.unit f) Q E s := by
  induction l with
  | nil =>
    rw [List.forIn_nil]
    exact wpAny_pure h
  | cons a l ih =>
    rw [List.forIn_cons]
    refine wpAny_bind (wpAny_mono (hf a) (fun r s' e => ?_) fun _ _ e => e)
    obtain ⟨rfl, rfl⟩ := e
    exact ih
theorem run_no {m : M} {Q : Option M → Shared → Prop} (h1 : m.answer = some false) (h2 : m.frames = []) (h3 : m.outcome = none) (h : Q none s) : wpAny M' A (Builtin.Re.reRunToEnd m) Q E s := by
  unfold Builtin.Re.reRunToEnd
  refine wpAny_bind (drive_no h1 h2 h3 ?_)
  refine wpAny_bind (forIn_still (fun i => ?_) _ ?_)
  · by_cases hi : (m.runFor 4).seen.has i = true
    · simp only [hi, if_true]
      exact wpAny_bind (wpAny_rule (wpAny_pure ⟨rfl, rfl⟩))
    · simp only [hi, if_false]
      exact wpAny_bind (wpAny_pure (wpAny_pure ⟨rfl, rfl⟩))
  · rw [says_no h1 h2 h3]
    exact wpAny_pure h
theorem slot_pat_search : Slot "re.Pattern" "search" "re.Pattern.search" :=
  .of (owner := "re.Pattern") (n := "search") (by rw [typeLookup_type, builtinLookup_eq_fast]; kernel_rfl) (by decide +kernel) (by decide +kernel) (by decide +kernel)
    (by first | exact .inl (by decide +kernel) | exact .inr (by decide +kernel)) (by rw [isSubtype_type]; kernel_rfl)
theorem entry_pat_search : entryFor table "re.Pattern.search" = some Builtin.«re.Pattern.search» := entryFor_of_fast (by kernel_rfl)
theorem args_pat_search (a b : Value) : argsOk "re.Pattern.search" ⟨[a, b], []⟩ := by unfold argsOk; kernel_rfl
theorem pat_getattribute : typeLookup (.type "re.Pattern") "__getattribute__" = pure (some (.builtin "object.__getattribute__")) := by rw [typeLookup_type, builtinLookup_eq_fast]; kernel_rfl
theorem canon_object_ga : (Manifest.canonical "object.__getattribute__" != "object.__getattribute__") = false := by decide +kernel
theorem pat_getattr_none : typeLookup (.type "re.Pattern") "__getattr__" = pure none := by rw [typeLookup_type, builtinLookup_eq_fast]; kernel_rfl
theorem type_pat_search : typeOf (.builtin "re.Pattern.search") = pure (.type "method_descriptor") := by show builtinType _ = _; rw [builtinType_eq_fast]; kernel_rfl
theorem getMethod_search {P : Addr} {o : Obj} {pl : Sem Bool} {Q : Value × List Value → Shared → Prop} (ho : s.heap.get? P = some o) (hc : o.cls = .type "re.Pattern") (hd : o.dict = none)
    (h : Q (.builtin "re.Pattern.search", [.ref P]) s) : wpAny M' A (getMethod (.ref P) "search" pl) Q E s := by
  have hT : s.TypeIs (.ref P) "re.Pattern" := ⟨o, ho, hc⟩
  unfold getMethod
  refine wpAny_bind (wpAny_specialOf hT pat_getattribute ?_)
  show wpAny M' A (if (Manifest.canonical "object.__getattribute__" != "object.__getattribute__") = true then _ else _) Q E s
  rw [canon_object_ga, if_neg Bool.false_ne_true]
  refine wpAny_bind (wpAny_specialOf hT pat_getattr_none ?_)
  refine wpAny_bind (wpAny_specialOf hT slot_pat_search.lookup ?_)
  refine wpAny_bind (wpAny_of_eq type_pat_search ?_)
  refine wpAny_bind (wpAny_loadPart ho ?_)
  rw [hd]
  exact wpAny_bind (wpAny_rule (wpAny_pure h))
end
section
variable {prog : Program} {w : World} {A : Around} {E : Value → Shared → Prop} {s : Shared}
theorem call_search {P C : Addr} {o oc : Obj} {vs cv : Array Value} {n : Nat} {code : Array Nat} {x : Str} {t : Tok} {Q : Value → Shared → Prop}
    (ho : s.heap.get? P = some o) (hc : o.cls = .type "re.Pattern") (hd : o.data = .fields vs) (h5 : vs.getD 5 .none = .ref C) (h6 : Builtin.Re.reRawNat (vs.getD 6 .none) = 0) (h2 : Builtin.Re.reRawNat (vs.getD 2 .none) = 0)
    (hoc : s.heap.get? C = some oc) (hcd : oc.data = .seq cv n) (hcv : (cv.map Builtin.Re.reRawOf).map (·.toNat) = code)
    (hs : Shuts code) (hc4 : code.getD 2 0 = 4) (hc0 : ops[code.getD 0 0]? = some .INFO) (hx : OkT x) (hl : x.length ≤ 1000)
    (h : Q .none s) : wpAny (model prog w) A (call (.builtin "re.Pattern.search") [.ref P, .str x t]) Q E s := by
  refine wpAny_call_entry slot_pat_search ⟨o, ho, hc⟩ entry_pat_search ?_ (args_pat_search _ _)
  unfold Builtin.«re.Pattern.search»
  have hcl : ∀ i : Nat, i < x.cps.size → OkC (x.cps.getD i 0) := fun i hi => hx _ (by simp [Array.getD, hi])
  have say := search_says (text := x.cps) hs hc4 hc0 hcl
  refine wpAny_bind (m := Builtin.Re.reTarget _ _ _) ?_
  unfold Builtin.Re.reTarget
  have en : Builtin.Re.reNamed "re.Pattern.search" "search" ["string", "pos", "endpos"] 1 [.str x t] [] = pure [some (.str x t), none, none] := by with_unfolding_all rfl
  show wpAny _ _ (Builtin.Re.reNamed "re.Pattern.search" "search" ["string", "pos", "endpos"] 1 [.str x t] [] >>= _) _ _ s
  rw [en]
  refine wpAny_bind (wpAny_pure ?_)
  refine wpAny_bind (wpAny_pure ?_)
  refine wpAny_bind (wpAny_pure ?_)
  refine wpAny_bind ?_
  unfold fieldsOf
  refine wpAny_bind (wpAny_load ho ?_)
  rw [hd]
  refine wpAny_pure ?_
  refine wpAny_bind ?_
  unfold Builtin.Re.reTextOf
  refine wpAny_bind (wpAny_pure ?_)
  refine wpAny_pure ?_
  simp only [h6]
  rw [if_neg (by decide), if_neg (by decide)]
  refine wpAny_bind (m := Builtin.Re.reNoCollectionInside (.str x t) 0) (wpAny_pure ?_)
  refine wpAny_bind ?_
  unfold Builtin.Re.reRawItems
  rw [h5]
  refine wpAny_bind ?_
  unfold seqItems?
  refine wpAny_bind (wpAny_load hoc ?_)
  rw [hcd]
  refine wpAny_pure (wpAny_pure ?_)
  refine wpAny_pure ?_
  have emin : min (2 ^ 63 - 1 : Int).toNat x.cps.size = x.cps.size := by
    have : x.cps.size ≤ 1000 := hl
    apply Nat.min_eq_right
    have e : (2 ^ 63 - 1 : Int).toNat = 9223372036854775807 := by decide
    rw [e]; omega
  have emin0 : min (Int.toNat 0) x.cps.size = 0 := by simp
  dsimp only [Option.getD]
  rw [hcv, h2, emin, emin0]
  unfold Builtin.Re.reAnswer
  refine wpAny_bind (run_no say.1 say.2.1 say.2.2 ?_)
  exact wpAny_pure ⟨_, rfl, h⟩
end
end Mine
end
section
open PySem PySem.Spec PySem.W PyProof.Rows PySem.Calls
set_option maxRecDepth 100000
set_option maxHeartbeats 2000000
namespace Mine
open PyProof.Rows.LCg PyProof.Rows.LCt
section
variable {prog : Program} {w : World} {A : Around} {E : Value → Shared → Prop} {s : Shared} {h₀ : Heap} {L : Addr} {m : Str → Option Value} {env : Env}
theorem CompEnd.monoR {I C D : Addr} {s₁ : Shared} {oI oC oD : Obj} {S : List (Addr × Obj) → Prop} {r r' : Value → List (Addr × Obj) → Prop} {y : Value} {s₂ : Shared}
    (h : CompEnd h₀ L m s₁ I oI C oC D oD S r y s₂) (k : ∀ y n, r y n → r' y n) : CompEnd h₀ L m s₁ I oI C oC D oD S r' y s₂ := by
  obtain ⟨h', tk, news', e, F, N, off, hS, q⟩ := h
  exact ⟨h', tk, news', e, F, N, off, hS, k _ _ q⟩
/-- a comprehension with one test, by what holds between the turns -/
theorem comp_ind_T {ct elt : Expr} {x : Str} {scope : Scope} {cl : List (Str × Addr)} {S : List (Addr × Obj) → Prop} {P : Nat → Value → Prop} {Fin : List Value → List (Addr × Obj) → Prop} (n : Nat)
    (J : Nat → List Value → List (Addr × Obj) → Prop)
    (turn : ∀ i ys news v I oI C oC D m₂ h tk (E' : Value → Shared → Prop), i < n → J i ys news → P i v → NsObj oC m₂ → m₂ x = some v → Fr h₀ L h m → News h₀ L h ((I, oI) :: (C, oC) :: (D, lst ys) :: news) → Off3 I C D news → ((@Ne Nat I C) ∧ (@Ne Nat I D) ∧ (@Ne Nat C D)) →
      wpAny (model prog w) A (isTrue ct (compEnvC scope cl C env) (eval ct (compEnvC scope cl C env))) (fun ok s' => if ok = true then
        wpAny (model prog w) A (eval elt (compEnvC scope cl C env)) (CompEnd h₀ L m { s with heap := h, toks := tk } I oI C oC D (lst ys) S (fun y news' => J (i + 1) (ys ++ [y]) news')) E' s'
        else CompEnd h₀ L m { s with heap := h, toks := tk } I oI C oC D (lst ys) S (fun _ news' => J (i + 1) ys news') Value.none s') E' { s with heap := h, toks := tk })
    (fin : ∀ ys news, J n ys news → Fin ys news) : ∀ k i ys news, i + k = n → J i ys news → CompRestT prog w A h₀ L m env ct elt x scope cl s S P Fin k i ys news
  | 0, i, ys, news, e, hJ => by
    have : i = n := e
    subst this
    exact CompRestT.zero (fin ys news hJ)
  | k + 1, i, ys, news, e, hJ => by
    refine CompRestT.succ fun v I oI C oC D m₂ h tk E' hP hN hm F N off hne => ?_
    refine wpAny_mono (turn i ys news v I oI C oC D m₂ h tk E' (by omega) hJ hP hN hm F N off hne) (fun ok s' q => ?_) fun _ _ q => q
    cases ok with
    | true =>
      simp only [if_true] at q ⊢
      exact wpAny_mono q (fun y s'' z => CompEnd.monoR z fun y' n' hj => comp_ind_T n J turn fin k (i + 1) _ _ (by omega) hj) fun _ _ q => q
    | false =>
      simp only [Bool.false_eq_true, if_false] at q ⊢
      exact CompEnd.monoR q fun y' n' hj => comp_ind_T n J turn fin k (i + 1) _ _ (by omega) hj
theorem comp_ind_U {elt : Expr} {x : Str} {scope : Scope} {cl : List (Str × Addr)} {S : List (Addr × Obj) → Prop} {P : Nat → Value → Prop} {Fin : List Value → List (Addr × Obj) → Prop} (n : Nat)
    (J : Nat → List Value → List (Addr × Obj) → Prop)
    (turn : ∀ i ys news v I oI C oC D m₂ h tk (E' : Value → Shared → Prop), i < n → J i ys news → P i v → NsObj oC m₂ → m₂ x = some v → Fr h₀ L h m → News h₀ L h ((I, oI) :: (C, oC) :: (D, lst ys) :: news) → Off3 I C D news → ((@Ne Nat I C) ∧ (@Ne Nat I D) ∧ (@Ne Nat C D)) →
      wpAny (model prog w) A (eval elt (compEnvC scope cl C env)) (CompEnd h₀ L m { s with heap := h, toks := tk } I oI C oC D (lst ys) S (fun y news' => J (i + 1) (ys ++ [y]) news')) E' { s with heap := h, toks := tk })
    (fin : ∀ ys news, J n ys news → Fin ys news) : ∀ k i ys news, i + k = n → J i ys news → CompRest prog w A h₀ L m env elt x scope cl s S P Fin k i ys news
  | 0, i, ys, news, e, hJ => by
    have : i = n := e
    subst this
    exact CompRest.zero (fin ys news hJ)
  | k + 1, i, ys, news, e, hJ => by
    refine CompRest.succ fun v I oI C oC D m₂ h tk E' hP hN hm F N off hne => ?_
    exact wpAny_mono (turn i ys news v I oI C oC D m₂ h tk E' (by omega) hJ hP hN hm F N off hne) (fun y s'' z => CompEnd.monoR z fun y' n' hj => comp_ind_U n J turn fin k (i + 1) _ _ (by omega) hj) fun _ _ q => q
end

noncomputable def ForPost (h₀ : Heap) (L : Addr) (I : Addr) (oI : Obj) (J' : (Str → Option Value) → List (Addr × Obj) → Prop) (s : Shared) (Q : Flow → Shared → Prop) (f : Flow) (s' : Shared) : Prop :=
  match f with
  | .ret v => Q (.ret v) s'
  | .brk => Q .next s'
  | _ => ∃ h' tk' m' nw', s' = { s with heap := h', toks := tk' } ∧ Fr h₀ L h' m' ∧ News h₀ L h' ((I, oI) :: nw') ∧ (∀ p ∈ nw', p.1 ≠ I) ∧ J' m' nw'
section
variable {prog : Program} {w : World} {A : Around} {E : Value → Shared → Prop} {s : Shared} {env : Env} {h₀ : Heap} {Q : Flow → Shared → Prop}
theorem ForPost.intro {L I : Addr} {oI : Obj} {J' : (Str → Option Value) → List (Addr × Obj) → Prop} {h' : Heap} {tk' : Nat} {m' : Str → Option Value} {all : List (Addr × Obj)} (nw' : List (Addr × Obj))
    (F : Fr h₀ L h' m') (N : News h₀ L h' all) (sub : ∀ p ∈ (I, oI) :: nw', p ∈ all) (off : ∀ p ∈ nw', p.1 ≠ I) (hJ : J' m' nw') : ForPost h₀ L I oI J' s Q .next { s with heap := h', toks := tk' } :=
  ⟨h', tk', m', nw', rfl, F, fun p hp => N p (sub p hp), off, hJ⟩
theorem list_get {h : Heap} {l : Addr} {items : Array Value} (x : h.IsList l items) : ∃ o, h.get? l = some o := let ⟨o, e, _⟩ := x; ⟨o, e⟩
/-- a loop over a list, whatever its target, by what holds between the turns -/
theorem for_list {target : Expr} {body : List Stmt} {l : Addr} {items : List Value} {m : Str → Option Value} {news : List (Addr × Obj)}
    (J : Nat → (Str → Option Value) → List (Addr × Obj) → Prop)
    (hh : A.handled = none) (F : Fr h₀ env.locals s.heap m) (N : News h₀ env.locals s.heap news) (h0 : J 0 m news)
    (hS : ∀ i m₁ nw, J i m₁ nw → SrcAt h₀ l items.toArray nw)
    (go : ∀ v ∈ items, (∀ it, letOwnedTupleGo target it v = pure ()) ∨ ((∃ T, v = .ref T) ∧ ∃ es k p, target = .Tuple es k p))
    (hE : PassesOwn (model prog w) A env E)
    (turn : ∀ i v m₁ nw I oI h tk, items[i]? = some v → J i m₁ nw → Fr h₀ env.locals h m₁ → News h₀ env.locals h ((I, oI) :: nw) → (∀ p ∈ nw, p.1 ≠ I) →
      wpAny (model prog w) A (assign target env v) (fun _ s₂ => wpAny (model prog w) A (execs body env) (ForPost h₀ env.locals I oI (J (i + 1)) { s with heap := h, toks := tk } Q) E s₂) E { s with heap := h, toks := tk })
    (done : ∀ m₁ nw h tk, J items.length m₁ nw → Fr h₀ env.locals h m₁ → News h₀ env.locals h nw → Q .next { s with heap := h, toks := tk }) :
    wpAny (model prog w) A (pyIter (.ref l)) (fun it s₂ => codeAny (model prog w) A (.forLoop target it body [] env) (fun r s' => match r with | .ok f => Q f s' | .error e => cameBackBy (model prog w) A env E e s') s₂) E s := by
  have hls : s.heap.IsList l items.toArray := (hS 0 m news h0).list F.keep N
  refine wpAny_pyIter_list hls ?_
  obtain ⟨It, hIt⟩ : ∃ It, It = s.heap.objs.size := ⟨_, rfl⟩
  rw [← hIt]
  have hItL : env.locals ≠ It := hIt ▸ Nat.ne_of_lt F.ns.lt
  have hIt0 : h₀.get? It = none := hIt ▸ next_is_new F
  have hlIt : ∀ {h : Heap} {i m₁ nw}, J i m₁ nw → (∀ p ∈ nw, p.1 ≠ It) → l ≠ It := fun {h i m₁ nw} hJ off => by
    rcases hS i m₁ nw hJ with x | ⟨o, hm, _⟩
    · intro e
      obtain ⟨o, x, _⟩ := x
      rw [e, hIt0] at x; cases x
    · exact off _ hm
  refine codeAny_forLoop_any
    (fun k s' => ∃ h' tk m' nw i, s' = { s with heap := h', toks := tk } ∧ h'.IsListIter It l i ∧ Fr h₀ env.locals h' m' ∧ News h₀ env.locals h' nw ∧ (∀ p ∈ nw, p.1 ≠ It) ∧ J i m' nw ∧ i ≤ items.length ∧ k = items.length + 1 - i) ?_ (items.length + 1)
    ⟨s.heap.push { cls := .type "list_iterator", data := .fields #[.ref l, .int 0 0] }, s.toks, m, news, 0, rfl, ⟨_, hIt ▸ Heap.get?_push_size _ rfl, rfl, rfl⟩, F.push _, (fun p hp => ⟨Heap.get?_push_of_some _ (N p hp).1, (N p hp).2⟩), (fun p hp => hIt ▸ Nat.ne_of_lt (Heap.lt_size (N p hp).1)), h0, Nat.zero_le _, rfl⟩
  rintro k s' ⟨h', tk, m', nw, i, rfl, hit, F', N', off, hJ, hi, rfl⟩
  have hl' : h'.IsList l items.toArray := (hS i m' nw hJ).list F'.keep N'
  have hlne := hlIt (h := h') hJ off
  by_cases hlt : i < items.length
  · refine wpAny_passesOwn hE (wpAny_pyNext_list_item hit hl' (x := items[i]) (by simp [hlt]) fun h₁ hit₁ hs₁ => ?_)
    have F₁ : Fr h₀ env.locals h₁ m' := F'.change hs₁ (Ne.symm hItL) hIt0
    have N₁ : News h₀ env.locals h₁ nw := fun p hp => ⟨(hs₁.2 p.1 (off p hp)).trans (N' p hp).1, (N' p hp).2⟩
    obtain ⟨oI, hoI, hc, hd⟩ := id hit₁
    have NI : News h₀ env.locals h₁ ((It, oI) :: nw) := by
      intro p hp
      rcases List.mem_cons.mp hp with rfl | hp
      · exact ⟨hoI, Ne.symm hItL, hIt0⟩
      · exact N₁ p hp
    have key : wpAny (model prog w) A (assign target env items[i]) (fun _ s₂ => wpAny (model prog w) A (execs body env) (fun f s₃ => match f with
            | .next | .cont => ∃ m, m < items.length + 1 - i ∧ ∃ h' tk m' nw i, s₃ = { s with heap := h', toks := tk } ∧ h'.IsListIter It l i ∧ Fr h₀ env.locals h' m' ∧ News h₀ env.locals h' nw ∧ (∀ p ∈ nw, p.1 ≠ It) ∧ J i m' nw ∧ i ≤ items.length ∧ m = items.length + 1 - i
            | .brk => Q .next s₃
            | .ret v => Q (.ret v) s₃) (notedBy (model prog w) A env (cameBackBy (model prog w) A env E)) s₂) (notedBy (model prog w) A env (cameBackBy (model prog w) A env E)) { s with heap := h₁, toks := tk } := by
      refine wpAny_passesOwn hE (wpAny_mono (turn i items[i] m' nw It oI h₁ tk (by simp [hlt]) hJ F₁ NI off) (fun _ s₂ q => ?_) fun _ _ e => e)
      refine wpAny_passesOwn hE (wpAny_mono q (fun f s₃ z => ?_) fun _ _ e => e)
      have fin : (∃ h' tk' m' nw', s₃ = { s with heap := h', toks := tk' } ∧ Fr h₀ env.locals h' m' ∧ News h₀ env.locals h' ((It, oI) :: nw') ∧ (∀ p ∈ nw', p.1 ≠ It) ∧ J (i + 1) m' nw') →
          ∃ m, m < items.length + 1 - i ∧ ∃ h' tk m' nw i, s₃ = { s with heap := h', toks := tk } ∧ h'.IsListIter It l i ∧ Fr h₀ env.locals h' m' ∧ News h₀ env.locals h' nw ∧ (∀ p ∈ nw, p.1 ≠ It) ∧ J i m' nw ∧ i ≤ items.length ∧ m = items.length + 1 - i := by
        rintro ⟨h3, tk3, m3, nw3, rfl, F3, N3, off3, J3⟩
        exact ⟨items.length + 1 - (i + 1), by omega, h3, tk3, m3, nw3, i + 1, rfl, ⟨oI, (N3 _ List.mem_cons_self).1, hc, hd⟩, F3, fun p hp => N3 p (List.mem_cons_of_mem _ hp), off3, J3, hlt, rfl⟩
      cases f with
      | ret v => exact z
      | brk => exact z
      | next => exact fin z
      | cont => exact fin z
    rcases go items[i] (List.getElem_mem hlt) with q | ⟨⟨T, hT⟩, es, kk, pp, rfl⟩
    · exact wpAny_of_eq (q _) key
    · rw [hT] at key ⊢
      exact wpAny_letOwnedTupleGo_listiter hit₁ key
  · have hin : i = items.length := by omega
    subst hin
    refine wpAny_passesOwn hE (wpAny_pyNext_list_end hh hit hl' (by simp) fun h₁ he₁ => wpAny_execs_nil ?_)
    refine done m' nw h₁ tk hJ ⟨F'.ns.at' fun o e => he₁ _ o hItL e, fun b o e => he₁ b o (fun q => by rw [q, hIt0] at e; cases e) (F'.keep b o e), F'.above⟩ fun p hp => ⟨he₁ _ _ (off p hp) (N' p hp).1, (N' p hp).2⟩
end

section
variable {prog : Program} {w : World} {A : Around} {E : Value → Shared → Prop} {s : Shared} {env : Env} {h₀ : Heap} {Q : Unit → Shared → Prop}
theorem store_one {a : Str} {p1 : Pos} {v1 : Value} {m : Str → Option Value} {nw : List (Addr × Obj)}
    (F : Fr h₀ env.locals s.heap m) (N : News h₀ env.locals s.heap nw) (ha : env.kindOf a = some .local) (hp : (env.scope.kind == .class || (env.scope.kind == .module && env.locals != env.globals)) = false)
    (h : ∀ h' tk', Fr h₀ env.locals h' (fun z => if z = a then some v1 else m z) → News h₀ env.locals h' nw → Q () { s with heap := h', toks := tk' }) :
    wpAny (model prog w) A (assign (.Name a p1) env v1) Q E s :=
  wpAny_assign_Name (wpAny_storeName_local ha F.ns (fun h' hn hs => h h' _ (F.set hn hs) (N.set hs)) hp)
theorem assign_two {a b : Str} {p1 p2 pos : Pos} {k : Nat} {T : Addr} {v1 v2 : Value} {m : Str → Option Value} {nw : List (Addr × Obj)} {n : Nat}
    (hh : A.handled = none) (F : Fr h₀ env.locals s.heap m) (N : News h₀ env.locals s.heap nw) (hT : (T, ({ cls := .type "tuple", data := .seq #[v1, v2] n } : Obj)) ∈ nw)
    (ha : env.kindOf a = some .local) (hb : env.kindOf b = some .local) (hp : (env.scope.kind == .class || (env.scope.kind == .module && env.locals != env.globals)) = false)
    (h : ∀ h' tk', Fr h₀ env.locals h' (fun z => if z = b then some v2 else if z = a then some v1 else m z) → News h₀ env.locals h' nw → Q () { s with heap := h', toks := tk' }) :
    wpAny (model prog w) A (assign (.Tuple [.Name a p1, .Name b p2] k pos) env (.ref T)) Q E s := by
  refine wpAny_assign_Tuple (items := #[v1, v2]) hh ⟨_, (N _ hT).1, rfl, n, rfl⟩ rfl rfl fun h' he => ?_
  have hold : ∀ d o, s.heap.get? d = some o → h'.get? d = some o := fun d o e => he d o (Nat.ne_of_lt (Heap.lt_size e)) e
  refine wpAny_bind (wpAny_holding (store_one (F.grownK hold) (N.grown hold) ha hp fun h1 t1 F1 N1 => ?_))
  refine wpAny_bind (wpAny_holding (store_one F1 N1 hb hp fun h2 t2 F2 N2 => ?_))
  exact wpAny_pure (h h2 t2 F2 N2)
end
end Mine
end
section
open PySem PySem.Spec PySem.W PyProof.Rows PySem.Calls
set_option maxRecDepth 100000
set_option maxHeartbeats 2000000
namespace Mine
mutual
theorem datIn_sift {news news' : List (Addr × Obj)} (hs : ∀ p ∈ news, p.2.cls = .type "tuple" ∨ p.2.cls = .type "list" → p ∈ news') : ∀ {v : Value} {d : Dat}, DatIn news v d → DatIn news' v d
  | _, _, .none => .none
  | _, _, .bool b => .bool b
  | _, _, .int i t => .int i t
  | _, _, .str x t => .str x t
  | _, _, .bytes b t => .bytes b t
  | _, _, .tuple h r => .tuple (hs _ h (.inl rfl)) (datAll_sift hs r)
  | _, _, .list h r => .list (hs _ h (.inr rfl)) (datAll_sift hs r)
theorem datAll_sift {news news' : List (Addr × Obj)} (hs : ∀ p ∈ news, p.2.cls = .type "tuple" ∨ p.2.cls = .type "list" → p ∈ news') : ∀ {vs : List Value} {ds : List Dat}, DatAll news vs ds → DatAll news' vs ds
  | _, _, .nil => .nil
  | _, _, .cons h r => .cons (datIn_sift hs h) (datAll_sift hs r)
end
theorem sift_out {I : Addr} {oI : Obj} {pre post : List (Addr × Obj)} (ho : oI.cls = .type "range_iterator") : ∀ p ∈ pre ++ (I, oI) :: post, p.2.cls = .type "tuple" ∨ p.2.cls = .type "list" → p ∈ pre ++ post := by
  intro p hp hc
  rcases List.mem_append.mp hp with q | q
  · exact List.mem_append.mpr (.inl q)
  · rcases List.mem_cons.mp q with rfl | q
    · rw [ho] at hc
      rcases hc with e | e <;> exact absurd e (by decide)
    · exact List.mem_append.mpr (.inr q)
open PyProof.Rows.LCg PyProof.Rows.LCt
section
variable {prog : Program} {w : World} {A : Around} {E : Value → Shared → Prop} {s : Shared} {env : Env} {h₀ : Heap} {Q : Flow → Shared → Prop}
theorem small_of {a b : Int} (ha : -1000000 ≤ a) (ha' : a ≤ 1000000) (hb : -1000000 ≤ b) (hb' : b ≤ 1000000) : Builtin.Range.small a b 1 = true := by
  unfold Builtin.Range.small Builtin.Range.rangeSize
  simp only [Builtin.Range.rangeFitsLong, Bool.and_eq_true, Bool.or_eq_true, decide_eq_true_eq, beq_iff_eq, show (1 : Int) > 0 by decide, if_true]
  split <;> omega
theorem size_of {a b : Int} {n : Nat} (h : b = a + n) : Builtin.Range.rangeSize a b 1 = n := by
  unfold Builtin.Range.rangeSize
  simp only [show (1 : Int) > 0 by decide, if_true]
  split <;> omega
/-- a loop over a range by one, by what holds between the turns -/
theorem for_range {x : Str} {px : Pos} {body : List Stmt} {r : Addr} {a b : Int} {t u v : Tok} {m : Str → Option Value} {news : List (Addr × Obj)} (n : Nat)
    (J : Nat → (Str → Option Value) → List (Addr × Obj) → Prop)
    (hh : A.handled = none) (F : Fr h₀ env.locals s.heap m) (N : News h₀ env.locals s.heap news) (h0 : J 0 m news)
    (hr : IsRange s.heap r a b 1 t u v) (hn : Builtin.Range.rangeSize a b 1 = n) (hsmall : Builtin.Range.small a b 1 = true)
    (hx : env.kindOf x = some .local) (hp : (env.scope.kind == .class || (env.scope.kind == .module && env.locals != env.globals)) = false)
    (hE : PassesOwn (model prog w) A env E)
    (turn : ∀ i ti m₁ nw I oI h tk, i < n → J i m₁ nw → 1 ≤ tk → Fr h₀ env.locals h (fun z => if z = x then some (.int (a + (i : Int)) ti) else m₁ z) → News h₀ env.locals h ((I, oI) :: nw) → (∀ p ∈ nw, p.1 ≠ I) → oI.cls = .type "range_iterator" →
      wpAny (model prog w) A (execs body env) (ForPost h₀ env.locals I oI (J (i + 1)) { s with heap := h, toks := tk } Q) E { s with heap := h, toks := tk })
    (done : ∀ m₁ nw h tk, J n m₁ nw → Fr h₀ env.locals h m₁ → News h₀ env.locals h nw → Q .next { s with heap := h, toks := tk }) :
    wpAny (model prog w) A (pyIter (.ref r)) (fun it s₂ => codeAny (model prog w) A (.forLoop (.Name x px) it body [] env) (fun r s' => match r with | .ok f => Q f s' | .error e => cameBackBy (model prog w) A env E e s') s₂) E s := by
  refine wpAny_pyIter_range hr hsmall ?_
  rw [hn]
  obtain ⟨It, hIt⟩ : ∃ It, It = s.heap.objs.size := ⟨_, rfl⟩
  rw [← hIt]
  have hItL : env.locals ≠ It := hIt ▸ Nat.ne_of_lt F.ns.lt
  have hIt0 : h₀.get? It = none := hIt ▸ next_is_new F
  refine codeAny_forLoop_any
    (fun k s' => ∃ h' tk m' nw i, s' = { s with heap := h', toks := tk } ∧ IsRangeIter h' It (a + ((i : Nat) : Int) * 1) ((n : Int) - (i : Nat)) 1 ∧ Fr h₀ env.locals h' m' ∧ News h₀ env.locals h' nw ∧ (∀ p ∈ nw, p.1 ≠ It) ∧ J i m' nw ∧ i ≤ n ∧ k = n + 1 - i) ?_ (n + 1)
    ⟨s.heap.push { cls := .type "range_iterator", data := .fields #[rawInt a, rawInt n, rawInt 1] }, s.toks, m, news, 0, rfl, ?_, F.push _, (fun p hp => ⟨Heap.get?_push_of_some _ (N p hp).1, (N p hp).2⟩), (fun p hp => hIt ▸ Nat.ne_of_lt (Heap.lt_size (N p hp).1)), h0, Nat.zero_le _, rfl⟩
  · rintro k s' ⟨h', tk, m', nw, i, rfl, hit, F', N', off, hJ, hi, rfl⟩
    by_cases hlt : i < n
    · refine wpAny_passesOwn hE (wpAny_pyNext_range_item hit (by omega) fun h₁ hit₁ hs₁ => ?_)
      have F₁ : Fr h₀ env.locals h₁ m' := F'.change hs₁ (Ne.symm hItL) hIt0
      have N₁ : News h₀ env.locals h₁ nw := fun p hp => ⟨(hs₁.2 p.1 (off p hp)).trans (N' p hp).1, (N' p hp).2⟩
      have NI : News h₀ env.locals h₁ ((It, { cls := .type "range_iterator", dict := none, data := .fields #[rawInt (a + ((i : Nat) : Int) * 1 + 1), rawInt ((n : Int) - (i : Nat) - 1), rawInt 1], slots := #[] }) :: nw) := by
        intro p hp
        rcases List.mem_cons.mp hp with rfl | hp
        · exact ⟨hit₁, Ne.symm hItL, hIt0⟩
        · exact N₁ p hp
      refine wpAny_of_eq (a := ()) (by first | rfl | exact letOwnedTupleGo_name ..) ?_
      refine wpAny_assign_Name (wpAny_storeName_local hx F₁.ns (fun h₂ hn₂ hs₂ => ?_) hp)
      have F₂ := F₁.set hn₂ hs₂
      have N₂ := NI.set hs₂
      have key := turn i tk m' nw It _ h₂ (tk + 1 + 1) hlt hJ (Nat.le_add_left 1 _) (by rw [Int.mul_one] at F₂; exact F₂) N₂ off rfl
      refine wpAny_passesOwn hE (wpAny_mono key (fun f s₃ z => ?_) fun _ _ e => e)
      have fin : (∃ h' tk' m' nw', s₃ = { s with heap := h', toks := tk' } ∧ Fr h₀ env.locals h' m' ∧ News h₀ env.locals h' ((It, { cls := .type "range_iterator", dict := none, data := .fields #[rawInt (a + ((i : Nat) : Int) * 1 + 1), rawInt ((n : Int) - (i : Nat) - 1), rawInt 1], slots := #[] }) :: nw') ∧ (∀ p ∈ nw', p.1 ≠ It) ∧ J (i + 1) m' nw') →
          ∃ m, m < n + 1 - i ∧ ∃ h' tk m' nw i, s₃ = { s with heap := h', toks := tk } ∧ IsRangeIter h' It (a + ((i : Nat) : Int) * 1) ((n : Int) - (i : Nat)) 1 ∧ Fr h₀ env.locals h' m' ∧ News h₀ env.locals h' nw ∧ (∀ p ∈ nw, p.1 ≠ It) ∧ J i m' nw ∧ i ≤ n ∧ m = n + 1 - i := by
        rintro ⟨h3, tk3, m3, nw3, rfl, F3, N3, off3, J3⟩
        refine ⟨n + 1 - (i + 1), by omega, h3, tk3, m3, nw3, i + 1, rfl, ?_, F3, fun p hp => N3 p (List.mem_cons_of_mem _ hp), off3, J3, hlt, rfl⟩
        have e1 : a + ((i + 1 : Nat) : Int) * 1 = a + (i : Int) * 1 + 1 := by push_cast; omega
        have e2 : (n : Int) - ((i + 1 : Nat) : Int) = (n : Int) - (i : Int) - 1 := by push_cast; omega
        rw [e1, e2]
        exact (N3 _ List.mem_cons_self).1
      cases f with
      | ret v => exact z
      | brk => exact z
      | next => exact fin z
      | cont => exact fin z
    · have hin : i = n := by omega
      subst hin
      refine wpAny_passesOwn hE (wpAny_pyNext_range_end hh hit (by omega) fun h₁ he₁ => wpAny_execs_nil ?_)
      refine done m' nw h₁ tk hJ ⟨F'.ns.at' fun o e => he₁ _ o hItL e, fun b o e => he₁ b o (fun q => by rw [q, hIt0] at e; cases e) (F'.keep b o e), F'.above⟩ fun p hp => ⟨he₁ _ _ (off p hp) (N' p hp).1, (N' p hp).2⟩
  · rw [hIt]
    have := Heap.get?_push_size (h := s.heap) (o := { cls := .type "range_iterator", data := .fields #[rawInt a, rawInt (n : Int), rawInt 1] }) rfl
    simpa using this
theorem for_led {target : Expr} {body : List Stmt} {l : Addr} {items : List Value} {n : Nat} {m : Str → Option Value} {news : List (Addr × Obj)} (hm : (l, W.listOf items.toArray n) ∈ news)
    (J : Nat → (Str → Option Value) → List (Addr × Obj) → Prop)
    (hh : A.handled = none) (F : Fr h₀ env.locals s.heap m) (N : News h₀ env.locals s.heap news) (h0 : J 0 m news)
    (hS : ∀ i m₁ nw, J i m₁ nw → (l, W.listOf items.toArray n) ∈ nw)
    (go : ∀ v ∈ items, (∀ it, letOwnedTupleGo target it v = pure ()) ∨ ((∃ T, v = .ref T) ∧ ∃ es k p, target = .Tuple es k p))
    (hE : PassesOwn (model prog w) A env E)
    (turn : ∀ i v m₁ nw I oI h tk, items[i]? = some v → J i m₁ nw → Fr h₀ env.locals h m₁ → News h₀ env.locals h ((I, oI) :: nw) → (∀ p ∈ nw, p.1 ≠ I) →
      wpAny (model prog w) A (assign target env v) (fun _ s₂ => wpAny (model prog w) A (execs body env) (ForPost h₀ env.locals I oI (J (i + 1)) { s with heap := h, toks := tk } Q) E s₂) E { s with heap := h, toks := tk })
    (done : ∀ m₁ nw h tk, J items.length m₁ nw → Fr h₀ env.locals h m₁ → News h₀ env.locals h nw → Q .next { s with heap := h, toks := tk }) :
    wpAny (model prog w) A (pyIter (.ref l)) (fun it s₂ => codeAny (model prog w) A (.forLoop target it body [] env) (fun r s' => match r with | .ok f => Q f s' | .error e => cameBackBy (model prog w) A env E e s') s₂) E s :=
  for_list J hh F N h0 (fun i m₁ nw hJ => .inr ⟨_, hS i m₁ nw hJ, rfl, _, rfl⟩) go hE turn done
end
end Mine
end
section
open PySem PySem.W PyProof.Rows PySem.Calls
set_option maxRecDepth 100000
namespace Mine
section
variable {prog : Program} {w : World} {A : Around} {E : Value → Shared → Prop} {s : Shared}
/-- `l[:] = ys` : the whole list is put in its place -/
theorem set_whole {l sl src : Addr} {xs ys : Array Value} {n k : Nat} {Q : Unit → Shared → Prop} (ho : s.heap.get? l = some (listOf xs n)) (hs : s.heap.get? sl = some { cls := .type "slice", data := .fields #[.none, .none, .none] })
    (hy : s.heap.get? src = some (listOf ys k)) (hne : l ≠ src) (h1 : xs.size ≤ 1000) (h2 : ys.size ≤ 1000)
    (h : ∀ f : Array Value → Array Value, f xs = ys → Q () { s with heap := s.heap.update l (Obj.mapSeq f) }) : wpAny (model prog w) A (setItem (.ref l) (.ref sl) (.ref src)) Q E s := by
  have hl : s.heap.IsList l xs := PySem.IsL.isList (n := n) ho
  have hT : s.TypeIs (.ref sl) "slice" := ⟨_, hs, rfl⟩
  have hYT : s.TypeIs (.ref src) "list" := (PySem.IsL.isList (n := k) hy : s.heap.IsList src ys).typeIs
  unfold setItem
  try with_reducible refine wpAny_holding ?_
  first | refine wpAny_bind (wpAny_pure ?_) | skip
  refine wpAny_bind (wpAny_sequenceKey hl.typeIs (by decide) ?_)
  refine wpAny_bind (wpAny_callSpecial?_slot (name := Str.ofString "__setitem__") hl.typeIs slot_list_setitem
    (wpAny_call_entry slot_list_setitem hl.typeIs entry_list_setitem ?_ (args_list_setitem _ _ _)))
  show wpAny _ _ (Builtin.List.listSubscript? (.ref sl) >>= _) _ _ s
  refine wpAny_bind ?_
  unfold Builtin.List.listSubscript?
  refine wpAny_bind (wpAny_specialOf hT slice_no_index (wpAny_pure ?_))
  refine wpAny_bind (wpAny_typeOf hT ?_)
  show wpAny _ _ (Builtin.List.listSliceParts (.ref sl) >>= fun r => _) _ _ s
  refine wpAny_bind ?_
  unfold Builtin.List.listSliceParts
  refine wpAny_bind (wpAny_field (x := .none) hs rfl rfl ?_)
  kby_none
  refine wpAny_ite (KBy.ite_no (show ¬ ((Value.none == rawInt 0) = true) from Bool.false_ne_true) ?_)
  refine wpAny_bind (wpAny_field (x := .none) hs rfl rfl ?_)
  kby_none
  refine wpAny_bind (wpAny_field (x := .none) hs rfl rfl ?_)
  kby_none
  refine wpAny_pure ?_
  show wpAny _ _ (if Builtin.List.listSameRef (.ref l) (.ref src) = true then (Builtin.List.listItems (.ref src) >>= _) else (Builtin.List.listAllItems (.ref src) _ >>= _)) _ _ s
  have e1 : Builtin.List.listSameRef (.ref l) (.ref src) = false := by
    show (l == src) = false
    exact beq_eq_false_iff_ne.mpr hne
  rw [if_neg (by rw [e1]; exact Bool.false_ne_true)]
  refine wpAny_bind ?_
  unfold Builtin.List.listAllItems
  refine wpAny_bind (wpAny_typeOf hYT ?_)
  rw [if_pos (by rfl)]
  have hy' : s.heap.get? src = some (listOf ys k) := hy
  have it : ∀ {Q' : Array Value → Shared → Prop} {A' : Around} {E' : Value → Shared → Prop}, Q' ys s → wpAny (model prog w) A' (Builtin.List.listItems (.ref src)) Q' E' s := by
    intro Q' A' E' hq
    unfold Builtin.List.listItems
    exact wpAny_bind (wpAny_seqItems hy rfl (wpAny_pure hq))
  have it2 : ∀ {Q' : Array Value → Shared → Prop} {A' : Around} {E' : Value → Shared → Prop}, Q' xs s → wpAny (model prog w) A' (Builtin.List.listItems (.ref l)) Q' E' s := by
    intro Q' A' E' hq
    unfold Builtin.List.listItems
    exact wpAny_bind (wpAny_seqItems ho rfl (wpAny_pure hq))
  refine it ?_
  refine wpAny_bind (it2 ?_)
  have go : wpAny (model prog w) A.in1 (sliceIndices (rawPart none) (rawPart none) (rawPart none) xs.size) (fun r s' => r = sliceBounds none none none xs.size ∧ s' = s) (fun _ _ => False) s :=
    wpAny_of_eq (sliceIndices_raw none none none xs.size (fun e => nomatch e)) ⟨rfl, rfl⟩
  refine wpAny_bind (wpAny_mono go (fun r s' hr => ?_) fun _ _ e => e.elim)
  obtain ⟨hr1, hr2⟩ := hr
  subst hr1 hr2
  rw [sliceBounds_plain]
  refine wpAny_bind (m := rule _) (wpAny_rule ?_)
  have e2 : Builtin.List.listTooLong (xs.size + ys.size) = false := by unfold Builtin.List.listTooLong; rw [sizeLine_eq]; simp; omega
  show wpAny _ _ (if Builtin.List.listTooLong (xs.size + ys.size) = true then _ else _) _ _ _
  rw [if_neg (by rw [e2]; exact Bool.false_ne_true)]
  have e3 : (fun zs : Array Value => zs.extract 0 (((Option.elim none 0 (clipAt xs.size) : Nat) : Int)).toNat ++ ys ++ zs.extract (max (((Option.elim none 0 (clipAt xs.size) : Nat) : Int)) (((Option.elim none xs.size (clipAt xs.size) : Nat) : Int))).toNat) xs = ys := by
    simp [Int.max_def]
  refine wpAny_bind (m := Builtin.List.listUpdate _ _) ?_
  show wpAny _ _ (updateSeq l _) _ _ _
  refine wpAny_updateSeq ho rfl ?_ (by rw [sizeLine_eq]; omega) (Nat.le_trans (Nat.le_of_eq (congrArg Array.size e3)) (by rw [sizeLine_eq]; omega))
  refine wpAny_bind (wpAny_letGo (wpAny_pure ⟨.none, rfl, wpAny_pure ?_⟩))
  exact h _ e3

theorem set_slice_K {h₀ : Heap} {L D src : Addr} {m : Str → Option Value} {its ys : Array Value} {n k : Nat} {news : List (Addr × Obj)} {g : Obj → List (Addr × Obj)} {Q : Unit → Shared → Prop} (F : Fr h₀ L s.heap m) (N : News h₀ L s.heap news) (U : UpdF D (listOf its n) news g) (hm : (src, listOf ys k) ∈ news) (hne : D ≠ src) (h1 : its.size ≤ 1000) (h2 : ys.size ≤ 1000)
    (h : ∀ h' n', Fr h₀ L h' m → News h₀ L h' (g (listOf ys n')) → Q () { s with heap := h' }) :
    wpAny (model prog w) A (setItem (.ref D) (.ref s.heap.objs.size) (.ref src)) Q E { s with heap := s.heap.push { cls := .type "slice", data := .fields #[.none, .none, .none] } } := by
  obtain ⟨pre, post, rfl, hg, a, b⟩ := U.split
  have F' := F.push { cls := .type "slice", data := .fields #[.none, .none, .none] }
  have N' := N.pushKeep { cls := .type "slice", data := .fields #[.none, .none, .none] }
  have z := N' (D, listOf its n) (List.mem_append.mpr (.inr (.head _)))
  refine set_whole z.1 (Heap.get?_push_size _ rfl) (N' _ hm).1 hne h1 h2 fun f hf => ?_
  refine h _ (if ys.size == its.size then n else n + 1) (F'.change (Heap.SameBut.update ..) z.2.1 z.2.2) ?_
  rw [hg]
  exact ki_turn f N' a b hf rfl
end
section
variable {M : Model} {A : Around} {E : Value → Shared → Prop} {s : Shared} {K : Frag} {x C L f : Addr} {h₀ : Heap} {m : Str → Option Value} {ox : Obj} {od : Option Obj} {i v : Value}
theorem del_own {Q : Unit → Shared → Prop} (F : Fr h₀ L s.heap m) (X₀ : K.In h₀) (I : InstAt s.heap x ox C od) (hq : noSeq K C = true) (hs : findIn K (.ref C) "__delitem__" = some (some (.ref f))) (hf : isFn K (.ref f) = true)
    (h : wpAny M A (call (.ref f) [.ref x, i]) (fun _ s' => Q () s') E s) : wpAny M A (delItem (.ref x) i) Q E s := by
  have X := X₀.keeps F.keep
  unfold delItem sequenceKey
  refine wpAny_holding (wpAny_bind (wpAny_bind (I.type.here ?_)))
  refine wpAny_bind ((anyM_none X hq).here ?_)
  rw [if_pos (show (!false) = true from rfl)]
  exact wpAny_pure (wpAny_bind (special_fn X I hs (beq_iff_eq.mp hf) (wpAny_mono h (fun _ _ z => wpAny_pure z) fun _ _ z => z)))
end
end Mine
end
section
open PySem PySem.W PyProof.Rows PySem.Calls
set_option maxRecDepth 100000
namespace Mine
theorem form1 {m0 m' : Str → Option Value} {a1 : Str} {v1 : Option Value} (h1 : m' a1 = v1) (h : ∀ z, z ≠ a1 → m' z = m0 z) :
    m' = fun z => if z = a1 then v1 else m0 z := by
  funext z
  split
  · next e => rw [e, h1]
  exact h z (by assumption)
theorem form2 {m0 m' : Str → Option Value} {a1 a2 : Str} {v1 v2 : Option Value} (h1 : m' a1 = v1) (h2 : m' a2 = v2) (h : ∀ z, z ≠ a1 → z ≠ a2 → m' z = m0 z) :
    m' = fun z => if z = a1 then v1 else if z = a2 then v2 else m0 z := by
  funext z
  split
  · next e => rw [e, h1]
  split
  · next e => rw [e, h2]
  exact h z (by assumption) (by assumption)
theorem form3 {m0 m' : Str → Option Value} {a1 a2 a3 : Str} {v1 v2 v3 : Option Value} (h1 : m' a1 = v1) (h2 : m' a2 = v2) (h3 : m' a3 = v3) (h : ∀ z, z ≠ a1 → z ≠ a2 → z ≠ a3 → m' z = m0 z) :
    m' = fun z => if z = a1 then v1 else if z = a2 then v2 else if z = a3 then v3 else m0 z := by
  funext z
  split
  · next e => rw [e, h1]
  split
  · next e => rw [e, h2]
  split
  · next e => rw [e, h3]
  exact h z (by assumption) (by assumption) (by assumption)
theorem form4 {m0 m' : Str → Option Value} {a1 a2 a3 a4 : Str} {v1 v2 v3 v4 : Option Value} (h1 : m' a1 = v1) (h2 : m' a2 = v2) (h3 : m' a3 = v3) (h4 : m' a4 = v4) (h : ∀ z, z ≠ a1 → z ≠ a2 → z ≠ a3 → z ≠ a4 → m' z = m0 z) :
    m' = fun z => if z = a1 then v1 else if z = a2 then v2 else if z = a3 then v3 else if z = a4 then v4 else m0 z := by
  funext z
  split
  · next e => rw [e, h1]
  split
  · next e => rw [e, h2]
  split
  · next e => rw [e, h3]
  split
  · next e => rw [e, h4]
  exact h z (by assumption) (by assumption) (by assumption) (by assumption)
theorem form5 {m0 m' : Str → Option Value} {a1 a2 a3 a4 a5 : Str} {v1 v2 v3 v4 v5 : Option Value} (h1 : m' a1 = v1) (h2 : m' a2 = v2) (h3 : m' a3 = v3) (h4 : m' a4 = v4) (h5 : m' a5 = v5) (h : ∀ z, z ≠ a1 → z ≠ a2 → z ≠ a3 → z ≠ a4 → z ≠ a5 → m' z = m0 z) :
    m' = fun z => if z = a1 then v1 else if z = a2 then v2 else if z = a3 then v3 else if z = a4 then v4 else if z = a5 then v5 else m0 z := by
  funext z
  split
  · next e => rw [e, h1]
  split
  · next e => rw [e, h2]
  split
  · next e => rw [e, h3]
  split
  · next e => rw [e, h4]
  split
  · next e => rw [e, h5]
  exact h z (by assumption) (by assumption) (by assumption) (by assumption) (by assumption)
theorem form6 {m0 m' : Str → Option Value} {a1 a2 a3 a4 a5 a6 : Str} {v1 v2 v3 v4 v5 v6 : Option Value} (h1 : m' a1 = v1) (h2 : m' a2 = v2) (h3 : m' a3 = v3) (h4 : m' a4 = v4) (h5 : m' a5 = v5) (h6 : m' a6 = v6) (h : ∀ z, z ≠ a1 → z ≠ a2 → z ≠ a3 → z ≠ a4 → z ≠ a5 → z ≠ a6 → m' z = m0 z) :
    m' = fun z => if z = a1 then v1 else if z = a2 then v2 else if z = a3 then v3 else if z = a4 then v4 else if z = a5 then v5 else if z = a6 then v6 else m0 z := by
  funext z
  split
  · next e => rw [e, h1]
  split
  · next e => rw [e, h2]
  split
  · next e => rw [e, h3]
  split
  · next e => rw [e, h4]
  split
  · next e => rw [e, h5]
  split
  · next e => rw [e, h6]
  exact h z (by assumption) (by assumption) (by assumption) (by assumption) (by assumption) (by assumption)
theorem form7 {m0 m' : Str → Option Value} {a1 a2 a3 a4 a5 a6 a7 : Str} {v1 v2 v3 v4 v5 v6 v7 : Option Value} (h1 : m' a1 = v1) (h2 : m' a2 = v2) (h3 : m' a3 = v3) (h4 : m' a4 = v4) (h5 : m' a5 = v5) (h6 : m' a6 = v6) (h7 : m' a7 = v7) (h : ∀ z, z ≠ a1 → z ≠ a2 → z ≠ a3 → z ≠ a4 → z ≠ a5 → z ≠ a6 → z ≠ a7 → m' z = m0 z) :
    m' = fun z => if z = a1 then v1 else if z = a2 then v2 else if z = a3 then v3 else if z = a4 then v4 else if z = a5 then v5 else if z = a6 then v6 else if z = a7 then v7 else m0 z := by
  funext z
  split
  · next e => rw [e, h1]
  split
  · next e => rw [e, h2]
  split
  · next e => rw [e, h3]
  split
  · next e => rw [e, h4]
  split
  · next e => rw [e, h5]
  split
  · next e => rw [e, h6]
  split
  · next e => rw [e, h7]
  exact h z (by assumption) (by assumption) (by assumption) (by assumption) (by assumption) (by assumption) (by assumption)

theorem off1_ne {D : Addr} : ∀ {l : List (Addr × Obj)}, LCg.Off1 D l → ∀ p ∈ l, p.1 ≠ D
  | [], _, _, hp => nomatch hp
  | q :: r, h, p, hp => by
    rcases List.mem_cons.mp hp with rfl | hp
    · exact h.1
    · exact off1_ne h.2 p hp
end Mine
end
section
open PySem PySem.W PyProof.Rows PySem.Calls
set_option maxRecDepth 100000
namespace Mine
theorem slice_txt (x : Str) (l u : Option Int) : Txt.slice x l u = StrLaws.sliceText x l u := rfl
theorem sl_take (x : Str) (k : Nat) : Txt.slice x none (some (k : Int)) = ⟨(x.cps.toList.take k).toArray⟩ := by
  have hl : x.length = x.cps.toList.length := by simp [Str.length]
  by_cases h : k ≤ x.length
  · rw [slice_txt, StrLaws.sliceText_to ⟨by omega, by omega⟩]
    simp
  · rw [slice_to_beyond (by omega), slice_txt, StrLaws.sliceText_to ⟨by omega, by omega⟩]
    congr 1
    congr 1
    rw [List.drop_zero, List.take_of_length_le (by omega), List.take_of_length_le (by omega)]
theorem sl_drop (x : Str) (k : Nat) : Txt.slice x (some (k : Int)) none = ⟨(x.cps.toList.drop k).toArray⟩ := by
  have hl : x.length = x.cps.toList.length := by simp [Str.length]
  by_cases h : k ≤ x.length
  · rw [slice_txt, StrLaws.sliceText_from ⟨by omega, by omega⟩]
    congr 1
    congr 1
    rw [List.take_of_length_le (by rw [List.length_drop]; omega), Int.toNat_natCast]
  · rw [slice_from_beyond (by omega)]
    congr 1
    rw [List.drop_of_length_le (by omega)]
noncomputable def T (l : List Nat) : Str := ⟨l.toArray⟩
theorem T_list (l : List Nat) : (T l).cps.toList = l := by simp [T]
theorem T_take (l : List Nat) (k : Nat) : Txt.slice (T l) none (some (k : Int)) = T (l.take k) := by rw [sl_take, T_list]; rfl
theorem T_drop (l : List Nat) (k : Nat) : Txt.slice (T l) (some (k : Int)) none = T (l.drop k) := by rw [sl_drop, T_list]; rfl
theorem T_inj {a b : List Nat} (h : T a = T b) : a = b := by rw [← T_list a, h, T_list]
theorem T_beq (a b : List Nat) : (T a == T b) = decide (a = b) := by
  by_cases h : a = b
  · subst h; simp
  · have : T a ≠ T b := fun e => h (T_inj e)
    simp [h, this]
theorem T_item (a : Nat) (l : List Nat) : Txt.item (T (a :: l)) 0 = T [a] := by
  unfold Txt.item Txt.charAt seqIndex? T
  simp [Str.length]
theorem T_append (a b : List Nat) : T a ++ T b = T (a ++ b) := by
  show (⟨(T a).cps ++ (T b).cps⟩ : Str) = _
  unfold T
  congr 1
  simp
theorem e_amp : Str.ofString "&" = T [38] := by decide
theorem e_lt : Str.ofString "<" = T [60] := by decide
theorem e_gt : Str.ofString ">" = T [62] := by decide
theorem e_ampt : Str.ofString "amp;" = T [97, 109, 112, 59] := by decide
theorem e_ltt : Str.ofString "lt;" = T [108, 116, 59] := by decide
theorem e_gtt : Str.ofString "gt;" = T [103, 116, 59] := by decide
theorem e_empty : Str.ofString "" = T [] := by decide
noncomputable def ampL : Nat → List Nat
  | 0 => []
  | n + 1 => [97, 109, 112, 59] ++ ampL n
noncomputable def sgT (c : Nat) : Nat → List Nat
  | n => if c = 38 then 38 :: ampL n else match n with
    | 0 => [c]
    | n + 1 => 38 :: (ampL n ++ (if c = 60 then [108, 116, 59] else [103, 116, 59]))
noncomputable def sgn (c : Nat) : Prop := c = 38 ∨ c = 60 ∨ c = 62
noncomputable def fine (r : List Nat) : Prop := ∀ a r', r = a :: r' → a ≠ 97 ∧ a ≠ 108 ∧ a ≠ 103
theorem ampS_amp (r : List Nat) (h : ∀ a r', r = a :: r' → a ≠ 97) : ∀ (m k : Nat) (n : Int), ampS (m + 1 + k) (T [38]) (T (ampL m ++ r)) n = some (T r, n + m)
  | 0, k, n => by
    rw [show 0 + 1 + k = k + 1 by omega]
    unfold ampS
    rw [e_amp, T_beq, e_ampt, show (4 : Int) = ((4 : Nat) : Int) from rfl, T_take, T_beq]
    have : decide (List.take 4 (ampL 0 ++ r) = [97, 109, 112, 59]) = false := by
      refine decide_eq_false fun e => ?_
      cases r with
      | nil => cases e
      | cons a r' =>
        have := h a r' rfl
        simp [ampL] at e
        exact this e.1
    rw [this]
    simp [ampL]
  | m + 1, k, n => by
    rw [show m + 1 + 1 + k = (m + 1 + k) + 1 by omega]
    unfold ampS
    rw [e_amp, T_beq, e_ampt, show (4 : Int) = ((4 : Nat) : Int) from rfl, T_take, T_beq, T_drop]
    have e1 : List.take 4 (ampL (m + 1) ++ r) = [97, 109, 112, 59] := by simp [ampL]
    have e2 : List.drop 4 (ampL (m + 1) ++ r) = ampL m ++ r := by simp [ampL]
    rw [e1, e2]
    have ih := ampS_amp r h m k (n + 1)
    simp only [decide_true, if_true]
    rw [ih]
    congr 2
    push_cast
    omega
theorem ampS_no {c : Nat} (h : c ≠ 38) (k : Nat) (t : Str) (n : Int) : ampS (k + 1) (T [c]) t n = some (t, n) := by
  unfold ampS
  rw [e_amp, T_beq]
  have : decide ([c] = [38]) = false := decide_eq_false fun e => h (by simpa using e)
  rw [this]; rfl

theorem finS_lt (r : List Nat) (n : Int) : finS (T [38]) (T ([108, 116, 59] ++ r)) n = (T [60], T r, n + 1) := by
  unfold finS
  rw [e_amp, T_beq, e_ltt, show (3 : Int) = ((3 : Nat) : Int) from rfl, T_take, T_beq, T_drop]
  simp [e_lt]
theorem finS_gt (r : List Nat) (n : Int) : finS (T [38]) (T ([103, 116, 59] ++ r)) n = (T [62], T r, n + 1) := by
  unfold finS
  rw [e_amp, T_beq, e_ltt, e_gtt, show (3 : Int) = ((3 : Nat) : Int) from rfl, T_take, T_beq, T_drop, T_beq]
  simp [e_gt]
theorem finS_amp (r : List Nat) (h : fine r) (n : Int) : finS (T [38]) (T r) n = (T [38], T r, n) := by
  unfold finS
  rw [e_amp, T_beq, e_ltt, e_gtt, show (3 : Int) = ((3 : Nat) : Int) from rfl, T_take, T_beq, T_drop, T_beq]
  have h1 : decide (List.take 3 r = [108, 116, 59]) = false := by
    refine decide_eq_false fun e => ?_
    cases r with
    | nil => cases e
    | cons a r' => have := (h a r' rfl).2.1; simp at e; exact this e.1
  have h2 : decide (List.take 3 r = [103, 116, 59]) = false := by
    refine decide_eq_false fun e => ?_
    cases r with
    | nil => cases e
    | cons a r' => have := (h a r' rfl).2.2; simp at e; exact this e.1
  rw [h1, h2]
  simp
theorem finS_no {c : Nat} (h : c ≠ 38) (t : Str) (n : Int) : finS (T [c]) t n = (T [c], t, n) := by
  unfold finS
  rw [e_amp, T_beq]
  have : decide ([c] = [38]) = false := decide_eq_false fun e => h (by simpa using e)
  rw [this]; rfl
theorem read_step {c n : Nat} (hc : sgn c) (r : List Nat) (hr : fine r) (k : Nat) (hk : n + 1 ≤ k) : readS (k + 1) (T (sgT c n ++ r)) = (readS k (T r)).map ((T [c], (n : Int)) :: ·) := by
  have key : ∀ a l, sgT c n ++ r = a :: l → ∀ t m, ampS k (T [a]) (T l) 0 = some (t, m) → finS (T [a]) t m = (T [c], T r, (n : Int)) → readS (k + 1) (T (sgT c n ++ r)) = (readS k (T r)).map ((T [c], (n : Int)) :: ·) := by
    intro a l e t m h1 h2
    conv => lhs; unfold readS
    rw [e, e_empty, T_item, show (1 : Int) = ((1 : Nat) : Int) from rfl, T_drop, List.drop_succ_cons, List.drop_zero, h1]
    have hne : (T (a :: l) != T []) = true := by
      unfold bne; rw [T_beq]; simp
    rw [if_pos hne]
    show (readS k (finS (T [a]) t m).2.1).map (((finS (T [a]) t m).1, (finS (T [a]) t m).2.2) :: ·) = _
    rw [h2]
  obtain ⟨k', rfl⟩ : ∃ k', k = n + 1 + k' := ⟨k - (n + 1), by omega⟩
  rcases hc with rfl | rfl | rfl
  · refine key 38 (ampL n ++ r) (by simp [sgT]) (T r) (0 + n) (ampS_amp r (fun a r' e => (hr a r' e).1) n k' 0) ?_
    rw [Int.zero_add]; exact finS_amp r hr _
  · cases n with
    | zero =>
      refine key 60 r (by simp [sgT]) (T r) 0 ?_ (finS_no (by decide) _ _)
      rw [show 0 + 1 + k' = k' + 1 by omega]; exact ampS_no (by decide) _ _ _
    | succ m =>
      refine key 38 (ampL m ++ ([108, 116, 59] ++ r)) (by simp [sgT]) (T ([108, 116, 59] ++ r)) (0 + m) ?_ ?_
      · rw [show m + 1 + 1 + k' = m + 1 + (k' + 1) by omega]
        exact ampS_amp _ (fun a r' e => by simp at e; rw [← e.1]; decide) m (k' + 1) 0
      · rw [finS_lt]; congr 3; push_cast; omega
  · cases n with
    | zero =>
      refine key 62 r (by simp [sgT]) (T r) 0 ?_ (finS_no (by decide) _ _)
      rw [show 0 + 1 + k' = k' + 1 by omega]; exact ampS_no (by decide) _ _ _
    | succ m =>
      refine key 38 (ampL m ++ ([103, 116, 59] ++ r)) (by simp [sgT]) (T ([103, 116, 59] ++ r)) (0 + m) ?_ ?_
      · rw [show m + 1 + 1 + k' = m + 1 + (k' + 1) by omega]
        exact ampS_amp _ (fun a r' e => by simp at e; rw [← e.1]; decide) m (k' + 1) 0
      · rw [finS_gt]; congr 3; push_cast; omega
noncomputable def rowT (l : List (Nat × Nat)) : List Nat := l.flatMap fun p => sgT p.1 p.2
noncomputable def rowR (l : List (Nat × Nat)) : List (Str × Int) := l.map fun p => (T [p.1], (p.2 : Int))
theorem sgT_head {c n : Nat} (hc : sgn c) : ∃ a l, sgT c n = a :: l ∧ sgn a := by
  unfold sgT
  split
  · exact ⟨38, _, rfl, .inl rfl⟩
  · cases n with
    | zero => exact ⟨c, _, rfl, hc⟩
    | succ m => exact ⟨38, _, rfl, .inl rfl⟩
theorem rowT_fine : ∀ (l : List (Nat × Nat)), (∀ p ∈ l, sgn p.1) → fine (rowT l)
  | [], _, a, r', e => by cases e
  | p :: r, h, a, r', e => by
    obtain ⟨b, q, e2, hb⟩ := sgT_head (n := p.2) (h p List.mem_cons_self)
    have : rowT (p :: r) = b :: (q ++ rowT r) := by simp [rowT, e2]
    rw [this] at e
    obtain ⟨rfl, _⟩ := List.cons.inj e
    rcases hb with rfl | rfl | rfl <;> decide
theorem read_row : ∀ (l : List (Nat × Nat)) (k : Nat), (∀ p ∈ l, sgn p.1 ∧ p.2 ≤ 100) → l.length + 102 ≤ k → readS k (T (rowT l)) = some (rowR l)
  | [], k, _, hk => by
    obtain ⟨k', rfl⟩ : ∃ k', k = k' + 1 := ⟨k - 1, by simp at hk; omega⟩
    unfold readS
    rw [e_empty]
    simp [rowT, rowR]
  | p :: r, k, h, hk => by
    have hk' : r.length + 1 + 102 ≤ k := hk
    obtain ⟨k', rfl⟩ : ∃ k', k = k' + 1 := ⟨k - 1, by omega⟩
    have hp := h p List.mem_cons_self
    have hr : ∀ q ∈ r, sgn q.1 ∧ q.2 ≤ 100 := fun q hq => h q (List.mem_cons_of_mem _ hq)
    have e : rowT (p :: r) = sgT p.1 p.2 ++ rowT r := by simp [rowT]
    rw [e, read_step hp.1 (rowT r) (rowT_fine r fun q hq => (hr q hq).1) k' (by omega), read_row r k' hr (by omega)]
    rfl
end Mine
end
section
open PySem PySem.W PyProof.Rows PySem.Calls
set_option maxRecDepth 100000
set_option maxHeartbeats 8000000
namespace Mine
theorem in_depth {Γ : Ctx} {hd fr gd} {d u d' u' : Nat} (h : Γ.In ⟨hd, d, fr, gd, u⟩) (h1 : d ≤ d') (h2 : u ≤ u') : Γ.In ⟨hd, d', fr, gd, u'⟩ :=
  ⟨h.1, Nat.le_trans h.2.1 h1, h.2.2.1, h.2.2.2.1, Nat.le_trans h.2.2.2.2 h2⟩
theorem room {M : Model} {hd fr gd} {d u d' u' : Nat} {α : Type} {t : Sem α} {Q : α → Shared → Prop} {E : Value → Shared → Prop} {s : Shared}
    (h1 : d ≤ d') (h2 : u ≤ u') (h : wpAny M ⟨hd, d', fr, gd, u'⟩ t Q E s) : wpAny M ⟨hd, d, fr, gd, u⟩ t Q E s :=
  fun Γ p hΓ => h Γ p (in_depth hΓ h1 h2)
theorem gentoks1 {α : Type} {M : Model} {A : Around} {t : Sem α} {Q : α → Shared → Prop} {E : Value → Shared → Prop} {h : Heap} {g d o} {X : Nat}
    (k : ∀ tk, 1 ≤ tk → wpAny M A t Q E ⟨h, g, d, tk, o⟩) : wpAny M A t Q E ⟨h, g, d, X + 1, o⟩ := k (X + 1) (Nat.succ_le_succ (Nat.zero_le _))
theorem cut {α : Type} {M : Model} {A : Around} {t : Sem α} {Q P : α → Shared → Prop} {E : Value → Shared → Prop} {s : Shared}
    (h : wpAny M A t P E s) (k : ∀ a s', P a s' → Q a s') : wpAny M A t Q E s := wpAny_mono h k fun _ _ e => e
theorem news_sub {h₀ h : Heap} {L : Addr} {l l' : List (Addr × Obj)} (N : News h₀ L h l) (hs : ∀ p ∈ l', p ∈ l) : News h₀ L h l' := fun p hp => N p (hs p hp)
/-- one letter of the frame named, the rest as it was -/
theorem fr_named {h₀ h : Heap} {L : Addr} {m : Str → Option Value} {k : Str} {v : Value} (F : Fr h₀ L h m) (e : m k = some v) : Fr h₀ L h (fun y => if y = k then some v else m y) := by
  have : (fun y => if y = k then some v else m y) = m := by
    funext y
    by_cases h : y = k
    · subst h; simp [e]
    · simp [h]
  rw [this]; exact F
theorem allLt_mem : ∀ {l : List (Addr × Obj)} {d : Addr}, AllLt d l → ∀ p ∈ l, @LT.lt Nat _ p.1 d
  | [], _, _, _, hp => nomatch hp
  | q :: r, d, h, p, hp => by
    rcases List.mem_cons.mp hp with rfl | hp
    · exact h.1
    · exact allLt_mem h.2 p hp
theorem allLt_ne {l : List (Addr × Obj)} {d d' : Addr} (h : AllLt d' l) (hd : @LE.le Nat _ d' d) : ∀ p ∈ l, p.1 ≠ d :=
  fun p hp => Nat.ne_of_lt (Nat.lt_of_lt_of_le (allLt_mem h p hp) hd)
theorem mem_ne {l : List (Addr × Obj)} {d d' : Addr} (h : ∀ p ∈ l, @LT.lt Nat _ p.1 d') (hd : @LE.le Nat _ d' d) : ∀ p ∈ l, p.1 ≠ d :=
  fun p hp => Nat.ne_of_lt (Nat.lt_of_lt_of_le (h p hp) hd)
end Mine
end
section
open PySem PySem.W PyProof.Rows PySem.Calls
set_option maxRecDepth 100000
set_option maxHeartbeats 8000000
namespace Mine
/-- none of the four signs that _escape_attrib turns besides -/
noncomputable def Safe (x : Str) : Prop := ∀ c ∈ x.cps.toList, c ≠ 34 ∧ c ≠ 13 ∧ c ≠ 10 ∧ c ≠ 9
theorem safe_repl {x z : Str} {c : Nat} (hx : Safe x) (hz : Safe z) : Safe (repl c z x) := by
  intro a ha
  obtain ⟨b, hb, hab⟩ := List.mem_flatMap.mp (show a ∈ (x.cps.toList.flatMap fun a => if a = c then z.cps.toList else [a]) from ha)
  by_cases h : b = c
  · rw [if_pos h] at hab; exact hz a hab
  · rw [if_neg h] at hab; rw [List.mem_singleton.mp hab]; exact hx b hb
theorem len_repl (x z : Str) (c : Nat) : (repl c z x).length ≤ x.length * (z.length + 1) := by
  show (x.cps.toList.flatMap fun a => if a = c then z.cps.toList else [a]).toArray.size ≤ x.cps.size * (z.cps.size + 1)
  rw [List.size_toArray, ← Array.length_toList (xs := x.cps)]
  generalize x.cps.toList = l
  induction l with
  | nil => simp
  | cons a r ih =>
    rw [List.flatMap_cons, List.length_append, List.length_cons, Nat.add_mul, Nat.one_mul]
    have : (if a = c then z.cps.toList else [a]).length ≤ z.cps.size + 1 := by split <;> simp
    omega
theorem repl_free {x z : Str} {c : Nat} (h : c ∉ x.cps.toList) : repl c z x = x := by
  apply Str.ext'; apply Array.ext'
  exact flat_free c z.cps.toList x.cps.toList h
theorem found_not {x : Str} {c : Nat} (h : (Builtin.Str.occurrences x ⟨#[c]⟩ 0 x.length 1).isEmpty = true) : c ∉ x.cps.toList := by
  have := StrLaws.found_one x c
  rw [h] at this
  exact of_decide_eq_false this.symm
theorem found_yes {x : Str} {c : Nat} (h : (Builtin.Str.occurrences x ⟨#[c]⟩ 0 x.length 1).isEmpty = false) : c ∈ x.cps.toList := by
  have := StrLaws.found_one x c
  rw [h] at this
  exact of_decide_eq_true this.symm
noncomputable def IfPost (g : Heap) (L : Addr) (m : Str → Option Value) (news : List (Addr × Obj)) (s : Shared) (y : Str) (f : Flow) (s' : Shared) : Prop :=
  f = .next ∧ ∃ t h' tk, 1 ≤ tk ∧ s' = { s with heap := h', toks := tk } ∧ Fr g L h' (fun z => if z = Str.ofString "text" then some (.str y t) else m z) ∧ News g L h' news
theorem tok_ne {t : Tok} (h : 1 ≤ (show Nat from t)) : t ≠ 0 := fun e => by subst e; exact absurd h (by decide)
theorem e_absent {x r c : Str} {i : Nat} (hc : c = ⟨#[i]⟩) (h : (Builtin.Str.occurrences x c 0 x.length 1).isEmpty = true) : x = repl i r x := by
  subst hc; exact (repl_free (found_not h)).symm
theorem e_present {x r c : Str} {i : Nat} (hc : c = ⟨#[i]⟩) : Txt.replace x c r = repl i r x := by
  subst hc; exact replace_repl x r i
theorem no_found {x c : Str} {i : Nat} (hc : c = ⟨#[i]⟩) (hi : i = 34 ∨ i = 13 ∨ i = 10 ∨ i = 9) (hS : Safe x) (h : (Builtin.Str.occurrences x c 0 x.length 1).isEmpty = false) : False := by
  subst hc
  have := hS i (found_yes h)
  omega
section
variable {M : Model} {A : Around} {env : Env} {E : Value → Shared → Prop} {s : Shared} {g : Heap} {L : Addr} {m : Str → Option Value} {news : List (Addr × Obj)} {Q : Flow → Shared → Prop}
theorem if_cut {c c' r n n' n'' : Str} {k1 k2 k3 p1 p2 p3 p4 p5 p6 p7 p8 p9 p10 : _} {d x : Str} {i b : Nat} {tx : Tok} (hc : c = ⟨#[i]⟩) (F : Fr g L s.heap m) (N : News g L s.heap news) (hm : m (Str.ofString "text") = some (.str x tx))
    (hS : Safe x) (hb : x.length ≤ b) (hr : Safe r) (hn : r.length ≤ 6)
    (h : wpAny M A (exec (.If (.Compare (.Constant (.str c) k1 p1) [.In] [.Name n p2] p3) [.Assign [.Name n' p4] (.Call (.Attribute (.Name n'' p5) d p6) [.Constant (.str c') k2 p7, .Constant (.str r) k3 p8] [] p9) p10] [] pos) env) (IfPost g L m news s (repl i r x)) E s)
    (k : ∀ t h' tk, 1 ≤ tk → Safe (repl i r x) → (repl i r x).length ≤ b * 7 → Fr g L h' (fun z => if z = Str.ofString "text" then some (.str (repl i r x) t) else m z) → News g L h' news → Q .next { s with heap := h', toks := tk }) :
    wpAny M A (exec (.If (.Compare (.Constant (.str c) k1 p1) [.In] [.Name n p2] p3) [.Assign [.Name n' p4] (.Call (.Attribute (.Name n'' p5) d p6) [.Constant (.str c') k2 p7, .Constant (.str r) k3 p8] [] p9) p10] [] pos) env) Q E s :=
  cut h fun f s' ⟨hf, t, h', tk, h1, e, F', N'⟩ => by
    subst hf; subst e
    exact k t h' tk h1 (safe_repl hS hr) (Nat.le_trans (len_repl x r i) (Nat.mul_le_mul hb (Nat.succ_le_succ hn))) F' N'
theorem if_free {c c' r n n' n'' : Str} {k1 k2 k3 p1 p2 p3 p4 p5 p6 p7 p8 p9 p10 : _} {d x : Str} {i : Nat} {tx : Tok} (hc : c = ⟨#[i]⟩) (hi : i = 34 ∨ i = 13 ∨ i = 10 ∨ i = 9) (F : Fr g L s.heap m) (N : News g L s.heap news) (hm : m (Str.ofString "text") = some (.str x tx))
    (hS : Safe x)
    (h : wpAny M A (exec (.If (.Compare (.Constant (.str c) k1 p1) [.In] [.Name n p2] p3) [.Assign [.Name n' p4] (.Call (.Attribute (.Name n'' p5) d p6) [.Constant (.str c') k2 p7, .Constant (.str r) k3 p8] [] p9) p10] [] pos) env) (IfPost g L m news s x) E s)
    (k : ∀ t h' tk, 1 ≤ tk → Fr g L h' (fun z => if z = Str.ofString "text" then some (.str x t) else m z) → News g L h' news → Q .next { s with heap := h', toks := tk }) :
    wpAny M A (exec (.If (.Compare (.Constant (.str c) k1 p1) [.In] [.Name n p2] p3) [.Assign [.Name n' p4] (.Call (.Attribute (.Name n'' p5) d p6) [.Constant (.str c') k2 p7, .Constant (.str r) k3 p8] [] p9) p10] [] pos) env) Q E s :=
  cut h fun f s' ⟨hf, t, h', tk, h1, e, F', N'⟩ => by
    subst hf; subst e
    exact k t h' tk h1 F' N'
theorem if_end {y y' : Str} {t : Tok} {h' : Heap} {tk : Nat} {m' : Str → Option Value} (e : y' = y) (h1 : 1 ≤ tk) (F : Fr g L h' m') (N : News g L h' news) (hm : m' (Str.ofString "text") = some (.str y' t)) (hr : ∀ z, z ≠ Str.ofString "text" → m' z = m z) :
    IfPost g L m news s y .next { s with heap := h', toks := tk } := by
  subst e
  refine ⟨rfl, t, h', tk, h1, rfl, ?_, N⟩
  have : (fun z => if z = Str.ofString "text" then some (.str y' t) else m z) = m' := by
    funext z
    by_cases hz : z = Str.ofString "text"
    · subst hz; rw [if_pos rfl, hm]
    · rw [if_neg hz, hr z hz]
  rw [this]; exact F
end

noncomputable def esc (x : Str) : Str := repl 62 (Str.ofString "&gt;") (repl 60 (Str.ofString "&lt;") (repl 38 (Str.ofString "&amp;") x))
theorem spec_cdata {w mean mg mb loose gd cn cs a ccd cl outer A₀ base h₀ L m news s Q E} (x : Str) (tx : Tok)
    (B : Below A₀ base outer h₀) (F : Fr h₀ L s.heap m) (X : (hd.heap_1 w.params).In h₀) (N : News h₀ L s.heap news) (T : Top hdView loose mean mg mb h₀) (hk : cs.kind = .function)
    (hx : x.length ≤ 1000) (hS : Safe x) (ht : 1 ≤ s.toks)
    (ret : ∀ t h' tk', 1 ≤ tk' → Fr h₀ L h' m → News h₀ L h' news → Q (.str (esc x) t) { s with heap := h', toks := tk' }) :
    wpAny (model PySem.Challenge.rw_ty0056_02.prog w) (ktrTop 600 5000 gd cn cs L a ccd cl outer) (call (.ref 235) [.str x tx]) Q E s := by
  k_with_none
  w_top off
  k_with "execs cons" => (k_here; (with_reducible show wpAny _ _ _ _ _ (Shared.mk _ _ _ (_ + 1) _)); refine gentoks1 ?_; intro tk9q htk9q)
  k_with "execs nil" => (k_here; (with_reducible show wpAny _ _ _ _ _ (Shared.mk _ _ _ (_ + 1) _)); refine gentoks1 ?_; intro tk9q htk9q)
  k_with "my ifend" => (refine' if_end ?e ?h1 ?F ?N ?m ?r; (case F => k_asm); (case N => k_asm); (case m => exact rfl); (case h1 => omega); (case e => first | rfl | (refine' e_absent ?ec ?eh; (case eh => assumption); (case ec => decide +kernel)) | exact e_present (by decide +kernel)); (case r => intro z9q hz9q; first | rfl | exact if_neg hz9q | (simp [hz9q]; done)))
  k_with "my ifclose" => first | walk_at "my ifend" | (exfalso; first | (refine' no_found (i := 34) ?ec ?ei ?es ?eh; (case eh => assumption); (case ec => decide +kernel); (case ei => omega); (case es => assumption)) | (refine' no_found (i := 13) ?ec ?ei ?es ?eh; (case eh => assumption); (case ec => decide +kernel); (case ei => omega); (case es => assumption)) | (refine' no_found (i := 10) ?ec ?ei ?es ?eh; (case eh => assumption); (case ec => decide +kernel); (case ei => omega); (case es => assumption)) | (refine' no_found (i := 9) ?ec ?ei ?es ?eh; (case eh => assumption); (case ec => decide +kernel); (case ei => omega); (case es => assumption)))
  k_with "call builtin:str.replace" => (refine' SC.replaceW ?u ?v ?uv ?yz ?hx ?hz ?_; (case u => first | exact Nat.succ_ne_zero _ | exact Nat.ne_of_gt (by assumption)); (case v => exact Nat.succ_ne_zero _); (case uv => exact Nat.ne_of_lt (Nat.lt_succ_self _)); (case yz => decide +kernel); (case hx => omega); (case hz => decide +kernel); intro t9q k9q; (try dsimp only))
  k_with "exec If Compare" => (k_here; (fail_if_success (with_reducible show wpAny _ _ _ (IfPost _ _ _ _ _ _) _ _)); (refine' if_free (i := 9) ?c ?i ?F ?N ?m ?S ?h ?_; (case c => decide +kernel); (case i => omega); (case F => k_asm); (case N => k_asm); (case m => exact rfl); (case S => assumption); (case h => (k_steps; all_goals walk_at "my ifclose")); (intro t9q h9q tk9q htk9q F9q N9q; (try dsimp only); (try k_fold))))
  k_with "exec If Compare" => (k_here; (fail_if_success (with_reducible show wpAny _ _ _ (IfPost _ _ _ _ _ _) _ _)); (refine' if_free (i := 10) ?c ?i ?F ?N ?m ?S ?h ?_; (case c => decide +kernel); (case i => omega); (case F => k_asm); (case N => k_asm); (case m => exact rfl); (case S => assumption); (case h => (k_steps; all_goals walk_at "my ifclose")); (intro t9q h9q tk9q htk9q F9q N9q; (try dsimp only); (try k_fold))))
  k_with "exec If Compare" => (k_here; (fail_if_success (with_reducible show wpAny _ _ _ (IfPost _ _ _ _ _ _) _ _)); (refine' if_free (i := 13) ?c ?i ?F ?N ?m ?S ?h ?_; (case c => decide +kernel); (case i => omega); (case F => k_asm); (case N => k_asm); (case m => exact rfl); (case S => assumption); (case h => (k_steps; all_goals walk_at "my ifclose")); (intro t9q h9q tk9q htk9q F9q N9q; (try dsimp only); (try k_fold))))
  k_with "exec If Compare" => (k_here; (fail_if_success (with_reducible show wpAny _ _ _ (IfPost _ _ _ _ _ _) _ _)); (refine' if_free (i := 34) ?c ?i ?F ?N ?m ?S ?h ?_; (case c => decide +kernel); (case i => omega); (case F => k_asm); (case N => k_asm); (case m => exact rfl); (case S => assumption); (case h => (k_steps; all_goals walk_at "my ifclose")); (intro t9q h9q tk9q htk9q F9q N9q; (try dsimp only); (try k_fold))))
  k_with "exec If Compare" => (k_here; (fail_if_success (with_reducible show wpAny _ _ _ (IfPost _ _ _ _ _ _) _ _)); (refine' if_cut (i := 38) ?c ?F ?N ?m ?S ?b ?r ?n ?h ?_; (case c => decide +kernel); (case F => k_asm); (case N => k_asm); (case m => exact rfl); (case S => assumption); (case b => assumption); (case r => (intro c9q hc9q; revert c9q; decide +kernel)); (case n => decide +kernel); (case h => (k_steps; all_goals walk_at "my ifclose")); (intro t9q h9q tk9q htk9q hS9q hb9q F9q N9q; (try dsimp only); (try k_fold))))
  k_with "exec If Compare" => (k_here; (fail_if_success (with_reducible show wpAny _ _ _ (IfPost _ _ _ _ _ _) _ _)); (refine' if_cut (i := 60) ?c ?F ?N ?m ?S ?b ?r ?n ?h ?_; (case c => decide +kernel); (case F => k_asm); (case N => k_asm); (case m => exact rfl); (case S => assumption); (case b => assumption); (case r => (intro c9q hc9q; revert c9q; decide +kernel)); (case n => decide +kernel); (case h => (k_steps; all_goals walk_at "my ifclose")); (intro t9q h9q tk9q htk9q hS9q hb9q F9q N9q; (try dsimp only); (try k_fold))))
  k_with "exec If Compare" => (k_here; (fail_if_success (with_reducible show wpAny _ _ _ (IfPost _ _ _ _ _ _) _ _)); (refine' if_cut (i := 62) ?c ?F ?N ?m ?S ?b ?r ?n ?h ?_; (case c => decide +kernel); (case F => k_asm); (case N => k_asm); (case m => exact rfl); (case S => assumption); (case b => assumption); (case r => (intro c9q hc9q; revert c9q; decide +kernel)); (case n => decide +kernel); (case h => (k_steps; all_goals walk_at "my ifclose")); (intro t9q h9q tk9q htk9q hS9q hb9q F9q N9q; (try dsimp only); (try k_fold))))
  revert X; k_fill; intro X
  refine wpAny_call ?_
  k_dflt cell_enter
  k_steps
  exact ret _ _ _ (by assumption) (by assumption) (by assumption)
theorem spec_attrib {w mean mg mb loose gd cn cs a ccd cl outer A₀ base h₀ L m news s Q E} (x : Str) (tx : Tok)
    (B : Below A₀ base outer h₀) (F : Fr h₀ L s.heap m) (X : (hd.heap_1 w.params).In h₀) (N : News h₀ L s.heap news) (T : Top hdView loose mean mg mb h₀) (hk : cs.kind = .function)
    (hx : x.length ≤ 1000) (hS : Safe x) (ht : 1 ≤ s.toks)
    (ret : ∀ t h' tk', 1 ≤ tk' → Fr h₀ L h' m → News h₀ L h' news → Q (.str (esc x) t) { s with heap := h', toks := tk' }) :
    wpAny (model PySem.Challenge.rw_ty0056_02.prog w) (ktrTop 600 5000 gd cn cs L a ccd cl outer) (call (.ref 242) [.str x tx]) Q E s := by
  k_with_none
  w_top off
  k_with "execs cons" => (k_here; (with_reducible show wpAny _ _ _ _ _ (Shared.mk _ _ _ (_ + 1) _)); refine gentoks1 ?_; intro tk9q htk9q)
  k_with "execs nil" => (k_here; (with_reducible show wpAny _ _ _ _ _ (Shared.mk _ _ _ (_ + 1) _)); refine gentoks1 ?_; intro tk9q htk9q)
  k_with "my ifend" => (refine' if_end ?e ?h1 ?F ?N ?m ?r; (case F => k_asm); (case N => k_asm); (case m => exact rfl); (case h1 => omega); (case e => first | rfl | (refine' e_absent ?ec ?eh; (case eh => assumption); (case ec => decide +kernel)) | exact e_present (by decide +kernel)); (case r => intro z9q hz9q; first | rfl | exact if_neg hz9q | (simp [hz9q]; done)))
  k_with "my ifclose" => first | walk_at "my ifend" | (exfalso; first | (refine' no_found (i := 34) ?ec ?ei ?es ?eh; (case eh => assumption); (case ec => decide +kernel); (case ei => omega); (case es => assumption)) | (refine' no_found (i := 13) ?ec ?ei ?es ?eh; (case eh => assumption); (case ec => decide +kernel); (case ei => omega); (case es => assumption)) | (refine' no_found (i := 10) ?ec ?ei ?es ?eh; (case eh => assumption); (case ec => decide +kernel); (case ei => omega); (case es => assumption)) | (refine' no_found (i := 9) ?ec ?ei ?es ?eh; (case eh => assumption); (case ec => decide +kernel); (case ei => omega); (case es => assumption)))
  k_with "call builtin:str.replace" => (refine' SC.replaceW ?u ?v ?uv ?yz ?hx ?hz ?_; (case u => first | exact Nat.succ_ne_zero _ | exact Nat.ne_of_gt (by assumption)); (case v => exact Nat.succ_ne_zero _); (case uv => exact Nat.ne_of_lt (Nat.lt_succ_self _)); (case yz => decide +kernel); (case hx => omega); (case hz => decide +kernel); intro t9q k9q; (try dsimp only))
  k_with "exec If Compare" => (k_here; (fail_if_success (with_reducible show wpAny _ _ _ (IfPost _ _ _ _ _ _) _ _)); (refine' if_free (i := 9) ?c ?i ?F ?N ?m ?S ?h ?_; (case c => decide +kernel); (case i => omega); (case F => k_asm); (case N => k_asm); (case m => exact rfl); (case S => assumption); (case h => (k_steps; all_goals walk_at "my ifclose")); (intro t9q h9q tk9q htk9q F9q N9q; (try dsimp only); (try k_fold))))
  k_with "exec If Compare" => (k_here; (fail_if_success (with_reducible show wpAny _ _ _ (IfPost _ _ _ _ _ _) _ _)); (refine' if_free (i := 10) ?c ?i ?F ?N ?m ?S ?h ?_; (case c => decide +kernel); (case i => omega); (case F => k_asm); (case N => k_asm); (case m => exact rfl); (case S => assumption); (case h => (k_steps; all_goals walk_at "my ifclose")); (intro t9q h9q tk9q htk9q F9q N9q; (try dsimp only); (try k_fold))))
  k_with "exec If Compare" => (k_here; (fail_if_success (with_reducible show wpAny _ _ _ (IfPost _ _ _ _ _ _) _ _)); (refine' if_free (i := 13) ?c ?i ?F ?N ?m ?S ?h ?_; (case c => decide +kernel); (case i => omega); (case F => k_asm); (case N => k_asm); (case m => exact rfl); (case S => assumption); (case h => (k_steps; all_goals walk_at "my ifclose")); (intro t9q h9q tk9q htk9q F9q N9q; (try dsimp only); (try k_fold))))
  k_with "exec If Compare" => (k_here; (fail_if_success (with_reducible show wpAny _ _ _ (IfPost _ _ _ _ _ _) _ _)); (refine' if_free (i := 34) ?c ?i ?F ?N ?m ?S ?h ?_; (case c => decide +kernel); (case i => omega); (case F => k_asm); (case N => k_asm); (case m => exact rfl); (case S => assumption); (case h => (k_steps; all_goals walk_at "my ifclose")); (intro t9q h9q tk9q htk9q F9q N9q; (try dsimp only); (try k_fold))))
  k_with "exec If Compare" => (k_here; (fail_if_success (with_reducible show wpAny _ _ _ (IfPost _ _ _ _ _ _) _ _)); (refine' if_cut (i := 38) ?c ?F ?N ?m ?S ?b ?r ?n ?h ?_; (case c => decide +kernel); (case F => k_asm); (case N => k_asm); (case m => exact rfl); (case S => assumption); (case b => assumption); (case r => (intro c9q hc9q; revert c9q; decide +kernel)); (case n => decide +kernel); (case h => (k_steps; all_goals walk_at "my ifclose")); (intro t9q h9q tk9q htk9q hS9q hb9q F9q N9q; (try dsimp only); (try k_fold))))
  k_with "exec If Compare" => (k_here; (fail_if_success (with_reducible show wpAny _ _ _ (IfPost _ _ _ _ _ _) _ _)); (refine' if_cut (i := 60) ?c ?F ?N ?m ?S ?b ?r ?n ?h ?_; (case c => decide +kernel); (case F => k_asm); (case N => k_asm); (case m => exact rfl); (case S => assumption); (case b => assumption); (case r => (intro c9q hc9q; revert c9q; decide +kernel)); (case n => decide +kernel); (case h => (k_steps; all_goals walk_at "my ifclose")); (intro t9q h9q tk9q htk9q hS9q hb9q F9q N9q; (try dsimp only); (try k_fold))))
  k_with "exec If Compare" => (k_here; (fail_if_success (with_reducible show wpAny _ _ _ (IfPost _ _ _ _ _ _) _ _)); (refine' if_cut (i := 62) ?c ?F ?N ?m ?S ?b ?r ?n ?h ?_; (case c => decide +kernel); (case F => k_asm); (case N => k_asm); (case m => exact rfl); (case S => assumption); (case b => assumption); (case r => (intro c9q hc9q; revert c9q; decide +kernel)); (case n => decide +kernel); (case h => (k_steps; all_goals walk_at "my ifclose")); (intro t9q h9q tk9q htk9q hS9q hb9q F9q N9q; (try dsimp only); (try k_fold))))
  revert X; k_fill; intro X
  refine wpAny_call ?_
  k_dflt cell_enter
  k_steps
  exact ret _ _ _ (by assumption) (by assumption) (by assumption)
theorem spec_c14n {w mean mg mb loose gd cn cs a ccd cl outer A₀ base h₀ L m news s Q E} (x : Str) (tx : Tok)
    (B : Below A₀ base outer h₀) (F : Fr h₀ L s.heap m) (X : (hd.heap_1 w.params).In h₀) (N : News h₀ L s.heap news) (T : Top hdView loose mean mg mb h₀) (hk : cs.kind = .function)
    (hx : x.length ≤ 1000) (hS : Safe x) (ht : 1 ≤ s.toks)
    (ret : ∀ t h' tk', 1 ≤ tk' → Fr h₀ L h' m → News h₀ L h' news → Q (.str (esc x) t) { s with heap := h', toks := tk' }) :
    wpAny (model PySem.Challenge.rw_ty0056_02.prog w) (ktrTop 600 5000 gd cn cs L a ccd cl outer) (call (.ref 249) [.str x tx]) Q E s := by
  k_with_none
  w_top off
  k_with "execs cons" => (k_here; (with_reducible show wpAny _ _ _ _ _ (Shared.mk _ _ _ (_ + 1) _)); refine gentoks1 ?_; intro tk9q htk9q)
  k_with "execs nil" => (k_here; (with_reducible show wpAny _ _ _ _ _ (Shared.mk _ _ _ (_ + 1) _)); refine gentoks1 ?_; intro tk9q htk9q)
  k_with "my ifend" => (refine' if_end ?e ?h1 ?F ?N ?m ?r; (case F => k_asm); (case N => k_asm); (case m => exact rfl); (case h1 => omega); (case e => first | rfl | (refine' e_absent ?ec ?eh; (case eh => assumption); (case ec => decide +kernel)) | exact e_present (by decide +kernel)); (case r => intro z9q hz9q; first | rfl | exact if_neg hz9q | (simp [hz9q]; done)))
  k_with "my ifclose" => first | walk_at "my ifend" | (exfalso; first | (refine' no_found (i := 34) ?ec ?ei ?es ?eh; (case eh => assumption); (case ec => decide +kernel); (case ei => omega); (case es => assumption)) | (refine' no_found (i := 13) ?ec ?ei ?es ?eh; (case eh => assumption); (case ec => decide +kernel); (case ei => omega); (case es => assumption)) | (refine' no_found (i := 10) ?ec ?ei ?es ?eh; (case eh => assumption); (case ec => decide +kernel); (case ei => omega); (case es => assumption)) | (refine' no_found (i := 9) ?ec ?ei ?es ?eh; (case eh => assumption); (case ec => decide +kernel); (case ei => omega); (case es => assumption)))
  k_with "call builtin:str.replace" => (refine' SC.replaceW ?u ?v ?uv ?yz ?hx ?hz ?_; (case u => first | exact Nat.succ_ne_zero _ | exact Nat.ne_of_gt (by assumption)); (case v => exact Nat.succ_ne_zero _); (case uv => exact Nat.ne_of_lt (Nat.lt_succ_self _)); (case yz => decide +kernel); (case hx => omega); (case hz => decide +kernel); intro t9q k9q; (try dsimp only))
  k_with "exec If Compare" => (k_here; (fail_if_success (with_reducible show wpAny _ _ _ (IfPost _ _ _ _ _ _) _ _)); (refine' if_free (i := 9) ?c ?i ?F ?N ?m ?S ?h ?_; (case c => decide +kernel); (case i => omega); (case F => k_asm); (case N => k_asm); (case m => exact rfl); (case S => assumption); (case h => (k_steps; all_goals walk_at "my ifclose")); (intro t9q h9q tk9q htk9q F9q N9q; (try dsimp only); (try k_fold))))
  k_with "exec If Compare" => (k_here; (fail_if_success (with_reducible show wpAny _ _ _ (IfPost _ _ _ _ _ _) _ _)); (refine' if_free (i := 10) ?c ?i ?F ?N ?m ?S ?h ?_; (case c => decide +kernel); (case i => omega); (case F => k_asm); (case N => k_asm); (case m => exact rfl); (case S => assumption); (case h => (k_steps; all_goals walk_at "my ifclose")); (intro t9q h9q tk9q htk9q F9q N9q; (try dsimp only); (try k_fold))))
  k_with "exec If Compare" => (k_here; (fail_if_success (with_reducible show wpAny _ _ _ (IfPost _ _ _ _ _ _) _ _)); (refine' if_free (i := 13) ?c ?i ?F ?N ?m ?S ?h ?_; (case c => decide +kernel); (case i => omega); (case F => k_asm); (case N => k_asm); (case m => exact rfl); (case S => assumption); (case h => (k_steps; all_goals walk_at "my ifclose")); (intro t9q h9q tk9q htk9q F9q N9q; (try dsimp only); (try k_fold))))
  k_with "exec If Compare" => (k_here; (fail_if_success (with_reducible show wpAny _ _ _ (IfPost _ _ _ _ _ _) _ _)); (refine' if_free (i := 34) ?c ?i ?F ?N ?m ?S ?h ?_; (case c => decide +kernel); (case i => omega); (case F => k_asm); (case N => k_asm); (case m => exact rfl); (case S => assumption); (case h => (k_steps; all_goals walk_at "my ifclose")); (intro t9q h9q tk9q htk9q F9q N9q; (try dsimp only); (try k_fold))))
  k_with "exec If Compare" => (k_here; (fail_if_success (with_reducible show wpAny _ _ _ (IfPost _ _ _ _ _ _) _ _)); (refine' if_cut (i := 38) ?c ?F ?N ?m ?S ?b ?r ?n ?h ?_; (case c => decide +kernel); (case F => k_asm); (case N => k_asm); (case m => exact rfl); (case S => assumption); (case b => assumption); (case r => (intro c9q hc9q; revert c9q; decide +kernel)); (case n => decide +kernel); (case h => (k_steps; all_goals walk_at "my ifclose")); (intro t9q h9q tk9q htk9q hS9q hb9q F9q N9q; (try dsimp only); (try k_fold))))
  k_with "exec If Compare" => (k_here; (fail_if_success (with_reducible show wpAny _ _ _ (IfPost _ _ _ _ _ _) _ _)); (refine' if_cut (i := 60) ?c ?F ?N ?m ?S ?b ?r ?n ?h ?_; (case c => decide +kernel); (case F => k_asm); (case N => k_asm); (case m => exact rfl); (case S => assumption); (case b => assumption); (case r => (intro c9q hc9q; revert c9q; decide +kernel)); (case n => decide +kernel); (case h => (k_steps; all_goals walk_at "my ifclose")); (intro t9q h9q tk9q htk9q hS9q hb9q F9q N9q; (try dsimp only); (try k_fold))))
  k_with "exec If Compare" => (k_here; (fail_if_success (with_reducible show wpAny _ _ _ (IfPost _ _ _ _ _ _) _ _)); (refine' if_cut (i := 62) ?c ?F ?N ?m ?S ?b ?r ?n ?h ?_; (case c => decide +kernel); (case F => k_asm); (case N => k_asm); (case m => exact rfl); (case S => assumption); (case b => assumption); (case r => (intro c9q hc9q; revert c9q; decide +kernel)); (case n => decide +kernel); (case h => (k_steps; all_goals walk_at "my ifclose")); (intro t9q h9q tk9q htk9q hS9q hb9q F9q N9q; (try dsimp only); (try k_fold))))
  revert X; k_fill; intro X
  refine wpAny_call ?_
  k_dflt cell_enter
  k_steps
  exact ret _ _ _ (by assumption) (by assumption) (by assumption)
end Mine
end
section
open PySem PySem.W PyProof.Rows PySem.Calls
set_option maxRecDepth 100000
set_option maxHeartbeats 2000000
namespace Mine
structure RdS where
  k : Nat
  x : Str
  us : List Value
  n : Nat
  done : List (Str × Int)
  rest : List (Str × Int)
  tl : List (Addr × Obj)
  tt : Tok
structure AmS where
  k : Nat
  t : Str
  n : Int
  tt : Tok
  tn : Tok
theorem amp_stop {k : Nat} {sg t t' : Str} {n n' : Int} (h : ampS k sg t n = some (t', n')) (h1 : (sg == Str.ofString "&") = true → (Txt.slice t none (some 4) == Str.ofString "amp;") = false) : t = t' ∧ n = n' := by
  cases k with
  | zero => cases h
  | succ k =>
    unfold ampS at h
    split at h
    · rename_i e
      rw [if_neg (by rw [h1 e]; exact Bool.false_ne_true)] at h
      cases h; exact ⟨rfl, rfl⟩
    · cases h; exact ⟨rfl, rfl⟩
theorem fin_lt {sg t : Str} {n : Int} (h1 : (sg == Str.ofString "&") = true) (h2 : (Txt.slice t none (some 3) == Str.ofString "lt;") = true) : finS sg t n = (Str.ofString "<", Txt.slice t (some 3) none, n + 1) := by
  unfold finS; rw [if_pos h1, if_pos h2]
theorem fin_gt {sg t : Str} {n : Int} (h1 : (sg == Str.ofString "&") = true) (h2 : (Txt.slice t none (some 3) == Str.ofString "lt;") = false) (h3 : (Txt.slice t none (some 3) == Str.ofString "gt;") = true) : finS sg t n = (Str.ofString ">", Txt.slice t (some 3) none, n + 1) := by
  unfold finS; rw [if_pos h1, if_neg (by rw [h2]; exact Bool.false_ne_true), if_pos h3]
theorem fin_amp {sg t : Str} {n : Int} (h1 : (sg == Str.ofString "&") = true) (h2 : (Txt.slice t none (some 3) == Str.ofString "lt;") = false) (h3 : (Txt.slice t none (some 3) == Str.ofString "gt;") = false) : finS sg t n = (sg, t, n) := by
  unfold finS; rw [if_pos h1, if_neg (by rw [h2]; exact Bool.false_ne_true), if_neg (by rw [h3]; exact Bool.false_ne_true)]
theorem fin_no {sg t : Str} {n : Int} (h1 : (sg == Str.ofString "&") = false) : finS sg t n = (sg, t, n) := by
  unfold finS; rw [if_neg (by rw [h1]; exact Bool.false_ne_true)]
theorem rowDat_snoc {news : List (Addr × Obj)} {us : List Value} {r : List (Str × Int)} {v : Value} {p : Str × Int} (h : DatAll news us (rowDat r)) (hv : DatIn news v (.tuple [.str p.1, .int p.2])) : DatAll news (us ++ [v]) (rowDat (r ++ [p])) := by
  unfold rowDat
  rw [List.map_append]
  exact h.append (.one hv)
noncomputable abbrev RdLed (l : Addr) (news : List (Addr × Obj)) (c : RdS) : List (Addr × Obj) := (l, listOf c.us.toArray c.n) :: (news ++ c.tl)
noncomputable abbrev RdPs (l : Addr) (c : RdS) : List (Str × Value) := [(Str.ofString "text", .str c.x c.tt), (Str.ofString "row", .ref l)]
noncomputable abbrev RdFacts (l : Addr) (c : RdS) : Prop := c.x.length ≤ 1000 ∧ (∀ p ∈ c.tl, @LT.lt Nat _ l p.1) ∧ c.us.length + c.k ≤ 1000
noncomputable abbrev RdP (r : List (Str × Int)) (c : RdS) : Prop := readS c.k c.x = some c.rest ∧ r = c.done ++ c.rest ∧ DatAll c.tl c.us (rowDat c.done)
/-- a turn's end of the reader -/
theorem rd_end {g h : Heap} {L l D : Addr} {s : Shared} {m m₀ : Str → Option Value} {news : List (Addr × Obj)} {c : RdS} {r : List (Str × Int)} {k2 : Nat} {sg t : Str} {i : Int} {tt ts ti : Tok} {tk : Nat}
    (F : Fr g L h m) (N : News g L h ((D, ({ cls := .type "tuple", data := .seq #[.str sg ts, .int i ti] } : Obj)) :: (l, listOf (c.us.toArray.push (.ref D)) (c.n + 1)) :: (news ++ c.tl)))
    (hlD : @LT.lt Nat _ l D) (hoff : ∀ p ∈ c.tl, @LT.lt Nat _ l p.1) (hk2 : c.k = k2 + 1) (hus : c.us.length + c.k ≤ 1000) (hdone : r = c.done ++ c.rest) (hall : DatAll c.tl c.us (rowDat c.done))
    (hrd : (readS k2 t).map ((sg, i) :: ·) = some c.rest) (ht : t.length ≤ 1000)
    (hk1 : m (Str.ofString "text") = some (Value.str t tt)) (hk3 : m (Str.ofString "row") = some (.ref l))
    (hr : ∀ z, (∀ p ∈ [(Str.ofString "text", Value.str t tt), (Str.ofString "row", .ref l)], z ≠ p.1) → [Str.ofString "sign", Str.ofString "level"].contains z = false → m z = m₀ z) :
    KswEnd g L s (RdLed l news) (RdPs l) (RdFacts l) [Str.ofString "sign", Str.ofString "level"] m₀ (RdP r) (fun c => c.k) c { s with heap := h, toks := tk } := by
  rcases h2 : readS k2 t with _ | r2
  · rw [h2] at hrd; cases hrd
  rw [h2] at hrd
  have hc : c.rest = (sg, i) :: r2 := (Option.some.inj hrd).symm
  refine ksw_end (⟨k2, t, c.us ++ [.ref D], c.n + 1, c.done ++ [(sg, i)], r2, (D, { cls := .type "tuple", data := .seq #[.str sg ts, .int i ti] }) :: c.tl, tt⟩ : RdS) F N ?_ ⟨ht, ?_, ?_⟩ ?_ hr ⟨h2, ?_, ?_⟩ ?_
  · intro p hp
    rcases List.mem_cons.mp hp with rfl | hp
    · refine List.mem_cons_of_mem _ ?_
      have : (c.us ++ [Value.ref D]).toArray = c.us.toArray.push (.ref D) := by simp
      show (l, listOf (c.us ++ [Value.ref D]).toArray (c.n + 1)) ∈ _
      rw [this]; exact List.mem_cons_self
    · rcases List.mem_append.mp hp with hp | hp
      · exact List.mem_cons_of_mem _ (List.mem_cons_of_mem _ (List.mem_append_left _ hp))
      · rcases List.mem_cons.mp hp with rfl | hp
        · exact List.mem_cons_self
        · exact List.mem_cons_of_mem _ (List.mem_cons_of_mem _ (List.mem_append_right _ hp))
  · intro p hp
    rcases List.mem_cons.mp hp with rfl | hp
    · exact hlD
    · exact hoff p hp
  · show (c.us ++ [Value.ref D]).length + k2 ≤ 1000
    rw [List.length_append, List.length_singleton]; omega
  · exact List.forall_mem_cons.mpr ⟨hk1, List.forall_mem_cons.mpr ⟨hk3, fun _ h => nomatch h⟩⟩
  · show r = (c.done ++ [(sg, i)]) ++ r2
    rw [hdone, hc, List.append_assoc]; rfl
  · refine rowDat_snoc (hall.mono fun p hp => List.mem_cons_of_mem _ hp) ?_
    exact .tuple (vs := [.str sg ts, .int i ti]) (n := 0) List.mem_cons_self (.cons (.str _ _) (.cons (.int _ _) .nil))
  · show k2 < c.k; omega
theorem spec_read {w mean mg mb loose gd cn cs a ccd cl outer A₀ base h₀ L m news s Q E} (x : Str) (tx : Tok) (k : Nat) (r : List (Str × Int))
    (B : Below A₀ base outer h₀) (F : Fr h₀ L s.heap m) (X : (hd.heap_1 w.params).In h₀) (N : News h₀ L s.heap news) (T : Top hdView loose mean mg mb h₀) (hk : cs.kind = .function)
    (hx : x.length ≤ 1000) (hr : readS k x = some r) (hkk : k ≤ 1000)
    (ret : ∀ l us n tl h' tk', 1 ≤ tk' → Fr h₀ L h' m → News h₀ L h' ((l, listOf us.toArray n) :: (news ++ tl)) → (∀ p ∈ news, p.1 < l) → (∀ p ∈ tl, @LT.lt Nat _ l p.1) → DatAll tl us (rowDat r) → Q (.ref l) { s with heap := h', toks := tk' }) :
    wpAny (model PySem.Challenge.rw_ty0056_02.prog w) (ktrTop 500 4000 gd cn cs L a ccd cl outer) (call (.ref 270) [.str x tx]) Q E s := by
  k_with_none
  w_top off
  k_with "call builtin:list.append" => (k_here; (with_reducible show wpAny _ _ (call (Value.builtin _) [Value.ref _, _]) _ _ _); k_dflt (refine' append_K ?k1 ?k2 ?k3 ?_ ?z; (case k1 => k_asm); (case k2 => k_asm); (case k3 => (refine' Upd.tail ?q6 (Upd.head ?q7); (case q7 => assumption); (case q6 => exact Nat.ne_of_gt (by (try dsimp only); omega)))); (case z => assumption); k_whole); intro h'q F'q N'q; (try k_sweep))
  k_with "exec While BoolOp" => (k_here; refine Stop.mk ?_)
  revert X; k_fill; intro X
  refine wpAny_call ?_
  k_dflt cell_enter
  walk1; walk1; (try dsimp only); walk1; walk1; walk1; walk1;  walk1; (try dsimp only); 
  rename Addr => l
  rename ∀ p ∈ news, p.1 < l => hnl
  walk1; walk1
  refine' ksw_while (σ := RdS) (RdLed l news) (RdPs l) (RdFacts l) [Str.ofString "sign", Str.ofString "level"] (RdP r) (fun c => c.k) ⟨k, x, [], 0, [], r, [], tx⟩ ?F ?N ?hf ?hk ?hp ?turn ?hE
  case F => k_asm
  case N => (simp only [RdLed, List.append_nil]; k_asm)
  case hf => exact ⟨hx, (fun _ h => nomatch h), by dsimp only [List.length_nil]; omega⟩
  case hk => refine List.forall_mem_cons.mpr ⟨?_, List.forall_mem_cons.mpr ⟨?_, fun _ h => nomatch h⟩⟩ <;> (dsimp only; exact rfl)
  case hp => exact ⟨hr, rfl, .nil⟩
  case hE => passes_own
  case turn =>
    intro c u h tk hc hP F9 N9
    obtain ⟨hcx, hctl, hcus⟩ := hc
    have hoff9 : ∀ p ∈ news ++ c.tl, p.1 ≠ l := fun p hp => (List.mem_append.mp hp).elim (fun q => Nat.ne_of_lt (hnl p q)) (fun q => Nat.ne_of_gt (hctl p q))
    have hsz9 : c.us.toArray.size ≤ sizeLine := by rw [List.size_toArray, sizeLine_eq]; omega
    dsimp only [kstB] at F9
    k_steps
    · unfold Stop
      obtain ⟨hrd, hdone, hall⟩ := hP
      rcases hk2 : c.k with _ | k2
      · rw [hk2] at hrd; cases hrd
      rw [hk2] at hrd
      unfold readS at hrd
      rw [if_pos (by assumption)] at hrd
      rcases ha : ampS k2 (Txt.item c.x 0) (Txt.slice c.x (some 1) none) 0 with _ | ⟨tF, nF⟩
      · rw [ha] at hrd; cases hrd
      rw [ha] at hrd
      dsimp only at hrd
      refine' ksw_while (σ := AmS) (fun _ => (l, listOf c.us.toArray c.n) :: (news ++ c.tl)) (fun d => [(Str.ofString "text", .str d.t d.tt), (Str.ofString "level", .int d.n d.tn)]) (fun d => d.t.length ≤ 1000) []
        (fun d => ampS d.k (Txt.item c.x 0) d.t d.n = some (tF, nF) ∧ 0 ≤ d.n ∧ d.n + d.k ≤ 1000) (fun d => d.k) ⟨k2, Txt.slice c.x (some 1) none, 0, _, _⟩ ?F ?N ?hf ?hk ?hp ?turn ?hE
      case F => k_asm
      case N => k_asm
      case hf => dsimp only; omega
      case hk => refine List.forall_mem_cons.mpr ⟨?_, List.forall_mem_cons.mpr ⟨?_, fun _ h => nomatch h⟩⟩ <;> (dsimp only; exact rfl)
      case hp => exact ⟨ha, by dsimp only; omega, by dsimp only; omega⟩
      case hE => passes_own
      case turn =>
        intro d u2 h2 tk2 hd2 hP2 F8 N8
        obtain ⟨hamp, hd0, hdk⟩ := hP2
        dsimp only [kstB] at F8
        k_steps
        · rcases hk3 : d.k with _ | k3
          · rw [hk3] at hamp; cases hamp
          rw [hk3] at hamp
          unfold ampS at hamp
          rw [if_pos (by assumption), if_pos (by assumption)] at hamp
          refine' ksw_end (⟨k3, _, d.n + 1, _, _⟩ : AmS) ?q1 ?q2 ?q3 ?q4 ?q5 ?q6 ?q7 ?q8
          case q1 => assumption
          case q2 => assumption
          case q3 => exact fun p hp => hp
          case q5 => refine List.forall_mem_cons.mpr ⟨?_, List.forall_mem_cons.mpr ⟨?_, fun _ h => nomatch h⟩⟩ <;> (dsimp only; exact rfl)
          case q4 => dsimp only; omega
          case q6 => dsimp only; ksw_same
          case q7 => exact ⟨hamp, by dsimp only; omega, by dsimp only; omega⟩
          case q8 => dsimp only; omega
        · have e := amp_stop hamp (fun _ => by assumption)
          rw [← e.1, ← e.2, fin_lt (by assumption) (by assumption)] at hrd
          refine' rd_end (by assumption) (by assumption) (by omega) hctl hk2 hcus hdone hall hrd ?q1 ?q2 ?q3 ?q4
          case q1 => (try dsimp only); omega
          case q2 => exact rfl
          case q3 => exact rfl
          case q4 => (try dsimp only); ksw_same
        · have e := amp_stop hamp (fun _ => by assumption)
          rw [← e.1, ← e.2, fin_gt (by assumption) (by assumption) (by assumption)] at hrd
          refine' rd_end (by assumption) (by assumption) (by omega) hctl hk2 hcus hdone hall hrd ?q1 ?q2 ?q3 ?q4
          case q1 => (try dsimp only); omega
          case q2 => exact rfl
          case q3 => exact rfl
          case q4 => (try dsimp only); ksw_same
        · have e := amp_stop hamp (fun _ => by assumption)
          rw [← e.1, ← e.2, fin_amp (by assumption) (by assumption) (by assumption)] at hrd
          refine' rd_end (by assumption) (by assumption) (by omega) hctl hk2 hcus hdone hall hrd ?q1 ?q2 ?q3 ?q4
          case q1 => (try dsimp only); omega
          case q2 => exact rfl
          case q3 => exact rfl
          case q4 => (try dsimp only); ksw_same
        · have e := amp_stop hamp (fun h => absurd h (by simp only [*]; decide))
          rw [← e.1, ← e.2, fin_no (by assumption)] at hrd
          refine' rd_end (by assumption) (by assumption) (by omega) hctl hk2 hcus hdone hall hrd ?q1 ?q2 ?q3 ?q4
          case q1 => (try dsimp only); omega
          case q2 => exact rfl
          case q3 => exact rfl
          case q4 => (try dsimp only); ksw_same
    · obtain ⟨hrd, hdone, hall⟩ := hP
      have hnil : c.rest = [] := by
        rcases hk2 : c.k with _ | k2
        · rw [hk2] at hrd; cases hrd
        rw [hk2] at hrd
        unfold readS at hrd
        rw [if_neg (by simp only [*]; decide)] at hrd
        exact (Option.some.inj hrd).symm
      rw [hnil, List.append_nil] at hdone
      exact ret l c.us c.n c.tl _ _ (Nat.succ_le_succ (Nat.zero_le _)) (by assumption) (by assumption) hnl hctl (hdone ▸ hall)
end Mine
end
section
open PySem PySem.W PyProof.Rows PySem.Calls
set_option maxRecDepth 100000
set_option maxHeartbeats 4000000
namespace Mine
noncomputable abbrev f3 (a b c : UInt64) (t1 t2 t3 : Tok) (n : Nat) : Obj := { cls := .type "tuple", data := .seq #[.float a t1, .float b t2, .float c t3] n }
theorem spec_v {w mean mg mb loose gd cn cs a ccd cl outer A₀ base h₀ L m news s Q E} (x y z : UInt64) (tx ty tz : Tok)
    (B : Below A₀ base outer h₀) (F : Fr h₀ L s.heap m) (X : (hd.heap_1 w.params).In h₀) (N : News h₀ L s.heap news) (T : Top hdView loose mean mg mb h₀) (hk : cs.kind = .function)
    (ret : ∀ t h' tk', Fr h₀ L h' m → News h₀ L h' news → Q (.float (vF x y z) t) { s with heap := h', toks := tk' }) :
    wpAny (model PySem.Challenge.rw_ty0056_02.prog w) (ktrTop 600 5000 gd cn cs L a ccd cl outer) (call (.ref 59) [.float x tx, .float y ty, .float z tz]) Q E s := by
  k_with_none
  w_top off
  k_with "call builtin:max" => (k_here; (with_reducible show wpAny _ _ (call _ [Value.float _ _, Value.float _ _, Value.float _ _]) _ _ _); (rename News _ _ _ _ => N9q); (rename Fr _ _ _ _ => F9q); k_dflt (refine max_three_f rfl F9q N9q ?_); intro h9q tk9q t9q F9q N9q; (try dsimp only))
  k_with "call builtin:min" => (k_here; (with_reducible show wpAny _ _ (call _ [Value.float _ _, Value.float _ _, Value.float _ _]) _ _ _); (rename News _ _ _ _ => N9q); (rename Fr _ _ _ _ => F9q); k_dflt (refine min_three_f rfl F9q N9q ?_); intro h9q tk9q t9q F9q N9q; (try dsimp only))
  revert X; k_fill; intro X
  refine wpAny_call ?_
  k_dflt cell_enter
  k_steps
  all_goals (simp only [vF, *, if_true, if_false, Bool.false_eq_true] at ret; exact ret _ _ _ (by assumption) (by assumption))
theorem spec_hls_to_rgb {w mean mg mb loose gd cn cs a ccd cl outer A₀ base h₀ L m news s Q E} (x y z : UInt64) (tx ty tz : Tok) (r1 r2 r3 : UInt64)
    (B : Below A₀ base outer h₀) (F : Fr h₀ L s.heap m) (X : (hd.heap_1 w.params).In h₀) (N : News h₀ L s.heap news) (T : Top hdView loose mean mg mb h₀) (hk : cs.kind = .function)
    (hf : hlsRgbF x y z = (r1, r2, r3))
    (ret : ∀ D t1 t2 t3 h' tk', Fr h₀ L h' m → News h₀ L h' ((D, f3 r1 r2 r3 t1 t2 t3 0) :: news) → (∀ p ∈ news, p.1 < D) → Q (.ref D) { s with heap := h', toks := tk' }) :
    wpAny (model PySem.Challenge.rw_ty0056_02.prog w) (ktrTop 550 4500 gd cn cs L a ccd cl outer) (call (.ref 52) [.float x tx, .float y ty, .float z tz]) Q E s := by
  k_with_none
  w_top off
  k_with "call builtin:max" => (k_here; (with_reducible show wpAny _ _ (call _ [Value.float _ _, Value.float _ _, Value.float _ _]) _ _ _); (rename News _ _ _ _ => N9q); (rename Fr _ _ _ _ => F9q); k_dflt (refine max_three_f rfl F9q N9q ?_); intro h9q tk9q t9q F9q N9q; (try dsimp only))
  k_with "call builtin:min" => (k_here; (with_reducible show wpAny _ _ (call _ [Value.float _ _, Value.float _ _, Value.float _ _]) _ _ _); (rename News _ _ _ _ => N9q); (rename Fr _ _ _ _ => F9q); k_dflt (refine min_three_f rfl F9q N9q ?_); intro h9q tk9q t9q F9q N9q; (try dsimp only))
  k_with "call ref" => (k_here; (with_reducible show wpAny _ _ (call (Value.ref 59) _) _ _ _); k_dflt (refine' room ?d1 ?d2 (spec_v _ _ _ _ _ _ ?k1 ?k2 ?k3 ?k4 ?k5 ?k6 ?_); (case d1 => exact Nat.le_of_ble_eq_true rfl); (case d2 => exact Nat.le_of_ble_eq_true rfl); (case k1 => k_asm); (case k2 => k_asm); (case k3 => k_asm); (case k4 => k_asm); (case k5 => k_asm); (case k6 => first | exact rfl | assumption)); intro t9q h9q tk9q F9q N9q; (try dsimp only); (try k_fold))
  revert X; k_fill; intro X
  refine wpAny_call ?_
  k_dflt cell_enter
  k_steps
  all_goals try (simp only [hlsRgbF, *, if_true, if_false, Bool.false_eq_true, Option.some.injEq, Prod.mk.injEq, reduceCtorEq] at hf; obtain ⟨rfl, rfl, rfl⟩ := hf; exact ret _ _ _ _ _ _ (by assumption) (by assumption) (by assumption))
  all_goals (exfalso; simp only [hlsRgbF, *, if_true, if_false, Bool.false_eq_true, Option.some.injEq, Prod.mk.injEq, reduceCtorEq] at hf; first | done | (split at hf <;> simp at hf; done))
theorem spec_rgb_to_hls {w mean mg mb loose gd cn cs a ccd cl outer A₀ base h₀ L m news s Q E} (x y z : UInt64) (tx ty tz : Tok) (r1 r2 r3 : UInt64)
    (B : Below A₀ base outer h₀) (F : Fr h₀ L s.heap m) (X : (hd.heap_1 w.params).In h₀) (N : News h₀ L s.heap news) (T : Top hdView loose mean mg mb h₀) (hk : cs.kind = .function)
    (hf : rgbHlsF x y z = some (r1, r2, r3))
    (ret : ∀ D t1 t2 t3 h' tk', Fr h₀ L h' m → News h₀ L h' ((D, f3 r1 r2 r3 t1 t2 t3 0) :: news) → (∀ p ∈ news, p.1 < D) → Q (.ref D) { s with heap := h', toks := tk' }) :
    wpAny (model PySem.Challenge.rw_ty0056_02.prog w) (ktrTop 550 4500 gd cn cs L a ccd cl outer) (call (.ref 45) [.float x tx, .float y ty, .float z tz]) Q E s := by
  k_with_none
  w_top off
  k_with "call builtin:max" => (k_here; (with_reducible show wpAny _ _ (call _ [Value.float _ _, Value.float _ _, Value.float _ _]) _ _ _); (rename News _ _ _ _ => N9q); (rename Fr _ _ _ _ => F9q); k_dflt (refine max_three_f rfl F9q N9q ?_); intro h9q tk9q t9q F9q N9q; (try dsimp only))
  k_with "call builtin:min" => (k_here; (with_reducible show wpAny _ _ (call _ [Value.float _ _, Value.float _ _, Value.float _ _]) _ _ _); (rename News _ _ _ _ => N9q); (rename Fr _ _ _ _ => F9q); k_dflt (refine min_three_f rfl F9q N9q ?_); intro h9q tk9q t9q F9q N9q; (try dsimp only))
  k_with "call ref" => (k_here; (with_reducible show wpAny _ _ (call (Value.ref 59) _) _ _ _); k_dflt (refine' room ?d1 ?d2 (spec_v _ _ _ _ _ _ ?k1 ?k2 ?k3 ?k4 ?k5 ?k6 ?_); (case d1 => exact Nat.le_of_ble_eq_true rfl); (case d2 => exact Nat.le_of_ble_eq_true rfl); (case k1 => k_asm); (case k2 => k_asm); (case k3 => k_asm); (case k4 => k_asm); (case k5 => k_asm); (case k6 => first | exact rfl | assumption)); intro t9q h9q tk9q F9q N9q; (try dsimp only); (try k_fold))
  revert X; k_fill; intro X
  refine wpAny_call ?_
  k_dflt cell_enter
  k_steps
  all_goals try (simp only [rgbHlsF, hueOf, *, if_true, if_false, Bool.false_eq_true, Option.some.injEq, Prod.mk.injEq, reduceCtorEq] at hf; obtain ⟨rfl, rfl, rfl⟩ := hf; exact ret _ _ _ _ _ _ (by assumption) (by assumption) (by assumption))
  all_goals (exfalso; simp only [rgbHlsF, hueOf, *, if_true, if_false, Bool.false_eq_true, Option.some.injEq, Prod.mk.injEq, reduceCtorEq] at hf; first | done | (split at hf <;> simp at hf; done))
theorem spec_rgb_to_hsv {w mean mg mb loose gd cn cs a ccd cl outer A₀ base h₀ L m news s Q E} (x y z : UInt64) (tx ty tz : Tok) (r1 r2 r3 : UInt64)
    (B : Below A₀ base outer h₀) (F : Fr h₀ L s.heap m) (X : (hd.heap_1 w.params).In h₀) (N : News h₀ L s.heap news) (T : Top hdView loose mean mg mb h₀) (hk : cs.kind = .function)
    (hf : rgbHsvF x y z = some (r1, r2, r3))
    (ret : ∀ D t1 t2 t3 h' tk', Fr h₀ L h' m → News h₀ L h' ((D, f3 r1 r2 r3 t1 t2 t3 0) :: news) → (∀ p ∈ news, p.1 < D) → Q (.ref D) { s with heap := h', toks := tk' }) :
    wpAny (model PySem.Challenge.rw_ty0056_02.prog w) (ktrTop 550 4500 gd cn cs L a ccd cl outer) (call (.ref 66) [.float x tx, .float y ty, .float z tz]) Q E s := by
  k_with_none
  w_top off
  k_with "call builtin:max" => (k_here; (with_reducible show wpAny _ _ (call _ [Value.float _ _, Value.float _ _, Value.float _ _]) _ _ _); (rename News _ _ _ _ => N9q); (rename Fr _ _ _ _ => F9q); k_dflt (refine max_three_f rfl F9q N9q ?_); intro h9q tk9q t9q F9q N9q; (try dsimp only))
  k_with "call builtin:min" => (k_here; (with_reducible show wpAny _ _ (call _ [Value.float _ _, Value.float _ _, Value.float _ _]) _ _ _); (rename News _ _ _ _ => N9q); (rename Fr _ _ _ _ => F9q); k_dflt (refine min_three_f rfl F9q N9q ?_); intro h9q tk9q t9q F9q N9q; (try dsimp only))
  k_with "call ref" => (k_here; (with_reducible show wpAny _ _ (call (Value.ref 59) _) _ _ _); k_dflt (refine' room ?d1 ?d2 (spec_v _ _ _ _ _ _ ?k1 ?k2 ?k3 ?k4 ?k5 ?k6 ?_); (case d1 => exact Nat.le_of_ble_eq_true rfl); (case d2 => exact Nat.le_of_ble_eq_true rfl); (case k1 => k_asm); (case k2 => k_asm); (case k3 => k_asm); (case k4 => k_asm); (case k5 => k_asm); (case k6 => first | exact rfl | assumption)); intro t9q h9q tk9q F9q N9q; (try dsimp only); (try k_fold))
  revert X; k_fill; intro X
  refine wpAny_call ?_
  k_dflt cell_enter
  k_steps
  all_goals try (simp only [rgbHsvF, hueOf, *, if_true, if_false, Bool.false_eq_true, Option.some.injEq, Prod.mk.injEq, reduceCtorEq] at hf; obtain ⟨rfl, rfl, rfl⟩ := hf; exact ret _ _ _ _ _ _ (by assumption) (by assumption) (by assumption))
  all_goals (exfalso; simp only [rgbHsvF, hueOf, *, if_true, if_false, Bool.false_eq_true, Option.some.injEq, Prod.mk.injEq, reduceCtorEq] at hf; first | done | (split at hf <;> simp at hf; done))
end Mine
end
section
open PySem PySem.W PyProof.Rows PySem.Calls
set_option maxRecDepth 100000
set_option linter.unusedSimpArgs false
set_option maxHeartbeats 4000000
namespace Mine
theorem spec_hsv_to_rgb {w mean mg mb loose gd cn cs a ccd cl outer A₀ base h₀ L m news s Q E} (x y z : UInt64) (tx ty tz : Tok) (r1 r2 r3 : UInt64)
    (B : Below A₀ base outer h₀) (F : Fr h₀ L s.heap m) (X : (hd.heap_1 w.params).In h₀) (N : News h₀ L s.heap news) (T : Top hdView loose mean mg mb h₀) (hk : cs.kind = .function)
    (hok : hsvOk x = true) (hf : hsvRgbF x y z = (r1, r2, r3))
    (ret : ∀ D t1 t2 t3 h' tk', Fr h₀ L h' m → News h₀ L h' ((D, f3 r1 r2 r3 t1 t2 t3 0) :: news) → (∀ p ∈ news, p.1 < D) → Q (.ref D) { s with heap := h', toks := tk' }) :
    wpAny (model PySem.Challenge.rw_ty0056_02.prog w) (ktrTop 550 4500 gd cn cs L a ccd cl outer) (call (.ref 73) [.float x tx, .float y ty, .float z tz]) Q E s := by
  k_with_none
  w_top off
  revert X; k_fill; intro X
  unfold hsvOk at hok
  rw [Bool.and_eq_true, Bool.and_eq_true, Bool.not_eq_true', Bool.not_eq_true', decide_eq_true_eq] at hok
  obtain ⟨⟨hnan, hinf⟩, hsm⟩ := hok
  refine wpAny_call ?_
  k_dflt cell_enter
  k_steps
  all_goals try (exfalso; first | exact big_no (by assumption) (by assumption) | (simp only [*, Bool.false_eq_true] at *; done) | exact fmod6 _ (by assumption) (by assumption) (by assumption) (by assumption) (by assumption) (by assumption))
  all_goals (simp only [hsvRgbF, *, if_true, if_false, Bool.false_eq_true, Prod.mk.injEq, reduceCtorEq, ne_eq, Int.reduceEq] at hf; obtain ⟨rfl, rfl, rfl⟩ := hf; exact ret _ _ _ _ _ _ (by assumption) (by assumption) (by assumption))
end Mine
end
section
open PySem PySem.W PyProof.Rows PySem.Calls
set_option maxRecDepth 100000
set_option maxHeartbeats 4000000
namespace Mine
theorem spec_conv {w mean mg mb loose gd cn cs a ccd cl outer A₀ base h₀ L m news s Q E} (x : Addr) (y : Str) (ty : Tok) (b : Bool)
    (B : Below A₀ base outer h₀) (F : Fr h₀ L s.heap m) (X : (hd.heap_1 w.params).In h₀) (N : News h₀ L s.heap news) (T : Top hdView loose mean mg mb h₀) (hk : cs.kind = .function)
    (hy : y.length ≤ 1000) (hok : OkT y)
    (ret : ∀ h' tk', Fr h₀ L h' m → News h₀ L h' news → Q (.str y ty) { s with heap := h', toks := tk' }) :
    wpAny (model PySem.Challenge.rw_ty0056_02.prog w) (ktrTop 450 3500 gd cn cs L a ccd cl outer) (call (.ref 118) [.ref x, .str y ty] [(Str.ofString "name", .bool b)]) Q E s := by
  k_with_none
  w_top off
  k_with "getMethod ref" => (k_here; (with_reducible show wpAny _ _ (getMethod (Value.ref _) (Str.ofString "search") _) _ _ _); k_dflt (refine' getMethod_search ?gh ?gc ?gd ?_; (case gh => exact (Frag.In.keeps (by k_asm) (Fr.keep (by k_asm))) _ _ (by k_is)); (case gc => exact rfl); (case gd => exact rfl)))
  k_with "call builtin:re.Pattern.search" => (k_here; k_dflt (refine' call_search (code := nameCode) ?g1 ?g2 ?g3 ?g4 ?g5 ?g6 ?g7 ?g8 ?g9 name_shuts name_two name_info ?g13 ?g14 ?_; (case g1 => exact (Frag.In.keeps (by k_asm) (Fr.keep (by k_asm))) _ _ (by k_is)); (case g2 => exact rfl); (case g3 => exact rfl); (case g4 => exact rfl); (case g5 => exact rfl); (case g6 => exact rfl); (case g7 => exact (Frag.In.keeps (by k_asm) (Fr.keep (by k_asm))) _ _ (by k_is)); (case g8 => exact rfl); (case g9 => decide +kernel); (case g13 => assumption); (case g14 => assumption)))
  k_with "call builtin:re.Pattern.search" => (k_here; k_dflt (refine' call_search (code := valCode) ?g1 ?g2 ?g3 ?g4 ?g5 ?g6 ?g7 ?g8 ?g9 val_shuts val_two val_info ?g13 ?g14 ?_; (case g1 => exact (Frag.In.keeps (by k_asm) (Fr.keep (by k_asm))) _ _ (by k_is)); (case g2 => exact rfl); (case g3 => exact rfl); (case g4 => exact rfl); (case g5 => exact rfl); (case g6 => exact rfl); (case g7 => exact (Frag.In.keeps (by k_asm) (Fr.keep (by k_asm))) _ _ (by k_is)); (case g8 => exact rfl); (case g9 => decide +kernel); (case g13 => assumption); (case g14 => assumption)))
  revert X; k_fill; intro X
  rcases cs with ⟨ck, c2, c3, c4, c5⟩
  obtain rfl : ck = .function := hk
  refine wpAny_call ?_
  k_dflt k_enter
  k_steps
  all_goals exact ret _ _ (by assumption) (by assumption)
end Mine
end
section
open PySem PySem.W PyProof.Rows PySem.Calls
set_option maxRecDepth 100000
set_option maxHeartbeats 4000000
namespace Mine
noncomputable abbrev hdDict (w : World) (hl : Addr) (t : Tok) (n : Nat) : Obj := dictOf [⟨PyData.keyHash w.params (Str.ofString "_headers"), .str (Str.ofString "_headers") t, .ref hl⟩] n
noncomputable def hdDat (r : List (Str × Str)) : List Dat := r.map fun p => .tuple [.str p.1, .str p.2]
theorem hd_get {news : List (Addr × Obj)} {us : List Value} {rows : List (Str × Str)} {i : Nat} {v : Value} (h : DatAll news us (hdDat rows)) (hv : us.toArray[i]? = some v) :
    ∃ hi : i < rows.length, ∃ a t u n, v = .ref a ∧ (a, ({ cls := .type "tuple", data := .seq #[.str rows[i].1 t, .str rows[i].2 u] n } : Obj)) ∈ news := by
  have hl : us.length = rows.length := by rw [h.length]; simp [hdDat]
  have hi : i < us.length := by
    rcases Nat.lt_or_ge i us.length with q | q
    · exact q
    · simp [q] at hv
  have hi' : i < (hdDat rows).length := by simpa [hdDat, ← hl] using hi
  obtain ⟨v', hv', hD⟩ := h.get hi'
  have : v' = v := by
    have e : us[i]? = some v := by simpa using hv
    rw [e] at hv'; exact (Option.some.inj hv').symm
  subst this
  have e2 : (hdDat rows)[i]'hi' = .tuple [.str (rows[i]'(hl ▸ hi)).1, .str (rows[i]'(hl ▸ hi)).2] := by simp [hdDat]
  rw [e2] at hD
  cases hD with
  | tuple hm hr =>
    cases hr with
    | cons h1 hr =>
      cases h1
      cases hr with
      | cons h2 hr =>
        cases h2
        cases hr
        exact ⟨hl ▸ hi, _, _, _, _, rfl, hm⟩
theorem fil_yes {α β : Type} {l : List α} {p : α → Bool} {f : α → β} {i : Nat} (hi : i < l.length) (h : p l[i] = true) : ((l.take (i + 1)).filter p).map f = ((l.take i).filter p).map f ++ [f l[i]] := by
  rw [List.take_succ_eq_append_getElem hi, List.filter_append, List.map_append, List.filter_cons_of_pos h]; rfl
theorem fil_no {α β : Type} {l : List α} {p : α → Bool} {f : α → β} {i : Nat} (hi : i < l.length) (h : p l[i] = false) : ((l.take (i + 1)).filter p).map f = ((l.take i).filter p).map f := by
  rw [List.take_succ_eq_append_getElem hi, List.filter_append, List.map_append, List.filter_cons_of_neg (by rw [h]; exact Bool.false_ne_true)]; simp
/-- what get_all tells -/
noncomputable def getAll (rows : List (Str × Str)) (y : Str) : List Str := (rows.filter fun p => Txt.lower p.1 == Txt.lower y).map (·.2)
theorem spec_get_all {w mean mg mb loose gd cn cs a ccd cl outer A₀ base h₀ L m news s Q E} (x dx hl : Addr) (td : Tok) (nd c : Nat) (us : List Value) (rows : List (Str × Str)) (y : Str) (ty : Tok)
    (B : Below A₀ base outer h₀) (F : Fr h₀ L s.heap m) (X : (hd.heap_1 w.params).In h₀) (N : News h₀ L s.heap ((x, instObj 217 dx) :: (dx, hdDict w hl td nd) :: (hl, listOf us.toArray c) :: news)) (T : Top hdView loose mean mg mb h₀) (hk : cs.kind = .function)
    (hu : DatAll news us (hdDat rows)) (hy : y.length ≤ 300) (hok : OkT (Txt.lower y)) (hrow : ∀ p ∈ rows, p.1.length ≤ 300) (hlen : rows.length ≤ 1000)
    (ret : ∀ D ys h' tk', Fr h₀ L h' m → News h₀ L h' ((D, listOf ys.toArray ys.length) :: (x, instObj 217 dx) :: (dx, hdDict w hl td nd) :: (hl, listOf us.toArray c) :: news) → (∀ p ∈ (x, instObj 217 dx) :: (dx, hdDict w hl td nd) :: (hl, listOf us.toArray c) :: news, p.1 ≠ D) → DatAll [] ys ((getAll rows y).map Dat.str) → Q (.ref D) { s with heap := h', toks := tk' }) :
    wpAny (model PySem.Challenge.rw_ty0056_02.prog w) (ktrTop 400 3000 gd cn cs L a ccd cl outer) (call (.ref 156) [.ref x, .str y ty]) Q E s := by
  k_with_none
  w_top off
  k_with "k_all" => (refine' allLt_ne ?ah ?ad; (case ah => first | assumption | exact And.right (by assumption) | exact And.right (And.right (by assumption)) | exact And.right (And.right (And.right (by assumption))) | exact And.right (And.right (And.right (And.right (by assumption)))) | exact And.right (And.right (And.right (And.right (And.right (by assumption))))) | exact And.right (And.right (And.right (And.right (And.right (And.right (by assumption))))))); (case ad => first | exact Nat.le_refl _ | omega))
  k_with "k_all" => assumption
  k_with "k_mem" => assumption
  k_with "call ref" => (k_here; (with_reducible show wpAny _ _ (call (Value.ref 118) _ _) _ _ _); k_dflt (refine' room ?d1 ?d2 (spec_conv _ _ _ _ ?k1 ?k2 ?k3 ?k4 ?k5 ?k6 ?k7 ?k8 ?_); (case d1 => exact Nat.le_of_ble_eq_true rfl); (case d2 => exact Nat.le_of_ble_eq_true rfl); (case k1 => k_asm); (case k2 => k_asm); (case k3 => k_asm); (case k4 => k_asm); (case k5 => k_asm); (case k6 => first | exact rfl | assumption); (case k7 => omega); (case k8 => assumption)); intro h9q tk9q F9q N9q; (try dsimp only); (try k_fold))
  k_with "eval ListComp" => (k_here; k_dflt (refine LCt.ListComp_T (F₀ := by k_asm) (by with_unfolding_all rfl) (by decide) (by rfl) (by decide) (by rfl) ?_))
  revert X; k_fill; intro X
  rcases cs with ⟨ck, c2, c3, c4, c5⟩
  obtain rfl : ck = .function := hk
  have hul : us.length = rows.length := by rw [hu.length]; simp [hdDat]
  refine wpAny_call ?_
  k_dflt k_enter
  k_steps
  refine' LCt.CompSrcT.ledger (by rfl) (by k_asm) (by k_asm) (by k_mem) ?hsz (fun g => comp_ind_T rows.length (fun i ys nw => nw = _ ∧ DatAll [] ys (((rows.take i).filter fun p => Txt.lower p.1 == Txt.lower y).map fun p => Dat.str p.2)) ?turn ?fin _ 0 [] _ ?e ⟨rfl, ?z⟩)
  case hsz => rw [List.size_toArray, sizeLine_eq]; omega
  case e => rw [List.size_toArray]; omega
  case z => exact .nil
  case fin =>
    rintro ys nw ⟨rfl, hys⟩ D h9 tk9 F9 N9 off9
    rw [List.take_length] at hys
    (try dsimp only)
    k_steps
    refine ret D ys _ _ (by assumption) (news_sub (by assumption) fun p hp => ?_) (fun p hp => off1_ne off9 p (List.mem_cons_of_mem _ hp)) ?_
    · rcases List.mem_cons.mp hp with rfl | hp
      · exact List.mem_cons_self
      · exact List.mem_cons_of_mem _ (List.mem_cons_of_mem _ hp)
    · unfold getAll; rw [List.map_map]; exact hys
  case turn =>
    intro i ys nw v I oI C oC D m₂ h tk E' hi hJ hP hN hm F N off hne
    obtain ⟨hnw, hys⟩ := hJ
    subst hnw
    obtain ⟨hi2, a9, t9, u9, n9, rfl, hmem⟩ := hd_get hu hP
    have hrl := hrow _ (List.getElem_mem hi2)
    k_steps
    · refine LCg.CompEnd.intro (by assumption) (by assumption) _ (fun p hp => hp) off (.inr ⟨_, by k_mem, rfl, _, rfl⟩) ⟨rfl, ?_⟩
      rw [fil_yes hi2 (by assumption)]
      exact hys.append (.one (.str _ _))
    · refine LCg.CompEnd.intro (by assumption) (by assumption) _ (fun p hp => hp) off (.inr ⟨_, by k_mem, rfl, _, rfl⟩) ⟨rfl, ?_⟩
      rw [fil_no hi2 (by assumption)]
      exact hys
end Mine
end
section
open PySem PySem.W PyProof.Rows PySem.Calls
set_option maxRecDepth 100000
set_option maxHeartbeats 4000000
namespace Mine
theorem map_two (m : Str → Option Value) (a b : Str) : m = fun z => if z = b then m b else if z = a then m a else m z := by
  funext z
  by_cases h : z = b
  · subst h; simp
  · by_cases h2 : z = a
    · subst h2; simp [h]
    · simp [h, h2]
/-- what get tells -/
noncomputable def getFirst (rows : List (Str × Str)) (y : Str) : Option Str := (rows.find? fun p => Txt.lower p.1 == Txt.lower y).map (·.2)
theorem first_at {y : Str} : ∀ {rows : List (Str × Str)} {i : Nat} (hi : i < rows.length), (∀ p ∈ rows.take i, (Txt.lower p.1 == Txt.lower y) = false) → (Txt.lower rows[i].1 == Txt.lower y) = true → getFirst rows y = some rows[i].2
  | p :: r, 0, hi, hn, hy => by
    unfold getFirst
    rw [List.find?_cons_of_pos (by exact hy)]; rfl
  | p :: r, i + 1, hi, hn, hy => by
    have h1 := hn p (by simp)
    have ih := first_at (rows := r) (i := i) (Nat.lt_of_succ_lt_succ hi) (fun q hq => hn q (by simp [hq])) hy
    unfold getFirst at ih ⊢
    rw [List.find?_cons_of_neg (by rw [h1]; exact Bool.false_ne_true)]
    exact ih
theorem first_none {y : Str} {rows : List (Str × Str)} (hn : ∀ p ∈ rows, (Txt.lower p.1 == Txt.lower y) = false) : getFirst rows y = none := by
  unfold getFirst
  rw [List.find?_eq_none.mpr fun p hp => by rw [hn p hp]; exact Bool.false_ne_true]; rfl
noncomputable def TwoJ (LED : List (Addr × Obj)) (m0 : Str → Option Value) (a b : Str) (P : Nat → Prop) (i : Nat) (m₁ : Str → Option Value) (nw : List (Addr × Obj)) : Prop :=
  nw = LED ∧ (∃ u1 u2, m₁ = fun z => if z = b then u1 else if z = a then u2 else m0 z) ∧ P i
theorem two_same {m0 m' : Str → Option Value} {a b : Str} (h : ∀ z, z ≠ b → z ≠ a → m' z = m0 z) : ∃ u1 u2, m' = fun z => if z = b then u1 else if z = a then u2 else m0 z := by
  refine ⟨m' b, m' a, ?_⟩
  funext z
  by_cases h1 : z = b
  · subst h1; simp
  · by_cases h2 : z = a
    · subst h2; simp [h1]
    · simp [h1, h2, h z h1 h2]
theorem spec_get {w mean mg mb loose gd cn cs a ccd cl outer A₀ base h₀ L m news s Q E} (x dx hl : Addr) (td : Tok) (nd c : Nat) (us : List Value) (rows : List (Str × Str)) (y : Str) (ty : Tok) (res : Str)
    (B : Below A₀ base outer h₀) (F : Fr h₀ L s.heap m) (X : (hd.heap_1 w.params).In h₀) (N : News h₀ L s.heap ((x, instObj 217 dx) :: (dx, hdDict w hl td nd) :: (hl, listOf us.toArray c) :: news)) (T : Top hdView loose mean mg mb h₀) (hk : cs.kind = .function)
    (hu : DatAll news us (hdDat rows)) (hy : y.length ≤ 300) (hok : OkT (Txt.lower y)) (hrow : ∀ p ∈ rows, p.1.length ≤ 300) (hres : getFirst rows y = some res)
    (ret : ∀ t h' tk', Fr h₀ L h' m → News h₀ L h' ((x, instObj 217 dx) :: (dx, hdDict w hl td nd) :: (hl, listOf us.toArray c) :: news) → Q (.str res t) { s with heap := h', toks := tk' }) :
    wpAny (model PySem.Challenge.rw_ty0056_02.prog w) (ktrTop 400 3000 gd cn cs L a ccd cl outer) (call (.ref 164) [.ref x, .str y ty]) Q E s := by
  k_with_none
  w_top off
  k_with "k_all" => (refine' allLt_ne ?ah ?ad; (case ah => first | assumption | exact And.right (by assumption) | exact And.right (And.right (by assumption)) | exact And.right (And.right (And.right (by assumption))) | exact And.right (And.right (And.right (And.right (by assumption)))) | exact And.right (And.right (And.right (And.right (And.right (by assumption))))) | exact And.right (And.right (And.right (And.right (And.right (And.right (by assumption))))))); (case ad => first | exact Nat.le_refl _ | omega))
  k_with "k_all" => assumption
  k_with "k_mem" => assumption
  k_with "call ref" => (k_here; (with_reducible show wpAny _ _ (call (Value.ref 118) _ _) _ _ _); k_dflt (refine' room ?d1 ?d2 (spec_conv _ _ _ _ ?k1 ?k2 ?k3 ?k4 ?k5 ?k6 ?k7 ?k8 ?_); (case d1 => exact Nat.le_of_ble_eq_true rfl); (case d2 => exact Nat.le_of_ble_eq_true rfl); (case k1 => k_asm); (case k2 => k_asm); (case k3 => k_asm); (case k4 => k_asm); (case k5 => k_asm); (case k6 => first | exact rfl | assumption); (case k7 => omega); (case k8 => assumption)); intro h9q tk9q F9q N9q; (try dsimp only); (try k_fold))
  k_with "exec For Tuple" => (k_here; k_dflt (refine wpAny_For ?_ (by intro _; rfl)))
  revert X; k_fill; intro X
  rcases cs with ⟨ck, c2, c3, c4, c5⟩
  obtain rfl : ck = .function := hk
  have hul : us.length = rows.length := by rw [hu.length]; simp [hdDat]
  refine wpAny_call ?_
  k_dflt k_enter
  k_steps
  refine' for_list (items := us) (TwoJ _ _ (Str.ofString "k") (Str.ofString "v") fun i => ∀ p ∈ rows.take i, (Txt.lower p.1 == Txt.lower y) = false) (by rfl) (by assumption) (by assumption) ⟨rfl, ⟨_, _, map_two _ _ _⟩, fun p hp => by simp at hp⟩ ?hS ?go ?hE ?turn ?done
  case hS => rintro i m₁ nw ⟨rfl, _⟩; exact .inr ⟨_, by k_mem, rfl, _, rfl⟩
  case go =>
    intro v hv
    obtain ⟨i, hi, rfl⟩ := List.mem_iff_getElem.mp hv
    obtain ⟨_, a9, _, _, _, e, _⟩ := hd_get (i := i) hu (v := us[i]) (by simp [hi])
    exact .inr ⟨⟨a9, e⟩, _, _, _, rfl⟩
  case hE => passes_own
  case done =>
    rintro m₁ nw h tk ⟨rfl, _, hno⟩ F9 N9
    rw [hul, List.take_length] at hno
    rw [first_none hno] at hres; cases hres
  case turn =>
    rintro i v m₁ nw I oI h tk hv ⟨rfl, ⟨u1, u2, rfl⟩, hno⟩ F9 N9 off9
    obtain ⟨hi2, a9, t9, u9, n9, rfl, hmem⟩ := hd_get hu (by simpa using hv)
    have hrl := hrow _ (List.getElem_mem hi2)
    refine assign_two (by rfl) F9 N9 (by k_mem) (by rfl) (by rfl) (by rfl) fun h8 tk8 F8 N8 => ?_
    (try dsimp only)
    k_steps
    · dsimp only [ForPost]
      k_steps
      have e := first_at hi2 hno (by assumption)
      rw [hres] at e
      obtain rfl := Option.some.inj e
      exact ret _ _ _ (by assumption) (news_sub (by assumption) fun p hp => List.mem_cons_of_mem _ hp)
    · refine ForPost.intro _ (by assumption) (by assumption) (fun p hp => hp) off9 ⟨rfl, two_same ?_, ?_⟩
      · intro z h1 h2; simp [h1, h2]
      · intro p hp
        rw [List.take_succ_eq_append_getElem hi2] at hp
        rcases List.mem_append.mp hp with q | q
        · exact hno p q
        · rw [List.mem_singleton.mp q]; assumption
end Mine
end
section
open PySem PySem.W PyProof.Rows PySem.Calls
set_option maxRecDepth 100000
set_option maxHeartbeats 4000000
namespace Mine
/-- what `del` leaves -/
noncomputable def delRows (rows : List (Str × Str)) (y : Str) : List (Str × Str) := rows.filter fun p => Txt.lower p.1 != Txt.lower y
theorem spec_del {w mean mg mb loose gd cn cs a ccd cl outer A₀ base h₀ L m news s Q E} (x dx hl : Addr) (td : Tok) (nd c : Nat) (us : List Value) (rows : List (Str × Str)) (y : Str) (ty : Tok)
    (B : Below A₀ base outer h₀) (F : Fr h₀ L s.heap m) (X : (hd.heap_1 w.params).In h₀) (N : News h₀ L s.heap ((x, instObj 217 dx) :: (dx, hdDict w hl td nd) :: (hl, listOf us.toArray c) :: news)) (T : Top hdView loose mean mg mb h₀) (hk : cs.kind = .function)
    (hu : DatAll news us (hdDat rows)) (hy : y.length ≤ 300) (hok : OkT (Txt.lower y)) (hrow : ∀ p ∈ rows, p.1.length ≤ 300) (hlen : rows.length ≤ 1000) (hnx : x ≠ hl) (hnd : dx ≠ hl) (hnn : ∀ p ∈ news, p.1 ≠ hl)
    (ret : ∀ ys c' h' tk', Fr h₀ L h' m → News h₀ L h' ((x, instObj 217 dx) :: (dx, hdDict w hl td nd) :: (hl, listOf ys.toArray c') :: news) → DatAll news ys (hdDat (delRows rows y)) → Q .none { s with heap := h', toks := tk' }) :
    wpAny (model PySem.Challenge.rw_ty0056_02.prog w) (ktrTop 400 3000 gd cn cs L a ccd cl outer) (call (.ref 137) [.ref x, .str y ty]) Q E s := by
  k_with_none
  w_top off
  k_with "k_all" => (refine' allLt_ne ?ah ?ad; (case ah => first | assumption | exact And.right (by assumption) | exact And.right (And.right (by assumption)) | exact And.right (And.right (And.right (by assumption))) | exact And.right (And.right (And.right (And.right (by assumption)))) | exact And.right (And.right (And.right (And.right (And.right (by assumption))))) | exact And.right (And.right (And.right (And.right (And.right (And.right (by assumption))))))); (case ad => first | exact Nat.le_refl _ | omega))
  k_with "k_all" => assumption
  k_with "k_mem" => assumption
  k_with "call ref" => (k_here; (with_reducible show wpAny _ _ (call (Value.ref 118) _ _) _ _ _); k_dflt (refine' room ?d1 ?d2 (spec_conv _ _ _ _ ?k1 ?k2 ?k3 ?k4 ?k5 ?k6 ?k7 ?k8 ?_); (case d1 => exact Nat.le_of_ble_eq_true rfl); (case d2 => exact Nat.le_of_ble_eq_true rfl); (case k1 => k_asm); (case k2 => k_asm); (case k3 => k_asm); (case k4 => k_asm); (case k5 => k_asm); (case k6 => first | exact rfl | assumption); (case k7 => omega); (case k8 => assumption)); intro h9q tk9q F9q N9q; (try dsimp only); (try k_fold))
  k_with "eval ListComp" => (k_here; k_dflt (refine LCt.ListComp_T (F₀ := by k_asm) (by with_unfolding_all rfl) (by decide) (by rfl) (by decide) (by rfl) ?_))
  revert X; k_fill; intro X
  rcases cs with ⟨ck, c2, c3, c4, c5⟩
  obtain rfl : ck = .function := hk
  have hul : us.length = rows.length := by rw [hu.length]; simp [hdDat]
  refine wpAny_call ?_
  k_dflt k_enter
  k_steps
  refine' LCt.CompSrcT.ledger (by rfl) (by k_asm) (by k_asm) (by k_mem) ?hsz (fun g => comp_ind_T rows.length (fun i ys nw => nw = _ ∧ DatAll news ys (((rows.take i).filter fun p => Txt.lower p.1 != Txt.lower y).map fun p => Dat.tuple [.str p.1, .str p.2])) ?turn ?fin _ 0 [] _ ?e ⟨rfl, ?z⟩)
  case hsz => rw [List.size_toArray, sizeLine_eq]; omega
  case e => rw [List.size_toArray]; omega
  case z => exact .nil
  case fin =>
    rintro ys nw ⟨rfl, hys⟩ D h9 tk9 F9 N9 off9
    rw [List.take_length] at hys
    (try dsimp only)
    k_steps
    refine' set_slice_K (s := ⟨_, _, _, _, _⟩) ?q1 ?q2 ?q3 ?q4 ?q5 ?q6 ?q7 ?_
    case q1 => k_asm
    case q2 => k_asm
    case q3 => exact .tail (fun e => off1_ne off9 (hl, listOf us.toArray c) (by k_mem) e.symm) (.tail (Nat.ne_of_gt (by omega)) (.tail hnx (.tail hnd (.head hnn))))
    case q4 => k_mem
    case q5 => exact off1_ne off9 (hl, listOf us.toArray c) (by k_mem)
    case q6 => rw [List.size_toArray]; omega
    case q7 =>
      rw [List.size_toArray, hys.length]
      refine Nat.le_trans ?_ hlen
      rw [List.length_map]
      exact List.length_filter_le _ _
    intro h8 n8 F8 N8
    (try dsimp only at N8)
    (try dsimp only)
    k_steps
    refine ret ys n8 _ _ (by assumption) (news_sub (by assumption) fun p hp => ?_) (by unfold delRows hdDat; exact hys)
    exact List.mem_cons_of_mem _ (List.mem_cons_of_mem _ hp)
  case turn =>
    intro i ys nw v I oI C oC D m₂ h tk E' hi hJ hP hN hm F N off hne
    obtain ⟨hnw, hys⟩ := hJ
    subst hnw
    obtain ⟨hi2, a9, t9, u9, n9, rfl, hmem⟩ := hd_get hu hP
    have hrl := hrow _ (List.getElem_mem hi2)
    k_steps
    · refine LCg.CompEnd.intro (by assumption) (by assumption) _ (fun p hp => hp) off (.inr ⟨_, by k_mem, rfl, _, rfl⟩) ⟨rfl, ?_⟩
      rw [fil_yes hi2 (by assumption)]
      exact hys.append (.one (.tuple hmem (.cons (.str _ _) (.one (.str _ _)))))
    · refine LCg.CompEnd.intro (by assumption) (by assumption) _ (fun p hp => hp) off (.inr ⟨_, by k_mem, rfl, _, rfl⟩) ⟨rfl, ?_⟩
      rw [fil_no hi2 (by assumption)]
      exact hys
end Mine
end
section
open PySem PySem.W PyProof.Rows PySem.Calls
set_option maxRecDepth 100000
set_option maxHeartbeats 4000000
namespace Mine
theorem news_rot {h₀ h : Heap} {L : Addr} {p a b c : Addr × Obj} {r : List (Addr × Obj)} (N : News h₀ L h (p :: a :: b :: c :: r)) : News h₀ L h (a :: b :: c :: p :: r) := news_sub N fun q hq => by
  simp only [List.mem_cons] at hq ⊢
  rcases hq with h | h | h | h | h <;> simp [h]
/-- what an entry anew leaves -/
noncomputable def setRows (rows : List (Str × Str)) (y v : Str) : List (Str × Str) := delRows rows y ++ [(y, v)]
theorem spec_set {w mean mg mb loose gd cn cs a ccd cl outer A₀ base h₀ L m news s Q E} (x dx hl : Addr) (td : Tok) (nd c : Nat) (us : List Value) (rows : List (Str × Str)) (y : Str) (ty : Tok) (v : Str) (tv : Tok)
    (B : Below A₀ base outer h₀) (F : Fr h₀ L s.heap m) (X : (hd.heap_1 w.params).In h₀) (N : News h₀ L s.heap ((x, instObj 217 dx) :: (dx, hdDict w hl td nd) :: (hl, listOf us.toArray c) :: news)) (T : Top hdView loose mean mg mb h₀) (hk : cs.kind = .function)
    (hu : DatAll news us (hdDat rows)) (hy : y.length ≤ 300) (hok : OkT (Txt.lower y)) (hok' : OkT y) (hv : OkT v) (hvl : v.length ≤ 1000) (hrow : ∀ p ∈ rows, p.1.length ≤ 300) (hlen : rows.length ≤ 1000) (hnx : x ≠ hl) (hnd : dx ≠ hl) (hnn : ∀ p ∈ news, p.1 ≠ hl)
    (ret : ∀ ys c' t o h' tk', Fr h₀ L h' m → News h₀ L h' ((x, instObj 217 dx) :: (dx, hdDict w hl td nd) :: (hl, listOf ys.toArray c') :: (t, o) :: news) → t ≠ hl → DatAll ((t, o) :: news) ys (hdDat (setRows rows y v)) → Q .none { s with heap := h', toks := tk' }) :
    wpAny (model PySem.Challenge.rw_ty0056_02.prog w) (ktrTop 350 2500 gd cn cs L a ccd cl outer) (call (.ref 132) [.ref x, .str y ty, .str v tv]) Q E s := by
  k_with_none
  w_top off
  k_with "k_all" => (refine' allLt_ne ?ah ?ad; (case ah => first | assumption | exact And.right (by assumption) | exact And.right (And.right (by assumption)) | exact And.right (And.right (And.right (by assumption))) | exact And.right (And.right (And.right (And.right (by assumption)))) | exact And.right (And.right (And.right (And.right (And.right (by assumption))))) | exact And.right (And.right (And.right (And.right (And.right (And.right (by assumption))))))); (case ad => first | exact Nat.le_refl _ | omega))
  k_with "k_all" => assumption
  k_with "k_mem" => assumption
  k_with "call ref" => (k_here; (with_reducible show wpAny _ _ (call (Value.ref 118) _ _) _ _ _); k_dflt (refine' room ?d1 ?d2 (spec_conv _ _ _ _ ?k1 ?k2 ?k3 ?k4 ?k5 ?k6 ?k7 ?k8 ?_); (case d1 => exact Nat.le_of_ble_eq_true rfl); (case d2 => exact Nat.le_of_ble_eq_true rfl); (case k1 => k_asm); (case k2 => k_asm); (case k3 => k_asm); (case k4 => k_asm); (case k5 => k_asm); (case k6 => first | exact rfl | assumption); (case k7 => omega); (case k8 => assumption)); intro h9q tk9q F9q N9q; (try dsimp only); (try k_fold))
  k_with "eval ListComp" => (k_here; k_dflt (refine LCt.ListComp_T (F₀ := by k_asm) (by with_unfolding_all rfl) (by decide) (by rfl) (by decide) (by rfl) ?_))
  k_with "delItem ref str" => (k_here; (with_reducible show wpAny _ _ (delItem (Value.ref _) _) _ _ _); k_dflt (refine' del_own ?F ?X ?I ?hQ ?hS ?hF ?_; (case F => k_asm); (case X => k_asm); (case I => k_inst); (case hS => k_is); (case hF => k_is); (case hQ => k_is); k_whole))
  k_with "call ref" => (k_here; (with_reducible show wpAny _ _ (call (Value.ref 137) _) _ _ _); k_dflt (refine' room ?d1 ?d2 (spec_del _ _ _ _ _ _ _ _ _ _ ?q1 ?q2 ?q3 ?q4 ?q5 ?q6 ?q7 ?q8 ?q9 ?qa ?qb ?qc ?qd ?qe ?_); (case d1 => exact Nat.le_of_ble_eq_true rfl); (case d2 => exact Nat.le_of_ble_eq_true rfl); (case q1 => k_asm); (case q2 => k_asm); (case q3 => k_asm); (case q4 => k_asm); (case q5 => k_asm); (case q6 => first | exact rfl | assumption); (case q7 => assumption); (case q8 => assumption); (case q9 => assumption); (case qa => assumption); (case qb => assumption); (case qc => assumption); (case qd => assumption); (case qe => assumption)); intro ys8q c8q h8q tk8q F8q N8q hys8q; (try dsimp only); (try k_fold))
  revert X; k_fill; intro X
  rcases cs with ⟨ck, c2, c3, c4, c5⟩
  obtain rfl : ck = .function := hk
  have hul : us.length = rows.length := by rw [hu.length]; simp [hdDat]
  refine wpAny_call ?_
  k_dflt k_enter
  k_steps
  have hyl : ∀ {q : List Value}, DatAll news q (hdDat (delRows rows y)) → q.length ≤ 1000 := by
    intro q hq
    rw [hq.length]
    refine Nat.le_trans ?_ hlen
    unfold hdDat delRows
    rw [List.length_map]
    exact List.length_filter_le _ _
  refine' append_K ?q1 ?q2 ?q3 ?_ ?q4
  case q1 => k_asm
  case q2 => k_asm
  case q3 => exact .tail (Nat.ne_of_gt (by omega)) (.tail hnx (.tail hnd (.head hnn)))
  case q4 => rw [List.size_toArray, sizeLine_eq]; exact Nat.le_trans (hyl (by assumption)) (by decide)
  intro h6 F6 N6
  (try dsimp only at N6)
  rw [List.push_toArray] at N6
  (try dsimp only)
  k_steps
  refine ret _ _ _ _ _ _ (by assumption) (news_rot (by assumption)) (Nat.ne_of_gt (by omega)) ?_
  unfold setRows hdDat
  rw [List.map_append]
  exact (DatAll.mono (fun p hp => List.mem_cons_of_mem _ hp) (by assumption)).append (.one (.tuple List.mem_cons_self (.cons (.str _ _) (.one (.str _ _)))))
end Mine
end
section
open PySem PySem.W PyProof.Rows PySem.Calls
set_option maxRecDepth 100000
set_option maxHeartbeats 4000000
namespace Mine
theorem news_pick {h₀ h : Heap} {L : Addr} {p q1 q2 q3 a b c : Addr × Obj} {r : List (Addr × Obj)} (N : News h₀ L h (p :: q1 :: q2 :: q3 :: a :: b :: c :: r)) : News h₀ L h (a :: b :: c :: p :: r) := news_sub N fun q hq => by
  simp only [List.mem_cons] at hq ⊢
  rcases hq with h | h | h | h | h <;> simp [h]
theorem spec_add {w mean mg mb loose gd cn cs a ccd cl outer A₀ base h₀ L m news s Q E} (x dx hl : Addr) (td : Tok) (nd c : Nat) (us : List Value) (rows : List (Str × Str)) (y : Str) (ty : Tok) (v : Str) (tv : Tok)
    (B : Below A₀ base outer h₀) (F : Fr h₀ L s.heap m) (X : (hd.heap_1 w.params).In h₀) (N : News h₀ L s.heap ((x, instObj 217 dx) :: (dx, hdDict w hl td nd) :: (hl, listOf us.toArray c) :: news)) (T : Top hdView loose mean mg mb h₀) (hk : cs.kind = .function)
    (hu : DatAll news us (hdDat rows)) (hy : y.length ≤ 300) (hok' : OkT y) (hv : OkT v) (hvl : v.length ≤ 1000) (hlen : rows.length ≤ 1000) (hnx : x ≠ hl) (hnd : dx ≠ hl) (hnn : ∀ p ∈ news, p.1 ≠ hl)
    (ret : ∀ ys c' t o h' tk', Fr h₀ L h' m → News h₀ L h' ((x, instObj 217 dx) :: (dx, hdDict w hl td nd) :: (hl, listOf ys.toArray c') :: (t, o) :: news) → t ≠ hl → DatAll ((t, o) :: news) ys (hdDat (rows ++ [(y, v)])) → Q .none { s with heap := h', toks := tk' }) :
    wpAny (model PySem.Challenge.rw_ty0056_02.prog w) (ktrTop 350 2500 gd cn cs L a ccd cl outer) (call (.ref 214) [.ref x, .str y ty, .str v tv]) Q E s := by
  k_with_none
  w_top off
  k_with "k_all" => (refine' allLt_ne ?ah ?ad; (case ah => first | assumption | exact And.right (by assumption) | exact And.right (And.right (by assumption)) | exact And.right (And.right (And.right (by assumption))) | exact And.right (And.right (And.right (And.right (by assumption)))) | exact And.right (And.right (And.right (And.right (And.right (by assumption))))) | exact And.right (And.right (And.right (And.right (And.right (And.right (by assumption))))))); (case ad => first | exact Nat.le_refl _ | omega))
  k_with "k_all" => assumption
  k_with "k_mem" => assumption
  k_with "call ref" => (k_here; (with_reducible show wpAny _ _ (call (Value.ref 118) _ _) _ _ _); k_dflt (refine' room ?d1 ?d2 (spec_conv _ _ _ _ ?k1 ?k2 ?k3 ?k4 ?k5 ?k6 ?k7 ?k8 ?_); (case d1 => exact Nat.le_of_ble_eq_true rfl); (case d2 => exact Nat.le_of_ble_eq_true rfl); (case k1 => k_asm); (case k2 => k_asm); (case k3 => k_asm); (case k4 => k_asm); (case k5 => k_asm); (case k6 => first | exact rfl | assumption); (case k7 => omega); (case k8 => assumption)); intro h9q tk9q F9q N9q; (try dsimp only); (try k_fold))
  k_with "eval ListComp" => (k_here; k_dflt (refine LCt.ListComp_T (F₀ := by k_asm) (by with_unfolding_all rfl) (by decide) (by rfl) (by decide) (by rfl) ?_))
  revert X; k_fill; intro X
  rcases cs with ⟨ck, c2, c3, c4, c5⟩
  obtain rfl : ck = .function := hk
  have hul : us.length = rows.length := by rw [hu.length]; simp [hdDat]
  refine wpAny_call ?_
  k_dflt k_enter
  k_steps
  have N5 := news_pick (by assumption)
  refine' append_K ?q1 N5 ?q3 ?_ ?q4
  case q1 => k_asm
  case q3 => exact .tail hnx (.tail hnd (.head (List.forall_mem_cons.mpr ⟨Nat.ne_of_gt (by omega), hnn⟩)))
  case q4 => rw [List.size_toArray, sizeLine_eq]; omega
  intro h6 F6 N6
  (try dsimp only at N6)
  rw [List.push_toArray] at N6
  (try dsimp only)
  k_steps
  refine ret _ _ _ _ _ _ (by assumption) (by assumption) (Nat.ne_of_gt (by omega)) ?_
  unfold hdDat
  rw [List.map_append]
  exact (DatAll.mono (fun p hp => List.mem_cons_of_mem _ hp) hu).append (.one (.tuple List.mem_cons_self (.cons (.str _ _) (.one (.str _ _)))))
end Mine
end
section
open PySem PySem.W PyProof.Rows PySem.Calls
set_option maxRecDepth 100000
set_option maxHeartbeats 4000000
namespace Mine
theorem five_dat {news : List (Addr × Obj)} {a1 a2 a3 a4 a5 : Addr} {s1 s2 s3 s4 s5 s6 s7 s8 s9 s10 : Str} {t1 t2 t3 t4 t5 t6 t7 t8 t9 t10 : Tok} {n1 n2 n3 n4 n5 : Nat} :
    DatAll ((a5, ({ cls := .type "tuple", data := .seq #[.str s9 t9, .str s10 t10] n5 } : Obj)) :: (a4, ({ cls := .type "tuple", data := .seq #[.str s7 t7, .str s8 t8] n4 } : Obj)) :: (a3, ({ cls := .type "tuple", data := .seq #[.str s5 t5, .str s6 t6] n3 } : Obj)) :: (a2, ({ cls := .type "tuple", data := .seq #[.str s3 t3, .str s4 t4] n2 } : Obj)) :: (a1, ({ cls := .type "tuple", data := .seq #[.str s1 t1, .str s2 t2] n1 } : Obj)) :: news)
      [.ref a1, .ref a2, .ref a3, .ref a4, .ref a5] (hdDat [(s1, s2), (s3, s4), (s5, s6), (s7, s8), (s9, s10)]) :=
  .cons (.tuple (vs := [.str s1 t1, .str s2 t2]) (n := n1) (by simp) (.cons (.str _ _) (.one (.str _ _)))) (.cons (.tuple (vs := [.str s3 t3, .str s4 t4]) (n := n2) (by simp) (.cons (.str _ _) (.one (.str _ _)))) (.cons (.tuple (vs := [.str s5 t5, .str s6 t6]) (n := n3) (by simp) (.cons (.str _ _) (.one (.str _ _)))) (.cons (.tuple (vs := [.str s7 t7, .str s8 t8]) (n := n4) (by simp) (.cons (.str _ _) (.one (.str _ _)))) (.cons (.tuple (vs := [.str s9 t9, .str s10 t10]) (n := n5) (by simp) (.cons (.str _ _) (.one (.str _ _)))) (.nil)))))
noncomputable def rows0 (x : Str) : List (Str × Str) := [(Str.ofString "Word", x), (Str.ofString "nw", Str.ofString "a"), (Str.ofString "ne", Str.ofString "a"), (Str.ofString "sw", Str.ofString "b"), (Str.ofString "se", Str.ofString "b")]
theorem rows0_short (x : Str) : ∀ p ∈ rows0 x, p.1.length ≤ 300 := by
  intro p hp
  simp only [rows0, List.mem_cons, List.not_mem_nil, or_false] at hp
  rcases hp with rfl | rfl | rfl | rfl | rfl <;> exact Nat.le_of_ble_eq_true rfl
theorem get_word (x : Str) (r : List (Str × Str)) : getFirst ((Str.ofString "Word", x) :: r) (Str.ofString "wORD") = some x := by
  unfold getFirst
  rw [List.find?_cons_of_pos (p := fun p : Str × Str => Txt.lower p.1 == Txt.lower (Str.ofString "wORD")) (a := (Str.ofString "Word", x)) (show (Txt.lower (Str.ofString "Word") == Txt.lower (Str.ofString "wORD")) = true by decide +kernel)]; rfl
theorem getFirst_lower {rows : List (Str × Str)} {y y' : Str} (h : Txt.lower y = Txt.lower y') : getFirst rows y = getFirst rows y' := by unfold getFirst; rw [h]
theorem keys_short {rows : List (Str × Str)} (h : (rows.all fun p => p.1.length ≤ 300) = true) : ∀ p ∈ rows, p.1.length ≤ 300 := fun p hp => by simpa using List.all_eq_true.mp h p hp
theorem seven_same {m0 m' : Str → Option Value} (h : ∀ z, z ≠ Str.ofString "beneath" → z ≠ Str.ofString "above" → z ≠ Str.ofString "side" → z ≠ Str.ofString "fresh" → z ≠ Str.ofString "level" → z ≠ Str.ofString "sign" → z ≠ Str.ofString "place" → m' z = m0 z) : ∃ u1 u2 u3 u4 u5 u6 u7, m' = fun z => if z = Str.ofString "beneath" then u1 else if z = Str.ofString "above" then u2 else if z = Str.ofString "side" then u3 else if z = Str.ofString "fresh" then u4 else if z = Str.ofString "level" then u5 else if z = Str.ofString "sign" then u6 else if z = Str.ofString "place" then u7 else m0 z := by
  refine ⟨m' (Str.ofString "beneath"), m' (Str.ofString "above"), m' (Str.ofString "side"), m' (Str.ofString "fresh"), m' (Str.ofString "level"), m' (Str.ofString "sign"), m' (Str.ofString "place"), ?_⟩
  funext z
  split
  · next e => rw [e]
  split
  · next e => rw [e]
  split
  · next e => rw [e]
  split
  · next e => rw [e]
  split
  · next e => rw [e]
  split
  · next e => rw [e]
  split
  · next e => rw [e]
  exact h z (by assumption) (by assumption) (by assumption) (by assumption) (by assumption) (by assumption) (by assumption)
noncomputable def gf (rows : List (Str × Str)) (y : String) : Str := (getFirst rows (Str.ofString y)).getD (Str.ofString "")
noncomputable def freshS (place : Nat) : Str := Txt.item (Str.ofString "abcdefghijklmnop") ((place : Int) + 1)
noncomputable def crossS (place : Nat) : Str := Txt.item (Str.ofString "xX") ((place : Int) % 2)
noncomputable def stepR (l0 : Int) (rows : List (Str × Str)) (place : Nat) (p : Str × Int) : List (Str × Str) :=
  if p.1 = Str.ofString "<" then
    setRows (setRows rows (Str.ofString (if (l0 - p.2) % 2 = 1 then "ne" else "sw")) (freshS place)) (Str.ofString "Se") (gf rows (if (l0 - p.2) % 2 = 1 then "ne" else "sw")) ++ [(crossS place, gf rows (if (l0 - p.2) % 2 = 1 then "ne" else "sw") ++ gf rows "se" ++ freshS place)]
  else
    setRows (setRows rows (Str.ofString (if (l0 - p.2) % 2 = 1 then "NE" else "SW")) (gf rows "se")) (Str.ofString "se") (freshS place) ++ [(crossS place, gf rows "se" ++ gf rows (if (l0 - p.2) % 2 = 1 then "ne" else "sw") ++ freshS place)]
noncomputable def tanR (row : List (Str × Int)) (x : Str) : Nat → List (Str × Str)
  | 0 => rows0 x
  | i + 1 => stepR (row.getD 0 (x, 0)).2 (tanR row x i) (i + 1) (row.getD (i + 1) (x, 0))
noncomputable def TanJ (w : World) (x dx hl l : Addr) (td : Tok) (nd : Nat) (us0 : List Value) (n0 : Nat) (keep : List (Addr × Obj)) (row : List (Str × Int)) (x0 : Str) (m0 : Str → Option Value) (i : Nat) (m₁ : Str → Option Value) (nw : List (Addr × Obj)) : Prop :=
  ∃ us c rest, nw = (x, instObj 217 dx) :: (dx, hdDict w hl td nd) :: (hl, listOf us.toArray c) :: rest ∧ DatAll rest us (hdDat (tanR row x0 i)) ∧ (l, listOf us0.toArray n0) ∈ rest ∧ DatAll rest us0 (rowDat row) ∧ (∀ p ∈ keep, p ∈ rest) ∧ (∀ p ∈ rest, p.1 ≠ hl) ∧
    ∃ u1 u2 u3 u4 u5 u6 u7, m₁ = fun z => if z = Str.ofString "beneath" then u1 else if z = Str.ofString "above" then u2 else if z = Str.ofString "side" then u3 else if z = Str.ofString "fresh" then u4 else if z = Str.ofString "level" then u5 else if z = Str.ofString "sign" then u6 else if z = Str.ofString "place" then u7 else m0 z
theorem row_len {prog : Program} {w : World} {A : Around} {E : Value → Shared → Prop} {s : Shared} {h₀ : Heap} {L l : Addr} {news L9 : List (Addr × Obj)} {us : List Value} {row : List (Str × Int)} {n : Nat} {Q : Value → Shared → Prop} (N : News h₀ L s.heap news) (hm : (l, listOf us.toArray n) ∈ news) (hd : DatAll L9 us (rowDat row)) (hfit : row.length ≤ 1000)
    (h : Q (.int (row.length : Int) (s.toks + 1)) { s with toks := s.toks + 1 + 1 }) : wpAny (model prog w) A (call (.builtin "len") [.ref l]) Q E s := by
  have e : (rowDat row).length = row.length := by simp [rowDat]
  exact kd_len N hm hd (by rw [e]; omega) (by rw [e]; exact h)
theorem row_item {prog : Program} {w : World} {A : Around} {E : Value → Shared → Prop} {s : Shared} {h₀ : Heap} {L l : Addr} {value slice : PySem.Expr} {news L9 : List (Addr × Obj)} {us : List Value} {row : List (Str × Int)} {n : Nat} {k : Int} {u : Tok} {Q : Value → Shared → Prop} (N : News h₀ L s.heap news) (hm : (l, listOf us.toArray n) ∈ news) (hd : DatAll L9 us (rowDat row))
    (j : Nat) (hk : k = j) (hj : j < row.length) (hfit : row.length ≤ 1000) (h : ∀ a t u n, (a, ({ cls := .type "tuple", data := .seq #[.str row[j].1 t, .int row[j].2 u] n } : Obj)) ∈ L9 → Q (.ref a) s)
    (hs : subscripted slice false (.ref l) (.int k u) = operate [.ref l, .int k u] (getItem (.ref l) (.int k u)) := by with_unfolding_all rfl) :
    wpAny (model prog w) A (subscriptTail value slice (.ref l) (.int k u)) Q E s := by
  have e : (rowDat row).length = row.length := by simp [rowDat]
  refine kd_item N hm hd (by omega) (by rw [e]; omega) (by omega) (fun v d hv _ hD => ?_) hs
  subst hk
  rw [Int.toNat_natCast] at hv
  have e2 : (rowDat row)[j]? = some (.tuple [.str row[j].1, .int row[j].2]) := by simp [rowDat, hj]
  rw [e2] at hv
  obtain rfl := Option.some.inj hv
  cases hD with
  | tuple hm hr =>
    cases hr with
    | cons h1 hr =>
      cases h1
      cases hr with
      | cons h2 hr =>
        cases h2
        cases hr
        exact h _ _ _ _ hm
theorem okT_append {a b : Str} (ha : OkT a) (hb : OkT b) : OkT (a ++ b) := by
  intro c hc
  have e : (a ++ b).cps.toList = a.cps.toList ++ b.cps.toList := by
    show (a.cps ++ b.cps).toList = _
    exact Array.toList_append
  rw [e] at hc
  rcases List.mem_append.mp hc with q | q
  · exact ha c q
  · exact hb c q
theorem len_append {a b : Str} : (a ++ b).length = a.length + b.length := by
  show (a.cps ++ b.cps).size = _
  exact Array.size_append
theorem cross_eq (i : Nat) : Txt.item (Str.ofString "xX") ((1 + (i : Int)).fmod 2) = crossS (i + 1) := by
  unfold crossS; rw [Int.fmod_eq_emod_of_nonneg _ (by decide), show (1 : Int) + (i : Int) = ((i + 1 : Nat) : Int) by omega]
theorem fresh_eq (i : Nat) : Txt.item (Str.ofString "abcdefghijklmnop") (1 + (i : Int) + 1) = freshS (i + 1) := by unfold freshS; rw [show (1 : Int) + (i : Int) = ((i + 1 : Nat) : Int) by omega]
theorem zero_nat : (0 : Int) = ((0 : Nat) : Int) := rfl
theorem one_add (i : Nat) : (1 : Int) + (i : Int) = ((i + 1 : Nat) : Int) := by omega
theorem news_back {h₀ h : Heap} {L : Addr} {p a b c : Addr × Obj} {r : List (Addr × Obj)} (N : News h₀ L h (p :: a :: b :: c :: r)) : News h₀ L h (a :: b :: c :: p :: r) := news_rot N
theorem getFirst_app {rows r : List (Str × Str)} {y z : Str} (h : getFirst rows y = some z) : getFirst (rows ++ r) y = some z := by
  unfold getFirst at h ⊢
  rw [List.find?_append]
  cases e : List.find? (fun p : Str × Str => Txt.lower p.1 == Txt.lower y) rows with
  | none => rw [e] at h; cases h
  | some q => rw [e] at h; exact h
theorem getFirst_del {rows : List (Str × Str)} {y y' : Str} (h : (Txt.lower y == Txt.lower y') = false) : getFirst (delRows rows y) y' = getFirst rows y' := by
  unfold getFirst delRows
  rw [List.find?_filter]
  congr 2
  funext p
  cases e : (Txt.lower p.1 == Txt.lower y') with
  | false => simp
  | true =>
    have e1 : Txt.lower p.1 = Txt.lower y' := by simpa using e
    have e2 : ¬ Txt.lower y = Txt.lower y' := by simpa using h
    simp [e1, Ne.symm e2]
theorem getFirst_same {rows : List (Str × Str)} {y y' v : Str} (h : (Txt.lower y == Txt.lower y') = true) : getFirst (setRows rows y v) y' = some v := by
  have e : getFirst (delRows rows y) y' = none := by
    unfold getFirst delRows
    rw [List.find?_eq_none.mpr]; · rfl
    intro p hp
    have hp' := (List.mem_filter.mp hp).2
    have e1 : Txt.lower y = Txt.lower y' := by simpa using h
    rw [← e1]; simpa using hp'
  unfold setRows
  unfold getFirst at e ⊢
  rw [List.find?_append]
  cases q : List.find? (fun p : Str × Str => Txt.lower p.1 == Txt.lower y') (delRows rows y) with
  | some a => rw [q] at e; cases e
  | none => simp only [Option.none_or]; rw [List.find?_cons_of_pos (by exact h)]; rfl
theorem getFirst_other {rows : List (Str × Str)} {y y' v z : Str} (h : (Txt.lower y == Txt.lower y') = false) (g : getFirst rows y' = some z) : getFirst (setRows rows y v) y' = some z :=
  getFirst_app ((getFirst_del h).trans g)
noncomputable def TInv (n : Nat) (rows : List (Str × Str)) : Prop := rows.length ≤ n ∧ (∀ p ∈ rows, p.1.length ≤ 300) ∧ ∀ e ∈ ["nw", "ne", "sw", "se"], ∃ z, getFirst rows (Str.ofString e) = some z ∧ OkT z ∧ z.length ≤ 1
theorem fresh_ok : ∀ p < 15, OkT (freshS p) ∧ (freshS p).length ≤ 1 := by unfold OkT OkC freshS; decide +kernel
theorem cross_ok : ∀ p < 15, OkT (crossS p) ∧ (crossS p).length ≤ 300 := by unfold OkT OkC crossS; decide +kernel
theorem set_len {rows : List (Str × Str)} {y v : Str} : (setRows rows y v).length ≤ rows.length + 1 := by
  unfold setRows delRows
  rw [List.length_append]
  exact Nat.add_le_add_right (List.length_filter_le _ _) 1
theorem set_keys {rows : List (Str × Str)} {y v : Str} (h : ∀ p ∈ rows, p.1.length ≤ 300) (hy : y.length ≤ 300) : ∀ p ∈ setRows rows y v, p.1.length ≤ 300 := by
  intro p hp
  rcases List.mem_append.mp hp with q | q
  · exact h p (List.mem_filter.mp q).1
  · rw [List.mem_singleton.mp q]; exact hy
theorem set_inv {n : Nat} {rows : List (Str × Str)} {y v : Str} (h : TInv n rows) (hv : OkT v) (hl : v.length ≤ 1) (hy : y.length ≤ 300) : TInv (n + 1) (setRows rows y v) := by
  refine ⟨Nat.le_trans set_len (Nat.succ_le_succ h.1), set_keys h.2.1 hy, fun e he => ?_⟩
  obtain ⟨z, g, hz, hzl⟩ := h.2.2 e he
  cases q : (Txt.lower y == Txt.lower (Str.ofString e)) with
  | true => exact ⟨v, getFirst_same q, hv, hl⟩
  | false => exact ⟨z, getFirst_other q g, hz, hzl⟩
theorem app_inv {n : Nat} {rows : List (Str × Str)} {y v : Str} (h : TInv n rows) (hy : y.length ≤ 300) : TInv (n + 1) (rows ++ [(y, v)]) := by
  refine ⟨by rw [List.length_append]; exact Nat.succ_le_succ h.1, fun p hp => ?_, fun e he => ?_⟩
  · rcases List.mem_append.mp hp with q | q
    · exact h.2.1 p q
    · rw [List.mem_singleton.mp q]; exact hy
  · obtain ⟨z, g, hz, hzl⟩ := h.2.2 e he
    exact ⟨z, getFirst_app g, hz, hzl⟩
theorem gf_ok {n : Nat} {rows : List (Str × Str)} (h : TInv n rows) {e : String} (he : e ∈ ["nw", "ne", "sw", "se"]) : getFirst rows (Str.ofString e) = some (gf rows e) ∧ OkT (gf rows e) ∧ (gf rows e).length ≤ 1 := by
  obtain ⟨z, g, hz, hzl⟩ := h.2.2 e he
  have e2 : gf rows e = z := by unfold gf; rw [g]; rfl
  rw [e2]; exact ⟨g, hz, hzl⟩
theorem step_inv {n : Nat} {rows : List (Str × Str)} {l0 : Int} {place : Nat} {p : Str × Int} (h : TInv n rows) (hp : place < 15) : TInv (n + 3) (stepR l0 rows place p) := by
  have f := fresh_ok place hp
  have c := cross_ok place hp
  have gse := gf_ok h (e := "se") (by simp)
  have gne := gf_ok h (e := "ne") (by simp)
  have gsw := gf_ok h (e := "sw") (by simp)
  unfold stepR
  have l1 : (Str.ofString "ne").length ≤ 300 := Nat.le_of_ble_eq_true rfl
  have l2 : (Str.ofString "sw").length ≤ 300 := Nat.le_of_ble_eq_true rfl
  have l3 : (Str.ofString "NE").length ≤ 300 := Nat.le_of_ble_eq_true rfl
  have l4 : (Str.ofString "SW").length ≤ 300 := Nat.le_of_ble_eq_true rfl
  have l5 : (Str.ofString "se").length ≤ 300 := Nat.le_of_ble_eq_true rfl
  have l6 : (Str.ofString "Se").length ≤ 300 := Nat.le_of_ble_eq_true rfl
  by_cases e1 : p.1 = Str.ofString "<" <;> by_cases e2 : (l0 - p.2) % 2 = 1 <;> simp only [e1, e2, if_true, if_false]
  · exact app_inv (set_inv (set_inv h f.1 f.2 l1) gne.2.1 gne.2.2 l6) c.2
  · exact app_inv (set_inv (set_inv h f.1 f.2 l2) gsw.2.1 gsw.2.2 l6) c.2
  · exact app_inv (set_inv (set_inv h gse.2.1 gse.2.2 l3) f.1 f.2 l5) c.2
  · exact app_inv (set_inv (set_inv h gse.2.1 gse.2.2 l4) f.1 f.2 l5) c.2
theorem rows0_inv (x : Str) : TInv 5 (rows0 x) := by
  refine ⟨Nat.le_refl _, rows0_short x, fun e he => ?_⟩
  have w1 : ∀ e ∈ ["nw", "ne", "sw", "se"], (Txt.lower (Str.ofString "Word") == Txt.lower (Str.ofString e)) = false := by decide +kernel
  have w2 : ∀ e ∈ ["nw", "ne", "sw", "se"], ∃ z ∈ [Str.ofString "a", Str.ofString "b"], getFirst (rows0 x).tail (Str.ofString e) = some z := by
    show ∀ e ∈ ["nw", "ne", "sw", "se"], ∃ z ∈ [Str.ofString "a", Str.ofString "b"], getFirst [(Str.ofString "nw", Str.ofString "a"), (Str.ofString "ne", Str.ofString "a"), (Str.ofString "sw", Str.ofString "b"), (Str.ofString "se", Str.ofString "b")] (Str.ofString e) = some z
    decide +kernel
  have w3 : ∀ z ∈ [Str.ofString "a", Str.ofString "b"], OkT z ∧ z.length ≤ 1 := by unfold OkT OkC; decide +kernel
  obtain ⟨z, hz, g⟩ := w2 e he
  refine ⟨z, ?_, w3 z hz⟩
  unfold getFirst at g ⊢
  unfold rows0 at g ⊢
  rw [List.find?_cons_of_neg (by rw [show (Txt.lower (Str.ofString "Word", x).1 == Txt.lower (Str.ofString e)) = false from w1 e he]; exact Bool.false_ne_true)]
  exact g
theorem tan_inv (row : List (Str × Int)) (x : Str) : ∀ i, i ≤ 14 → TInv (5 + 3 * i) (tanR row x i)
  | 0, _ => rows0_inv x
  | i + 1, h => step_inv (tan_inv row x i (by omega)) (by omega)
section
variable {prog : Program} {w : World} {A : Around} {E : Value → Shared → Prop} {s : Shared} {env : Env} {h₀ : Heap} {Q : Flow → Shared → Prop}
theorem tan_loop {x dx hl l : Addr} {td : Tok} {nd n0 c : Nat} {us0 us : List Value} {R tl : List (Addr × Obj)} {row : List (Str × Int)} {x0 : Str} {xn : Str} {px : Pos} {body : List Stmt} {r : Addr} {t u v : Tok} {m : Str → Option Value}
    (N : News h₀ env.locals s.heap ((l, listOf us0.toArray n0) :: (x, instObj 217 dx) :: (dx, hdDict w hl td nd) :: (hl, listOf us.toArray c) :: R)) (F : Fr h₀ env.locals s.heap m)
    (hr : IsRange s.heap r 1 (row.length : Int) 1 t u v) (h1 : 1 ≤ row.length) (h2 : row.length ≤ 15)
    (hu : DatAll R us (hdDat (rows0 x0))) (hrd : DatAll tl us0 (rowDat row)) (htl : ∀ p ∈ tl, p ∈ R) (hoff : ∀ p ∈ R, p.1 ≠ hl) (hlo : l ≠ hl)
    (hh : A.handled = none) (hx : env.kindOf xn = some .local) (hp : (env.scope.kind == .class || (env.scope.kind == .module && env.locals != env.globals)) = false)
    (hE : PassesOwn (model prog w) A env E)
    (turn : ∀ i ti m₁ nw I oI h tk, i < row.length - 1 → TanJ w x dx hl l td nd us0 n0 R row x0 m i m₁ nw → 1 ≤ tk → Fr h₀ env.locals h (fun z => if z = xn then some (.int (1 + (i : Int)) ti) else m₁ z) → News h₀ env.locals h ((I, oI) :: nw) → (∀ p ∈ nw, p.1 ≠ I) → oI.cls = .type "range_iterator" →
      wpAny (model prog w) A (execs body env) (ForPost h₀ env.locals I oI (TanJ w x dx hl l td nd us0 n0 R row x0 m (i + 1)) { s with heap := h, toks := tk } Q) E { s with heap := h, toks := tk })
    (done : ∀ m₁ nw h tk, TanJ w x dx hl l td nd us0 n0 R row x0 m (row.length - 1) m₁ nw → Fr h₀ env.locals h m₁ → News h₀ env.locals h nw → Q .next { s with heap := h, toks := tk }) :
    wpAny (model prog w) A (pyIter (.ref r)) (fun it s₂ => codeAny (model prog w) A (.forLoop (.Name xn px) it body [] env) (fun r s' => match r with | .ok f => Q f s' | .error e => cameBackBy (model prog w) A env E e s') s₂) E s := by
  refine for_range (row.length - 1) (TanJ w x dx hl l td nd us0 n0 R row x0 m) hh F (news_rot N) ?_ hr (size_of (by omega)) (small_of (by omega) (by omega) (by omega) (by omega)) hx hp hE turn done
  refine ⟨us, c, (l, listOf us0.toArray n0) :: R, rfl, DatAll.mono (fun p hp => List.mem_cons_of_mem _ hp) hu, List.mem_cons_self, DatAll.mono (fun p hp => List.mem_cons_of_mem _ (htl p hp)) hrd, fun p hp => List.mem_cons_of_mem _ hp, fun p hp => ?_, seven_same fun _ _ _ _ _ _ _ _ => rfl⟩
  rcases List.mem_cons.mp hp with rfl | hp
  · exact hlo
  · exact hoff p hp
end
end Mine
end
section
open PySem PySem.W PyProof.Rows PySem.Calls
set_option maxRecDepth 100000
set_option maxHeartbeats 4000000
namespace Mine
theorem hd_ne {h₀ h : Heap} {L x dx hl a : Addr} {w : World} {td : Tok} {nd c : Nat} {its : Array Value} {r : List (Addr × Obj)} (N : News h₀ L h ((x, instObj a dx) :: (dx, hdDict w hl td nd) :: (hl, listOf its c) :: r)) : x ≠ hl ∧ dx ≠ hl := by
  have z := (N (hl, listOf its c) (by simp)).1
  have z1 := (N (x, instObj a dx) (by simp)).1
  have z2 := (N (dx, hdDict w hl td nd) (by simp)).1
  constructor
  · rintro rfl
    have e := congrArg Obj.cls (Option.some.inj (z.symm.trans z1))
    cases e
  · rintro rfl
    have e := congrArg Obj.cls (Option.some.inj (z.symm.trans z2))
    injection e with e
    exact absurd e (by decide)
theorem news_rot' {h₀ h : Heap} {L : Addr} {p : Addr × Obj} {r : List (Addr × Obj)} (N : News h₀ L h (p :: r)) : News h₀ L h (p :: r) := N
theorem tan_end {w : World} {h₀ h8 : Heap} {L I x dx hl l : Addr} {td : Tok} {nd n0 c8 : Nat} {us0 ys8 : List Value} {keep rest9 R : List (Addr × Obj)} {oI : Obj} {row : List (Str × Int)} {x0 : Str} {m0 m' : Str → Option Value} {i : Nat} {rows' : List (Str × Str)} {s : Shared} {Q : Flow → Shared → Prop} {tk8 : Nat}
    (F8 : Fr h₀ L h8 m') (N8 : News h₀ L h8 ((x, instObj 217 dx) :: (dx, hdDict w hl td nd) :: (hl, listOf ys8.toArray c8) :: R)) (hI : (I, oI) ∈ R) (hsub : ∀ p ∈ rest9, p ∈ R)
    (hx : x ≠ I) (hdx : dx ≠ I) (hhl : hl ≠ I) (off9 : ∀ p ∈ rest9, p.1 ≠ I) (hoff : ∀ p ∈ R, p.1 ≠ hl) (ho : oI.cls = .type "range_iterator") (hys : DatAll R ys8 (hdDat rows')) (hrows : rows' = tanR row x0 (i + 1))
    (hl9 : (l, listOf us0.toArray n0) ∈ R) (hr9 : DatAll R us0 (rowDat row)) (hkeep : ∀ p ∈ keep, p ∈ rest9) (hm : ∀ z, z ≠ Str.ofString "beneath" → z ≠ Str.ofString "above" → z ≠ Str.ofString "side" → z ≠ Str.ofString "fresh" → z ≠ Str.ofString "level" → z ≠ Str.ofString "sign" → z ≠ Str.ofString "place" → m' z = m0 z) :
    ForPost h₀ L I oI (TanJ w x dx hl l td nd us0 n0 keep row x0 m0 (i + 1)) s Q .next { s with heap := h8, toks := tk8 } := by
  have hIR := (N8 _ (List.mem_cons_of_mem _ (List.mem_cons_of_mem _ (List.mem_cons_of_mem _ hI)))).1
  have sift : ∀ p ∈ R, p.2.cls = .type "tuple" ∨ p.2.cls = .type "list" → p ∈ R.filter (fun p => decide (p.1 ≠ I)) := by
    intro p hp hc
    refine List.mem_filter.mpr ⟨hp, decide_eq_true ?_⟩
    intro e
    have h1 := (N8 p (List.mem_cons_of_mem _ (List.mem_cons_of_mem _ (List.mem_cons_of_mem _ hp)))).1
    rw [e] at h1
    have h2 := Option.some.inj (h1.symm.trans hIR)
    have h3 : p.2.cls = .type "range_iterator" := (congrArg Obj.cls h2).trans ho
    rw [h3] at hc
    rcases hc with e | e <;> exact absurd e (by decide)
  refine ForPost.intro ((x, instObj 217 dx) :: (dx, hdDict w hl td nd) :: (hl, listOf ys8.toArray c8) :: R.filter (fun p => decide (p.1 ≠ I))) F8 N8 ?_ ?_ ⟨ys8, c8, R.filter (fun p => decide (p.1 ≠ I)), rfl, hrows ▸ datAll_sift sift hys, sift _ hl9 (.inr rfl), datAll_sift sift hr9, ?_, ?_, seven_same hm⟩
  · intro p hp
    simp only [List.mem_cons] at hp ⊢
    rcases hp with rfl | rfl | rfl | rfl | hp
    · exact .inr (.inr (.inr hI))
    · exact .inl rfl
    · exact .inr (.inl rfl)
    · exact .inr (.inr (.inl rfl))
    · exact .inr (.inr (.inr (List.mem_filter.mp hp).1))
  · intro p hp
    simp only [List.mem_cons] at hp
    rcases hp with rfl | rfl | rfl | hp
    · exact hx
    · exact hdx
    · exact hhl
    · exact of_decide_eq_true (List.mem_filter.mp hp).2
  · intro p hp
    exact List.mem_filter.mpr ⟨hsub p (hkeep p hp), decide_eq_true (off9 p (hkeep p hp))⟩
  · intro p hp
    exact hoff p (List.mem_filter.mp hp).1
theorem tan_step {row : List (Str × Int)} {x : Str} {i : Nat} (h0 : 0 < row.length) (h1 : i + 1 < row.length) : tanR row x (i + 1) = stepR row[0].2 (tanR row x i) (i + 1) row[i + 1] := by
  show stepR (row.getD 0 (x, 0)).2 (tanR row x i) (i + 1) (row.getD (i + 1) (x, 0)) = _
  simp [List.getD, List.getElem?_eq_getElem h0, List.getElem?_eq_getElem h1]
theorem step_eq {row : List (Str × Int)} {x : Str} {i : Nat} (h0 : 0 < row.length) (h1 : i + 1 < row.length) {A B : List (Str × Str)} (e : stepR row[0].2 (tanR row x i) (i + 1) row[i + 1] = A) (f : B = A) : B = tanR row x (i + 1) := by
  rw [tan_step h0 h1, e, f]
theorem step_ne_lt {row : List (Str × Int)} {x : Str} {i : Nat} (h0 : 0 < row.length) (h1 : i + 1 < row.length) (a : (row[0].2 - row[i + 1].2).fmod 2 = 1) (b : (row[i + 1].1 == Str.ofString "<") = true) :
    setRows (setRows (tanR row x i) (Str.ofString "ne") (Txt.item (Str.ofString "abcdefghijklmnop") (1 + (i : Int) + 1))) (Str.ofString "Se") (gf (tanR row x i) "ne") ++ [(Txt.item (Str.ofString "xX") ((1 + (i : Int)).fmod 2), gf (tanR row x i) "ne" ++ gf (tanR row x i) "se" ++ Txt.item (Str.ofString "abcdefghijklmnop") (1 + (i : Int) + 1))] = tanR row x (i + 1) := by
  rw [Int.fmod_eq_emod_of_nonneg _ (by decide)] at a
  rw [tan_step h0 h1, fresh_eq, cross_eq]
  unfold stepR
  simp only [show row[i + 1].1 = Str.ofString "<" by simpa using b, a, if_true]
theorem step_ne_gt {row : List (Str × Int)} {x : Str} {i : Nat} (h0 : 0 < row.length) (h1 : i + 1 < row.length) (a : (row[0].2 - row[i + 1].2).fmod 2 = 1) (b : (row[i + 1].1 == Str.ofString "<") = false) :
    setRows (setRows (tanR row x i) (Str.ofString "NE") (gf (tanR row x i) "se")) (Str.ofString "se") (Txt.item (Str.ofString "abcdefghijklmnop") (1 + (i : Int) + 1)) ++ [(Txt.item (Str.ofString "xX") ((1 + (i : Int)).fmod 2), gf (tanR row x i) "se" ++ gf (tanR row x i) "ne" ++ Txt.item (Str.ofString "abcdefghijklmnop") (1 + (i : Int) + 1))] = tanR row x (i + 1) := by
  rw [Int.fmod_eq_emod_of_nonneg _ (by decide)] at a
  rw [tan_step h0 h1, fresh_eq, cross_eq]
  unfold stepR
  simp only [show ¬ row[i + 1].1 = Str.ofString "<" by simpa using b, a, if_true, if_false]
theorem step_sw_lt {row : List (Str × Int)} {x : Str} {i : Nat} (h0 : 0 < row.length) (h1 : i + 1 < row.length) (a : (row[0].2 - row[i + 1].2).fmod 2 ≠ 1) (b : (row[i + 1].1 == Str.ofString "<") = true) :
    setRows (setRows (tanR row x i) (Str.ofString "sw") (Txt.item (Str.ofString "abcdefghijklmnop") (1 + (i : Int) + 1))) (Str.ofString "Se") (gf (tanR row x i) "sw") ++ [(Txt.item (Str.ofString "xX") ((1 + (i : Int)).fmod 2), gf (tanR row x i) "sw" ++ gf (tanR row x i) "se" ++ Txt.item (Str.ofString "abcdefghijklmnop") (1 + (i : Int) + 1))] = tanR row x (i + 1) := by
  rw [Int.fmod_eq_emod_of_nonneg _ (by decide)] at a
  rw [tan_step h0 h1, fresh_eq, cross_eq]
  unfold stepR
  simp only [show row[i + 1].1 = Str.ofString "<" by simpa using b, a, if_true, if_false]
theorem step_sw_gt {row : List (Str × Int)} {x : Str} {i : Nat} (h0 : 0 < row.length) (h1 : i + 1 < row.length) (a : (row[0].2 - row[i + 1].2).fmod 2 ≠ 1) (b : (row[i + 1].1 == Str.ofString "<") = false) :
    setRows (setRows (tanR row x i) (Str.ofString "SW") (gf (tanR row x i) "se")) (Str.ofString "se") (Txt.item (Str.ofString "abcdefghijklmnop") (1 + (i : Int) + 1)) ++ [(Txt.item (Str.ofString "xX") ((1 + (i : Int)).fmod 2), gf (tanR row x i) "se" ++ gf (tanR row x i) "sw" ++ Txt.item (Str.ofString "abcdefghijklmnop") (1 + (i : Int) + 1))] = tanR row x (i + 1) := by
  rw [Int.fmod_eq_emod_of_nonneg _ (by decide)] at a
  rw [tan_step h0 h1, fresh_eq, cross_eq]
  unfold stepR
  simp only [show ¬ row[i + 1].1 = Str.ofString "<" by simpa using b, a, if_true, if_false]
theorem spec_tangle {w mean mg mb loose gd cn cs a ccd cl outer A₀ base h₀ L m news s Q E} (x : Str) (tx : Tok) (k : Nat) (row : List (Str × Int))
    (B : Below A₀ base outer h₀) (F : Fr h₀ L s.heap m) (X : (hd.heap_1 w.params).In h₀) (N : News h₀ L s.heap news) (T : Top hdView loose mean mg mb h₀) (hk : cs.kind = .function)
    (hx : x.length ≤ 1000) (hxo : OkT x) (hr : readS k x = some row) (hkk : k ≤ 1000) (hrl : row.length ≤ 14) (hr1 : 1 ≤ row.length)
    (ret : ∀ q dx hl td nd us c R h' tk', Fr h₀ L h' m → News h₀ L h' ((q, instObj 217 dx) :: (dx, hdDict w hl td nd) :: (hl, listOf us.toArray c) :: R) → (∀ p ∈ news, p ∈ R) → (∀ p ∈ R, p.1 ≠ hl) → DatAll R us (hdDat (tanR row x (row.length - 1))) → Q (.ref q) { s with heap := h', toks := tk' }) :
    wpAny (model PySem.Challenge.rw_ty0056_02.prog w) (ktrTop 330 2000 gd cn cs L a ccd cl outer) (call (.ref 277) [.str x tx]) Q E s := by
  k_with_none
  w_top off
  k_with "k_all" => (refine' allLt_ne ?ah ?ad; (case ah => first | assumption | exact And.right (by assumption) | exact And.right (And.right (by assumption)) | exact And.right (And.right (And.right (by assumption))) | exact And.right (And.right (And.right (And.right (by assumption)))) | exact And.right (And.right (And.right (And.right (And.right (by assumption))))) | exact And.right (And.right (And.right (And.right (And.right (And.right (by assumption))))))); (case ad => first | exact Nat.le_refl _ | omega))
  k_with "k_all" => assumption
  k_with "k_mem" => assumption
  k_with "call ref" => (k_here; (with_reducible show wpAny _ _ (call (Value.ref 118) _ _) _ _ _); k_dflt (refine' room ?d1 ?d2 (spec_conv _ _ _ _ ?k1 ?k2 ?k3 ?k4 ?k5 ?k6 ?k7 ?k8 ?_); (case d1 => exact Nat.le_of_ble_eq_true rfl); (case d2 => exact Nat.le_of_ble_eq_true rfl); (case k1 => k_asm); (case k2 => k_asm); (case k3 => k_asm); (case k4 => k_asm); (case k5 => k_asm); (case k6 => first | exact rfl | assumption); (case k7 => first | omega | exact Nat.le_of_ble_eq_true rfl); (case k8 => first | assumption | (unfold OkT OkC; decide +kernel))); intro h9q tk9q F9q N9q; (try dsimp only); (try k_fold))
  k_with "exec For Name Call cons nil" => (k_here; k_dflt (refine wpAny_For ?_ (by intro _; rfl)))
  k_with "exec For Tuple" => (k_here; k_dflt (refine wpAny_For ?_ (by intro _; rfl)))
  k_with "call ref" => (k_here; (with_reducible show wpAny _ _ (call (Value.ref 164) _) _ _ _); k_dflt (refine' room ?d1 ?d2 (spec_get _ _ _ _ _ _ _ _ _ _ _ ?q1 ?q2 ?q3 ?q4 ?q5 ?q6 ?q7 ?q8 ?q9 ?qa ?qb ?_); (case d1 => exact Nat.le_of_ble_eq_true rfl); (case d2 => exact Nat.le_of_ble_eq_true rfl); (case q1 => k_asm); (case q2 => k_asm); (case q3 => k_asm); (case q4 => k_asm); (case q5 => k_asm); (case q6 => first | exact rfl | assumption); (case q7 => first | assumption | exact five_dat); (case q8 => exact Nat.le_of_ble_eq_true rfl); (case q9 => unfold OkT OkC; decide +kernel); (case qa => first | assumption | exact rows0_short _); (case qb => first | exact get_word _ _ | exact (getFirst_lower (y' := Str.ofString "se") (by decide +kernel)).trans (by assumption) | exact (getFirst_lower (y' := Str.ofString "ne") (by decide +kernel)).trans (by assumption) | exact (getFirst_lower (y' := Str.ofString "sw") (by decide +kernel)).trans (by assumption))); intro t8q h8q tk8q F8q N8q; (try dsimp only); (try k_fold))
  k_with "call ref" => (k_here; (with_reducible show wpAny _ _ (call (Value.ref 270) _) _ _ _); k_dflt (refine' room ?d1 ?d2 (spec_read _ _ _ _ ?q1 ?q2 ?q3 ?q4 ?q5 ?q6 ?q7 ?q8 ?q9 ?_); (case d1 => exact Nat.le_of_ble_eq_true rfl); (case d2 => exact Nat.le_of_ble_eq_true rfl); (case q1 => k_asm); (case q2 => k_asm); (case q3 => k_asm); (case q4 => k_asm); (case q5 => k_asm); (case q6 => first | exact rfl | assumption); (case q7 => assumption); (case q8 => assumption); (case q9 => assumption)); intro l8q us8q n8q tl8q h8q tk8q ht8q F8q N8q lt8q gt8q dat8q; (try dsimp only [List.cons_append] at N8q); (try dsimp only); (try k_fold))
  k_with "call builtin:len" => (k_here; (with_reducible show wpAny _ _ (call (Value.builtin "len") [Value.ref _]) _ _ _); k_dflt (refine' row_len ?q1 ?q2 ?q3 ?q4 ?_; (case q1 => k_asm); (case q2 => k_mem); (case q3 => assumption); (case q4 => omega)); (try dsimp only))
  k_with "subscriptTail" => (k_here; (with_reducible show wpAny _ _ (subscriptTail _ _ (Value.ref _) (Value.int _ _)) _ _ _); k_dflt (refine' row_item ?q1 ?q2 ?q3 _ ?q4 ?q5 ?q6 ?_ (by with_unfolding_all rfl); (case q1 => k_asm); (case q2 => k_mem); (case q3 => assumption); (case q4 => first | exact one_add _ | exact zero_nat); (case q5 => omega); (case q6 => omega)); intro a7q t7q u7q n7q hm7q; (try dsimp only); (try k_fold))
  k_with "assign Tuple" => (k_here; k_dflt (refine' assign_two ?q0 ?q1 ?q2 ?q3 ?q4 ?q5 ?q6 ?_; (case q1 => k_asm); (case q2 => k_asm); (case q3 => k_mem); (case q0 => rfl); (case q4 => rfl); (case q5 => rfl); (case q6 => rfl)); intro h8q tk8q F8q N8q; (try dsimp only); (try k_fold))
  k_with "call ref" => (k_here; (with_reducible show wpAny _ _ (call (Value.ref 132) _) _ _ _); k_dflt (refine' room ?d1 ?d2 (spec_set _ _ _ _ _ _ _ _ _ _ _ _ ?q1 ?q2 ?q3 ?q4 ?q5 ?q6 ?q7 ?q8 ?q9 ?qa ?qb ?qc ?qd ?qe ?qf ?qg ?qh ?_); (case d1 => exact Nat.le_of_ble_eq_true rfl); (case d2 => exact Nat.le_of_ble_eq_true rfl); (case q1 => k_asm); (case q2 => k_asm); (case q3 => k_asm); (case q4 => k_asm); (case q5 => k_asm); (case q6 => first | exact rfl | assumption); (case q7 => assumption); (case q8 => exact Nat.le_of_ble_eq_true rfl); (case q9 => unfold OkT OkC; decide +kernel); (case qa => unfold OkT OkC; decide +kernel); (case qb => first | assumption | exact (gf_ok (by assumption) (by simp)).2.1); (case qc => omega); (case qd => first | assumption | exact set_keys (by assumption) (Nat.le_of_ble_eq_true rfl)); (case qe => first | omega | (refine Nat.le_trans set_len ?_; omega)); (case qf => assumption); (case qg => assumption); (case qh => first | assumption | exact List.forall_mem_cons.mpr ⟨by assumption, by assumption⟩)); intro ys8q c8q t8q o8q h8q tk8q F8q N8q off8q hys8q; (try dsimp only); (try k_fold))
  k_with "call ref" => (k_here; (with_reducible show wpAny _ _ (call (Value.ref 214) _) _ _ _); k_dflt (refine' room ?d1 ?d2 (spec_add _ _ _ _ _ _ _ _ _ _ _ _ ?q1 ?q2 ?q3 ?q4 ?q5 ?q6 ?q7 ?q8 ?q9 ?qa ?qb ?qc ?qd ?qe ?qf ?_); (case d1 => exact Nat.le_of_ble_eq_true rfl); (case d2 => exact Nat.le_of_ble_eq_true rfl); (case q1 => k_asm); (case q2 => k_asm); (case q3 => k_asm); (case q4 => k_asm); (case q5 => k_asm); (case q6 => first | exact rfl | assumption); (case q7 => assumption); (case q8 => assumption); (case q9 => assumption); (case qa => exact okT_append (okT_append (by assumption) (by assumption)) (by assumption)); (case qb => rw [len_append, len_append]; omega); (case qc => refine Nat.le_trans set_len ?_; refine Nat.le_trans (Nat.succ_le_succ set_len) ?_; omega); (case qd => assumption); (case qe => assumption); (case qf => exact List.forall_mem_cons.mpr ⟨by assumption, List.forall_mem_cons.mpr ⟨by assumption, by assumption⟩⟩)); intro ys8q c8q t8q o8q h8q tk8q F8q N8q off8q hys8q; (try dsimp only); (try k_fold))
  revert X; k_fill; intro X
  refine wpAny_call ?_
  k_dflt cell_enter
  k_steps
  refine' for_led ?hm (TwoJ _ _ (Str.ofString "k") (Str.ofString "v") fun i => True) (by rfl) (by k_asm) (by k_asm) ⟨rfl, ⟨_, _, map_two _ _ _⟩, trivial⟩ ?hS ?go ?hE ?turn ?done
  case hm => k_mem
  case hS => rintro i m₁ nw ⟨rfl, _⟩; k_mem
  case go =>
    intro v hv
    simp only [List.mem_cons, List.not_mem_nil, or_false] at hv
    rcases hv with rfl | rfl | rfl | rfl | rfl <;> exact .inr ⟨⟨_, rfl⟩, _, _, _, rfl⟩
  case hE => passes_own
  case done =>
    rintro m₁ nw h tk ⟨rfl, ⟨u1, u2, rfl⟩, hno⟩ F9 N9
    (try dsimp only)
    k_steps
    have lt9 := (by assumption : ∀ p ∈ ((_, instObj 217 _) :: _ : List (Addr × Obj)), @LT.lt Nat _ p.1 _)
    refine' tan_loop ?nN ?nF ?nR ?n1 ?n2 ?nU ?nD ?nT ?nO ?nL (by rfl) ?nX ?nP ?hE2 ?turn2 ?done2
    case nN => k_asm
    case nF => k_asm
    case nR => assumption
    case n1 => omega
    case n2 => omega
    case nU => exact five_dat
    case nD => assumption
    case nT => intro p hp; simp only [List.mem_cons, List.mem_append]; simp [hp]
    case nL => exact Nat.ne_of_gt (lt9 (_, _) (List.mem_cons_of_mem _ (List.mem_cons_of_mem _ List.mem_cons_self)))
    case nO =>
      have gt9 := (by assumption : ∀ p ∈ (_ : List (Addr × Obj)), @LT.lt Nat _ _ p.1)
      have hal2 := allLt_mem (And.right (And.right (And.right (And.right (And.right (by assumption : _ ∧ _ ∧ _ ∧ _ ∧ _ ∧ AllLt _ news))))))
      intro p hp
      simp only [List.mem_cons, List.mem_append] at hp
      rcases hp with rfl | rfl | rfl | rfl | rfl | hp | hp
      · exact Nat.ne_of_lt (by omega)
      · exact Nat.ne_of_lt (by omega)
      · exact Nat.ne_of_lt (by omega)
      · exact Nat.ne_of_lt (by omega)
      · exact Nat.ne_of_lt (by omega)
      · exact Nat.ne_of_lt (hal2 p hp)
      · exact Nat.ne_of_gt (Nat.lt_trans (lt9 (_, _) (List.mem_cons_of_mem _ (List.mem_cons_of_mem _ List.mem_cons_self))) (gt9 p hp))
    case nX => rfl
    case nP => rfl
    case hE2 => passes_own
    case done2 =>
      rintro m₁ nw h9 tk9 ⟨us9, c9, rest9, rfl, hu9, hl9, hr9, hkeep9, hoff9, u1, u2, u3, u4, u5, u6, u7, rfl⟩ F9 N9
      have hsub : ∀ p ∈ news, p ∈ rest9 := fun p hp => hkeep9 p (by simp only [List.mem_cons, List.mem_append]; simp [hp])
      (try dsimp only)
      k_steps
      exact ret _ _ _ _ _ _ _ _ _ _ (by assumption) (by assumption) hsub hoff9 hu9
    case turn2 =>
      rintro i ti m₁ nw I oI h9 tk9 hi ⟨us9, c9, rest9, rfl, hu9, hl9, hr9, hkeep9, hoff9, u1, u2, u3, u4, u5, u6, u7, rfl⟩ htk9 F9 N9 off9 hoI9
      have eF := fresh_eq i
      have eC := cross_eq i
      have okC : OkT (Txt.item (Str.ofString "xX") ((1 + (i : Int)).fmod 2)) := by rw [eC]; exact (cross_ok (i + 1) (by omega)).1
      have lenC : (Txt.item (Str.ofString "xX") ((1 + (i : Int)).fmod 2)).length ≤ 300 := by rw [eC]; exact (cross_ok (i + 1) (by omega)).2
      have lenF : (Txt.item (Str.ofString "abcdefghijklmnop") (1 + (i : Int) + 1)).length ≤ 1 := by rw [eF]; exact (fresh_ok (i + 1) (by omega)).2
      have okF : OkT (Txt.item (Str.ofString "abcdefghijklmnop") (1 + (i : Int) + 1)) := by rw [eF]; exact (fresh_ok (i + 1) (by omega)).1
      have N7 := news_back N9
      clear N9
      obtain ⟨hnx9, hnd9⟩ := hd_ne N7
      replace hu9 := DatAll.mono (news' := (I, oI) :: rest9) (fun p hp => List.mem_cons_of_mem _ hp) hu9
      replace hr9 := DatAll.mono (news' := (I, oI) :: rest9) (fun p hp => List.mem_cons_of_mem _ hp) hr9
      replace hl9 := List.mem_cons_of_mem (I, oI) hl9
      have hoff9 : ∀ p ∈ (I, oI) :: rest9, p.1 ≠ _ := fun p hp => by
        rcases List.mem_cons.mp hp with rfl | hp
        · exact (off9 _ (List.mem_cons_of_mem _ (List.mem_cons_of_mem _ List.mem_cons_self))).symm
        · exact hoff9 p hp
      have J9 := tan_inv row x i (by omega)
      obtain ⟨g1, g2, g3⟩ := gf_ok J9 (e := "se") (by simp)
      obtain ⟨g4, g5, g6⟩ := gf_ok J9 (e := "ne") (by simp)
      obtain ⟨g7, g8, g9⟩ := gf_ok J9 (e := "sw") (by simp)
      have hrow9 := J9.2.1
      have hlen9 : (tanR row x i).length ≤ 100 := by have := J9.1; omega
      (try dsimp only)
      k_steps
      all_goals (refine tan_end (by assumption) (by assumption) (List.mem_cons_of_mem _ (List.mem_cons_of_mem _ (List.mem_cons_of_mem _ List.mem_cons_self))) (fun p hp => List.mem_cons_of_mem _ (List.mem_cons_of_mem _ (List.mem_cons_of_mem _ (List.mem_cons_of_mem _ hp)))) (off9 _ List.mem_cons_self) (off9 _ (List.mem_cons_of_mem _ List.mem_cons_self)) (off9 _ (List.mem_cons_of_mem _ (List.mem_cons_of_mem _ List.mem_cons_self))) (fun p hp => off9 p (List.mem_cons_of_mem _ (List.mem_cons_of_mem _ (List.mem_cons_of_mem _ hp)))) (List.forall_mem_cons.mpr ⟨by assumption, List.forall_mem_cons.mpr ⟨by assumption, List.forall_mem_cons.mpr ⟨by assumption, hoff9⟩⟩⟩) hoI9 (by assumption) ?_ (List.mem_cons_of_mem _ (List.mem_cons_of_mem _ (List.mem_cons_of_mem _ hl9))) (DatAll.mono (fun p hp => List.mem_cons_of_mem _ (List.mem_cons_of_mem _ (List.mem_cons_of_mem _ hp))) hr9) hkeep9 (fun z h1 h2 h3 h4 h5 h6 h7 => by simp only [h1, h2, h3, h4, h5, h6, h7, if_false]))
      · exact step_ne_lt (by omega) (by omega) (by assumption) (by assumption)
      · exact step_ne_gt (by omega) (by omega) (by assumption) (by assumption)
      · exact step_sw_lt (by omega) (by omega) (by assumption) (by assumption)
      · exact step_sw_gt (by omega) (by omega) (by assumption) (by assumption)
  case turn =>
    rintro i v m₁ nw I oI h tk hv ⟨rfl, ⟨u1, u2, rfl⟩, _⟩ F9 N9 off9
    rcases i with _|_|_|_|_|i
    case succ.succ.succ.succ.succ => cases hv
    all_goals (obtain rfl := Option.some.inj hv; refine assign_two (by rfl) F9 N9 (by k_mem) (by rfl) (by rfl) (by rfl) fun h8 tk8 F8 N8 => ?_; (try dsimp only); k_steps; refine ForPost.intro _ (by assumption) (by assumption) (fun p hp => hp) off9 ⟨rfl, two_same ?_, trivial⟩; intro z h1 h2; simp [h1, h2])
end Mine
end
section
open PySem PySem.W PyProof.Rows PySem.Calls
set_option maxRecDepth 100000
set_option maxHeartbeats 4000000
namespace Mine
theorem cells_step {fs pre : List Int} {k x : Int} {j : Nat} (h5 : fs.length = 5) (h : ∀ c ∈ fs, 0 ≤ c ∧ c ≤ 73 + 189 * (pre.length : Int)) :
    (fs.set j (fs.getD j 0 + x.fmod 189)).length = 5 ∧ ∀ c ∈ fs.set j (fs.getD j 0 + x.fmod 189), 0 ≤ c ∧ c ≤ 73 + 189 * ((pre ++ [k]).length : Int) := by
  refine ⟨by rw [List.length_set]; exact h5, fun c hc => ?_⟩
  have e : ((pre ++ [k]).length : Int) = (pre.length : Int) + 1 := by simp
  rw [e]
  rcases List.mem_or_eq_of_mem_set hc with q | rfl
  · have := h c q; omega
  · have h1 := Int.fmod_eq_emod_of_nonneg x (b := 189) (by decide)
    have h2 := Int.emod_nonneg x (b := 189) (by decide)
    have h3 := Int.emod_lt_of_pos x (b := 189) (by decide)
    have h4 : 0 ≤ fs.getD j 0 ∧ fs.getD j 0 ≤ 73 + 189 * (pre.length : Int) := by
      by_cases q : j < fs.length
      · have e2 : fs.getD j 0 = fs[j] := by simp [List.getD, List.getElem?_eq_getElem q]
        rw [e2]; exact h _ (List.getElem_mem q)
      · have e2 : fs.getD j 0 = 0 := by simp [List.getD, List.getElem?_eq_none (Nat.le_of_not_lt q)]
        rw [e2]; omega
    omega
theorem spec_cells {w mean mg mb loose gd cn cs a ccd cl outer A₀ base h₀ L m news s Q E} (sc : Addr) (vs : List Value) (ns : List Int)
    (B : Below A₀ base outer h₀) (F : Fr h₀ L s.heap m) (X : (hd.heap_1 w.params).In h₀) (N : News h₀ L s.heap news) (T : Top hdView loose mean mg mb h₀) (hk : cs.kind = .function)
    (hl : h₀.IsList sc vs.toArray) (hi : IntsAre vs ns) (hlen : ns.length ≤ 63)
    (ret : ∀ l cz us n h' tk', Fr h₀ L h' m → News h₀ L h' ((l, listOf us.toArray n) :: news) → (∀ p ∈ news, p.1 < l) → IntsAre us cz → cz.length = 5 → (∀ c ∈ cz, 0 ≤ c ∧ c ≤ 20000) → Q (.ref l) { s with heap := h', toks := tk' }) :
    wpAny (model PySem.Challenge.rw_ty0056_02.prog w) (ktrTop 330 2000 gd cn cs L a ccd cl outer) (call (.ref 256) [.ref sc]) Q E s := by
  k_with_none
  w_top off
  k_with "k_all" => assumption
  k_with "k_mem" => assumption
  k_with "pyIter ref" => k_state (fun (pre : List Int) (cells : List Int) => cells.length = 5 ∧ ∀ c ∈ cells, 0 ≤ c ∧ c ≤ 73 + 189 * (pre.length : Int)) "cells"
  revert X; k_fill; intro X
  refine wpAny_call ?_
  k_dflt cell_enter
  rename Fr h₀ L _ m => FG
  have hl2 := hl.at fun o e => FG.keep sc o e
  clear hl
  k_with "state" => exact cells_step (by assumption) (by assumption)
  k_steps
  k_with_none
  refine ret _ _ _ _ _ _ (by assumption) (by assumption) (by assumption) (by assumption) (by assumption) fun c hc => ?_
  have h9 := (by assumption : ∀ c ∈ _, 0 ≤ c ∧ c ≤ 73 + 189 * (_ : Int)) c hc
  rw [show ∀ (a : Int) (n : Nat), (rangeKs a n).length = n from fun a n => by simp [rangeKs]] at h9
  split at h9 <;> omega
end Mine
end
section
open PySem PySem.W PyProof.Rows PySem.Calls
set_option maxRecDepth 100000
set_option maxHeartbeats 4000000
namespace Mine
noncomputable def wordStep (x : Str) (c : Int) : Str := esc x ++ (if 0 < c then Txt.mul (Str.ofString "<") c else Txt.mul (Str.ofString ">") (-c))
noncomputable def wordS (cz : List Int) : Str := cz.foldl wordStep (Str.ofString "&")
theorem word_next {cz : List Int} {i : Nat} {c : Int} (h : cz[i]? = some c) : wordS (cz.take (i + 1)) = wordStep (wordS (cz.take i)) c := by
  unfold wordS
  rw [List.take_add_one, h, List.foldl_append]; rfl
noncomputable def WordJ (LED : List (Addr × Obj)) (m0 : Str → Option Value) (cz : List Int) (number : Int) (i : Nat) (m₁ : Str → Option Value) (nw : List (Addr × Obj)) : Prop :=
  nw = LED ∧ ∃ u t t', m₁ = fun z => if z = Str.ofString "number" then some (.int (number + (i : Int)) t') else if z = Str.ofString "word" then some (.str (wordS (cz.take i)) t) else if z = Str.ofString "count" then u else m0 z
theorem word_same {m0 m' : Str → Option Value} {x x' : Str} {k k' : Int} {t t' : Tok} (ek : k' = k) (ex : x' = x) (hn : m' (Str.ofString "number") = some (.int k' t')) (hw : m' (Str.ofString "word") = some (.str x' t)) (h : ∀ z, z ≠ Str.ofString "number" → z ≠ Str.ofString "word" → z ≠ Str.ofString "count" → m' z = m0 z) :
    ∃ u t t', m' = fun z => if z = Str.ofString "number" then some (.int k t') else if z = Str.ofString "word" then some (.str x t) else if z = Str.ofString "count" then u else m0 z := by
  subst ek ex
  refine ⟨m' (Str.ofString "count"), t, t', ?_⟩
  funext z
  split
  · next e => rw [e, hn]
  split
  · next e => rw [e, hw]
  split
  · next e => rw [e]
  exact h z (by assumption) (by assumption) (by assumption)
theorem esc_len {x : Str} {c : Int} (h : (wordStep x c).length ≤ 500) : (esc x).length ≤ 500 := by
  have e : (wordStep x c).length = (esc x).length + (if 0 < c then Txt.mul (Str.ofString "<") c else Txt.mul (Str.ofString ">") (-c)).length := by
    show ((esc x).cps ++ _).size = _
    exact Array.size_append
  omega
theorem spec_word {w mean mg mb loose gd cn cs a ccd cl outer A₀ base h₀ L m news s Q E} (cL : Addr) (us : List Value) (cz : List Int) (n0 : Nat) (number : Int) (tn : Tok)
    (B : Below A₀ base outer h₀) (F : Fr h₀ L s.heap m) (X : (hd.heap_1 w.params).In h₀) (N : News h₀ L s.heap news) (T : Top hdView loose mean mg mb h₀) (hk : cs.kind = .function)
    (hm : (cL, listOf us.toArray n0) ∈ news) (hi : IntsAre us cz) (hn : 0 ≤ number ∧ number ≤ 20000) (hc : ∀ c ∈ cz, -3 ≤ c ∧ c ≤ 3) (hlen : cz.length ≤ 4) (hok : ∀ i ≤ cz.length, (wordS (cz.take i)).length ≤ 500 ∧ Safe (wordS (cz.take i)))
    (ret : ∀ t h' tk', Fr h₀ L h' m → News h₀ L h' news → Q (.str (wordS cz) t) { s with heap := h', toks := tk' }) :
    wpAny (model PySem.Challenge.rw_ty0056_02.prog w) (ktrTop 330 2000 gd cn cs L a ccd cl outer) (call (.ref 263) [.ref cL, .int number tn]) Q E s := by
  k_with_none
  w_top off
  k_with "k_all" => (refine' allLt_ne ?ah ?ad; (case ah => first | assumption | exact And.right (by assumption) | exact And.right (And.right (by assumption)) | exact And.right (And.right (And.right (by assumption))) | exact And.right (And.right (And.right (And.right (by assumption)))) | exact And.right (And.right (And.right (And.right (And.right (by assumption))))) | exact And.right (And.right (And.right (And.right (And.right (And.right (by assumption))))))); (case ad => first | exact Nat.le_refl _ | omega))
  k_with "k_all" => assumption
  k_with "k_mem" => assumption
  k_with "execs cons" => (k_here; (with_reducible show wpAny _ _ _ _ _ (Shared.mk _ _ _ (_ + 1) _)); refine gentoks1 ?_; intro tk9q htk9q)
  k_with "execs nil" => (k_here; (with_reducible show wpAny _ _ _ _ _ (Shared.mk _ _ _ (_ + 1) _)); refine gentoks1 ?_; intro tk9q htk9q)
  k_with "call ref" => (refine Stop.mk ?_)
  k_with "call ref" => (k_here; (with_reducible show wpAny _ _ (call (Value.ref 235) _) _ _ _); k_dflt (refine' room ?d1 ?d2 (spec_cdata _ _ ?k1 ?k2 ?k3 ?k4 ?k5 ?k6 ?k7 ?k8 ?k9 ?_); (case d1 => exact Nat.le_of_ble_eq_true rfl); (case d2 => exact Nat.le_of_ble_eq_true rfl); (case k1 => k_asm); (case k2 => k_asm); (case k3 => k_asm); (case k4 => k_asm); (case k5 => k_asm); (case k6 => first | exact rfl | assumption); (case k7 => omega); (case k8 => assumption); (case k9 => first | exact Nat.le_add_left 1 _ | (dsimp only; omega))); intro t9q h9q tk9q htk9q F9q N9q; (try dsimp only); (try k_fold))
  k_with "call ref" => (k_here; (with_reducible show wpAny _ _ (call (Value.ref 242) _) _ _ _); k_dflt (refine' room ?d1 ?d2 (spec_attrib _ _ ?k1 ?k2 ?k3 ?k4 ?k5 ?k6 ?k7 ?k8 ?k9 ?_); (case d1 => exact Nat.le_of_ble_eq_true rfl); (case d2 => exact Nat.le_of_ble_eq_true rfl); (case k1 => k_asm); (case k2 => k_asm); (case k3 => k_asm); (case k4 => k_asm); (case k5 => k_asm); (case k6 => first | exact rfl | assumption); (case k7 => omega); (case k8 => assumption); (case k9 => first | exact Nat.le_add_left 1 _ | (dsimp only; omega))); intro t9q h9q tk9q htk9q F9q N9q; (try dsimp only); (try k_fold))
  k_with "call ref" => (k_here; (with_reducible show wpAny _ _ (call (Value.ref 249) _) _ _ _); k_dflt (refine' room ?d1 ?d2 (spec_c14n _ _ ?k1 ?k2 ?k3 ?k4 ?k5 ?k6 ?k7 ?k8 ?k9 ?_); (case d1 => exact Nat.le_of_ble_eq_true rfl); (case d2 => exact Nat.le_of_ble_eq_true rfl); (case k1 => k_asm); (case k2 => k_asm); (case k3 => k_asm); (case k4 => k_asm); (case k5 => k_asm); (case k6 => first | exact rfl | assumption); (case k7 => omega); (case k8 => assumption); (case k9 => first | exact Nat.le_add_left 1 _ | (dsimp only; omega))); intro t9q h9q tk9q htk9q F9q N9q; (try dsimp only); (try k_fold))
  k_with "exec For Name Name cons nil" => (k_here; k_dflt (refine wpAny_For ?_ (by intro _; rfl)))
  have hlen2 : us.length = cz.length := hi.length
  revert X; k_fill; intro X
  refine wpAny_call ?_
  k_dflt cell_enter
  k_steps
  refine' for_led ?hm (WordJ _ _ cz number) (by rfl) (by k_asm) (by k_asm) ⟨rfl, word_same (show number = number + ((0 : Nat) : Int) by omega) (show Str.ofString "&" = _ from rfl) ?w1 ?w2 ?h0⟩ ?hS ?go ?hE ?turn ?done
  case hm => k_mem
  case w1 => rfl
  case w2 => rfl
  case h0 => exact fun _ _ _ _ => rfl
  case hS => rintro i m₁ nw ⟨rfl, _⟩; k_mem
  case go => exact fun v hv => .inl fun it => rfl
  case hE => passes_own
  case done =>
    rintro m₁ nw h tk ⟨rfl, u1, u2, u3, rfl⟩ F9 N9
    (try dsimp only)
    rw [hlen2, List.take_length] at F9
    k_steps
    exact ret _ _ _ (by assumption) (by assumption)
  case turn =>
    rintro i v m₁ nw I oI h tk hv ⟨rfl, u1, u2, u3, rfl⟩ F9 N9 off9
    have hi9 : i < cz.length := by have := (List.getElem?_eq_some_iff.mp hv).1; omega
    have hcz : cz[i]? = some cz[i] := List.getElem?_eq_getElem hi9
    obtain ⟨t9, hx9⟩ := hi.get i cz[i] hcz
    obtain rfl := Option.some.inj (hx9.symm.trans hv)
    obtain ⟨hc1, hc2⟩ := hc cz[i] (List.getElem_mem hi9)
    obtain ⟨hok1, hok2⟩ := hok i (Nat.le_of_lt hi9)
    have hok3 := (hok (i + 1) hi9).1
    have hwn := word_next hcz
    rw [hwn] at hok3
    have hok4 := esc_len hok3
    k_steps
    all_goals (refine ForPost.intro _ (by assumption) (by assumption) (fun p hp => hp) off9 ⟨rfl, word_same (show number + (i : Int) + 1 = number + ((i + 1 : Nat) : Int) by omega) ?_ (by rfl) (by rfl) ?_⟩)
    all_goals first | (intro z h1 h2 h3; simp only [h1, h2, h3, if_false]) | (rw [hwn]; unfold wordStep; first | rw [if_pos (by assumption)] | rw [if_neg (by omega)])
end Mine
end
section
open PySem PySem.W PyProof.Rows PySem.Calls
set_option maxRecDepth 100000
set_option maxHeartbeats 4000000
namespace Mine
theorem euler_b {n : Nat} (h1 : 1 ≤ n) (h4 : n ≤ 4) : (2 : Int) ^ (if (n : Int) - 1 > 0 then (n : Int) - 1 else 0).toNat = 0 + ((2 ^ (n - 1) : Nat) : Int) ∧ 2 ^ (n - 1) ≤ 8 := by
  have : n = 1 ∨ n = 2 ∨ n = 3 ∨ n = 4 := by omega
  rcases this with rfl | rfl | rfl | rfl <;> decide
noncomputable abbrev bitE (mask : Int) (p : Nat) : Prop := (mask.fdiv (2 ^ p)).fmod 2 = 1
noncomputable def bump (q : List Int) (p : Nat) : List Int := q.set p (q.getD p 0 + 1)
noncomputable def struckS (mask : Int) (n : Nat) : Nat → List Int
  | 0 => List.replicate n 0
  | p + 1 => if bitE mask p then bump (bump (struckS mask n p) p) (p + 1) else struckS mask n p
noncomputable def prodS (cz q : List Int) : Nat → Int
  | 0 => 1
  | p + 1 => if q.getD p 0 = 0 then prodS cz q p * cz.getD p 0 else prodS cz q p
noncomputable def termS (cz : List Int) (mask : Int) : Int :=
  if (struckS mask cz.length (cz.length - 1)).all (fun x => x < 2) then prodS cz (struckS mask cz.length (cz.length - 1)) cz.length else 0
noncomputable def sumS (cz : List Int) : Nat → Int
  | 0 => 0
  | i + 1 => sumS cz i + termS cz (0 + (i : Int))
noncomputable def eulerS (cz : List Int) : Int := sumS cz (2 ^ (cz.length - 1))
theorem struck_len (mask : Int) (n : Nat) : ∀ p, (struckS mask n p).length = n
  | 0 => List.length_replicate
  | p + 1 => by
    unfold struckS
    split
    · simp [bump, struck_len mask n p]
    · exact struck_len mask n p
noncomputable def EulJ (LED : List (Addr × Obj)) (m0 : Str → Option Value) (cz : List Int) (i : Nat) (m₁ : Str → Option Value) (nw : List (Addr × Obj)) : Prop :=
  nw = LED ∧ ∃ v t u1 u2 u3 u4, v = sumS cz i ∧ m₁ = fun z => if z = Str.ofString "added" then some (.int v t) else if z = Str.ofString "product" then u1 else if z = Str.ofString "place" then u2 else if z = Str.ofString "struck" then u3 else if z = Str.ofString "mask" then u4 else m0 z
theorem len_led {prog : Program} {w : World} {A : Around} {E : Value → Shared → Prop} {s : Shared} {h₀ : Heap} {L l : Addr} {news : List (Addr × Obj)} {us : List Value} {cz : List Int} {n : Nat} {Q : Value → Shared → Prop} (N : News h₀ L s.heap news) (hm : (l, listOf us.toArray n) ∈ news) (hi : IntsAre us cz) (hfit : cz.length ≤ 1000)
    (h : Q (.int (cz.length : Nat) (s.toks + 1)) { s with toks := s.toks + 1 + 1 }) : wpAny (model prog w) A (call (.builtin "len") [.ref l]) Q E s :=
  len_ints_fit (PySem.IsL.isList (n := n) (N _ hm).1) hi (by omega) h
noncomputable def StrJ (D : Addr) (LED : List (Addr × Obj)) (m0 : Str → Option Value) (mask : Int) (n : Nat) (p : Nat) (m₁ : Str → Option Value) (nw : List (Addr × Obj)) : Prop :=
  ∃ ys k, nw = (D, listOf ys.toArray k) :: LED ∧ IntsAre ys (struckS mask n p) ∧ ∃ u, m₁ = fun z => if z = Str.ofString "place" then u else m0 z
theorem struck_yes {mask : Int} {n p : Nat} {q : List Int} (h : (mask.fdiv (2 ^ (0 + (p : Int)).toNat)).fmod 2 = 1) (e : q = struckS mask n p) :
    (q.set (0 + (p : Int)).toNat (q.getD (0 + (p : Int)).toNat 0 + 1)).set (0 + (p : Int) + 1).toNat ((q.set (0 + (p : Int)).toNat (q.getD (0 + (p : Int)).toNat 0 + 1)).getD (0 + (p : Int) + 1).toNat 0 + 1) = struckS mask n (p + 1) := by
  have e1 : (0 + (p : Int)).toNat = p := by omega
  have e2 : (0 + (p : Int) + 1).toNat = p + 1 := by omega
  rw [e1] at h ⊢
  rw [e2]
  unfold struckS
  rw [if_pos (show bitE mask p from h), ← e]; rfl
theorem struck_no {mask : Int} {n p : Nat} (h : (mask.fdiv (2 ^ (0 + (p : Int)).toNat)).fmod 2 ≠ 1) : struckS mask n p = struckS mask n (p + 1) := by
  have e1 : (0 + (p : Int)).toNat = p := by omega
  rw [e1] at h
  conv => rhs; unfold struckS
  rw [if_neg (show ¬ bitE mask p from h)]
noncomputable def ProJ (LED : List (Addr × Obj)) (m0 : Str → Option Value) (cz q : List Int) (p : Nat) (m₁ : Str → Option Value) (nw : List (Addr × Obj)) : Prop :=
  nw = LED ∧ ∃ v t u, v = prodS cz q p ∧ m₁ = fun z => if z = Str.ofString "product" then some (.int v t) else if z = Str.ofString "place" then u else m0 z
theorem cz_bound {cz : List Int} (hc : ∀ c ∈ cz, -3 ≤ c ∧ c ≤ 3) (p : Nat) : -3 ≤ cz.getD (0 + (p : Int)).toNat 0 ∧ cz.getD (0 + (p : Int)).toNat 0 ≤ 3 := by
  by_cases q : (0 + (p : Int)).toNat < cz.length
  · have e2 : cz.getD (0 + (p : Int)).toNat 0 = cz[(0 + (p : Int)).toNat] := by unfold List.getD; rw [List.getElem?_eq_getElem q]; rfl
    rw [e2]; exact hc _ (List.getElem_mem q)
  · have e2 : cz.getD (0 + (p : Int)).toNat 0 = 0 := by unfold List.getD; rw [List.getElem?_eq_none (Nat.le_of_not_lt q)]; rfl
    rw [e2]; omega
theorem prod_yes {cz q : List Int} {p : Nat} (h : q.getD (0 + (p : Int)).toNat 0 = 0) : prodS cz q p * cz.getD (0 + (p : Int)).toNat 0 = prodS cz q (p + 1) := by
  rw [show (0 + (p : Int)).toNat = p by omega] at h ⊢
  conv => rhs; unfold prodS
  rw [if_pos h]
theorem prod_no {cz q : List Int} {p : Nat} (h : q.getD (0 + (p : Int)).toNat 0 ≠ 0) : prodS cz q p = prodS cz q (p + 1) := by
  rw [show (0 + (p : Int)).toNat = p by omega] at h
  conv => rhs; unfold prodS
  rw [if_neg h]
theorem sum_yes {cz : List Int} {i : Nat} {M : Int} (hm : ∀ a ∈ [0] ++ struckS (0 + (i : Int)) cz.length (cz.length - 1), a ≤ M) (h : M < 2) :
    sumS cz i + prodS cz (struckS (0 + (i : Int)) cz.length (cz.length - 1)) cz.length = sumS cz (i + 1) := by
  conv => rhs; unfold sumS termS
  rw [if_pos]
  rw [List.all_eq_true]
  intro a ha
  have := hm a (List.mem_append_right _ ha)
  exact decide_eq_true (by omega)
theorem sum_no {cz : List Int} {i : Nat} {M : Int} (hm : M ∈ [0] ++ struckS (0 + (i : Int)) cz.length (cz.length - 1)) (h : ¬ M < 2) : sumS cz i = sumS cz (i + 1) := by
  conv => rhs; unfold sumS termS
  rw [if_neg, Int.add_zero]
  intro q
  rw [List.all_eq_true] at q
  rcases List.mem_append.mp hm with z | z
  · rw [List.mem_singleton.mp z] at h; omega
  · exact h (of_decide_eq_true (q M z))
theorem spec_euler {w mean mg mb loose gd cn cs a ccd cl outer A₀ base h₀ L m news s Q E} (cL : Addr) (us : List Value) (cz : List Int) (n0 : Nat)
    (B : Below A₀ base outer h₀) (F : Fr h₀ L s.heap m) (X : (hd.heap_1 w.params).In h₀) (N : News h₀ L s.heap news) (T : Top hdView loose mean mg mb h₀) (hk : cs.kind = .function)
    (hm : (cL, listOf us.toArray n0) ∈ news) (hi : IntsAre us cz) (hc : ∀ c ∈ cz, -3 ≤ c ∧ c ≤ 3) (hlen : cz.length ≤ 4) (hlen1 : 1 ≤ cz.length)
    (ret : ∀ t h' tk', Fr h₀ L h' m → News h₀ L h' news → Q (.int (eulerS cz) t) { s with heap := h', toks := tk' }) :
    wpAny (model PySem.Challenge.rw_ty0056_02.prog w) (ktrTop 330 2000 gd cn cs L a ccd cl outer) (call (.ref 287) [.ref cL]) Q E s := by
  k_with_none
  w_top off
  k_with "k_all" => (refine' allLt_ne ?ah ?ad; (case ah => first | assumption | exact And.right (by assumption) | exact And.right (And.right (by assumption)) | exact And.right (And.right (And.right (by assumption))) | exact And.right (And.right (And.right (And.right (by assumption)))) | exact And.right (And.right (And.right (And.right (And.right (by assumption))))) | exact And.right (And.right (And.right (And.right (And.right (And.right (by assumption))))))); (case ad => first | exact Nat.le_refl _ | omega))
  k_with "k_all" => assumption
  k_with "k_mem" => assumption
  k_with "exec For Name Call cons nil" => (k_here; k_dflt (refine wpAny_For ?_ (by intro _; rfl)))
  k_with "call builtin:len" => (k_here; (with_reducible show wpAny _ _ (call (Value.builtin "len") [Value.ref _]) _ _ _); k_dflt (refine' len_led ?q1 ?q2 ?q3 ?q4 ?_; (case q1 => k_asm); (case q2 => k_mem); (case q3 => assumption); (case q4 => omega)); (try dsimp only))
  k_with "exec Assign cons ListComp" => (k_here; k_dflt (refine LCg.Assign_ListComp_U (F₀ := by k_asm) (by rfl) (by with_unfolding_all rfl) (by with_unfolding_all rfl) (by decide) (by rfl) (by decide) (by rfl) (by rfl) (by rfl) ?_))
  k_with "setItem ref int" => (k_here; (with_reducible show wpAny _ _ (setItem (Value.ref _) (Value.int _ _) (Value.int _ _)) _ _ _); k_dflt (refine' ksa_set ?k1 ?k2 ?k3 ?k4 ?k5 ?k6 ?k7 ?_; (case k1 => k_asm); (case k2 => k_asm); (case k3 => exact Upd.tail (by assumption) (Upd.head (by assumption))); (case k4 => assumption); (case k5 => ksa_idx); (case k6 => ksa_idx); (case k7 => ksa_idx)); intro h'q F'q N'q hi'q hl'q hs'q; (try dsimp only))
  have hlen2 : us.length = cz.length := hi.length
  revert X; k_fill; intro X
  refine wpAny_call ?_
  k_dflt cell_enter
  k_steps
  obtain ⟨eb1, eb2⟩ := euler_b hlen1 hlen
  rename IsRange _ _ _ _ _ _ _ _ => hrg
  rw [eb1] at hrg
  refine' for_range (2 ^ (cz.length - 1)) (EulJ _ _ cz) (by rfl) (by k_asm) (by k_asm) ⟨rfl, _, _, _, _, _, _, rfl, form5 ?w1 rfl rfl rfl rfl ?h0⟩ hrg (size_of rfl) (small_of (by omega) (by omega) (by rw [Int.zero_add]; exact Int.le_trans (by decide) (Int.natCast_nonneg _)) (by rw [Int.zero_add]; exact Int.ofNat_le.mpr (Nat.le_trans eb2 (by decide)))) (by rfl) (by rfl) ?hE ?turn ?done
  case w1 => rfl
  case h0 => exact fun _ _ _ _ _ _ => rfl
  case hE => passes_own
  case done =>
    rintro m₁ nw h tk ⟨rfl, v1, t1, u1, u2, u3, u4, rfl, rfl⟩ F9 N9
    (try dsimp only)
    k_steps
    exact ret _ _ _ (by assumption) (by assumption)
  case turn =>
    rintro i ti m₁ nw I oI h tk hi9 ⟨rfl, v1, t1, u1, u2, u3, u4, rfl, rfl⟩ htk9 F9 N9 off9 hoI9
    k_steps
    refine' LCg.CompSrc.ledger (by rfl) (by k_asm) (by k_asm) (by k_mem) ?hsz (fun g => comp_ind_U cz.length (fun i ys nw => nw = _ ∧ IntsAre ys (List.replicate i 0)) ?turn2 ?fin _ 0 [] _ ?e ⟨rfl, ?z⟩)
    case hsz => rw [List.size_toArray, sizeLine_eq]; omega
    case e => rw [List.size_toArray]; omega
    case z => exact .nil
    case turn2 =>
      rintro j ys nw2 v J oJ C oC D m₂ h2 tk2 E' hj ⟨rfl, hys⟩ hP hN hm2 F2 N2 off2 hne
      k_steps
      refine LCg.CompEnd.intro (by assumption) (by assumption) _ (fun p hp => hp) off2 (.inr ⟨_, by k_mem, rfl, _, rfl⟩) ⟨rfl, ?_⟩
      rw [List.replicate_succ']
      exact hys.append (.cons _ _ .nil)
    case fin =>
      rintro ys nw2 ⟨rfl, hys⟩ D h2 tk2 F2 N2 off2
      (try dsimp only)
      k_steps
      rename IsRange _ _ _ _ _ _ _ _ => hrg2
      have offD : ∀ p ∈ (I, oI) :: nw, p.1 ≠ D := off1_ne off2
      refine' for_range (cz.length - 1) (StrJ D ((I, oI) :: nw) _ (0 + (i : Int)) cz.length) (by rfl) (by k_asm) (by k_asm) ⟨ys, _, rfl, hys, _, form1 rfl ?g0⟩ hrg2 (size_of (by omega)) (small_of (by omega) (by omega) (by omega) (by omega)) (by rfl) (by rfl) ?gE ?gturn ?gdone
      case g0 => exact fun _ _ => rfl
      case gE => passes_own
      case gturn =>
        rintro p tp m₂ nw2 J oJ h3 tk3 hp9 ⟨ys3, k3, rfl, hys3, u5, rfl⟩ htk3 F3 N3 off3 hoJ3
        have hsl := struck_len (0 + (i : Int)) cz.length p
        have hyl := hys3.length
        have hJD : J ≠ D := (off3 _ List.mem_cons_self).symm
        k_steps
        · refine ForPost.intro _ (by assumption) (by assumption) (fun p hp => hp) (List.forall_mem_cons.mpr ⟨(Ne.symm hJD), fun p hp => off3 p (List.mem_cons_of_mem _ hp)⟩) ⟨_, _, rfl, ?_, _, form1 (by rfl) (by intro z h1; simp only [h1, if_false])⟩
          rw [← struck_yes (by assumption) rfl]; assumption
        · refine ForPost.intro _ (by assumption) (by assumption) (fun p hp => hp) off3 ⟨_, _, rfl, ?_, _, form1 rfl fun z h1 => by simp only [h1, if_false]⟩
          rw [← struck_no (by assumption)]; exact hys3
      case gdone =>
        rintro m₂ nw2 h3 tk3 ⟨ys3, k3, rfl, hys3, u5, rfl⟩ F3 N3
        have hsl := struck_len (0 + (i : Int)) cz.length (cz.length - 1)
        have hyl := hys3.length
        (try dsimp only)
        k_steps
        · rename IsRange _ _ _ _ _ _ _ _ => hrg3
          refine' for_range cz.length (ProJ _ _ cz (struckS (0 + (i : Int)) cz.length (cz.length - 1))) (by rfl) (by k_asm) (by k_asm) ⟨rfl, _, _, _, rfl, form2 rfl rfl ?f0⟩ hrg3 (size_of (by omega)) (small_of (by omega) (by omega) (by omega) (by omega)) (by rfl) (by rfl) ?fE ?fturn ?fdone
          case f0 => exact fun _ _ _ => rfl
          case fE => passes_own
          case fturn =>
            rintro p tp m₂ nw2 J oJ h3 tk3 hp9 ⟨rfl, v6, t6, u6, rfl, rfl⟩ htk3 F3 N3 off3 hoJ3
            obtain ⟨hb1, hb2⟩ := cz_bound hc p
            k_steps
            · refine ForPost.intro _ (by assumption) (by assumption) (fun p hp => hp) off3 ⟨rfl, _, _, _, prod_yes (by assumption), form2 (by rfl) (by rfl) (by intro z h1 h2; simp only [h1, h2, if_false])⟩
            · refine ForPost.intro _ (by assumption) (by assumption) (fun p hp => hp) off3 ⟨rfl, _, _, _, prod_no (by assumption), form2 (by rfl) (by rfl) (by intro z h1 h2; simp only [h1, h2, if_false])⟩
          case fdone =>
            rintro m₂ nw2 h3 tk3 ⟨rfl, v6, t6, u6, rfl, rfl⟩ F3 N3
            (try dsimp only)
            k_steps
            refine ForPost.intro nw (by assumption) (by assumption) (fun p hp => List.mem_cons_of_mem _ (List.mem_cons_of_mem _ (List.mem_cons_of_mem _ hp))) off9 ⟨rfl, _, _, _, _, _, _, sum_yes (by assumption) (by assumption), form5 (by rfl) (by rfl) (by rfl) (by rfl) (by rfl) (by intro z h1 h2 h3 h4 h5; simp only [h1, h2, h3, h4, h5, if_false])⟩
        · refine ForPost.intro nw (by assumption) (by assumption) (fun p hp => List.mem_cons_of_mem _ (List.mem_cons_of_mem _ (List.mem_cons_of_mem _ hp))) off9 ⟨rfl, _, _, _, _, _, _, sum_no (by assumption) (by assumption), form5 (by rfl) (by rfl) (by rfl) (by rfl) (by rfl) (by intro z h1 h2 h3 h4 h5; simp only [h1, h2, h3, h4, h5, if_false])⟩
end Mine
end
section
open PySem PySem.W PyProof.Rows PySem.Calls
set_option maxRecDepth 100000
set_option maxHeartbeats 4000000
namespace Mine
noncomputable def valD (x : Str) (D : List (PyData × PyData)) : Int := match PySem.Spec.lookup (.str x) D with
  | some (.int k) => k
  | _ => 0
noncomputable def huesD (cr : List Str) (size first step : Int) : Nat → List (PyData × PyData)
  | 0 => [(.str (Str.ofString "a"), .int first), (.str (Str.ofString "b"), .int ((first + step).fmod size))]
  | i + 1 => PyProof.V.putD (.str (Txt.item (cr.getD i (Str.ofString "")) 2)) (.int ((2 * valD (Txt.item (cr.getD i (Str.ofString "")) 0) (huesD cr size first step i) - valD (Txt.item (cr.getD i (Str.ofString "")) 1) (huesD cr size first step i)).fmod size)) (huesD cr size first step i)
theorem hues_next {cr : List Str} {size first step x y v : Int} {i : Nat} (hi : i < cr.length) (hx : PySem.Spec.lookup (.str (Txt.item cr[i] 0)) (huesD cr size first step i) = some (.int x)) (hy : PySem.Spec.lookup (.str (Txt.item cr[i] 1)) (huesD cr size first step i) = some (.int y)) (hv : v = (2 * x - y).fmod size) :
    PyProof.V.putD (.str (Txt.item cr[i] 2)) (.int v) (huesD cr size first step i) = huesD cr size first step (i + 1) := by
  have e : cr.getD i (Str.ofString "") = cr[i] := by unfold List.getD; rw [List.getElem?_eq_getElem hi]; rfl
  conv => rhs; unfold huesD
  rw [e]
  unfold valD
  rw [hx, hy, hv]
theorem hues_len (cr : List Str) (size first step : Int) : ∀ i, (huesD cr size first step i).length ≤ i + 2
  | 0 => Nat.le_refl _
  | i + 1 => Nat.le_trans (PyProof.V.putD_length_le _ _ _) (Nat.succ_le_succ (hues_len cr size first step i))
noncomputable abbrev fracF (a b : Int) : UInt64 := Float64.ofFrac (decide (a < 0) != decide (b < 0)) a.natAbs b.natAbs
noncomputable def chkE (size turn : Int) : Bool :=
  hsvOk (fracF (turn + size) size) && match rgbHlsF (hsvRgbF (fracF (turn + size) size) 4602678819172646912 4607182418800017408).1 (hsvRgbF (fracF (turn + size) size) 4602678819172646912 4607182418800017408).2.1 (hsvRgbF (fracF (turn + size) size) 4602678819172646912 4607182418800017408).2.2 with
  | some (h, _, _) => !Float64.isNaN (Float64.add (Float64.mul h (Float64.ofInt size)) 4602678819172646912) && !Float64.isInf (Float64.add (Float64.mul h (Float64.ofInt size)) 4602678819172646912) && decide ((Flt.toInt Float64.truncOf (Float64.add (Float64.mul h (Float64.ofInt size)) 4602678819172646912)).fmod size = turn.fmod size)
  | none => false
noncomputable def chkO (size turn : Int) : Bool :=
  match rgbHsvF (hlsRgbF (fracF turn size) 4598175219545276416 4607182418800017408).1 (hlsRgbF (fracF turn size) 4598175219545276416 4607182418800017408).2.1 (hlsRgbF (fracF turn size) 4598175219545276416 4607182418800017408).2.2 with
  | some (h, _, _) => !Float64.isNaN (Float64.add (Float64.mul h (Float64.ofInt size)) 4602678819172646912) && !Float64.isInf (Float64.add (Float64.mul h (Float64.ofInt size)) 4602678819172646912) && decide ((Flt.toInt Float64.truncOf (Float64.add (Float64.mul h (Float64.ofInt size)) 4602678819172646912)).fmod size = turn.fmod size)
  | none => false
theorem chk_3 : ∀ t : Nat, t < 7 → (chkE 3 ((t : Int) - 2) && chkO 3 ((t : Int) - 2)) = true := by decide +kernel
theorem chk_4 : ∀ t : Nat, t < 10 → (chkE 4 ((t : Int) - 3) && chkO 4 ((t : Int) - 3)) = true := by decide +kernel
theorem chk_5 : ∀ t : Nat, t < 13 → (chkE 5 ((t : Int) - 4) && chkO 5 ((t : Int) - 4)) = true := by decide +kernel
theorem chk_6 : ∀ t : Nat, t < 16 → (chkE 6 ((t : Int) - 5) && chkO 6 ((t : Int) - 5)) = true := by decide +kernel
theorem chk_7 : ∀ t : Nat, t < 19 → (chkE 7 ((t : Int) - 6) && chkO 7 ((t : Int) - 6)) = true := by decide +kernel
theorem chk_8 : ∀ t : Nat, t < 22 → (chkE 8 ((t : Int) - 7) && chkO 8 ((t : Int) - 7)) = true := by decide +kernel
theorem chk_9 : ∀ t : Nat, t < 25 → (chkE 9 ((t : Int) - 8) && chkO 9 ((t : Int) - 8)) = true := by decide +kernel
theorem chk_all {size turn : Int} (h1 : 3 ≤ size) (h2 : size ≤ 9) (h3 : -size < turn) (h4 : turn < 2 * size - 1) : chkE size turn = true ∧ chkO size turn = true := by
  rw [← Bool.and_eq_true]
  have hs : size = 3 ∨ size = 4 ∨ size = 5 ∨ size = 6 ∨ size = 7 ∨ size = 8 ∨ size = 9 := by omega
  rcases hs with rfl | rfl | rfl | rfl | rfl | rfl | rfl
  · have := chk_3 (turn + 2).toNat (by omega); rwa [show ((turn + 2).toNat : Int) - 2 = turn by omega] at this
  · have := chk_4 (turn + 3).toNat (by omega); rwa [show ((turn + 3).toNat : Int) - 3 = turn by omega] at this
  · have := chk_5 (turn + 4).toNat (by omega); rwa [show ((turn + 4).toNat : Int) - 4 = turn by omega] at this
  · have := chk_6 (turn + 5).toNat (by omega); rwa [show ((turn + 5).toNat : Int) - 5 = turn by omega] at this
  · have := chk_7 (turn + 6).toNat (by omega); rwa [show ((turn + 6).toNat : Int) - 6 = turn by omega] at this
  · have := chk_8 (turn + 7).toNat (by omega); rwa [show ((turn + 7).toNat : Int) - 7 = turn by omega] at this
  · have := chk_9 (turn + 8).toNat (by omega); rwa [show ((turn + 8).toNat : Int) - 8 = turn by omega] at this
theorem hue_even {size turn : Int} (h1 : 3 ≤ size) (h2 : size ≤ 9) (h3 : -size < turn) (h4 : turn < 2 * size - 1) : hsvOk (fracF (turn + size) size) = true ∧
    ∃ h l c, rgbHlsF (hsvRgbF (fracF (turn + size) size) 4602678819172646912 4607182418800017408).1 (hsvRgbF (fracF (turn + size) size) 4602678819172646912 4607182418800017408).2.1 (hsvRgbF (fracF (turn + size) size) 4602678819172646912 4607182418800017408).2.2 = some (h, l, c) ∧
      Float64.isNaN (Float64.add (Float64.mul h (Float64.ofInt size)) 4602678819172646912) = false ∧ Float64.isInf (Float64.add (Float64.mul h (Float64.ofInt size)) 4602678819172646912) = false ∧ (Flt.toInt Float64.truncOf (Float64.add (Float64.mul h (Float64.ofInt size)) 4602678819172646912)).fmod size = turn.fmod size := by
  have h := (chk_all h1 h2 h3 h4).1
  unfold chkE at h
  rw [Bool.and_eq_true] at h
  refine ⟨h.1, ?_⟩
  have h := h.2
  split at h
  · next h l c e =>
    simp only [Bool.and_eq_true, Bool.not_eq_true', decide_eq_true_eq] at h
    exact ⟨_, _, _, e, h.1.1, h.1.2, h.2⟩
  · cases h
theorem hue_odd {size turn : Int} (h1 : 3 ≤ size) (h2 : size ≤ 9) (h3 : -size < turn) (h4 : turn < 2 * size - 1) :
    ∃ h l c, rgbHsvF (hlsRgbF (fracF turn size) 4598175219545276416 4607182418800017408).1 (hlsRgbF (fracF turn size) 4598175219545276416 4607182418800017408).2.1 (hlsRgbF (fracF turn size) 4598175219545276416 4607182418800017408).2.2 = some (h, l, c) ∧
      Float64.isNaN (Float64.add (Float64.mul h (Float64.ofInt size)) 4602678819172646912) = false ∧ Float64.isInf (Float64.add (Float64.mul h (Float64.ofInt size)) 4602678819172646912) = false ∧ (Flt.toInt Float64.truncOf (Float64.add (Float64.mul h (Float64.ofInt size)) 4602678819172646912)).fmod size = turn.fmod size := by
  have h := (chk_all h1 h2 h3 h4).2
  unfold chkO at h
  split at h
  · next h l c e =>
    simp only [Bool.and_eq_true, Bool.not_eq_true', decide_eq_true_eq] at h
    exact ⟨_, _, _, e, h.1.1, h.1.2, h.2⟩
  · cases h
end Mine
end
section
open PySem PySem.W PyProof.Rows PySem.Calls
set_option maxRecDepth 100000
set_option maxHeartbeats 4000000
namespace Mine
section
variable {prog : Program} {w : World} {A : Around} {E : Value → Shared → Prop} {s : Shared} {h₀ : Heap} {L l : Addr} {news L9 : List (Addr × Obj)} {us : List Value} {cr : List Str} {n : Nat}
theorem strs_len {Q : Value → Shared → Prop} (N : News h₀ L s.heap news) (hm : (l, listOf us.toArray n) ∈ news) (hd : DatAll L9 us (cr.map Dat.str)) (hfit : cr.length ≤ 1000)
    (h : Q (.int (cr.length : Int) (s.toks + 1)) { s with toks := s.toks + 1 + 1 }) : wpAny (model prog w) A (call (.builtin "len") [.ref l]) Q E s := by
  have e : (cr.map Dat.str).length = cr.length := by simp
  exact kd_len N hm hd (by rw [e]; omega) (by rw [e]; exact h)
theorem strs_item {value slice : PySem.Expr} {k : Int} {u : Tok} {Q : Value → Shared → Prop} (N : News h₀ L s.heap news) (hm : (l, listOf us.toArray n) ∈ news) (hd : DatAll L9 us (cr.map Dat.str))
    (j : Nat) (hk : k = j) (hj : j < cr.length) (hfit : cr.length ≤ 1000) (h : ∀ t, Q (.str cr[j] t) s)
    (hs : subscripted slice false (.ref l) (.int k u) = operate [.ref l, .int k u] (getItem (.ref l) (.int k u)) := by with_unfolding_all rfl) :
    wpAny (model prog w) A (subscriptTail value slice (.ref l) (.int k u)) Q E s := by
  have e : (cr.map Dat.str).length = cr.length := by simp
  refine kd_item N hm hd (by omega) (by rw [e]; omega) (by omega) (fun v d hv _ hD => ?_) hs
  subst hk
  rw [Int.toNat_natCast] at hv
  have e2 : (cr.map Dat.str)[j]? = some (.str cr[j]) := by simp [hj]
  rw [e2] at hv
  obtain rfl := Option.some.inj hv
  cases hD
  exact h _
theorem strs_get {i : Nat} {v : Value} (h : DatAll L9 us (cr.map Dat.str)) (hv : us.toArray[i]? = some v) : ∃ hi : i < cr.length, ∃ t, v = .str cr[i] t := by
  have hl : us.length = cr.length := by rw [h.length]; simp
  have hi : i < us.length := by
    rcases Nat.lt_or_ge i us.length with q | q
    · exact q
    · simp [q] at hv
  have hi' : i < (cr.map Dat.str).length := by simpa [← hl] using hi
  obtain ⟨v', hv', hD⟩ := h.get hi'
  have : v' = v := by
    have e : us[i]? = some v := by simpa using hv
    rw [e] at hv'; exact (Option.some.inj hv').symm
  subst this
  have e2 : (cr.map Dat.str)[i]'hi' = .str (cr[i]'(hl ▸ hi)) := by simp
  rw [e2] at hD
  cases hD
  exact ⟨hl ▸ hi, _, rfl⟩
theorem call_int_ok {x : UInt64} {t : Tok} {Q : Value → Shared → Prop} (hA : A.handled = none) (hn : Float64.isNaN x = false) (hi : Float64.isInf x = false) (h : Q (.int (Flt.toInt Float64.truncOf x) s.toks) { s with toks := s.toks + 1 }) : wpAny (model prog w) A (call (.type "int") [.float x t]) Q E s :=
  Flt.call_int_float3 hA (fun q => by rw [hn] at q; cases q) (fun q => by rw [hi] at q; cases q) (fun _ => h)
theorem hues_item {value slice : PySem.Expr} {d : Addr} {o : Obj} {x : Str} {t : Tok} {k : Int} {kvs : List (Str × Value)} {D : List (PyData × PyData)} {Q : Value → Shared → Prop} (N : News h₀ L s.heap news) (hm : (d, o) ∈ news) (lo : (d == sysModules) = false) (hd : o.IsDictOf (strKind prog w) kvs) (hf : PyProof.V.FlatPairs PyData.str kvs D) (hl : PySem.Spec.lookup (.str x) D = some (.int k))
    (h : ∀ u, Q (.int k u) { s with toks := s.toks + 1 })
    (hs : subscripted slice false (.ref d) (.str x t) = operate [.ref d, .str x t] (getItem (.ref d) (.str x t)) := by with_unfolding_all rfl) (hg : ∀ r, letTemporaryGo value (.ref d) r = pure () := by intro _; with_unfolding_all rfl) :
    wpAny (model prog w) A (subscriptTail value slice (.ref d) (.str x t)) Q E s :=
  item_strTab (TabAt.ofObj lo (N _ hm).1 hd hf) hl (fun v hv => by cases hv s.heap; exact h _) hs hg
end
noncomputable def EndJ (w : World) (H C : Addr) (oC : Obj) (LED : List (Addr × Obj)) (m0 : Str → Option Value) (cr : List Str) (size first step : Int) (i : Nat) (m₁ : Str → Option Value) (nw : List (Addr × Obj)) : Prop :=
  ∃ oH kvs u1 u2 u3 u4 u5, nw = (H, oH) :: (C, oC) :: LED ∧ oH.IsDictOf (strKind PySem.Challenge.rw_ty0056_02.prog w) kvs ∧ PyProof.V.FlatPairs PyData.str kvs (huesD cr size first step i) ∧
    m₁ = fun z => if z = Str.ofString "hue" then u1 else if z = Str.ofString "paint" then u2 else if z = Str.ofString "turn" then u3 else if z = Str.ofString "letters" then u4 else if z = Str.ofString "place" then u5 else m0 z
theorem up_ne {l : List (Addr × Obj)} {d a : Addr} {o : Obj} (h : ∀ p ∈ l, @LT.lt Nat _ p.1 d) (hm : (a, o) ∈ l) : d ≠ a := Nat.ne_of_gt (h _ hm)
theorem spec_ends {w mean mg mb loose gd cn cs a ccd cl outer A₀ base h₀ L m news s Q E} (cD eD : Addr) (us vs : List Value) (cr en : List Str) (n0 n1 : Nat) (size first step : Int) (t1 t2 t3 : Tok) (Lc Le : List (Addr × Obj))
    (B : Below A₀ base outer h₀) (F : Fr h₀ L s.heap m) (X : (hd.heap_1 w.params).In h₀) (N : News h₀ L s.heap news) (T : Top hdView loose mean mg mb h₀) (hk : cs.kind = .function)
    (hcm : (cD, listOf us.toArray n0) ∈ news) (hcd : DatAll Lc us (cr.map Dat.str)) (hem : (eD, listOf vs.toArray n1) ∈ news) (hed : DatAll Le vs (en.map Dat.str))
    (hs : 3 ≤ size ∧ size ≤ 9) (hf : 0 ≤ first ∧ first < size) (hst : 0 ≤ step ∧ step < size) (hcl : cr.length ≤ 12) (hel : en.length ≤ 4)
    (hok : ∀ i (hi : i < cr.length), cr[i].length = 3 ∧ (∃ x, PySem.Spec.lookup (.str (Txt.item cr[i] 0)) (huesD cr size first step i) = some (.int x) ∧ 0 ≤ x ∧ x < size) ∧ (∃ y, PySem.Spec.lookup (.str (Txt.item cr[i] 1)) (huesD cr size first step i) = some (.int y) ∧ 0 ≤ y ∧ y < size))
    (hoe : ∀ e ∈ en, ∃ x, PySem.Spec.lookup (.str e) (huesD cr size first step cr.length) = some (.int x))
    (ret : ∀ D ys h' tk', Fr h₀ L h' m → News h₀ L h' ((D, listOf ys.toArray ys.length) :: news) → (∀ p ∈ news, p.1 ≠ D) → IntsAre ys (en.map fun e => valD e (huesD cr size first step cr.length)) → Q (.ref D) { s with heap := h', toks := tk' }) :
    wpAny (model PySem.Challenge.rw_ty0056_02.prog w) (ktrTop 330 2000 gd cn cs L a ccd cl outer) (call (.ref 282) [.ref cD, .ref eD, .int size t1, .int first t2, .int step t3]) Q E s := by
  k_with_none
  w_top off
  k_with "k_all" => (refine' allLt_ne ?ah ?ad; (case ah => first | assumption | exact And.right (by assumption) | exact And.right (And.right (by assumption)) | exact And.right (And.right (And.right (by assumption))) | exact And.right (And.right (And.right (And.right (by assumption)))) | exact And.right (And.right (And.right (And.right (And.right (by assumption))))) | exact And.right (And.right (And.right (And.right (And.right (And.right (by assumption))))))); (case ad => first | exact Nat.le_refl _ | omega))
  k_with "k_all" => assumption
  k_with "k_all" => (refine' mem_ne ?ah ?ad; (case ah => assumption); (case ad => first | exact Nat.le_refl _ | exact Nat.le_succ _ | omega))
  k_with "k_ne" => (exact Ne.symm ((by assumption : ∀ p ∈ ((_, _) :: _ : List (Addr × Obj)), p.1 ≠ _) (_, _) List.mem_cons_self))
  k_with "k_mem" => assumption
  k_with "exec For Name Call cons nil" => (k_here; k_dflt (refine wpAny_For ?_ (by intro _; rfl)))
  k_with "call builtin:len" => (k_here; (with_reducible show wpAny _ _ (call (Value.builtin "len") [Value.ref _]) _ _ _); k_dflt (refine' strs_len ?q1 ?q2 ?q3 ?q4 ?_; (case q1 => k_asm); (case q2 => k_mem); (case q3 => assumption); (case q4 => omega)); (try dsimp only))
  k_with "call ref" => (k_here; (with_reducible show wpAny _ _ (call (Value.ref 73) _) _ _ _); k_dflt (refine' room ?d1 ?d2 (spec_hsv_to_rgb _ _ _ _ _ _ _ _ _ ?k1 ?k2 ?k3 ?k4 ?k5 ?k6 ?k7 ?k8 ?_); (case d1 => exact Nat.le_of_ble_eq_true rfl); (case d2 => exact Nat.le_of_ble_eq_true rfl); (case k1 => k_asm); (case k2 => k_asm); (case k3 => k_asm); (case k4 => k_asm); (case k5 => k_asm); (case k6 => first | exact rfl | assumption); (case k7 => with_reducible assumption); (case k8 => with_reducible assumption)); intro D7q t71q t72q t73q h7q tk7q F7q N7q l7q; (try dsimp only); (try k_fold))
  k_with "call ref" => (k_here; (with_reducible show wpAny _ _ (call (Value.ref 52) _) _ _ _); k_dflt (refine' room ?d1 ?d2 (spec_hls_to_rgb _ _ _ _ _ _ _ _ _ ?k1 ?k2 ?k3 ?k4 ?k5 ?k6 ?k7 ?_); (case d1 => exact Nat.le_of_ble_eq_true rfl); (case d2 => exact Nat.le_of_ble_eq_true rfl); (case k1 => k_asm); (case k2 => k_asm); (case k3 => k_asm); (case k4 => k_asm); (case k5 => k_asm); (case k6 => first | exact rfl | assumption); (case k7 => with_reducible assumption)); intro D7q t71q t72q t73q h7q tk7q F7q N7q l7q; (try dsimp only); (try k_fold))
  k_with "call ref" => (k_here; (with_reducible show wpAny _ _ (call (Value.ref 45) _) _ _ _); k_dflt (refine' room ?d1 ?d2 (spec_rgb_to_hls _ _ _ _ _ _ _ _ _ ?k1 ?k2 ?k3 ?k4 ?k5 ?k6 ?k7 ?_); (case d1 => exact Nat.le_of_ble_eq_true rfl); (case d2 => exact Nat.le_of_ble_eq_true rfl); (case k1 => k_asm); (case k2 => k_asm); (case k3 => k_asm); (case k4 => k_asm); (case k5 => k_asm); (case k6 => first | exact rfl | assumption); (case k7 => with_reducible assumption)); intro D7q t71q t72q t73q h7q tk7q F7q N7q l7q; (try dsimp only); (try k_fold))
  k_with "call ref" => (k_here; (with_reducible show wpAny _ _ (call (Value.ref 66) _) _ _ _); k_dflt (refine' room ?d1 ?d2 (spec_rgb_to_hsv _ _ _ _ _ _ _ _ _ ?k1 ?k2 ?k3 ?k4 ?k5 ?k6 ?k7 ?_); (case d1 => exact Nat.le_of_ble_eq_true rfl); (case d2 => exact Nat.le_of_ble_eq_true rfl); (case k1 => k_asm); (case k2 => k_asm); (case k3 => k_asm); (case k4 => k_asm); (case k5 => k_asm); (case k6 => first | exact rfl | assumption); (case k7 => with_reducible assumption)); intro D7q t71q t72q t73q h7q tk7q F7q N7q l7q; (try dsimp only); (try k_fold))
  k_with "call type:int" => (k_here; k_dflt (refine' call_int_ok ?q1 ?q2 ?q3 ?_; (case q1 => rfl); (case q2 => with_reducible assumption); (case q3 => with_reducible assumption)); (try dsimp only))
  k_with "subscriptTail" => (k_here; (with_reducible show wpAny _ _ (subscriptTail _ _ (Value.ref _) (Value.int (0 + _) _)) _ _ _); k_dflt (refine' strs_item ?q1 ?q2 ?q3 _ ?q4 ?q5 ?q6 ?_ (by with_unfolding_all rfl); (case q1 => k_asm); (case q2 => k_mem); (case q3 => assumption); (case q4 => exact Int.zero_add _); (case q5 => omega); (case q6 => omega)); intro t6q; (try dsimp only); (try k_fold))
  k_with "subscriptTail" => (k_here; (with_reducible show wpAny _ _ (subscriptTail _ _ (Value.ref _) (Value.str _ _)) _ _ _); k_dflt (refine' hues_item ?q1 ?q2 ?q3 ?q4 ?q5 ?q6 ?_ (by with_unfolding_all rfl) (by intro _; with_unfolding_all rfl); (case q1 => k_asm); (case q2 => k_mem); (case q3 => assumption); (case q4 => assumption); (case q5 => assumption); (case q6 => assumption)); intro t6q; (try dsimp only); (try k_fold))
  k_with "setItem ref str" => (k_here; (with_reducible show wpAny _ _ (setItem (Value.ref _) (Value.str _ _) (Value.int _ _)) _ _ _); k_dflt (refine' setItem_K PyProof.V.same_str (strKind_is _ _ _ _) ?v ?F ?N ?U ?d ?f ?_ ?z; (case F => k_asm); (case N => k_asm); (case U => exact UpdF.tail (up_ne (by assumption) (List.mem_cons_of_mem _ (List.mem_cons_of_mem _ List.mem_cons_self))) (UpdF.tail (up_ne (by assumption) (List.mem_cons_of_mem _ List.mem_cons_self)) (UpdF.tail (by assumption) (UpdF.head (List.forall_mem_cons.mpr ⟨by assumption, by assumption⟩))))); (case d => assumption); (case f => assumption); (case z => exact Nat.le_trans (hues_len _ _ _ _ _) (by rw [sizeLine_eq]; omega)); (case v => k_flat)); intro h'q o'q F'q N'q hd'q hf'q; (try dsimp only at N'q))
  k_with "eval ListComp" => (k_here; k_dflt (refine LCg.ListComp_U (F₀ := by k_asm) (by with_unfolding_all rfl) (by decide) (by rfl) (by decide) (by rfl) ?_))
  have hul : us.length = cr.length := by rw [hcd.length]; simp
  have hvl : vs.length = en.length := by rw [hed.length]; simp
  revert X; k_fill; intro X
  rcases cs with ⟨ck, c2, c3, c4, c5⟩
  obtain rfl : ck = .function := hk
  refine wpAny_call ?_
  k_dflt k_enter
  k_steps
  rename (_ == sysModules) = false => hlo
  rename Obj.IsDictOf _ _ _ => hdo
  rename PyProof.V.FlatPairs _ _ _ => hfp
  rename _ = Data.cell (some _) => hcell
  have hap := (by assumption : ∀ p ∈ ((_, _) :: _ : List (Addr × Obj)), p.1 ≠ _)
  rename IsRange _ _ _ _ _ _ _ _ => hrg
  refine' for_range cr.length (EndJ w _ _ _ news _ cr size first step) (by rfl) (by k_asm) (by k_asm) ⟨_, _, _, _, _, _, _, rfl, hdo, hfp, form5 rfl rfl rfl rfl rfl ?g0⟩ hrg (size_of (by omega)) (small_of (by omega) (by omega) (by omega) (by omega)) (by rfl) (by rfl) ?gE ?turn ?done
  case g0 => exact fun _ _ _ _ _ _ => rfl
  case gE => passes_own
  case turn =>
    rintro i ti m₂ nw2 I oI h3 tk3 hi9 ⟨oH, kvs, u1, u2, u3, u4, u5, rfl, hd3, hf3, rfl⟩ htk3 F3 N3 off3 hoI3
    obtain ⟨hc3, ⟨x9, hx9, hx0, hx1⟩, ⟨y9, hy9, hy0, hy1⟩⟩ := hok i hi9
    have htn1 : -size < 2 * x9 - y9 := by omega
    have htn2 : 2 * x9 - y9 < 2 * size - 1 := by omega
    obtain ⟨hE0, hh1, hl1, hc1, hE1, hE2, hE3, hE4⟩ := hue_even hs.1 hs.2 htn1 htn2
    obtain ⟨hh2, hl2, hc2, hO1, hO2, hO3, hO4⟩ := hue_odd hs.1 hs.2 htn1 htn2
    obtain ⟨r1, r2, r3, hR⟩ : ∃ r1 r2 r3, hsvRgbF (fracF (2 * x9 - y9 + size) size) 4602678819172646912 4607182418800017408 = (r1, r2, r3) := ⟨_, _, _, rfl⟩
    obtain ⟨r4, r5, r6, hS⟩ : ∃ r1 r2 r3, hlsRgbF (fracF (2 * x9 - y9) size) 4598175219545276416 4607182418800017408 = (r1, r2, r3) := ⟨_, _, _, rfl⟩
    simp only [hR] at hE1
    simp only [hS] at hO1
    have hIH := (off3 _ List.mem_cons_self).symm
    dsimp only at hIH
    have hCH := hap _ List.mem_cons_self
    dsimp only at hCH
    have hNH := fun p hp => hap p (List.mem_cons_of_mem _ hp)
    k_steps
    · refine ForPost.intro _ (by assumption) (by assumption) (fun p hp => List.mem_cons_of_mem _ (List.mem_cons_of_mem _ hp)) (List.forall_mem_cons.mpr ⟨Ne.symm hIH, fun p hp => off3 p (List.mem_cons_of_mem _ hp)⟩) ⟨_, _, _, _, _, _, _, rfl, (by assumption), (by have e := hues_next hi9 hx9 hy9 hE4; rw [← e]; assumption), form5 (by rfl) (by rfl) (by rfl) (by rfl) (by rfl) (by intro z h1 h2 h3 h4 h5; simp only [h1, h2, h3, h4, h5, if_false])⟩
    · refine ForPost.intro _ (by assumption) (by assumption) (fun p hp => List.mem_cons_of_mem _ (List.mem_cons_of_mem _ hp)) (List.forall_mem_cons.mpr ⟨Ne.symm hIH, fun p hp => off3 p (List.mem_cons_of_mem _ hp)⟩) ⟨_, _, _, _, _, _, _, rfl, (by assumption), (by have e := hues_next hi9 hx9 hy9 hO4; rw [← e]; assumption), form5 (by rfl) (by rfl) (by rfl) (by rfl) (by rfl) (by intro z h1 h2 h3 h4 h5; simp only [h1, h2, h3, h4, h5, if_false])⟩
  case done =>
    rintro m₂ nw2 h3 tk3 ⟨oH, kvs, u1, u2, u3, u4, u5, rfl, hd3, hf3, rfl⟩ F3 N3
    (try dsimp only)
    k_steps
    refine' LCg.CompSrc.ledger (by rfl) (by k_asm) (by k_asm) (by k_mem) ?hsz (fun g => comp_ind_U en.length (fun i ys nw => nw = _ ∧ IntsAre ys ((en.take i).map fun e => valD e (huesD cr size first step cr.length))) ?turn2 ?fin _ 0 [] _ ?e ⟨rfl, ?z⟩)
    case hsz => rw [List.size_toArray, sizeLine_eq]; omega
    case e => rw [List.size_toArray]; omega
    case z => exact .nil
    case turn2 =>
      rintro j ys nw2 v J oJ C oC D m₂ h2 tk2 E' hj ⟨rfl, hys⟩ hP hN hm2 F2 N2 off2 hne
      obtain ⟨hj2, t9, rfl⟩ := strs_get hed hP
      obtain ⟨x9, hx9⟩ := hoe _ (List.getElem_mem hj2)
      k_steps
      refine LCg.CompEnd.intro (by assumption) (by assumption) _ (fun p hp => hp) off2 (.inr ⟨_, by k_mem, rfl, _, rfl⟩) ⟨rfl, ?_⟩
      have e9 : valD en[j] (huesD cr size first step cr.length) = x9 := by unfold valD; rw [hx9]
      rw [List.take_succ_eq_append_getElem hj2, List.map_append, List.map_cons, e9]
      exact hys.append (.cons _ _ .nil)
    case fin =>
      rintro ys nw2 ⟨rfl, hys⟩ D h2 tk2 F2 N2 off2
      (try dsimp only)
      rw [List.take_length] at hys
      k_steps
      refine ret D ys _ _ (by assumption) (news_sub (by assumption) fun p hp => ?_) (fun p hp => off1_ne off2 p (List.mem_cons_of_mem _ (List.mem_cons_of_mem _ hp))) hys
      rcases List.mem_cons.mp hp with rfl | hp
      · exact List.mem_cons_self
      · exact List.mem_cons_of_mem _ (List.mem_cons_of_mem _ (List.mem_cons_of_mem _ hp))
end Mine
end
section
open PySem PySem.W PyProof.Rows PySem.Calls
set_option maxRecDepth 100000
namespace Mine
noncomputable def escC (c : Nat) : List Nat := if c = 38 then [38, 97, 109, 112, 59] else if c = 60 then [38, 108, 116, 59] else if c = 62 then [38, 103, 116, 59] else [c]
theorem esc_T (l : List Nat) : esc (T l) = T (l.flatMap escC) := by
  have e : ∀ c z l, repl c z (T l) = T (l.flatMap fun a => if a = c then z.cps.toList else [a]) := fun c z l => by
    unfold repl; rw [T_list]; rfl
  unfold esc
  rw [e, e, e]
  simp only [show (Str.ofString "&gt;").cps.toList = [38, 103, 116, 59] from by decide, show (Str.ofString "&lt;").cps.toList = [38, 108, 116, 59] from by decide, show (Str.ofString "&amp;").cps.toList = [38, 97, 109, 112, 59] from by decide]
  congr 1
  rw [List.flatMap_assoc, List.flatMap_assoc]
  congr 1
  funext a
  unfold escC
  by_cases h1 : a = 38
  · subst h1; rfl
  by_cases h2 : a = 60
  · subst h2; rfl
  by_cases h3 : a = 62
  · subst h3; rfl
  simp [h1, h2, h3]
theorem ampL_esc : ∀ n, (ampL n).flatMap escC = ampL n
  | 0 => rfl
  | n + 1 => by
    show ([97, 109, 112, 59] ++ ampL n).flatMap escC = _
    rw [List.flatMap_append, ampL_esc n]; rfl
theorem ampL_snoc : ∀ n, ampL n ++ [97, 109, 112, 59] = ampL (n + 1)
  | 0 => rfl
  | n + 1 => by
    show ([97, 109, 112, 59] ++ ampL n) ++ _ = [97, 109, 112, 59] ++ ampL (n + 1)
    rw [List.append_assoc, ampL_snoc n]
theorem sgT_esc {c : Nat} (hc : sgn c) (n : Nat) : (sgT c n).flatMap escC = sgT c (n + 1) := by
  rcases hc with rfl | rfl | rfl
  · show (38 :: ampL n).flatMap escC = 38 :: ampL (n + 1)
    rw [List.flatMap_cons, ampL_esc]; rfl
  · cases n with
    | zero => rfl
    | succ m =>
      show (38 :: (ampL m ++ [108, 116, 59])).flatMap escC = 38 :: (ampL (m + 1) ++ [108, 116, 59])
      rw [List.flatMap_cons, List.flatMap_append, ampL_esc]; rfl
  · cases n with
    | zero => rfl
    | succ m =>
      show (38 :: (ampL m ++ [103, 116, 59])).flatMap escC = 38 :: (ampL (m + 1) ++ [103, 116, 59])
      rw [List.flatMap_cons, List.flatMap_append, ampL_esc]; rfl
noncomputable def upL (l : List (Nat × Nat)) : List (Nat × Nat) := l.map fun p => (p.1, p.2 + 1)
theorem rowT_esc : ∀ (l : List (Nat × Nat)), (∀ p ∈ l, sgn p.1) → (rowT l).flatMap escC = rowT (upL l)
  | [], _ => rfl
  | p :: r, h => by
    have e : rowT (p :: r) = sgT p.1 p.2 ++ rowT r := by simp [rowT]
    have e2 : rowT (upL (p :: r)) = sgT p.1 (p.2 + 1) ++ rowT (upL r) := by simp [rowT, upL]
    rw [e, e2, List.flatMap_append, sgT_esc (h p List.mem_cons_self), rowT_esc r fun q hq => h q (List.mem_cons_of_mem _ hq)]
noncomputable def countL (c : Int) : List (Nat × Nat) := if 0 < c then List.replicate c.toNat (60, 0) else List.replicate (-c).toNat (62, 0)
noncomputable def stepL (l : List (Nat × Nat)) (c : Int) : List (Nat × Nat) := upL l ++ countL c
noncomputable def rowL (cz : List Int) : List (Nat × Nat) := cz.foldl stepL [(38, 0)]
theorem rowT_rep (a : Nat) (h : a = 60 ∨ a = 62) : ∀ n, rowT (List.replicate n (a, 0)) = List.replicate n a
  | 0 => rfl
  | n + 1 => by
    have e : rowT (List.replicate (n + 1) (a, 0)) = sgT a 0 ++ rowT (List.replicate n (a, 0)) := by simp [rowT, List.replicate_succ]
    rw [e, rowT_rep a h n, List.replicate_succ]
    rcases h with rfl | rfl <;> rfl
theorem fold_one (c : Nat) : ∀ (n : Nat) (acc : Array Nat), (List.replicate n #[c]).foldl (· ++ ·) acc = acc ++ (List.replicate n c).toArray
  | 0, acc => by simp
  | n + 1, acc => by
    rw [List.replicate_succ, List.foldl_cons, fold_one c n, List.replicate_succ]
    apply Array.toList_inj.mp
    simp
theorem mul_T (a : Nat) (n : Int) : Txt.mul (T [a]) n = T (List.replicate n.toNat a) := by
  unfold Txt.mul
  split
  · next h => rw [show n.toNat = 0 by omega]; rfl
  split
  · next h1 h2 =>
    have : n = 1 := by
      have hl : (T [a]).length = 1 := rfl
      rw [hl] at h2; simpa using h2
    subst this; rfl
  · show (⟨(List.replicate n.toNat #[a]).foldl (· ++ ·) #[]⟩ : Str) = _
    rw [fold_one]; simp [T]
theorem step_T {l : List (Nat × Nat)} (h : ∀ p ∈ l, sgn p.1) (c : Int) : wordStep (T (rowT l)) c = T (rowT (stepL l c)) := by
  unfold wordStep stepL countL
  rw [esc_T, rowT_esc l h, e_lt, e_gt]
  have e : ∀ x y, rowT (x ++ y) = rowT x ++ rowT y := fun x y => by simp [rowT]
  rw [e]
  split
  · rw [mul_T, T_append, rowT_rep 60 (.inl rfl)]
  · rw [mul_T, T_append, rowT_rep 62 (.inr rfl)]
theorem step_ok {l : List (Nat × Nat)} {n m : Nat} {c : Int} (hc : -3 ≤ c ∧ c ≤ 3) (h : ∀ p ∈ l, sgn p.1 ∧ p.2 ≤ n) (hl : l.length ≤ m) : (∀ p ∈ stepL l c, sgn p.1 ∧ p.2 ≤ n + 1) ∧ (stepL l c).length ≤ m + 3 := by
  unfold stepL countL
  refine ⟨fun p hp => ?_, ?_⟩
  · rcases List.mem_append.mp hp with q | q
    · obtain ⟨p', hp', rfl⟩ := List.mem_map.mp q
      exact ⟨(h p' hp').1, Nat.succ_le_succ (h p' hp').2⟩
    · split at q
      · rw [List.eq_of_mem_replicate q]; exact ⟨.inr (.inl rfl), Nat.zero_le _⟩
      · rw [List.eq_of_mem_replicate q]; exact ⟨.inr (.inr rfl), Nat.zero_le _⟩
  · rw [List.length_append]
    have e : (upL l).length = l.length := by simp [upL]
    rw [e]
    split <;> rw [List.length_replicate] <;> omega
theorem word_T : ∀ (cz : List Int) (l : List (Nat × Nat)) (n m : Nat), (∀ c ∈ cz, -3 ≤ c ∧ c ≤ 3) → (∀ p ∈ l, sgn p.1 ∧ p.2 ≤ n) → l.length ≤ m →
    cz.foldl wordStep (T (rowT l)) = T (rowT (cz.foldl stepL l)) ∧ (∀ p ∈ cz.foldl stepL l, sgn p.1 ∧ p.2 ≤ n + cz.length) ∧ (cz.foldl stepL l).length ≤ m + 3 * cz.length
  | [], l, n, m, _, h, hl => ⟨rfl, h, hl⟩
  | c :: r, l, n, m, hc, h, hl => by
    have h1 := step_ok (hc c List.mem_cons_self) h hl
    have ih := word_T r (stepL l c) (n + 1) (m + 3) (fun d hd => hc d (List.mem_cons_of_mem _ hd)) h1.1 h1.2
    rw [List.foldl_cons, List.foldl_cons, step_T fun p hp => (h p hp).1]
    refine ⟨ih.1, fun p hp => ?_, ?_⟩
    · have := ih.2.1 p hp
      refine ⟨this.1, ?_⟩
      rw [List.length_cons]; omega
    · have := ih.2.2
      rw [List.length_cons]; omega
theorem word_all {cz : List Int} (hc : ∀ c ∈ cz, -3 ≤ c ∧ c ≤ 3) : wordS cz = T (rowT (rowL cz)) ∧ (∀ p ∈ rowL cz, sgn p.1 ∧ p.2 ≤ cz.length) ∧ (rowL cz).length ≤ 1 + 3 * cz.length := by
  have h0 : Str.ofString "&" = T (rowT [(38, 0)]) := by decide
  have h := word_T cz [(38, 0)] 0 1 hc (fun p hp => by rw [List.mem_singleton.mp hp]; exact ⟨.inl rfl, Nat.le_refl _⟩) (Nat.le_refl _)
  unfold wordS
  rw [h0]
  refine ⟨h.1, fun p hp => ?_, h.2.2⟩
  have := h.2.1 p hp
  exact ⟨this.1, by omega⟩
noncomputable def okc (c : Nat) : Prop := c = 38 ∨ c = 60 ∨ c = 62 ∨ c = 97 ∨ c = 109 ∨ c = 112 ∨ c = 59 ∨ c = 108 ∨ c = 116 ∨ c = 103
theorem ampL_ok : ∀ n, ∀ a ∈ ampL n, okc a
  | 0, a, h => by cases h
  | n + 1, a, h => by
    rcases List.mem_append.mp h with q | q
    · simp at q; unfold okc; omega
    · exact ampL_ok n a q
theorem ampL_len : ∀ n, (ampL n).length = 4 * n
  | 0 => rfl
  | n + 1 => by show ([97, 109, 112, 59] ++ ampL n).length = _; rw [List.length_append, ampL_len n]; simp; omega
theorem sgT_ok {c : Nat} (hc : sgn c) (n : Nat) : (∀ a ∈ sgT c n, okc a) ∧ (sgT c n).length ≤ 4 * n + 1 := by
  rcases hc with rfl | rfl | rfl
  · refine ⟨fun a h => ?_, ?_⟩
    · rcases List.mem_cons.mp h with rfl | h
      · exact .inl rfl
      · exact ampL_ok _ _ h
    · show (38 :: ampL n).length ≤ _; rw [List.length_cons, ampL_len]; omega
  · cases n with
    | zero => exact ⟨fun a h => by rw [List.mem_singleton.mp h]; unfold okc; omega, Nat.le_refl _⟩
    | succ m =>
      refine ⟨fun a h => ?_, ?_⟩
      · rcases List.mem_cons.mp h with rfl | h
        · exact .inl rfl
        · rcases List.mem_append.mp h with h | h
          · exact ampL_ok _ _ h
          · simp at h; unfold okc; omega
      · show (38 :: (ampL m ++ [108, 116, 59])).length ≤ _; rw [List.length_cons, List.length_append, ampL_len]; simp; omega
  · cases n with
    | zero => exact ⟨fun a h => by rw [List.mem_singleton.mp h]; unfold okc; omega, Nat.le_refl _⟩
    | succ m =>
      refine ⟨fun a h => ?_, ?_⟩
      · rcases List.mem_cons.mp h with rfl | h
        · exact .inl rfl
        · rcases List.mem_append.mp h with h | h
          · exact ampL_ok _ _ h
          · simp at h; unfold okc; omega
      · show (38 :: (ampL m ++ [103, 116, 59])).length ≤ _; rw [List.length_cons, List.length_append, ampL_len]; simp; omega
theorem rowT_ok : ∀ (l : List (Nat × Nat)) (n : Nat), (∀ p ∈ l, sgn p.1 ∧ p.2 ≤ n) → (∀ a ∈ rowT l, okc a) ∧ (rowT l).length ≤ l.length * (4 * n + 1)
  | [], n, _ => ⟨fun a h => (nomatch h), Nat.zero_le _⟩
  | p :: r, n, h => by
    have e : rowT (p :: r) = sgT p.1 p.2 ++ rowT r := by simp [rowT]
    have h1 := sgT_ok (h p List.mem_cons_self).1 p.2
    have h2 := rowT_ok r n fun q hq => h q (List.mem_cons_of_mem _ hq)
    have h3 := (h p List.mem_cons_self).2
    rw [e]
    refine ⟨fun a ha => ?_, ?_⟩
    · rcases List.mem_append.mp ha with q | q
      · exact h1.1 a q
      · exact h2.1 a q
    · rw [List.length_append, List.length_cons, Nat.succ_mul]
      have := h1.2; have := h2.2
      omega
theorem word_len {cz : List Int} (hc : ∀ c ∈ cz, -3 ≤ c ∧ c ≤ 3) (hlen : cz.length ≤ 4) : (wordS cz).length ≤ 500 ∧ Safe (wordS cz) ∧ OkT (wordS cz) := by
  have h := word_all hc
  have h2 := rowT_ok (rowL cz) 4 fun p hp => ⟨(h.2.1 p hp).1, Nat.le_trans (h.2.1 p hp).2 hlen⟩
  rw [h.1]
  refine ⟨?_, fun c hcc => ?_, fun c hcc => ?_⟩
  · show (rowT (rowL cz)).toArray.size ≤ 500
    rw [List.size_toArray]
    refine Nat.le_trans h2.2 ?_
    have := h.2.2
    have h5 : (rowL cz).length ≤ 13 := by omega
    exact Nat.le_trans (Nat.mul_le_mul_right _ h5) (by decide)
  · rw [T_list] at hcc
    have := h2.1 c hcc
    unfold okc at this; omega
  · rw [T_list] at hcc
    have := h2.1 c hcc
    unfold okc at this; unfold OkC; omega
noncomputable def rowOf (cz : List Int) : List (Str × Int) := rowR (rowL cz)
theorem word_ok {cz : List Int} (hc : ∀ c ∈ cz, -3 ≤ c ∧ c ≤ 3) (hlen : cz.length ≤ 4) : ∀ i ≤ cz.length, (wordS (cz.take i)).length ≤ 500 ∧ Safe (wordS (cz.take i)) := fun i hi => by
  have := word_len (cz := cz.take i) (fun c h => hc c (List.mem_of_mem_take h)) (by rw [List.length_take]; omega)
  exact ⟨this.1, this.2.1⟩
theorem stepL_pos (l : List (Nat × Nat)) (c : Int) (h : 1 ≤ l.length) : 1 ≤ (stepL l c).length := by
  unfold stepL; rw [List.length_append]; simp [upL]; omega
theorem rowL_pos : ∀ (cz : List Int) (l : List (Nat × Nat)), 1 ≤ l.length → 1 ≤ (cz.foldl stepL l).length
  | [], _, h => h
  | c :: r, l, h => rowL_pos r _ (stepL_pos l c h)
theorem word_row {cz : List Int} (hc : ∀ c ∈ cz, -3 ≤ c ∧ c ≤ 3) (hlen : cz.length ≤ 4) : (wordS cz).length ≤ 1000 ∧ OkT (wordS cz) ∧ readS 600 (wordS cz) = some (rowOf cz) ∧ (rowOf cz).length ≤ 14 ∧ 1 ≤ (rowOf cz).length := by
  have h := word_all hc
  have h2 := word_len hc hlen
  have el : (rowOf cz).length = (rowL cz).length := by simp [rowOf, rowR]
  refine ⟨Nat.le_trans h2.1 (by decide), h2.2.2, ?_, ?_, ?_⟩
  · rw [h.1]
    exact read_row _ _ (fun p hp => ⟨(h.2.1 p hp).1, Nat.le_trans (h.2.1 p hp).2 (by omega)⟩) (by have := h.2.2; omega)
  · rw [el]; have := h.2.2; omega
  · rw [el]; exact rowL_pos cz _ (Nat.le_refl _)
end Mine
end
section
open PySem PySem.W PyProof.Rows PySem.Calls
set_option maxRecDepth 100000
namespace Mine
noncomputable def stepC (l0 : Nat) (p : Nat × Nat) (s : Int × Int × Int) : Int × Int × Int :=
  if ((l0 : Int) - (p.2 : Int)) % 2 = 1 then
    (if p.1 = 60 then (2 * s.1 - s.2.2, s.2.1, s.1) else (s.2.2, s.2.1, 2 * s.2.2 - s.1))
  else (if p.1 = 60 then (s.1, 2 * s.2.1 - s.2.2, s.2.1) else (s.1, s.2.2, 2 * s.2.2 - s.2.1))
noncomputable def coefI (R : List (Nat × Nat)) : Nat → Int × Int × Int
  | 0 => (0, 1, 1)
  | i + 1 => stepC (R.getD 0 (0, 0)).2 (R.getD (i + 1) (0, 0)) (coefI R i)
noncomputable def backE (cz : List Int) : Int := if cz.length % 2 = 1 then eulerS cz else eulerS (cz.take (cz.length - 1))
noncomputable def onE (cz : List Int) : Int := if cz.length % 2 = 1 then eulerS (cz.take (cz.length - 1)) else eulerS cz
noncomputable def chkC (cz : List Int) : Bool := decide (coefI (rowL cz) ((rowL cz).length - 1) = (-backE cz, onE cz, onE cz - backE cz))
noncomputable def V : List Int := [-3, -2, -1, 0, 1, 2, 3]
theorem coef2 : (V.all fun a => V.all fun b => chkC [a, b]) = true := by decide +kernel
theorem coef3 : (V.all fun a => V.all fun b => V.all fun c => chkC [a, b, c]) = true := by decide +kernel
theorem coef4_0 : (V.all fun b => V.all fun c => V.all fun d => chkC [-3, b, c, d]) = true := by decide +kernel
theorem coef4_1 : (V.all fun b => V.all fun c => V.all fun d => chkC [-2, b, c, d]) = true := by decide +kernel
theorem coef4_2 : (V.all fun b => V.all fun c => V.all fun d => chkC [-1, b, c, d]) = true := by decide +kernel
theorem coef4_3 : (V.all fun b => V.all fun c => V.all fun d => chkC [0, b, c, d]) = true := by decide +kernel
theorem coef4_4 : (V.all fun b => V.all fun c => V.all fun d => chkC [1, b, c, d]) = true := by decide +kernel
theorem coef4_5 : (V.all fun b => V.all fun c => V.all fun d => chkC [2, b, c, d]) = true := by decide +kernel
theorem coef4_6 : (V.all fun b => V.all fun c => V.all fun d => chkC [3, b, c, d]) = true := by decide +kernel
theorem mem_V {c : Int} (h : -3 ≤ c ∧ c ≤ 3) : c ∈ V := by
  have : c = -3 ∨ c = -2 ∨ c = -1 ∨ c = 0 ∨ c = 1 ∨ c = 2 ∨ c = 3 := by omega
  rcases this with rfl | rfl | rfl | rfl | rfl | rfl | rfl <;> decide
theorem coef_all {cz : List Int} (hc : ∀ c ∈ cz, -3 ≤ c ∧ c ≤ 3) (h2 : 2 ≤ cz.length) (h4 : cz.length ≤ 4) : coefI (rowL cz) ((rowL cz).length - 1) = (-backE cz, onE cz, onE cz - backE cz) := by
  refine of_decide_eq_true (show chkC cz = true from ?_)
  match cz, hc, h2, h4 with
  | [a, b], hc, _, _ =>
    have h := coef2
    simp only [List.all_eq_true] at h
    exact h a (mem_V (hc a (by simp))) b (mem_V (hc b (by simp)))
  | [a, b, c], hc, _, _ =>
    have h := coef3
    simp only [List.all_eq_true] at h
    exact h a (mem_V (hc a (by simp))) b (mem_V (hc b (by simp))) c (mem_V (hc c (by simp)))
  | [a, b, c, d], hc, _, _ =>
    have ha := hc a (by simp)
    have hb := mem_V (hc b (by simp))
    have hcc := mem_V (hc c (by simp))
    have hd := mem_V (hc d (by simp))
    have : a = -3 ∨ a = -2 ∨ a = -1 ∨ a = 0 ∨ a = 1 ∨ a = 2 ∨ a = 3 := by omega
    rcases this with rfl | rfl | rfl | rfl | rfl | rfl | rfl
    · have h := coef4_0; simp only [List.all_eq_true] at h; exact h b hb c hcc d hd
    · have h := coef4_1; simp only [List.all_eq_true] at h; exact h b hb c hcc d hd
    · have h := coef4_2; simp only [List.all_eq_true] at h; exact h b hb c hcc d hd
    · have h := coef4_3; simp only [List.all_eq_true] at h; exact h b hb c hcc d hd
    · have h := coef4_4; simp only [List.all_eq_true] at h; exact h b hb c hcc d hd
    · have h := coef4_5; simp only [List.all_eq_true] at h; exact h b hb c hcc d hd
    · have h := coef4_6; simp only [List.all_eq_true] at h; exact h b hb c hcc d hd
end Mine
end
section
open PySem PySem.W PyProof.Rows PySem.Calls
set_option maxRecDepth 100000
namespace Mine
noncomputable def rowsOf (cz : List Int) : List (Str × Str) := tanR (rowOf cz) (wordS cz) ((rowOf cz).length - 1)
theorem row_len14 {cz : List Int} (hc : ∀ c ∈ cz, -3 ≤ c ∧ c ≤ 3) (hlen : cz.length ≤ 4) : (rowOf cz).length ≤ 14 := (word_row hc hlen).2.2.2.1
theorem rows_inv {cz : List Int} (hc : ∀ c ∈ cz, -3 ≤ c ∧ c ≤ 3) (hlen : cz.length ≤ 4) : TInv (5 + 3 * ((rowOf cz).length - 1)) (rowsOf cz) := tan_inv _ _ _ (by have := row_len14 hc hlen; omega)
theorem rows_ok {cz : List Int} (hc : ∀ c ∈ cz, -3 ≤ c ∧ c ≤ 3) (hlen : cz.length ≤ 4) : (∀ p ∈ rowsOf cz, p.1.length ≤ 300) ∧ (rowsOf cz).length ≤ 100 := by
  have h := rows_inv hc hlen
  have h2 := row_len14 hc hlen
  exact ⟨h.2.1, by have := h.1; omega⟩
theorem rows_get {cz : List Int} (hc : ∀ c ∈ cz, -3 ≤ c ∧ c ≤ 3) (hlen : cz.length ≤ 4) : getFirst (rowsOf cz) (Str.ofString "Nw") = some (gf (rowsOf cz) "nw") ∧ getFirst (rowsOf cz) (Str.ofString "nE") = some (gf (rowsOf cz) "ne") ∧ getFirst (rowsOf cz) (Str.ofString "SW") = some (gf (rowsOf cz) "sw") ∧ getFirst (rowsOf cz) (Str.ofString "sE") = some (gf (rowsOf cz) "se") := by
  have h := rows_inv hc hlen
  exact ⟨(getFirst_lower (by decide +kernel)).trans (gf_ok h (by simp)).1, (getFirst_lower (by decide +kernel)).trans (gf_ok h (by simp)).1, (getFirst_lower (by decide +kernel)).trans (gf_ok h (by simp)).1, (getFirst_lower (by decide +kernel)).trans (gf_ok h (by simp)).1⟩
noncomputable def crOf (cz : List Int) : List Str := getAll (rowsOf cz) (Str.ofString "X")
noncomputable def enOf (cz : List Int) : List Str := [gf (rowsOf cz) "nw", gf (rowsOf cz) "ne", gf (rowsOf cz) "sw", gf (rowsOf cz) "se"]
theorem getAll_set {rows : List (Str × Str)} {y v e : Str} (h : (Txt.lower y == Txt.lower e) = false) : getAll (setRows rows y v) e = getAll rows e := by
  unfold getAll setRows delRows
  rw [List.filter_append, List.map_append, List.filter_filter]
  have e1 : List.filter (fun p : Str × Str => Txt.lower p.1 == Txt.lower e) [(y, v)] = [] := by
    rw [List.filter_cons_of_neg (by exact ne_true_of_eq_false h)]; rfl
  rw [e1, List.map_nil, List.append_nil]
  congr 1
  congr 1
  funext p
  cases q : (Txt.lower p.1 == Txt.lower e) with
  | false => simp
  | true =>
    have e1 : Txt.lower p.1 = Txt.lower e := by simpa using q
    have e2 : ¬ Txt.lower y = Txt.lower e := by simpa using h
    simp [e1, Ne.symm e2]
theorem getAll_app {rows : List (Str × Str)} {y v e : Str} (h : (Txt.lower y == Txt.lower e) = true) : getAll (rows ++ [(y, v)]) e = getAll rows e ++ [v] := by
  unfold getAll
  rw [List.filter_append, List.map_append, List.filter_cons_of_pos (by exact h)]; rfl
theorem gf_set (rows : List (Str × Str)) (y v : Str) (e : String) : gf (setRows rows y v) e = if (Txt.lower y == Txt.lower (Str.ofString e)) = true then v else gf rows e := by
  unfold gf
  split
  · next h => rw [getFirst_same h]; rfl
  · next h =>
    have h' : (Txt.lower y == Txt.lower (Str.ofString e)) = false := by simpa using h
    congr 1
    have e0 := getFirst_del (rows := rows) h'
    unfold setRows
    unfold getFirst at e0 ⊢
    rw [List.find?_append]
    have e1 : List.find? (fun p : Str × Str => Txt.lower p.1 == Txt.lower (Str.ofString e)) [(y, v)] = none := by
      rw [List.find?_cons_of_neg (by exact ne_true_of_eq_false h')]; rfl
    rw [e1, Option.or_none]; exact e0
theorem gf_app {rows : List (Str × Str)} {y v : Str} {e : String} (h : (Txt.lower y == Txt.lower (Str.ofString e)) = false) : gf (rows ++ [(y, v)]) e = gf rows e := by
  unfold gf
  congr 1
  unfold getFirst
  rw [List.find?_append]
  have e1 : List.find? (fun p : Str × Str => Txt.lower p.1 == Txt.lower (Str.ofString e)) [(y, v)] = none := by
    rw [List.find?_cons_of_neg (by exact ne_true_of_eq_false h)]; rfl
  rw [e1, Option.or_none]
theorem cross_x : ∀ p < 15, (Txt.lower (crossS p) == Txt.lower (Str.ofString "X")) = true ∧ ∀ e ∈ ["nw", "ne", "sw", "se"], (Txt.lower (crossS p) == Txt.lower (Str.ofString e)) = false := by unfold crossS; decide +kernel
theorem all_rows0 (x : Str) : getAll (rows0 x) (Str.ofString "X") = [] := by
  unfold getAll
  rw [List.filter_eq_nil_iff.mpr]; · rfl
  intro p hp
  have hk : ∀ k ∈ [Str.ofString "Word", Str.ofString "nw", Str.ofString "ne", Str.ofString "sw", Str.ofString "se"], ¬ (Txt.lower k == Txt.lower (Str.ofString "X")) = true := by decide +kernel
  refine hk p.1 ?_
  simp only [rows0, List.mem_cons, List.not_mem_nil, or_false] at hp
  rcases hp with rfl | rfl | rfl | rfl | rfl <;> simp
/-- one crossing, by the strands alone -/
structure Quad where
  nw : Str
  ne : Str
  sw : Str
  se : Str
noncomputable def quad (rows : List (Str × Str)) : Quad := ⟨gf rows "nw", gf rows "ne", gf rows "sw", gf rows "se"⟩
theorem step_ne_lt' (l0 : Int) (rows : List (Str × Str)) {place : Nat} {p : Str × Int} (hp : place < 15) (h1 : p.1 = Str.ofString "<") (h2 : (l0 - p.2) % 2 = 1) :
    quad (stepR l0 rows place p) = ⟨gf rows "nw", freshS place, gf rows "sw", gf rows "ne"⟩ ∧ getAll (stepR l0 rows place p) (Str.ofString "X") = getAll rows (Str.ofString "X") ++ [gf rows "ne" ++ gf rows "se" ++ freshS place] := by
  obtain ⟨c1, c2⟩ := cross_x place hp
  unfold stepR quad
  simp only [h1, h2, if_true]
  refine ⟨?_, ?_⟩
  · rw [gf_app (c2 _ (by simp)), gf_app (c2 _ (by simp)), gf_app (c2 _ (by simp)), gf_app (c2 _ (by simp))]
    simp only [gf_set]
    have d : ∀ (a b : String) (u v : Str) , True := fun _ _ _ _ => trivial
    rw [if_neg (by decide +kernel), if_neg (by decide +kernel), if_neg (by decide +kernel), if_pos (by decide +kernel), if_neg (by decide +kernel), if_neg (by decide +kernel), if_pos (by decide +kernel)]
  · rw [getAll_app c1, getAll_set (by decide +kernel), getAll_set (by decide +kernel)]
theorem step_ne_gt' (l0 : Int) (rows : List (Str × Str)) {place : Nat} {p : Str × Int} (hp : place < 15) (h1 : ¬ p.1 = Str.ofString "<") (h2 : (l0 - p.2) % 2 = 1) :
    quad (stepR l0 rows place p) = ⟨gf rows "nw", gf rows "se", gf rows "sw", freshS place⟩ ∧ getAll (stepR l0 rows place p) (Str.ofString "X") = getAll rows (Str.ofString "X") ++ [gf rows "se" ++ gf rows "ne" ++ freshS place] := by
  obtain ⟨c1, c2⟩ := cross_x place hp
  unfold stepR quad
  simp only [h1, h2, if_true, if_false]
  refine ⟨?_, ?_⟩
  · rw [gf_app (c2 _ (by simp)), gf_app (c2 _ (by simp)), gf_app (c2 _ (by simp)), gf_app (c2 _ (by simp))]
    simp only [gf_set]
    rw [if_neg (by decide +kernel), if_neg (by decide +kernel), if_neg (by decide +kernel), if_pos (by decide +kernel), if_neg (by decide +kernel), if_neg (by decide +kernel), if_pos (by decide +kernel)]
  · rw [getAll_app c1, getAll_set (by decide +kernel), getAll_set (by decide +kernel)]
theorem step_sw_lt' (l0 : Int) (rows : List (Str × Str)) {place : Nat} {p : Str × Int} (hp : place < 15) (h1 : p.1 = Str.ofString "<") (h2 : ¬ (l0 - p.2) % 2 = 1) :
    quad (stepR l0 rows place p) = ⟨gf rows "nw", gf rows "ne", freshS place, gf rows "sw"⟩ ∧ getAll (stepR l0 rows place p) (Str.ofString "X") = getAll rows (Str.ofString "X") ++ [gf rows "sw" ++ gf rows "se" ++ freshS place] := by
  obtain ⟨c1, c2⟩ := cross_x place hp
  unfold stepR quad
  simp only [h1, h2, if_true, if_false]
  refine ⟨?_, ?_⟩
  · rw [gf_app (c2 _ (by simp)), gf_app (c2 _ (by simp)), gf_app (c2 _ (by simp)), gf_app (c2 _ (by simp))]
    simp only [gf_set]
    rw [if_neg (by decide +kernel), if_neg (by decide +kernel), if_neg (by decide +kernel), if_neg (by decide +kernel), if_neg (by decide +kernel), if_pos (by decide +kernel), if_pos (by decide +kernel)]
  · rw [getAll_app c1, getAll_set (by decide +kernel), getAll_set (by decide +kernel)]
theorem step_sw_gt' (l0 : Int) (rows : List (Str × Str)) {place : Nat} {p : Str × Int} (hp : place < 15) (h1 : ¬ p.1 = Str.ofString "<") (h2 : ¬ (l0 - p.2) % 2 = 1) :
    quad (stepR l0 rows place p) = ⟨gf rows "nw", gf rows "ne", gf rows "se", freshS place⟩ ∧ getAll (stepR l0 rows place p) (Str.ofString "X") = getAll rows (Str.ofString "X") ++ [gf rows "se" ++ gf rows "sw" ++ freshS place] := by
  obtain ⟨c1, c2⟩ := cross_x place hp
  unfold stepR quad
  simp only [h1, h2, if_false]
  refine ⟨?_, ?_⟩
  · rw [gf_app (c2 _ (by simp)), gf_app (c2 _ (by simp)), gf_app (c2 _ (by simp)), gf_app (c2 _ (by simp))]
    simp only [gf_set]
    rw [if_neg (by decide +kernel), if_neg (by decide +kernel), if_neg (by decide +kernel), if_neg (by decide +kernel), if_neg (by decide +kernel), if_pos (by decide +kernel), if_pos (by decide +kernel)]
  · rw [getAll_app c1, getAll_set (by decide +kernel), getAll_set (by decide +kernel)]
end Mine
end
section
open PySem PySem.W PyProof.Rows PySem.Calls
set_option maxRecDepth 100000
namespace Mine
noncomputable def Hh (size first step c : Int) : Int := (first + step * c).fmod size
theorem H_next {size first step c d : Int} (hs : 0 < size) : (2 * Hh size first step c - Hh size first step d).fmod size = Hh size first step (2 * c - d) := by
  unfold Hh
  rw [Int.fmod_eq_emod_of_nonneg _ (Int.le_of_lt hs), Int.fmod_eq_emod_of_nonneg _ (Int.le_of_lt hs), Int.fmod_eq_emod_of_nonneg _ (Int.le_of_lt hs), Int.fmod_eq_emod_of_nonneg _ (Int.le_of_lt hs)]
  rw [Int.emod_def (first + step * c), Int.emod_def (first + step * d)]
  have e : 2 * (first + step * c - size * ((first + step * c) / size)) - (first + step * d - size * ((first + step * d) / size)) = (first + step * (2 * c - d)) + size * ((first + step * d) / size - 2 * ((first + step * c) / size)) := by
    rw [Int.mul_sub, Int.mul_sub, Int.mul_sub, Int.mul_add, Int.mul_left_comm step 2 c, Int.mul_left_comm size 2]
    omega
  rw [e, Int.add_mul_emod_self_left]
theorem H_range {size first step c : Int} (hs : 0 < size) : 0 ≤ Hh size first step c ∧ Hh size first step c < size := ⟨fmod_lo _ hs, fmod_hi _ hs⟩
noncomputable abbrev LK (k : Nat) (D : List (PyData × PyData)) : Option PyData := PySem.Spec.lookup (.str (T [k])) D
theorem fresh_T : ∀ p < 15, freshS p = T [98 + p] := by decide +kernel
theorem T1_ne {a b : Nat} (h : a ≠ b) : T [a] ≠ T [b] := fun e => h (by simpa using T_inj e)
theorem hues_pre (cr : List Str) (w : Str) (size first step : Int) : ∀ j, j ≤ cr.length → huesD (cr ++ [w]) size first step j = huesD cr size first step j
  | 0, _ => rfl
  | j + 1, h => by
    have e : (cr ++ [w]).getD j (Str.ofString "") = cr.getD j (Str.ofString "") := by
      unfold List.getD; rw [List.getElem?_append_left (by omega)]
    unfold huesD
    rw [e, hues_pre cr w size first step j (by omega)]
theorem item3 (a b c : Nat) : (T [a] ++ T [b] ++ T [c]).length = 3 ∧ Txt.item (T [a] ++ T [b] ++ T [c]) 0 = T [a] ∧ Txt.item (T [a] ++ T [b] ++ T [c]) 1 = T [b] ∧ Txt.item (T [a] ++ T [b] ++ T [c]) 2 = T [c] := by
  rw [T_append, T_append]
  exact ⟨rfl, rfl, rfl, rfl⟩
structure TI (size first step : Int) (i : Nat) (C : Int × Int × Int) (rows : List (Str × Str)) : Prop where
  len : (getAll rows (Str.ofString "X")).length = i
  now : ∃ a b d : Nat, quad rows = ⟨T [97], T [a], T [b], T [d]⟩ ∧ LK 97 (huesD (getAll rows (Str.ofString "X")) size first step i) = some (.int (Hh size first step 0)) ∧ LK a (huesD (getAll rows (Str.ofString "X")) size first step i) = some (.int (Hh size first step C.1)) ∧
    LK b (huesD (getAll rows (Str.ofString "X")) size first step i) = some (.int (Hh size first step C.2.1)) ∧ LK d (huesD (getAll rows (Str.ofString "X")) size first step i) = some (.int (Hh size first step C.2.2))
  fresh : ∀ p, i < p → p < 15 → LK (98 + p) (huesD (getAll rows (Str.ofString "X")) size first step i) = none
  old : ∀ j (hj : j < (getAll rows (Str.ofString "X")).length), (getAll rows (Str.ofString "X"))[j].length = 3 ∧ (∃ x, PySem.Spec.lookup (.str (Txt.item (getAll rows (Str.ofString "X"))[j] 0)) (huesD (getAll rows (Str.ofString "X")) size first step j) = some (.int x) ∧ 0 ≤ x ∧ x < size) ∧
    (∃ y, PySem.Spec.lookup (.str (Txt.item (getAll rows (Str.ofString "X"))[j] 1)) (huesD (getAll rows (Str.ofString "X")) size first step j) = some (.int y) ∧ 0 ≤ y ∧ y < size)
theorem TI_step {size first step : Int} {i : Nat} {C C' : Int × Int × Int} {rows rows' : List (Str × Str)} (hs : 0 < size) (h : TI size first step i C rows) (hi : i + 1 < 15) {u v a b d : Nat} {cu cv : Int}
    (hu : LK u (huesD (getAll rows (Str.ofString "X")) size first step i) = some (.int (Hh size first step cu))) (hv : LK v (huesD (getAll rows (Str.ofString "X")) size first step i) = some (.int (Hh size first step cv)))
    (hcr : getAll rows' (Str.ofString "X") = getAll rows (Str.ofString "X") ++ [T [u] ++ T [v] ++ T [98 + (i + 1)]]) (hq : quad rows' = ⟨T [97], T [a], T [b], T [d]⟩)
    (ha : (a = 98 + (i + 1) ∧ C'.1 = 2 * cu - cv) ∨ LK a (huesD (getAll rows (Str.ofString "X")) size first step i) = some (.int (Hh size first step C'.1)))
    (hb : (b = 98 + (i + 1) ∧ C'.2.1 = 2 * cu - cv) ∨ LK b (huesD (getAll rows (Str.ofString "X")) size first step i) = some (.int (Hh size first step C'.2.1)))
    (hd : (d = 98 + (i + 1) ∧ C'.2.2 = 2 * cu - cv) ∨ LK d (huesD (getAll rows (Str.ofString "X")) size first step i) = some (.int (Hh size first step C'.2.2))) : TI size first step (i + 1) C' rows' := by
  obtain ⟨hlen, ⟨a0, b0, d0, hq0, h97, _⟩, hfr, hold⟩ := h
  obtain ⟨l3, it0, it1, it2⟩ := item3 u v (98 + (i + 1))
  have hgi : (getAll rows (Str.ofString "X") ++ [T [u] ++ T [v] ++ T [98 + (i + 1)]])[i]'(by rw [List.length_append, hlen]; simp) = T [u] ++ T [v] ++ T [98 + (i + 1)] := by
    rw [List.getElem_append_right (by omega)]; simp [hlen]
  have hpre : huesD (getAll rows (Str.ofString "X") ++ [T [u] ++ T [v] ++ T [98 + (i + 1)]]) size first step i = huesD (getAll rows (Str.ofString "X")) size first step i := hues_pre _ _ _ _ _ _ (by omega)
  have hnext : huesD (getAll rows (Str.ofString "X") ++ [T [u] ++ T [v] ++ T [98 + (i + 1)]]) size first step (i + 1) = PyProof.V.putD (.str (T [98 + (i + 1)])) (.int (Hh size first step (2 * cu - cv))) (huesD (getAll rows (Str.ofString "X")) size first step i) := by
    have e := hues_next (cr := getAll rows (Str.ofString "X") ++ [T [u] ++ T [v] ++ T [98 + (i + 1)]]) (size := size) (first := first) (step := step) (i := i) (x := Hh size first step cu) (y := Hh size first step cv) (v := Hh size first step (2 * cu - cv)) (by rw [List.length_append, hlen]; simp)
      (by rw [hgi, it0, hpre]; exact hu) (by rw [hgi, it1, hpre]; exact hv) (H_next hs).symm
    rw [← e, hgi, it2, hpre]
  have hf0 := hfr (i + 1) (Nat.lt_succ_self _) hi
  have keep : ∀ k c, LK k (huesD (getAll rows (Str.ofString "X")) size first step i) = some (.int c) → LK k (PyProof.V.putD (.str (T [98 + (i + 1)])) (.int (Hh size first step (2 * cu - cv))) (huesD (getAll rows (Str.ofString "X")) size first step i)) = some (.int c) := by
    intro k c hk
    show PySem.Spec.lookup _ _ = _
    rw [lookup_putD_str, if_neg ?_]; · exact hk
    intro e
    have hk' : PySem.Spec.lookup (.str (T [k])) (huesD (getAll rows (Str.ofString "X")) size first step i) = some (.int c) := hk
    rw [e] at hk'
    rw [show PySem.Spec.lookup (.str (T [98 + (i + 1)])) (huesD (getAll rows (Str.ofString "X")) size first step i) = none from hf0] at hk'
    cases hk'
  have new : LK (98 + (i + 1)) (PyProof.V.putD (.str (T [98 + (i + 1)])) (.int (Hh size first step (2 * cu - cv))) (huesD (getAll rows (Str.ofString "X")) size first step i)) = some (.int (Hh size first step (2 * cu - cv))) := by
    show PySem.Spec.lookup _ _ = _
    rw [lookup_putD_str, if_pos rfl]
  have both : ∀ k c, (k = 98 + (i + 1) ∧ c = 2 * cu - cv) ∨ LK k (huesD (getAll rows (Str.ofString "X")) size first step i) = some (.int (Hh size first step c)) → LK k (PyProof.V.putD (.str (T [98 + (i + 1)])) (.int (Hh size first step (2 * cu - cv))) (huesD (getAll rows (Str.ofString "X")) size first step i)) = some (.int (Hh size first step c)) := by
    rintro k c (⟨rfl, rfl⟩ | hk)
    · exact new
    · exact keep _ _ hk
  refine ⟨by rw [hcr, List.length_append, hlen]; rfl, ⟨a, b, d, hq, ?_, ?_, ?_, ?_⟩, fun p h1 h2 => ?_, fun j hj => ?_⟩
  · rw [hcr, hnext]; exact keep _ _ h97
  · rw [hcr, hnext]; exact both _ _ ha
  · rw [hcr, hnext]; exact both _ _ hb
  · rw [hcr, hnext]; exact both _ _ hd
  · rw [hcr, hnext]
    show PySem.Spec.lookup _ _ = _
    rw [lookup_putD_str, if_neg (T1_ne (by omega))]
    exact hfr p (by omega) h2
  · have hj' : j < (getAll rows (Str.ofString "X") ++ [T [u] ++ T [v] ++ T [98 + (i + 1)]]).length := by rw [← hcr]; exact hj
    have e : (getAll rows' (Str.ofString "X"))[j] = (getAll rows (Str.ofString "X") ++ [T [u] ++ T [v] ++ T [98 + (i + 1)]])[j] := by simp only [hcr]
    rw [e, hcr]
    rw [hues_pre _ _ _ _ _ _ (by rw [List.length_append] at hj'; simp at hj'; omega)]
    by_cases q : j < (getAll rows (Str.ofString "X")).length
    · rw [List.getElem_append_left q]; exact hold j q
    · have hji : j = i := by rw [List.length_append] at hj'; simp at hj'; omega
      subst hji
      rw [hgi, it0, it1]
      exact ⟨l3, ⟨_, hu, H_range hs⟩, ⟨_, hv, H_range hs⟩⟩
theorem gf_rows0 (x : Str) : quad (rows0 x) = ⟨T [97], T [97], T [98], T [98]⟩ := by
  have w1 : ∀ e ∈ ["nw", "ne", "sw", "se"], (Txt.lower (Str.ofString "Word") == Txt.lower (Str.ofString e)) = false := by decide +kernel
  have key : ∀ e ∈ ["nw", "ne", "sw", "se"], gf (rows0 x) e = ((getFirst [(Str.ofString "nw", Str.ofString "a"), (Str.ofString "ne", Str.ofString "a"), (Str.ofString "sw", Str.ofString "b"), (Str.ofString "se", Str.ofString "b")] (Str.ofString e))).getD (Str.ofString "") := by
    intro e he
    unfold gf getFirst rows0
    rw [List.find?_cons_of_neg (by rw [show (Txt.lower (Str.ofString "Word", x).1 == Txt.lower (Str.ofString e)) = false from w1 e he]; exact Bool.false_ne_true)]
  unfold quad
  rw [key _ (by simp), key _ (by simp), key _ (by simp), key _ (by simp)]
  congr 1 <;> decide +kernel
theorem TI_zero {size first step : Int} (x : Str) (hf : 0 ≤ first ∧ first < size) : TI size first step 0 (0, 1, 1) (rows0 x) := by
  have h0 : Hh size first step 0 = first := by
    unfold Hh; rw [Int.mul_zero, Int.add_zero, Int.fmod_eq_emod_of_nonneg _ (by omega), Int.emod_eq_of_lt hf.1 hf.2]
  have h1 : Hh size first step 1 = (first + step).fmod size := by unfold Hh; rw [Int.mul_one]
  have la : LK 97 (huesD (getAll (rows0 x) (Str.ofString "X")) size first step 0) = some (.int first) := rfl
  have lb : LK 98 (huesD (getAll (rows0 x) (Str.ofString "X")) size first step 0) = some (.int ((first + step).fmod size)) := rfl
  refine ⟨by rw [all_rows0]; rfl, ⟨97, 98, 98, gf_rows0 x, ?_, ?_, ?_, ?_⟩, fun p h1 h2 => ?_, fun j hj => ?_⟩
  · rw [h0]; exact la
  · show _ = some (PyData.int (Hh size first step 0)); rw [h0]; exact la
  · show _ = some (PyData.int (Hh size first step 1)); rw [h1]; exact lb
  · show _ = some (PyData.int (Hh size first step 1)); rw [h1]; exact lb
  · show PySem.Spec.lookup _ [_, _] = none
    unfold PySem.Spec.lookup PySem.Spec.lookup PySem.Spec.lookup
    rw [show PySem.Spec.same (.str (Str.ofString "a")) (.str (T [98 + p])) = false from ?_, show PySem.Spec.same (.str (Str.ofString "b")) (.str (T [98 + p])) = false from ?_]
    · rfl
    · rw [PyProof.V.same_str]; exact decide_eq_false (by rw [show Str.ofString "b" = T [98] by decide]; exact T1_ne (by omega))
    · rw [PyProof.V.same_str]; exact decide_eq_false (by rw [show Str.ofString "a" = T [97] by decide]; exact T1_ne (by omega))
  · rw [all_rows0] at hj; cases hj
end Mine
end
section
open PySem PySem.W PyProof.Rows PySem.Calls
set_option maxRecDepth 100000
namespace Mine
theorem quad_gf {rows : List (Str × Str)} {a b d : Nat} (h : quad rows = ⟨T [97], T [a], T [b], T [d]⟩) : gf rows "nw" = T [97] ∧ gf rows "ne" = T [a] ∧ gf rows "sw" = T [b] ∧ gf rows "se" = T [d] := by
  unfold quad at h
  injection h with h1 h2 h3 h4
  exact ⟨h1, h2, h3, h4⟩
theorem TI_next {size first step : Int} {i : Nat} {C : Int × Int × Int} {rows : List (Str × Str)} (hs : 0 < size) (h : TI size first step i C rows) (hi : i + 1 < 15) (l0 c l : Nat) :
    TI size first step (i + 1) (stepC l0 (c, l) C) (stepR (l0 : Int) rows (i + 1) (T [c], (l : Int))) := by
  obtain ⟨hlen, ⟨a, b, d, hq, h97, ha, hb, hd⟩, hfr, hold⟩ := id h
  obtain ⟨g1, g2, g3, g4⟩ := quad_gf hq
  have hf := fresh_T (i + 1) hi
  by_cases e1 : c = 60 <;> by_cases e2 : ((l0 : Int) - (l : Int)) % 2 = 1
  · subst e1
    obtain ⟨s1, s2⟩ := step_ne_lt' (l0 : Int) rows (p := (T [60], (l : Int))) hi (by exact e_lt.symm) e2
    rw [g1, g2, g3, hf] at s1
    rw [g2, g4, hf] at s2
    refine TI_step hs h hi ha hd s2 s1 ?_ ?_ ?_
    · left; exact ⟨rfl, by simp only [stepC, e2, if_true]⟩
    · right; simp only [stepC, e2, if_true]; exact hb
    · right; simp only [stepC, e2, if_true]; exact ha
  · subst e1
    obtain ⟨s1, s2⟩ := step_sw_lt' (l0 : Int) rows (p := (T [60], (l : Int))) hi (by exact e_lt.symm) e2
    rw [g1, g2, g3, hf] at s1
    rw [g3, g4, hf] at s2
    refine TI_step hs h hi hb hd s2 s1 ?_ ?_ ?_
    · right; simp only [stepC, e2, if_true, if_false]; exact ha
    · left; exact ⟨rfl, by simp only [stepC, e2, if_true, if_false]⟩
    · right; simp only [stepC, e2, if_true, if_false]; exact hb
  · have n1 : ¬ (T [c], (l : Int)).1 = Str.ofString "<" := by rw [e_lt]; exact T1_ne e1
    obtain ⟨s1, s2⟩ := step_ne_gt' (l0 : Int) rows (p := (T [c], (l : Int))) hi n1 e2
    rw [g1, g3, g4, hf] at s1
    rw [g2, g4, hf] at s2
    refine TI_step hs h hi hd ha s2 s1 ?_ ?_ ?_
    · right; simp only [stepC, e1, e2, if_true, if_false]; exact hd
    · right; simp only [stepC, e1, e2, if_true, if_false]; exact hb
    · left; exact ⟨rfl, by simp only [stepC, e1, e2, if_true, if_false]⟩
  · have n1 : ¬ (T [c], (l : Int)).1 = Str.ofString "<" := by rw [e_lt]; exact T1_ne e1
    obtain ⟨s1, s2⟩ := step_sw_gt' (l0 : Int) rows (p := (T [c], (l : Int))) hi n1 e2
    rw [g1, g2, g4, hf] at s1
    rw [g3, g4, hf] at s2
    refine TI_step hs h hi hd hb s2 s1 ?_ ?_ ?_
    · right; simp only [stepC, e1, e2, if_true, if_false]; exact ha
    · right; simp only [stepC, e1, e2, if_true, if_false]; exact hd
    · left; exact ⟨rfl, by simp only [stepC, e1, e2, if_true, if_false]⟩
theorem rowR_get {R : List (Nat × Nat)} {j : Nat} (hj : j < R.length) (z : Str × Int) : (rowR R).getD j z = (T [(R.getD j (0, 0)).1], ((R.getD j (0, 0)).2 : Int)) := by
  unfold rowR List.getD
  rw [List.getElem?_map, List.getElem?_eq_getElem hj]; rfl
theorem TI_all {size first step : Int} (hs : 0 < size) (hf : 0 ≤ first ∧ first < size) (R : List (Nat × Nat)) (x : Str) : ∀ i, i < R.length → i < 15 → TI size first step i (coefI R i) (tanR (rowR R) x i)
  | 0, _, _ => TI_zero x hf
  | i + 1, h1, h2 => by
    have ih := TI_all (step := step) hs hf R x i (by omega) (by omega)
    have e : tanR (rowR R) x (i + 1) = stepR ((rowR R).getD 0 (x, 0)).2 (tanR (rowR R) x i) (i + 1) ((rowR R).getD (i + 1) (x, 0)) := rfl
    have e2 : coefI R (i + 1) = stepC (R.getD 0 (0, 0)).2 (R.getD (i + 1) (0, 0)) (coefI R i) := rfl
    rw [e, e2, rowR_get (by omega), rowR_get h1]
    exact TI_next hs ih h2 _ _ _
noncomputable def dueOf (cz : List Int) (size first step : Int) : List Int :=
  [first, (first - backE cz * step).fmod size, (first + onE cz * step).fmod size, (first + onE cz * step - backE cz * step).fmod size]
theorem TI_end {cz : List Int} (hc : ∀ c ∈ cz, -3 ≤ c ∧ c ≤ 3) (h2 : 2 ≤ cz.length) (hlen : cz.length ≤ 4) {size first step : Int} (hs : 3 ≤ size ∧ size ≤ 9) (hf : 0 ≤ first ∧ first < size) :
    TI size first step ((rowOf cz).length - 1) (-backE cz, onE cz, onE cz - backE cz) (rowsOf cz) := by
  have h := word_row hc hlen
  have el : (rowOf cz).length = (rowL cz).length := by simp [rowOf, rowR]
  have t := TI_all (size := size) (first := first) (step := step) (by omega) hf (rowL cz) (wordS cz) ((rowOf cz).length - 1) (by omega) (by omega)
  rw [el, coef_all hc h2 hlen, ← el] at t
  exact t
theorem cr_ok {cz : List Int} (hc : ∀ c ∈ cz, -3 ≤ c ∧ c ≤ 3) (h2 : 2 ≤ cz.length) (hlen : cz.length ≤ 4) : (crOf cz).length ≤ 12 := by
  have t := TI_end hc h2 hlen (size := 3) (first := 0) (step := 0) (by decide) (by decide)
  have h := word_all hc
  have el : (rowOf cz).length = (rowL cz).length := by simp [rowOf, rowR]
  have e : (crOf cz).length = (rowOf cz).length - 1 := t.len
  have := h.2.2
  omega
theorem ends_ok {cz : List Int} (hc : ∀ c ∈ cz, -3 ≤ c ∧ c ≤ 3) (h2 : 2 ≤ cz.length) (hlen : cz.length ≤ 4) {size first step : Int} (hs : 3 ≤ size ∧ size ≤ 9) (hf : 0 ≤ first ∧ first < size) :
    (∀ i (hi : i < (crOf cz).length), (crOf cz)[i].length = 3 ∧ (∃ x, PySem.Spec.lookup (.str (Txt.item (crOf cz)[i] 0)) (huesD (crOf cz) size first step i) = some (.int x) ∧ 0 ≤ x ∧ x < size) ∧ (∃ y, PySem.Spec.lookup (.str (Txt.item (crOf cz)[i] 1)) (huesD (crOf cz) size first step i) = some (.int y) ∧ 0 ≤ y ∧ y < size)) ∧
    (∀ e ∈ enOf cz, ∃ x, PySem.Spec.lookup (.str e) (huesD (crOf cz) size first step (crOf cz).length) = some (.int x)) ∧
    (enOf cz).map (fun e => valD e (huesD (crOf cz) size first step (crOf cz).length)) = dueOf cz size first step := by
  have t := TI_end hc h2 hlen hs hf (step := step)
  obtain ⟨a, b, d, hq, h97, ha, hb, hd⟩ := t.now
  obtain ⟨g1, g2, g3, g4⟩ := quad_gf hq
  have el : (crOf cz).length = (rowOf cz).length - 1 := t.len
  have e97 : PySem.Spec.lookup (.str (T [97])) (huesD (crOf cz) size first step (crOf cz).length) = some (.int (Hh size first step 0)) := by rw [el]; exact h97
  have ea : PySem.Spec.lookup (.str (T [a])) (huesD (crOf cz) size first step (crOf cz).length) = some (.int (Hh size first step (-backE cz))) := by rw [el]; exact ha
  have eb : PySem.Spec.lookup (.str (T [b])) (huesD (crOf cz) size first step (crOf cz).length) = some (.int (Hh size first step (onE cz))) := by rw [el]; exact hb
  have ed : PySem.Spec.lookup (.str (T [d])) (huesD (crOf cz) size first step (crOf cz).length) = some (.int (Hh size first step (onE cz - backE cz))) := by rw [el]; exact hd
  refine ⟨t.old, fun e he => ?_, ?_⟩
  · simp only [enOf, g1, g2, g3, g4, List.mem_cons, List.not_mem_nil, or_false] at he
    rcases he with rfl | rfl | rfl | rfl
    · exact ⟨_, e97⟩
    · exact ⟨_, ea⟩
    · exact ⟨_, eb⟩
    · exact ⟨_, ed⟩
  · have v1 : valD (T [97]) (huesD (crOf cz) size first step (crOf cz).length) = first := by
      unfold valD; rw [e97]
      show Hh size first step 0 = first
      unfold Hh; rw [Int.mul_zero, Int.add_zero, Int.fmod_eq_emod_of_nonneg _ (by omega), Int.emod_eq_of_lt hf.1 hf.2]
    have v2 : valD (T [a]) (huesD (crOf cz) size first step (crOf cz).length) = (first - backE cz * step).fmod size := by
      unfold valD; rw [ea]
      show Hh size first step (-backE cz) = _
      unfold Hh; rw [Int.mul_neg, Int.mul_comm step]; rfl
    have v3 : valD (T [b]) (huesD (crOf cz) size first step (crOf cz).length) = (first + onE cz * step).fmod size := by
      unfold valD; rw [eb]
      show Hh size first step (onE cz) = _
      unfold Hh; rw [Int.mul_comm step]
    have v4 : valD (T [d]) (huesD (crOf cz) size first step (crOf cz).length) = (first + onE cz * step - backE cz * step).fmod size := by
      unfold valD; rw [ed]
      show Hh size first step (onE cz - backE cz) = _
      unfold Hh; rw [Int.mul_sub, Int.mul_comm step, Int.mul_comm step]
      congr 1
      omega
    simp only [enOf, g1, g2, g3, g4, List.map_cons, List.map_nil, v1, v2, v3, v4]
    rfl
end Mine
end
section
open PySem PySem.W PyProof.Rows PySem.Calls
set_option maxRecDepth 100000
set_option maxHeartbeats 4000000
namespace Mine
theorem lv_d : callerA.depth + 1 ≤ 330 := by unfold callerA claimMargin; decide
theorem lv_u : callerA.units + 3 ≤ 2000 := by unfold callerA; decide
theorem lv_d4 : callerA.depth + 1 ≤ 400 := by unfold callerA claimMargin; decide
theorem lv_u3 : callerA.units + 3 ≤ 3000 := by unfold callerA; decide
theorem fm_facts (c : Int) : (0 ≤ c.fmod 7 ∧ c.fmod 7 < 7) ∧ (0 ≤ ((c.fdiv 7).fmod 9).fmod (3 + c.fmod 7) ∧ ((c.fdiv 7).fmod 9).fmod (3 + c.fmod 7) < 3 + c.fmod 7) ∧ (0 ≤ (c.fdiv 63).fmod 3 ∧ (c.fdiv 63).fmod 3 < 3) := by
  have h1 := fmod_lo c (n := 7) (by decide)
  have h2 := fmod_hi c (n := 7) (by decide)
  exact ⟨⟨h1, h2⟩, ⟨fmod_lo _ (by omega), fmod_hi _ (by omega)⟩, ⟨fmod_lo _ (by decide), fmod_hi _ (by decide)⟩⟩
theorem sz_ne {c : Int} (h : 0 ≤ c.fmod 7) : 3 + c.fmod 7 ≠ 0 := by omega
theorem getD_bound {cz : List Int} {lo hi : Int} (h : ∀ c ∈ cz, lo ≤ c ∧ c ≤ hi) (h0 : lo ≤ 0 ∧ 0 ≤ hi) (i : Int) : lo ≤ cz.getD i.toNat 0 ∧ cz.getD i.toNat 0 ≤ hi := by
  by_cases q : i.toNat < cz.length
  · have e2 : cz.getD i.toNat 0 = cz[i.toNat] := by unfold List.getD; rw [List.getElem?_eq_getElem q]; rfl
    rw [e2]; exact h _ (List.getElem_mem q)
  · have e2 : cz.getD i.toNat 0 = 0 := by unfold List.getD; rw [List.getElem?_eq_none (Nat.le_of_not_lt q)]; rfl
    rw [e2]; exact h0
theorem news_data_ne {h₀ h : Heap} {L a c : Addr} {o1 o2 : Obj} {l : List (Addr × Obj)} (N : News h₀ L h l) (h1 : (a, o1) ∈ l) (h2 : (c, o2) ∈ l) (hd : o1.data ≠ o2.data) : a ≠ c := by
  rintro rfl
  exact hd (congrArg Obj.data (Option.some.inj ((N _ h1).1.symm.trans (N _ h2).1)))
theorem storeX_M {M : Model} {A : Around} {E : Value → Shared → Prop} {s : Shared} {h₀ : Heap} {L a : Addr} {m : Str → Option Value} {cn : Str} {cs : Scope} {ccd : Value} {cl : List (Str × Addr)}
    {x : Str} {v : Value} {Q : Unit → Shared → Prop} {news : List (Addr × Obj)} {c : Addr} {o : Obj} {v₀ : Option Value} (F : Fr h₀ L s.heap m) (N : News h₀ L s.heap news) (hc : cl.lookup x = some c) (hmm : (c, o) ∈ news) (hd : o.data = .cell v₀)
    (h : ∀ h' o', Fr h₀ L h' m → News h₀ L h' ((c, o') :: news.filter (fun p => decide (p.1 ≠ c))) → o'.data = .cell (some v) → Q () { s with heap := h' })
    (hk : cs.kind = .function := by rfl) (hx : (envX cn cs L a ccd cl).kindOf x = some .cell := by rfl) : wpAny M A (storeName (envX cn cs L a ccd cl) x v) Q E s := by
  have hmem := N (c, o) hmm
  refine wpAny_storeName_cell hk hx hc ⟨o, hmem.1, hd⟩ fun h' hv hs => ?_
  obtain ⟨o', ho', hd'⟩ := hv
  refine h h' o' ⟨F.ns.sameBut hs (Ne.symm hmem.2.1), fun b ob e => (hs.2 b (fun q => ?_)).trans (F.keep b ob e), F.above⟩ (fun p hp => ?_) hd'
  · rw [q, hmem.2.2] at e; cases e
  · rcases List.mem_cons.mp hp with rfl | hp
    · exact ⟨ho', hmem.2⟩
    · obtain ⟨hp1, hp2⟩ := List.mem_filter.mp hp
      have hne : p.1 ≠ c := of_decide_eq_true hp2
      exact ⟨(hs.2 p.1 hne).trans (N p hp1).1, (N p hp1).2⟩
mutual
theorem datIn_siftD {news news' : List (Addr × Obj)} (hs : ∀ p ∈ news, (∃ vs n, p.2.data = .seq vs n) → p ∈ news') : ∀ {v : Value} {d : Dat}, DatIn news v d → DatIn news' v d
  | _, _, .none => .none
  | _, _, .bool b => .bool b
  | _, _, .int i t => .int i t
  | _, _, .str x t => .str x t
  | _, _, .bytes b t => .bytes b t
  | _, _, .tuple h r => .tuple (hs _ h ⟨_, _, rfl⟩) (datAll_siftD hs r)
  | _, _, .list h r => .list (hs _ h ⟨_, _, rfl⟩) (datAll_siftD hs r)
theorem datAll_siftD {news news' : List (Addr × Obj)} (hs : ∀ p ∈ news, (∃ vs n, p.2.data = .seq vs n) → p ∈ news') : ∀ {vs : List Value} {ds : List Dat}, DatAll news vs ds → DatAll news' vs ds
  | _, _, .nil => .nil
  | _, _, .cons h r => .cons (datIn_siftD hs h) (datAll_siftD hs r)
end
theorem sift_cell {h₀ h : Heap} {L c : Addr} {o : Obj} {l R : List (Addr × Obj)} {v₀ : Option Value} (N : News h₀ L h l) (hR : ∀ p ∈ R, p ∈ l) (hm : (c, o) ∈ l) (hd : o.data = .cell v₀) : ∀ p ∈ R, (∃ vs n, p.2.data = .seq vs n) → p ∈ R.filter (fun p => decide (p.1 ≠ c)) := by
  rintro ⟨a, o1⟩ hp ⟨vs, n, e⟩
  refine List.mem_filter.mpr ⟨hp, decide_eq_true (news_data_ne N (hR _ hp) hm ?_)⟩
  rw [hd]; intro q; rw [show o1.data = _ from e] at q; cases q
/-- the table in its cell: what the law has once the table is stored -/
theorem table_led {h₀ h : Heap} {L c q dx hl : Addr} {w : World} {td : Tok} {nd k : Nat} {us : List Value} {R : List (Addr × Obj)} {o o' : Obj} {v₀ : Option Value} {ds : List Dat} {h' : Heap}
    (N : News h₀ L h ((q, instObj 217 dx) :: (dx, hdDict w hl td nd) :: (hl, listOf us.toArray k) :: R)) (hm : (c, o) ∈ R) (hd : o.data = .cell v₀) (hu : DatAll R us ds)
    (N' : News h₀ L h' ((c, o') :: ((q, instObj 217 dx) :: (dx, hdDict w hl td nd) :: (hl, listOf us.toArray k) :: R).filter (fun p => decide (p.1 ≠ c)))) :
    ∃ R', News h₀ L h' ((c, o') :: (q, instObj 217 dx) :: (dx, hdDict w hl td nd) :: (hl, listOf us.toArray k) :: R') ∧ DatAll R' us ds ∧ ∀ p ∈ R, (∃ vs n, p.2.data = .seq vs n) → p ∈ R' := by
  have hm' : (c, o) ∈ ((q, instObj 217 dx) :: (dx, hdDict w hl td nd) :: (hl, listOf us.toArray k) :: R) := List.mem_cons_of_mem _ (List.mem_cons_of_mem _ (List.mem_cons_of_mem _ hm))
  have h1 : q ≠ c := news_data_ne N List.mem_cons_self hm' (by rw [hd]; intro e; cases e)
  have h2 : dx ≠ c := news_data_ne N (List.mem_cons_of_mem _ List.mem_cons_self) hm' (by rw [hd]; intro e; cases e)
  have h3 : hl ≠ c := news_data_ne N (List.mem_cons_of_mem _ (List.mem_cons_of_mem _ List.mem_cons_self)) hm' (by rw [hd]; intro e; cases e)
  rw [List.filter_cons_of_pos (by exact decide_eq_true h1), List.filter_cons_of_pos (by exact decide_eq_true h2), List.filter_cons_of_pos (by exact decide_eq_true h3)] at N'
  have hs := sift_cell N (R := R) (fun p hp => List.mem_cons_of_mem _ (List.mem_cons_of_mem _ (List.mem_cons_of_mem _ hp))) hm' hd
  exact ⟨_, N', datAll_siftD hs hu, hs⟩
theorem get_any {w mean mg mb loose gd cn cs a ccd cl outer A₀ base h₀ L m news s Q E} (x dx hl : Addr) (td : Tok) (nd c : Nat) (us : List Value) (rows : List (Str × Str)) (y : Str) (ty : Tok) (res : Str) (Ld : List (Addr × Obj))
    (B : Below A₀ base outer h₀) (F : Fr h₀ L s.heap m) (X : (hd.heap_1 w.params).In h₀) (N : News h₀ L s.heap news) (T : Top hdView loose mean mg mb h₀) (hk : cs.kind = .function)
    (hx : (x, instObj 217 dx) ∈ news) (hdx : (dx, hdDict w hl td nd) ∈ news) (hhl : (hl, listOf us.toArray c) ∈ news) (hL : ∀ p ∈ Ld, p ∈ news)
    (hu : DatAll Ld us (hdDat rows)) (hy : y.length ≤ 300) (hok : OkT (Txt.lower y)) (hrow : ∀ p ∈ rows, p.1.length ≤ 300) (hres : getFirst rows y = some res)
    (ret : ∀ t h' tk', Fr h₀ L h' m → News h₀ L h' news → Q (.str res t) { s with heap := h', toks := tk' }) :
    wpAny (model PySem.Challenge.rw_ty0056_02.prog w) (ktrTop 400 3000 gd cn cs L a ccd cl outer) (call (.ref 164) [.ref x, .str y ty]) Q E s :=
  spec_get (news := news) x dx hl td nd c us rows y ty res B F X (fun p hp => by
    rcases List.mem_cons.mp hp with rfl | hp
    · exact N _ hx
    rcases List.mem_cons.mp hp with rfl | hp
    · exact N _ hdx
    rcases List.mem_cons.mp hp with rfl | hp
    · exact N _ hhl
    exact N _ hp) T hk (DatAll.mono hL hu) hy hok hrow hres fun t h' tk' F' N' => ret t h' tk' F' (news_sub N' fun p hp => List.mem_cons_of_mem _ (List.mem_cons_of_mem _ (List.mem_cons_of_mem _ hp)))
theorem get_all_any {w mean mg mb loose gd cn cs a ccd cl outer A₀ base h₀ L m news s Q E} (x dx hl : Addr) (td : Tok) (nd c : Nat) (us : List Value) (rows : List (Str × Str)) (y : Str) (ty : Tok) (Ld : List (Addr × Obj))
    (B : Below A₀ base outer h₀) (F : Fr h₀ L s.heap m) (X : (hd.heap_1 w.params).In h₀) (N : News h₀ L s.heap news) (T : Top hdView loose mean mg mb h₀) (hk : cs.kind = .function)
    (hx : (x, instObj 217 dx) ∈ news) (hdx : (dx, hdDict w hl td nd) ∈ news) (hhl : (hl, listOf us.toArray c) ∈ news) (hL : ∀ p ∈ Ld, p ∈ news)
    (hu : DatAll Ld us (hdDat rows)) (hy : y.length ≤ 300) (hok : OkT (Txt.lower y)) (hrow : ∀ p ∈ rows, p.1.length ≤ 300) (hlen : rows.length ≤ 1000)
    (ret : ∀ D ys h' tk', Fr h₀ L h' m → News h₀ L h' ((D, listOf ys.toArray ys.length) :: news) → (∀ p ∈ news, p.1 ≠ D) → DatAll [] ys ((getAll rows y).map Dat.str) → Q (.ref D) { s with heap := h', toks := tk' }) :
    wpAny (model PySem.Challenge.rw_ty0056_02.prog w) (ktrTop 400 3000 gd cn cs L a ccd cl outer) (call (.ref 156) [.ref x, .str y ty]) Q E s :=
  spec_get_all (news := news) x dx hl td nd c us rows y ty B F X (fun p hp => by
    rcases List.mem_cons.mp hp with rfl | hp
    · exact N _ hx
    rcases List.mem_cons.mp hp with rfl | hp
    · exact N _ hdx
    rcases List.mem_cons.mp hp with rfl | hp
    · exact N _ hhl
    exact N _ hp) T hk (DatAll.mono hL hu) hy hok hrow hlen fun D ys h' tk' F' N' off hys => ret D ys h' tk' F' (news_sub N' fun p hp => by
      rcases List.mem_cons.mp hp with rfl | hp
      · exact List.mem_cons_self
      · exact List.mem_cons_of_mem _ (List.mem_cons_of_mem _ (List.mem_cons_of_mem _ (List.mem_cons_of_mem _ hp)))) (fun p hp => off p (List.mem_cons_of_mem _ (List.mem_cons_of_mem _ (List.mem_cons_of_mem _ hp)))) hys
theorem stopped {α : Type} {M : Model} {A : Around} {t : Sem α} {Q : α → Shared → Prop} {E : Value → Shared → Prop} {s : Shared} (h : wpAny M A t (fun a s' => Stop (Q a s')) E s) : wpAny M A t Q E s := h
theorem unstop {P : Prop} (h : P) : Stop P := h
theorem ms_len {cz : List Int} {k : Int} (h : cz.length = 5) (h0 : 0 ≤ k) (h1 : k < 3) : 2 ≤ (List.take (min (3 + k).toNat cz.length - 1) (List.drop 1 cz)).length ∧ (List.take (min (3 + k).toNat cz.length - 1) (List.drop 1 cz)).length ≤ 4 := by
  rw [List.length_take, List.length_drop, h]; omega
theorem cts_bound (ms : List Int) : ∀ c ∈ ms.map (fun x => x.fmod 7 - 3), -3 ≤ c ∧ c ≤ 3 := by
  intro c hc
  obtain ⟨x, _, rfl⟩ := List.mem_map.mp hc
  have h1 := fmod_lo x (n := 7) (by decide)
  have h2 := fmod_hi x (n := 7) (by decide)
  omega
theorem slice_facts {ws : List Value} {cz : List Int} {k : Int} (hi : IntsAre ws (List.take (min (3 + k).toNat cz.length - 1) (List.drop 1 cz))) (h : cz.length = 5) (h0 : 0 ≤ k) (h1 : k < 3) : ∃ ms, IntsAre ws ms ∧ ws.length = ms.length ∧ 2 ≤ ms.length ∧ ms.length ≤ 4 := ⟨_, hi, hi.length, (ms_len h h0 h1).1, (ms_len h h0 h1).2⟩
theorem ints_get {us : List Value} {ns : List Int} {i : Nat} {v : Value} (h : IntsAre us ns) (hv : us.toArray[i]? = some v) : ∃ hi : i < ns.length, ∃ t, v = .int ns[i] t := by
  have hl := h.length
  have hi : i < us.length := by
    rcases Nat.lt_or_ge i us.length with q | q
    · exact q
    · simp [q] at hv
  have hi2 : i < ns.length := hl ▸ hi
  obtain ⟨t, ht⟩ := h.get i ns[i] (List.getElem?_eq_getElem hi2)
  have e : us[i]? = some v := by simpa using hv
  exact ⟨hi2, t, (Option.some.inj (ht.symm.trans e)).symm⟩
theorem map_step {ms : List Int} {ys : List Value} {j : Nat} {f : Int → Int} {t : Tok} (hj : j < ms.length) (h : IntsAre ys ((ms.take j).map f)) : IntsAre (ys ++ [.int (f ms[j]) t]) ((ms.take (j + 1)).map f) := by
  rw [List.take_succ_eq_append_getElem hj, List.map_append, List.map_cons, List.map_nil]
  exact h.append (.cons _ _ .nil)
theorem dat_step {en : List Str} {ys : List Value} {j : Nat} {t : Tok} (hj : j < en.length) (h : DatAll [] ys ((en.take j).map Dat.str)) : DatAll [] (ys ++ [.str en[j] t]) ((en.take (j + 1)).map Dat.str) := by
  rw [List.take_succ_eq_append_getElem hj, List.map_append]
  exact h.append (.one (.str _ _))
theorem en_len (cts : List Int) : (enOf cts).length = 4 := rfl
theorem len_led' {prog : Program} {w : World} {A : Around} {E : Value → Shared → Prop} {s : Shared} {h₀ : Heap} {L l : Addr} {news : List (Addr × Obj)} {us : List Value} {cz : List Int} {n : Nat} {Q : Value → Shared → Prop} (N : News h₀ L s.heap news) (hm : (l, listOf us.toArray n) ∈ news) (hi : IntsAre us cz) (hfit : cz.length ≤ 4)
    (h : Q (.int (cz.length : Nat) (s.toks + 1)) { s with toks := s.toks + 1 + 1 }) : wpAny (model prog w) A (call (.builtin "len") [.ref l]) Q E s :=
  len_ints_fit (PySem.IsL.isList (n := n) (N _ hm).1) hi (by omega) h
theorem for_size {prog : Program} {w : World} {A : Around} {E : Value → Shared → Prop} {s : Shared} {env : Env} {h₀ : Heap} {Q : Flow → Shared → Prop} {x : Str} {px : Pos} {body : List Stmt} {r : Addr} {size : Int} {t u v : Tok} {m : Str → Option Value} {news : List (Addr × Obj)}
    (J : (Str → Option Value) → List (Addr × Obj) → Prop) (hs : 0 ≤ size) (hs9 : size ≤ 100)
    (hh : A.handled = none) (F : Fr h₀ env.locals s.heap m) (N : News h₀ env.locals s.heap news) (h0 : J m news)
    (hr : IsRange s.heap r 0 size 1 t u v)
    (hx : env.kindOf x = some .local) (hp : (env.scope.kind == .class || (env.scope.kind == .module && env.locals != env.globals)) = false)
    (hE : PassesOwn (model prog w) A env E)
    (turn : ∀ (i : Nat) ti m₁ nw I oI h tk, (0 : Int) ≤ 0 + (i : Int) → 0 + (i : Int) < size → J m₁ nw → Fr h₀ env.locals h (fun z => if z = x then some (.int (0 + (i : Int)) ti) else m₁ z) → News h₀ env.locals h ((I, oI) :: nw) → (∀ p ∈ nw, p.1 ≠ I) →
      wpAny (model prog w) A (execs body env) (ForPost h₀ env.locals I oI J { s with heap := h, toks := tk } Q) E { s with heap := h, toks := tk })
    (done : ∀ m₁ nw h tk, J m₁ nw → Fr h₀ env.locals h m₁ → News h₀ env.locals h nw → Q .next { s with heap := h, toks := tk }) :
    wpAny (model prog w) A (pyIter (.ref r)) (fun it s₂ => codeAny (model prog w) A (.forLoop (.Name x px) it body [] env) (fun r s' => match r with | .ok f => Q f s' | .error e => cameBackBy (model prog w) A env E e s') s₂) E s :=
  for_range size.toNat (fun _ => J) hh F N h0 hr (size_of (by omega)) (small_of (by omega) (by omega) (by omega) (by omega)) hx hp hE
    (fun i ti m₁ nw I oI h tk hi hJ _ F1 N1 o1 _ => turn i ti m₁ nw I oI h tk (by omega) (by omega) hJ F1 N1 o1) done
theorem mul_ok {a b : Int} (h0 : 0 ≤ b) (h9 : b ≤ 9) : IntMulOk a b := IntMulOk.of_right (PySem.intBits_le_64 (by omega) (by omega))
noncomputable def LawJ (LED : List (Addr × Obj)) (m0 : Str → Option Value) (m₁ : Str → Option Value) (nw : List (Addr × Obj)) : Prop :=
  nw = LED ∧ ∃ u1 u2 u3 u4, m₁ = fun z => if z = Str.ofString "due" then u1 else if z = Str.ofString "south" then u2 else if z = Str.ofString "east" then u3 else if z = Str.ofString "step" then u4 else m0 z
theorem sz_facts {c : Int} (h1 : 0 ≤ c.fmod 7) (h2 : c.fmod 7 < 7) : 0 ≤ 3 + c.fmod 7 ∧ 3 + c.fmod 7 ≤ 100 ∧ 3 ≤ 3 + c.fmod 7 ∧ 3 + c.fmod 7 ≤ 9 := by omega
theorem step_facts {i : Nat} {c : Int} (h : 0 + (i : Int) < 3 + c) (h2 : c < 7) : 0 + (i : Int) ≤ 9 := by omega
theorem due_odd {cz : List Int} {size first step : Int} (h : ((cz.length : Nat) : Int).fmod 2 = 1) : dueOf cz size first step = [first, (first - eulerS cz * step).fmod size, (first + eulerS (List.take (cz.length - 1) cz) * step).fmod size, (first + eulerS (List.take (cz.length - 1) cz) * step - eulerS cz * step).fmod size] := by
  rw [Int.fmod_eq_emod_of_nonneg _ (by decide)] at h
  have h2 : cz.length % 2 = 1 := by omega
  unfold dueOf backE onE
  rw [if_pos h2, if_pos h2]
theorem due_even {cz : List Int} {size first step : Int} (h : ((cz.length : Nat) : Int).fmod 2 ≠ 1) : dueOf cz size first step = [first, (first - eulerS (List.take (cz.length - 1) cz) * step).fmod size, (first + eulerS cz * step).fmod size, (first + eulerS cz * step - eulerS (List.take (cz.length - 1) cz) * step).fmod size] := by
  rw [Int.fmod_eq_emod_of_nonneg _ (by decide)] at h
  have h2 : ¬ cz.length % 2 = 1 := by omega
  unfold dueOf backE onE
  rw [if_neg h2, if_neg h2]
theorem lawT : PySem.Challenge.rw_ty0056_02.Holds := hd (by
  k_with_none
  k_with "k_all" => (refine' allLt_ne ?ah ?ad; (case ah => first | assumption | exact And.right (by assumption) | exact And.right (And.right (by assumption)) | exact And.right (And.right (And.right (by assumption))) | exact And.right (And.right (And.right (And.right (by assumption)))) | exact And.right (And.right (And.right (And.right (And.right (by assumption))))) | exact And.right (And.right (And.right (And.right (And.right (And.right (by assumption))))))); (case ad => first | exact Nat.le_refl _ | omega))
  k_with "k_all" => assumption
  k_with "k_mem" => assumption
  k_with "binaryOp Mod int int" => (k_here; (with_reducible refine mod_int' ?e ?_); (case e => first | with_reducible assumption | decide))
  k_with "call ref" => (refine Stop.mk ?_)
  k_with "call ref" => (k_here; (with_reducible show wpAny _ _ (call (Value.ref 256) _) _ _ _); k_dflt (refine' room ?d1 ?d2 (spec_cells _ _ _ ?k1 ?k2 ?k3 ?k4 ?k5 ?k6 ?k7 ?k8 ?k9 ?_); (case d1 => exact lv_d); (case d2 => exact lv_u); (case k1 => k_asm); (case k2 => k_asm); (case k3 => k_asm); (case k4 => k_asm); (case k5 => k_asm); (case k6 => first | exact rfl | assumption); (case k7 => assumption); (case k8 => assumption); (case k9 => omega)); intro cl9q cz9q us9q n9q h9q tk9q F9q N9q l9q hi9q hlen9q hb9q; (have hc0q := getD_bound hb9q (by omega) 0); (obtain ⟨⟨f1q, f2q⟩, ⟨f3q, f4q⟩, ⟨f5q, f6q⟩⟩ := fm_facts (cz9q.getD (Int.toNat 0) 0)); (have hsz0q := sz_ne f1q); (obtain ⟨_, _, ⟨f7q, f8q⟩⟩ := fm_facts (cz9q.getD 0 0)); (try dsimp only); (try k_fold))
  k_with "exec Assign cons ListComp" => (k_here; k_dflt (refine LCg.Assign_ListComp_U (F₀ := by k_asm) (by rfl) (by with_unfolding_all rfl) (by with_unfolding_all rfl) (by decide) (by rfl) (by decide) (by rfl) (by rfl) (by rfl) (stopped ?_)))
  k_with "call ref" => (k_here; (with_reducible show wpAny _ _ (call (Value.ref 263) _) _ _ _); k_dflt (refine' room ?d1 ?d2 (spec_word _ _ _ _ _ _ ?k1 ?k2 ?k3 ?k4 ?k5 ?k6 ?k7 ?k8 ?k9 ?ka ?kb ?kc ?_); (case d1 => exact lv_d); (case d2 => exact lv_u); (case k1 => k_asm); (case k2 => k_asm); (case k3 => k_asm); (case k4 => k_asm); (case k5 => k_asm); (case k6 => first | exact rfl | assumption); (case k7 => k_mem); (case k8 => with_reducible assumption); (case k9 => with_reducible assumption); (case ka => with_reducible assumption); (case kb => with_reducible assumption); (case kc => with_reducible assumption)); intro t8q h8q tk8q F8q N8q; (try dsimp only); (try k_fold))
  k_with "call ref" => (k_here; (with_reducible show wpAny _ _ (call (Value.ref 277) _) _ _ _); k_dflt (refine' room ?d1 ?d2 (spec_tangle _ _ _ _ ?k1 ?k2 ?k3 ?k4 ?k5 ?k6 ?k7 ?k8 ?k9 ?ka ?kb ?kc ?_); (case d1 => exact lv_d); (case d2 => exact lv_u); (case k1 => k_asm); (case k2 => k_asm); (case k3 => k_asm); (case k4 => k_asm); (case k5 => k_asm); (case k6 => first | exact rfl | assumption); (case k7 => with_reducible assumption); (case k8 => with_reducible assumption); (case k9 => with_reducible assumption); (case ka => decide); (case kb => with_reducible assumption); (case kc => with_reducible assumption)); intro q8q dx8q hl8q td8q nd8q us8q c8q R8q h8q tk8q F8q N8q sub8q off8q dat8q; (try dsimp only); (try k_fold))
  k_with "call builtin:len" => (k_here; (with_reducible show wpAny _ _ (call (Value.builtin "len") [Value.ref _]) _ _ _); k_dflt (refine' len_led' ?q1 ?q2 ?q3 ?q4 ?_; (case q1 => k_asm); (case q2 => k_mem); (case q3 => with_reducible assumption); (case q4 => with_reducible assumption)); (try dsimp only))
  k_with "exec For Name Call cons nil" => (k_here; k_dflt (refine wpAny_For ?_ (by intro _; rfl)))
  k_with "pyIter ref" => (refine Stop.mk ?_)
  k_with "binaryOp Mult int int" => (k_here; (with_reducible refine mul_int ?_ (mul_ok ?m1 ?m2)); (case m1 => with_reducible assumption); (case m2 => with_reducible assumption))
  k_go0
  all_goals (try k_fold)
  iterate 9 walk1
  rename_i w0 s0 s1 mg0 mb0 G Y fa o0 pm0 doc0 ho0 hg0 KX XX V GL T0 BT TE TW w10 w9 M0 w8 w7 hcd w6 hs0 hlay0 hLa hra hl2 w5 w4 w3 w2 w1 hL0 ra0 ww0 r00 hI0 hrr hc1 hc2 K0 hD0 h1 tk1 F0 wc right0 N0 X0
  clear hD0 hc2 hrr r00 ww0 ra0 hl2 hra hLa hlay0 hs0 hcd M0 TW TE BT GL V XX ho0 Y G
  have K1 : Below callerA s1.heap [] s1.heap := K0
  clear K0
  have hc63 : w6.length ≤ 63 := by omega
  k_steps
  refine unstop ?_
  rename IntsAre _ (List.take _ _) => hiS
  rename 0 ≤ Int.fmod (Int.fdiv (List.getD _ 0 0) 63) 3 => f7'
  rename Int.fmod (Int.fdiv (List.getD _ 0 0) 63) 3 < 3 => f8'
  rename List.length _ = 5 => hl5
  rename 0 ≤ Int.fmod (List.getD _ (Int.toNat 0) 0) 7 => f1'
  rename Int.fmod (List.getD _ (Int.toNat 0) 0) 7 < 7 => f2'
  rename 0 ≤ Int.fmod (Int.fmod (Int.fdiv _ 7) 9) (3 + _) => f3'
  rename Int.fmod (Int.fmod (Int.fdiv _ 7) 9) (3 + _) < 3 + _ => f4'
  have hq1 := slice_facts hiS hl5
  have hq2 := hq1 f7'
  have hq3 := hq2 f8'
  obtain ⟨ms, hms, hml, hm2, hm4⟩ := hq3
  clear hq1 hq2
  clear hiS
  refine' LCg.CompSrc.ledger (by rfl) (by k_asm) (by k_asm) (by k_mem) ?hsz (fun g => comp_ind_U ms.length (fun i ys nw => nw = _ ∧ IntsAre ys ((ms.take i).map fun x : Int => x.fmod 7 - 3)) ?turn2 ?fin _ 0 [] _ ?ee ⟨rfl, ?zz⟩)
  case hsz => rw [List.size_toArray, sizeLine_eq]; omega
  case ee => rw [List.size_toArray]; omega
  case zz => exact .nil
  case turn2 =>
    rintro j ys nw2 v J oJ C oC D m₂ h2 tk2 E' hj ⟨rfl, hys⟩ hP hN hm2' F2 N2 off2 hne
    have hq1 := ints_get (i := j) (v := v) hms
    have hq2 := hq1 hP
    obtain ⟨hj2, t9, hq4⟩ := hq2
    clear hq1
    subst hq4
    refine stopped ?_
    k_steps
    refine unstop ?_
    refine LCg.CompEnd.intro F2 N2 _ (fun p hp => hp) off2 ?srcm ⟨rfl, ?_⟩
    case srcm => exact .inr ⟨_, List.mem_cons_self, rfl, _, rfl⟩
    exact map_step (f := fun x => x.fmod 7 - 3) hj2 hys
  case fin =>
    rintro ys nw2 ⟨rfl, hys⟩ D h2 tk2 F2 N2 off2
    (try dsimp only)
    rw [List.take_length] at hys
    have hcb := cts_bound ms
    have hcl : (ms.map fun x => x.fmod 7 - 3).length = ms.length := List.length_map _
    obtain ⟨cts, hct⟩ : ∃ cts, cts = ms.map fun x => x.fmod 7 - 3 := ⟨_, rfl⟩
    rw [← hct] at hys hcb hcl
    clear hct
    have hyc0 := hys
    have hc0 := (by with_reducible assumption : (0 : Int) ≤ List.getD _ (Int.toNat 0) 0 ∧ List.getD _ (Int.toNat 0) 0 ≤ (20000 : Int))
    have hl4 : cts.length ≤ 4 := by rw [hcl]; exact hm4
    have hl2 : 2 ≤ cts.length := by rw [hcl]; exact hm2
    have hwok := word_ok hcb hl4
    have hwr := word_row hcb hl4
    obtain ⟨hw1, hw2, hw3, hw4, hw5⟩ := hwr
    k_steps
    rename News _ _ _ _ => N8
    rename Fr _ _ _ _ => F8
    rename DatAll _ _ (hdDat _) => dat8
    have sub8 := (by assumption : ∀ p ∈ ((_, _) :: _ : List (Addr × Obj)), p ∈ (_ : List (Addr × Obj)))
    have hc8 := sub8 (s1.heap.objs.size + 1, wc) (List.mem_cons_of_mem _ (List.mem_cons_of_mem _ (List.mem_cons_of_mem _ List.mem_cons_self)))
    have hd8 := sub8 _ List.mem_cons_self
    k_here
    refine' storeX_M F8 N8 ?sc ?sm right0 ?sg ?sk ?sx
    case sc => rfl
    case sm => exact List.mem_cons_of_mem _ (List.mem_cons_of_mem _ (List.mem_cons_of_mem _ hc8))
    case sk => rfl
    case sx => rfl
    case sg =>
      intro h9 o9 F9 N9 hco9
      have hT := table_led N8 hc8 right0 dat8 N9
      obtain ⟨R9, NA, dat9, keep9⟩ := hT
      have hd9 : (D, listOf ys.toArray ys.length) ∈ R9 := keep9 _ hd8 ⟨_, _, rfl⟩
      clear N9 N8 F8 dat8 sub8 keep9 hc8 hd8
      (try dsimp only)
      k_steps
      refine unstop ?_
      have hro := rows_ok hcb hl4
      have hrg := rows_get hcb hl4
      obtain ⟨hg1, hg2, hg3, hg4⟩ := hrg
      have hok9 : OkT (Txt.lower (Str.ofString "X")) := by unfold OkT OkC; decide +kernel
      refine room lv_d4 lv_u3 (get_all_any _ _ _ _ _ _ _ (rowsOf cts) _ _ R9 K1 F9 KX NA T0 rfl (List.mem_cons_of_mem _ (List.mem_cons_self)) (List.mem_cons_of_mem _ (List.mem_cons_of_mem _ (List.mem_cons_self))) (List.mem_cons_of_mem _ (List.mem_cons_of_mem _ (List.mem_cons_of_mem _ (List.mem_cons_self)))) (fun p hp => List.mem_cons_of_mem _ (List.mem_cons_of_mem _ (List.mem_cons_of_mem _ (List.mem_cons_of_mem _ (hp))))) dat9 (Nat.le_of_ble_eq_true rfl) hok9 hro.1 (Nat.le_trans hro.2 (by decide)) ?_)
      intro Dc yc hA tkA FA NB offB hyc
      clear NA F9 F2 N2
      (try dsimp only)
      k_steps
      rename News _ _ _ _ => NC
      rename Fr _ _ _ _ => FC
      refine unstop ?_
      refine' LCg.CompSrc.ledger (by rfl) FC NC List.mem_cons_self ?hsz3 (fun g => comp_ind_U 4 (fun i ys nw => nw = _ ∧ DatAll [] ys (((enOf cts).take i).map Dat.str)) ?turn3 ?fin3 _ 0 [] _ ?ee3 ⟨rfl, ?zz3⟩)
      case hsz3 => rw [sizeLine_eq]; exact Nat.le_of_ble_eq_true rfl
      case ee3 => rfl
      case zz3 => exact .nil
      case turn3 =>
        rintro j ys nw2 v J oJ C oC D m₂ h2 tk2 E' hj ⟨rfl, hys⟩ hP hN hm2' F2 N2 off2 hne
        rcases j with _|_|_|_|j
        case succ.succ.succ.succ => exact absurd hj (by omega)
        case zero =>
          have hv := Option.some.inj hP
          subst hv
          refine stopped ?_
          k_steps
          refine unstop ?_
          have hok8 : OkT (Txt.lower (Str.ofString "Nw")) := by unfold OkT OkC; decide +kernel
          refine room lv_d4 lv_u3 (get_any _ _ _ _ _ _ _ (rowsOf cts) _ _ _ R9 K1 F2 KX N2 T0 rfl (List.mem_cons_of_mem _ (List.mem_cons_of_mem _ (List.mem_cons_of_mem _ (List.mem_cons_of_mem _ (List.mem_cons_of_mem _ (List.mem_cons_of_mem _ (List.mem_cons_self))))))) (List.mem_cons_of_mem _ (List.mem_cons_of_mem _ (List.mem_cons_of_mem _ (List.mem_cons_of_mem _ (List.mem_cons_of_mem _ (List.mem_cons_of_mem _ (List.mem_cons_of_mem _ (List.mem_cons_self)))))))) (List.mem_cons_of_mem _ (List.mem_cons_of_mem _ (List.mem_cons_of_mem _ (List.mem_cons_of_mem _ (List.mem_cons_of_mem _ (List.mem_cons_of_mem _ (List.mem_cons_of_mem _ (List.mem_cons_of_mem _ (List.mem_cons_self))))))))) (fun p hp => List.mem_cons_of_mem _ (List.mem_cons_of_mem _ (List.mem_cons_of_mem _ (List.mem_cons_of_mem _ (List.mem_cons_of_mem _ (List.mem_cons_of_mem _ (List.mem_cons_of_mem _ (List.mem_cons_of_mem _ (List.mem_cons_of_mem _ (hp)))))))))) dat9 (Nat.le_of_ble_eq_true rfl) hok8 hro.1 hg1 ?_)
          intro t8 h8 tk8 F3 N3
          (try dsimp only)
          refine unstop ?_
          refine LCg.CompEnd.intro F3 N3 _ (fun p hp => hp) off2 ?srcm0 ⟨rfl, ?dat0⟩
          case srcm0 => exact .inr ⟨_, List.mem_cons_self, rfl, _, rfl⟩
          case dat0 => exact dat_step (en := enOf cts) (j := 0) (by rw [en_len]; decide) hys
        case succ.zero =>
          have hv := Option.some.inj hP
          subst hv
          refine stopped ?_
          k_steps
          refine unstop ?_
          have hok8 : OkT (Txt.lower (Str.ofString "nE")) := by unfold OkT OkC; decide +kernel
          refine room lv_d4 lv_u3 (get_any _ _ _ _ _ _ _ (rowsOf cts) _ _ _ R9 K1 F2 KX N2 T0 rfl (List.mem_cons_of_mem _ (List.mem_cons_of_mem _ (List.mem_cons_of_mem _ (List.mem_cons_of_mem _ (List.mem_cons_of_mem _ (List.mem_cons_of_mem _ (List.mem_cons_self))))))) (List.mem_cons_of_mem _ (List.mem_cons_of_mem _ (List.mem_cons_of_mem _ (List.mem_cons_of_mem _ (List.mem_cons_of_mem _ (List.mem_cons_of_mem _ (List.mem_cons_of_mem _ (List.mem_cons_self)))))))) (List.mem_cons_of_mem _ (List.mem_cons_of_mem _ (List.mem_cons_of_mem _ (List.mem_cons_of_mem _ (List.mem_cons_of_mem _ (List.mem_cons_of_mem _ (List.mem_cons_of_mem _ (List.mem_cons_of_mem _ (List.mem_cons_self))))))))) (fun p hp => List.mem_cons_of_mem _ (List.mem_cons_of_mem _ (List.mem_cons_of_mem _ (List.mem_cons_of_mem _ (List.mem_cons_of_mem _ (List.mem_cons_of_mem _ (List.mem_cons_of_mem _ (List.mem_cons_of_mem _ (List.mem_cons_of_mem _ (hp)))))))))) dat9 (Nat.le_of_ble_eq_true rfl) hok8 hro.1 hg2 ?_)
          intro t8 h8 tk8 F3 N3
          (try dsimp only)
          refine unstop ?_
          refine LCg.CompEnd.intro F3 N3 _ (fun p hp => hp) off2 ?srcm1 ⟨rfl, ?dat1⟩
          case srcm1 => exact .inr ⟨_, List.mem_cons_self, rfl, _, rfl⟩
          case dat1 => exact dat_step (en := enOf cts) (j := 1) (by rw [en_len]; decide) hys
        case succ.succ.zero =>
          have hv := Option.some.inj hP
          subst hv
          refine stopped ?_
          k_steps
          refine unstop ?_
          have hok8 : OkT (Txt.lower (Str.ofString "SW")) := by unfold OkT OkC; decide +kernel
          refine room lv_d4 lv_u3 (get_any _ _ _ _ _ _ _ (rowsOf cts) _ _ _ R9 K1 F2 KX N2 T0 rfl (List.mem_cons_of_mem _ (List.mem_cons_of_mem _ (List.mem_cons_of_mem _ (List.mem_cons_of_mem _ (List.mem_cons_of_mem _ (List.mem_cons_of_mem _ (List.mem_cons_self))))))) (List.mem_cons_of_mem _ (List.mem_cons_of_mem _ (List.mem_cons_of_mem _ (List.mem_cons_of_mem _ (List.mem_cons_of_mem _ (List.mem_cons_of_mem _ (List.mem_cons_of_mem _ (List.mem_cons_self)))))))) (List.mem_cons_of_mem _ (List.mem_cons_of_mem _ (List.mem_cons_of_mem _ (List.mem_cons_of_mem _ (List.mem_cons_of_mem _ (List.mem_cons_of_mem _ (List.mem_cons_of_mem _ (List.mem_cons_of_mem _ (List.mem_cons_self))))))))) (fun p hp => List.mem_cons_of_mem _ (List.mem_cons_of_mem _ (List.mem_cons_of_mem _ (List.mem_cons_of_mem _ (List.mem_cons_of_mem _ (List.mem_cons_of_mem _ (List.mem_cons_of_mem _ (List.mem_cons_of_mem _ (List.mem_cons_of_mem _ (hp)))))))))) dat9 (Nat.le_of_ble_eq_true rfl) hok8 hro.1 hg3 ?_)
          intro t8 h8 tk8 F3 N3
          (try dsimp only)
          refine unstop ?_
          refine LCg.CompEnd.intro F3 N3 _ (fun p hp => hp) off2 ?srcm2 ⟨rfl, ?dat2⟩
          case srcm2 => exact .inr ⟨_, List.mem_cons_self, rfl, _, rfl⟩
          case dat2 => exact dat_step (en := enOf cts) (j := 2) (by rw [en_len]; decide) hys
        case succ.succ.succ.zero =>
          have hv := Option.some.inj hP
          subst hv
          refine stopped ?_
          k_steps
          refine unstop ?_
          have hok8 : OkT (Txt.lower (Str.ofString "sE")) := by unfold OkT OkC; decide +kernel
          refine room lv_d4 lv_u3 (get_any _ _ _ _ _ _ _ (rowsOf cts) _ _ _ R9 K1 F2 KX N2 T0 rfl (List.mem_cons_of_mem _ (List.mem_cons_of_mem _ (List.mem_cons_of_mem _ (List.mem_cons_of_mem _ (List.mem_cons_of_mem _ (List.mem_cons_of_mem _ (List.mem_cons_self))))))) (List.mem_cons_of_mem _ (List.mem_cons_of_mem _ (List.mem_cons_of_mem _ (List.mem_cons_of_mem _ (List.mem_cons_of_mem _ (List.mem_cons_of_mem _ (List.mem_cons_of_mem _ (List.mem_cons_self)))))))) (List.mem_cons_of_mem _ (List.mem_cons_of_mem _ (List.mem_cons_of_mem _ (List.mem_cons_of_mem _ (List.mem_cons_of_mem _ (List.mem_cons_of_mem _ (List.mem_cons_of_mem _ (List.mem_cons_of_mem _ (List.mem_cons_self))))))))) (fun p hp => List.mem_cons_of_mem _ (List.mem_cons_of_mem _ (List.mem_cons_of_mem _ (List.mem_cons_of_mem _ (List.mem_cons_of_mem _ (List.mem_cons_of_mem _ (List.mem_cons_of_mem _ (List.mem_cons_of_mem _ (List.mem_cons_of_mem _ (hp)))))))))) dat9 (Nat.le_of_ble_eq_true rfl) hok8 hro.1 hg4 ?_)
          intro t8 h8 tk8 F3 N3
          (try dsimp only)
          refine unstop ?_
          refine LCg.CompEnd.intro F3 N3 _ (fun p hp => hp) off2 ?srcm3 ⟨rfl, ?dat3⟩
          case srcm3 => exact .inr ⟨_, List.mem_cons_self, rfl, _, rfl⟩
          case dat3 => exact dat_step (en := enOf cts) (j := 3) (by rw [en_len]; decide) hys
      case fin3 =>
        rintro ys nw2 ⟨rfl, hys⟩ D h2 tk2 F2 N2 off2
        have hye : DatAll [] ys ((enOf cts).map Dat.str) := hys
        clear hys
        (try dsimp only)
        k_steps
        rename News _ _ _ _ => ND
        rename Fr _ _ _ _ => FD
        refine unstop ?_
        have hl1 : 1 ≤ cts.length := Nat.le_of_succ_le hl2
        refine room lv_d lv_u (spec_euler _ _ cts _ K1 FD KX ND T0 rfl (List.mem_cons_of_mem _ (List.mem_cons_of_mem _ (List.mem_cons_of_mem _ (List.mem_cons_of_mem _ (List.mem_cons_of_mem _ (List.mem_cons_of_mem _ (List.mem_cons_of_mem _ (hd9)))))))) hyc0 hcb hl4 hl1 ?_)
        intro tE hE tkE FE NE
        (try dsimp only)
        k_steps
        rename IntsAre _ (List.take _ _) => hiR
        rename News _ _ _ _ => NF
        rename Fr _ _ _ _ => FF
        refine unstop ?_
        have hlR : (List.take (cts.length - 1) cts).length = cts.length - 1 := by rw [List.length_take]; exact Nat.min_eq_left (Nat.sub_le _ _)
        have hcR : ∀ c ∈ List.take (cts.length - 1) cts, -3 ≤ c ∧ c ≤ 3 := fun c hc => hcb c (List.mem_of_mem_take hc)
        have hlR4 : (List.take (cts.length - 1) cts).length ≤ 4 := by rw [hlR]; exact Nat.le_trans (Nat.sub_le _ _) hl4
        have hlR1 : 1 ≤ (List.take (cts.length - 1) cts).length := by rw [hlR]; exact Nat.le_sub_of_add_le hl2
        refine room lv_d lv_u (spec_euler _ _ (List.take (cts.length - 1) cts) _ K1 FF KX NF T0 rfl List.mem_cons_self hiR hcR hlR4 hlR1 ?_)
        intro tR hR tkR FR NR
        (try clear NF FF)
        (try dsimp only)
        k_steps
        · rename IsRange _ _ _ _ _ _ _ _ => hrgS
          rename News _ _ _ _ => NG
          rename Fr _ _ _ _ => FG
          refine unstop ?_
          have hszf := sz_facts f1' f2'
          obtain ⟨z1, z2, z3, z4⟩ := hszf
          rename Int.fmod _ 2 = 1 => hpar
          refine' for_size (LawJ _ _) z1 z2 (by rfl) FG NG ⟨rfl, _, _, _, _, form4 rfl rfl rfl rfl ?g01⟩ hrgS (by rfl) (by rfl) ?gE1 ?turnS1 ?doneS1
          case g01 => exact fun _ _ _ _ _ => rfl
          case gE1 => passes_own
          case doneS1 =>
            rintro m₂ nw2 h3 tk3 ⟨rfl, u1, u2, u3, u4, rfl⟩ F3 N3
            (try dsimp only)
            k_steps
          case turnS1 =>
            rintro i ti m₂ nw2 I oI h3 tk3 hi0 hi9 ⟨rfl, u1, u2, u3, u4, rfl⟩ F3 N3 off3
            have hi10 := step_facts hi9 f2'
            (try dsimp only)
            refine stopped ?_
            k_steps
            rename News _ _ _ _ => NH
            rename Fr _ _ _ _ => FH
            refine unstop ?_
            have hek := ends_ok (step := 0 + (i : Int)) hcb hl2 hl4 ⟨z3, z4⟩ ⟨f3', f4'⟩
            obtain ⟨hek1, hek2, hek3⟩ := hek
            have hcr12 := cr_ok hcb hl2 hl4
            refine room lv_d lv_u (spec_ends _ _ _ _ (crOf cts) (enOf cts) _ _ _ _ _ _ _ _ [] [] K1 FH KX NH T0 rfl (List.mem_cons_of_mem _ (List.mem_cons_of_mem _ (List.mem_cons_of_mem _ (List.mem_cons_of_mem _ (List.mem_cons_of_mem _ (List.mem_cons_self)))))) hyc (List.mem_cons_of_mem _ (List.mem_cons_of_mem _ (List.mem_cons_of_mem _ (List.mem_cons_self)))) hye ⟨z3, z4⟩ ⟨f3', f4'⟩ ⟨hi0, hi9⟩ hcr12 (Nat.le_of_eq (en_len cts)) hek1 hek2 ?_)
            intro De ye hE2 tkE2 FI NI offI hyI
            rw [hek3] at hyI
            (try dsimp only)
            k_steps
            · refine unstop ?_
              refine ForPost.intro _ FI NI (fun p hp => List.mem_cons_of_mem _ (List.mem_cons_of_mem _ hp)) off3 ⟨rfl, _, _, _, _, form4 (by rfl) (by rfl) (by rfl) (by rfl) (by intro z h1 h2 h3 h4; simp only [h1, h2, h3, h4, if_false])⟩
            · exfalso
              rename ¬ (dueOf _ _ _ _ = _) => hne9
              exact hne9 (due_odd hpar)
        · rename IsRange _ _ _ _ _ _ _ _ => hrgS
          rename News _ _ _ _ => NG
          rename Fr _ _ _ _ => FG
          refine unstop ?_
          have hszf := sz_facts f1' f2'
          obtain ⟨z1, z2, z3, z4⟩ := hszf
          rename Int.fmod _ 2 ≠ 1 => hpar
          refine' for_size (LawJ _ _) z1 z2 (by rfl) FG NG ⟨rfl, _, _, _, _, form4 rfl rfl rfl rfl ?g02⟩ hrgS (by rfl) (by rfl) ?gE2 ?turnS2 ?doneS2
          case g02 => exact fun _ _ _ _ _ => rfl
          case gE2 => passes_own
          case doneS2 =>
            rintro m₂ nw2 h3 tk3 ⟨rfl, u1, u2, u3, u4, rfl⟩ F3 N3
            (try dsimp only)
            k_steps
          case turnS2 =>
            rintro i ti m₂ nw2 I oI h3 tk3 hi0 hi9 ⟨rfl, u1, u2, u3, u4, rfl⟩ F3 N3 off3
            have hi10 := step_facts hi9 f2'
            (try dsimp only)
            refine stopped ?_
            k_steps
            rename News _ _ _ _ => NH
            rename Fr _ _ _ _ => FH
            refine unstop ?_
            have hek := ends_ok (step := 0 + (i : Int)) hcb hl2 hl4 ⟨z3, z4⟩ ⟨f3', f4'⟩
            obtain ⟨hek1, hek2, hek3⟩ := hek
            have hcr12 := cr_ok hcb hl2 hl4
            refine room lv_d lv_u (spec_ends _ _ _ _ (crOf cts) (enOf cts) _ _ _ _ _ _ _ _ [] [] K1 FH KX NH T0 rfl (List.mem_cons_of_mem _ (List.mem_cons_of_mem _ (List.mem_cons_of_mem _ (List.mem_cons_of_mem _ (List.mem_cons_of_mem _ (List.mem_cons_self)))))) hyc (List.mem_cons_of_mem _ (List.mem_cons_of_mem _ (List.mem_cons_of_mem _ (List.mem_cons_self)))) hye ⟨z3, z4⟩ ⟨f3', f4'⟩ ⟨hi0, hi9⟩ hcr12 (Nat.le_of_eq (en_len cts)) hek1 hek2 ?_)
            intro De ye hE2 tkE2 FI NI offI hyI
            rw [hek3] at hyI
            (try dsimp only)
            k_steps
            · refine unstop ?_
              refine ForPost.intro _ FI NI (fun p hp => List.mem_cons_of_mem _ (List.mem_cons_of_mem _ hp)) off3 ⟨rfl, _, _, _, _, form4 (by rfl) (by rfl) (by rfl) (by rfl) (by intro z h1 h2 h3 h4; simp only [h1, h2, h3, h4, if_false])⟩
            · exfalso
              rename ¬ (dueOf _ _ _ _ = _) => hne9
              exact hne9 (due_even hpar))
end Mine
end
theorem PySem.Challenge.cw_ty0056_02_holds : PySem.Challenge.rw_ty0056_02.Holds :=
  Mine.lawT
