import PyProof.Rows.All
import Wide.All
import OpenK.AllK
import Wide.FinOn
import PySem.Challenge.RW_yi0038_01
set_option Elab.async false
set_option rowWalk.seconds 0
set_option linter.unusedVariables false
set_option maxRecDepth 100000
set_option maxHeartbeats 4000000

section HeadU
open PySem PySem.W PyProof.Rows
namespace Mine

/-- the statements of the text that the head shows -/
def qv : Program := PySem.W.view PySem.Challenge.pw_yi0038_01 [0, 2, 3, 5, 6, 7, 9, 10, 11, 12, 13]
def lq : List PySem.Str := [PySem.Str.ofString "PolynomialRing", PySem.Str.ofString "PolynomialNTT"]
def xq (s : Shared) : Bool := xlAt qv [] s && recOk (RowW.records PySem.Challenge.rw_yi0038_01.row.toRowW) s

/-- the top, step by step on a tree instead of a list -/
def topT (w : World) : Nat → SharedT → Thread → Option SharedT
  | 0, _, _ => none
  | n + 1, s, t => match through t with
    | true => some s
    | false => match stepOk 11 (some (.ref 6)) t with
      | false => none
      | true => match stepT (denote treeTable) PySem.Challenge.pw_yi0038_01 w s t with
        | some r => topT w n r.1 r.2
        | none => none
theorem topT_run (w : World) : ∀ (n : Nat) (s : SharedT) (t : Thread) (r : SharedT), topT w n s t = some r →
    topRun treeTable PySem.Challenge.pw_yi0038_01 w 11 (some (.ref 6)) n s.abs t = some r.abs
  | 0, _, _, _, h => by cases h
  | n + 1, s, t, r, h => by
    unfold topT at h
    unfold topRun
    split at h
    · next e => rw [e]; exact congrArg (Option.map SharedT.abs) h
    · next e =>
      rw [e]
      split at h
      · cases h
      · next k =>
        rw [k]
        split at h
        · next x g => dsimp only; rw [stepT_spec (s' := x.1) (t' := x.2) g]; exact topT_run w n _ _ _ h
        · cases h

noncomputable def bootT (P : Params) : BT := ((boot_heap P).objs.toList.foldl (fun (x : BT × Nat) o => (x.1.ins x.2 o, x.2 + 1)) (BT.nil, 0)).1
theorem bootT_abs : ∀ P, absHeap (bootT P) 11 {} = boot_heap P := fun P => by kernel_rfl
theorem boot_looks : ∀ P, ((boot_heap P).isNs mainGlobals && (Array.mk ([] : List GenState)).size == 0) = true := fun P => by kernel_rfl
theorem boot_ann : ∀ P, (boot_heap P).nsMap mainGlobals "__annotations__" = some (.ref 6) := fun P => by kernel_rfl

/-- the whole top in one run, and what is looked at behind it -/
def LG (α : Type) (Yf : Shared → α) (H : Heap) (s : Shared) :=
  ((staticsOk (importedModules PySem.Challenge.pw_yi0038_01.main.body) H s.heap && namesBound PySem.Challenge.pw_yi0038_01 s.heap && gensDone s && laidKept H s.heap,
    openSeen qv lq (importedModules PySem.Challenge.pw_yi0038_01.main.body) xq true s), Yf s)
def LF (α : Type) (Yf : Shared → α) (B : BT) (H : Heap) (d : Drawn) (k : Nat) (w : World) (os : OsState) :=
  (topT w 3200 ⟨B, 11, {}, Array.mk [], d, k, os⟩ (topStub PySem.Challenge.pw_yi0038_01)).map fun s => LG α Yf H s.abs
def RG := openGood qv lq
def touch (_ : Params → Frag) : Bool := true
lay_quick Mine.LF Mine.RG

theorem boot_o : ∀ w : World, (fencedOpening treeTable PySem.Challenge.pw_yi0038_01 w 6318).map (fun s => (s.heap, s.gens, s.drawn, s.toks)) = some (boot_heap w.params, Array.mk [], boot_drawn, boot_toks) :=
  boot_open rfl rfl (fun _ => rfl)

theorem left_of {α : Type} {Yf : Shared → α} {Ya : World → α}
    (h : ∀ w os, PySem.W.Fast.tw1969688202998503015 α Yf (bootT w.params) (boot_heap w.params) boot_drawn boot_toks w os = some ((true, PySem.W.Fast.tw11824380789403807370), Ya w)) :
    LeftO PySem.Challenge.pw_yi0038_01 qv lq xq Yf Ya 6318 := fun w => by
  obtain ⟨⟨hh, gs, d, k, os⟩, e, e'⟩ := Option.map_eq_some_iff.mp (boot_o w)
  obtain ⟨rfl, rfl, rfl, rfl⟩ : hh = boot_heap w.params ∧ gs = Array.mk [] ∧ d = boot_drawn ∧ k = boot_toks := by simpa using e'
  have h1 : LF α Yf (bootT w.params) (boot_heap w.params) boot_drawn boot_toks w os = some ((true, RG), Ya w) :=
    (congrFun (congrFun (congrFun (congrFun (congrFun (congrFun (congrFun (congrFun PySem.W.Fast.te1969688202998503015 α) Yf) _) _) _) _) w) os).trans
      ((h w os).trans (congrArg (fun g => some ((true, g), Ya w)) PySem.W.Fast.te11824380789403807370.symm))
  obtain ⟨s, r, l⟩ := Option.map_eq_some_iff.mp h1
  have r1 := topRun_mono 3118 _ _ _ _ (topT_run w _ _ _ _ r)
  have r2 : topRun treeTable PySem.Challenge.pw_yi0038_01 w 11 (some (.ref 6)) 6318 ⟨boot_heap w.params, Array.mk [], boot_drawn, boot_toks, os⟩ (topStub PySem.Challenge.pw_yi0038_01) = some s.abs := by
    rw [← bootT_abs w.params]; exact r1
  obtain ⟨l1, l4⟩ := Prod.mk.inj l
  obtain ⟨l2, l3⟩ := Prod.mk.inj l1
  have t : topFrom treeTable PySem.Challenge.pw_yi0038_01 w 6318 ⟨boot_heap w.params, Array.mk [], boot_drawn, boot_toks, os⟩ = some s.abs := by
    unfold topFrom
    dsimp only
    rw [boot_looks w.params, boot_ann w.params, show (boot_heap w.params).objs.size = 11 from rfl, r2]
    dsimp only [Option.bind_some]
    rw [l2]
  unfold openEnds
  rw [e, Option.bind_some, t]
  exact congrArg some (Prod.ext l3 l4)

theorem left_k {K K' : Params → Frag} (e : K = K') {as : List Addr}
    (h : ∀ (w : World) (os : OsState), PySem.W.Fast.tw1969688202998503015 (List (Option Obj)) (fun s => as.map s.heap.get?) (bootT w.params) (boot_heap w.params) boot_drawn boot_toks w os = some ((true, PySem.W.Fast.tw11824380789403807370), (K' w.params).map fun p => some p.2)) :
    ∀ (w : World) (os : OsState), PySem.W.Fast.tw1969688202998503015 (List (Option Obj)) (fun s => as.map s.heap.get?) (bootT w.params) (boot_heap w.params) boot_drawn boot_toks w os = some ((true, PySem.W.Fast.tw11824380789403807370), (K w.params).map fun p => some p.2) := by
  subst e; exact h
local macro_rules
  | `(tactic| o_head $H:term) => do
    let te := Lean.mkIdent `PySem.W.Fast.te8075568018651887793
    let K := Lean.mkIdent `Mine.hd.heap_39
    let hw := Lean.mkIdent `hw
    let hc := Lean.mkIdent `hc
    `(tactic| (
      refine holds_open (q := Mine.qv) (loose := [PySem.Str.ofString "PolynomialRing", PySem.Str.ofString "PolynomialNTT"]) (Xt := Mine.xq) (XP := XL Mine.qv []) (Yf := Hook.obs $H) (Ya := Hook.val $H) (YP := Hook.says $H) (N := 6318) ?hl (Hook.of $H) (Hook.keeps $H)
        (fun s e => xl_of s (Bool.and_eq_true_iff.mp e).1) XL.keeps (by rfl) (by rfl) (by rfl) (fun s e => recFacts_of (Bool.and_eq_true_iff.mp e).2) (by rfl) (by first | assumption | decide +kernel) (by decide +kernel) ⟨rfl, rfl, rfl, rfl, rfl, by decide +kernel⟩ ?$hw ?$hc
      case hl =>
        have tk : Mine.touch $K = true := by k_qdec
        refine Mine.left_of (Mine.left_k $te fun w os => ?_)
        kernel_rfl))
open_top hd for PySem.Challenge.rw_yi0038_01
end Mine
end HeadU

section PureY
namespace Mine
/-- the two numbers of the q-th triple of octets -/
def dA (o : List Int) (q : Nat) : Int := o.getD (3 * q) 0 + 256 * (o.getD (3 * q + 1) 0 % 16)
def dB (o : List Int) (q : Nat) : Int := o.getD (3 * q + 1) 0 / 16 + 16 * o.getD (3 * q + 2) 0
def pick (o : List Int) (q : Nat) : List Int := (if dA o q < 3329 then [dA o q] else []) ++ (if dB o q < 3329 then [dB o q] else [])
/-- what is found in the first q triples -/
def fnd (o : List Int) : Nat → List Int
  | 0 => []
  | q + 1 => fnd o q ++ pick o q
def pad (f : List Int) : List Int := f.take 256 ++ List.replicate (256 - f.length) 0
@[irreducible] def Jn (o : List Int) (q : Nat) : Nat := min 256 (fnd o q).length
@[irreducible] def Cn (o : List Int) (q : Nat) : List Int := pad (fnd o q)
theorem pad_length (f : List Int) : (pad f).length = 256 := by
  unfold pad
  simp only [List.length_append, List.length_take, List.length_replicate]
  omega
theorem Cn_length (o : List Int) (q : Nat) : (Cn o q).length = 256 := by unfold Cn; exact pad_length _
theorem Cn_zero (o : List Int) : Cn o 0 = List.replicate 256 0 := by unfold Cn; rfl
theorem Jn_zero (o : List Int) : (0 : Int) = (Jn o 0 : Int) := by unfold Jn; rfl
theorem pad_push {f : List Int} (h : f.length < 256) (a : Int) : pad (f ++ [a]) = (pad f).set f.length a := by
  unfold pad
  have e1 : (f ++ [a]).take 256 = f ++ [a] := List.take_of_length_le (by simp; omega)
  have e2 : f.take 256 = f := List.take_of_length_le (by omega)
  rw [e1, e2]
  obtain ⟨k, hk⟩ : ∃ k, 256 - f.length = k + 1 := ⟨255 - f.length, by omega⟩
  have hk2 : 256 - (f ++ [a]).length = k := by simp; omega
  rw [hk, hk2, List.replicate_succ, List.set_append_right _ _ (Nat.le_refl _), Nat.sub_self]
  simp
theorem pad_over {f g : List Int} (h : 256 ≤ f.length) : pad (f ++ g) = pad f := by
  unfold pad
  rw [List.take_append_of_le_length h]
  have h1 : 256 - (f ++ g).length = 0 := by simp; omega
  have h2 : 256 - f.length = 0 := by omega
  rw [h1, h2]
theorem pad_full {f : List Int} (h : 256 ≤ f.length) : pad f = f.take 256 := by
  unfold pad
  have h2 : 256 - f.length = 0 := by omega
  rw [h2]; simp
section
variable {o : List Int} {q : Nat}
theorem jn_lt (h : ((Jn o q : Nat) : Int) < 256) : (fnd o q).length < 256 := by unfold Jn at h; omega
theorem jn_ge (h : ¬ ((Jn o q : Nat) : Int) < 256) : 256 ≤ (fnd o q).length := by unfold Jn at h; omega
theorem jn_eq (h : (fnd o q).length < 256) : Jn o q = (fnd o q).length := by unfold Jn; omega
theorem toA : o.getD (3 * (q : Int)).toNat 0 + 256 * (o.getD (3 * (q : Int) + 1).toNat 0).fmod 16 = dA o q := by
  have e0 : (3 * (q : Int)).toNat = 3 * q := by omega
  have e1 : (3 * (q : Int) + 1).toNat = 3 * q + 1 := by omega
  unfold dA
  rw [e0, e1, Int.fmod_eq_emod_of_nonneg _ (by decide)]
theorem toB : (o.getD (3 * (q : Int) + 1).toNat 0).fdiv 16 + 16 * o.getD (3 * (q : Int) + 2).toNat 0 = dB o q := by
  have e1 : (3 * (q : Int) + 1).toNat = 3 * q + 1 := by omega
  have e2 : (3 * (q : Int) + 2).toNat = 3 * q + 2 := by omega
  unfold dB
  rw [e1, e2, Int.fdiv_eq_ediv_of_nonneg _ (by decide)]
theorem step_none (ha : ¬ dA o q < 3329) (hb : ¬ dB o q < 3329) : fnd o (q + 1) = fnd o q := by
  show fnd o q ++ pick o q = _
  unfold pick; rw [if_neg ha, if_neg hb]; simp
theorem step_A (ha : dA o q < 3329) (hb : ¬ dB o q < 3329) : fnd o (q + 1) = fnd o q ++ [dA o q] := by
  show fnd o q ++ pick o q = _
  unfold pick; rw [if_pos ha, if_neg hb]; simp
theorem step_B (ha : ¬ dA o q < 3329) (hb : dB o q < 3329) : fnd o (q + 1) = fnd o q ++ [dB o q] := by
  show fnd o q ++ pick o q = _
  unfold pick; rw [if_neg ha, if_pos hb]; simp
theorem step_AB (ha : dA o q < 3329) (hb : dB o q < 3329) : fnd o (q + 1) = (fnd o q ++ [dA o q]) ++ [dB o q] := by
  show fnd o q ++ pick o q = _
  unfold pick; rw [if_pos ha, if_pos hb]; simp
/-- one turn of the sampler's loop, way by way -/
theorem turn_none (hJ : ((Jn o q : Nat) : Int) < 256) (ha : ¬ dA o q < 3329) (hb : ¬ dB o q < 3329) : Cn o (q + 1) = Cn o q ∧ ((Jn o (q + 1) : Nat) : Int) = (Jn o q : Int) := by
  unfold Cn Jn; rw [step_none ha hb]; exact ⟨rfl, rfl⟩
theorem turn_one {a : Int} (hJ : ((Jn o q : Nat) : Int) < 256) (e : fnd o (q + 1) = fnd o q ++ [a]) :
    Cn o (q + 1) = (Cn o q).set ((Jn o q : Int)).toNat a ∧ ((Jn o (q + 1) : Nat) : Int) = (Jn o q : Int) + 1 := by
  have h := jn_lt hJ
  refine ⟨?_, ?_⟩
  · unfold Cn; rw [e, pad_push h, jn_eq h]; rfl
  · unfold Jn; rw [e]; simp only [List.length_append, List.length_cons, List.length_nil]; omega
theorem turn_A (hJ : ((Jn o q : Nat) : Int) < 256) (ha : dA o q < 3329) (hb : ¬ dB o q < 3329) :
    Cn o (q + 1) = (Cn o q).set ((Jn o q : Int)).toNat (dA o q) ∧ ((Jn o (q + 1) : Nat) : Int) = (Jn o q : Int) + 1 := turn_one hJ (step_A ha hb)
theorem turn_B (hJ : ((Jn o q : Nat) : Int) < 256) (ha : ¬ dA o q < 3329) (hb : dB o q < 3329) :
    Cn o (q + 1) = (Cn o q).set ((Jn o q : Int)).toNat (dB o q) ∧ ((Jn o (q + 1) : Nat) : Int) = (Jn o q : Int) + 1 := turn_one hJ (step_B ha hb)
theorem turn_AB (hJ : ((Jn o q : Nat) : Int) + 1 < 256) (ha : dA o q < 3329) (hb : dB o q < 3329) :
    Cn o (q + 1) = ((Cn o q).set ((Jn o q : Int)).toNat (dA o q)).set ((Jn o q : Int) + 1).toNat (dB o q) ∧ ((Jn o (q + 1) : Nat) : Int) = (Jn o q : Int) + 1 + 1 := by
  have h := jn_lt (o := o) (q := q) (by omega)
  have ej := jn_eq h
  rw [ej] at hJ
  refine ⟨?_, ?_⟩
  · unfold Cn
    rw [step_AB ha hb, pad_push (by simp; omega), pad_push h, ej]
    have e1 : (((fnd o q).length : Nat) : Int).toNat = (fnd o q).length := rfl
    have e2 : ((((fnd o q).length : Nat) : Int) + 1).toNat = (fnd o q ++ [dA o q]).length := by simp
    rw [e1, e2]
  · rw [ej]; unfold Jn; rw [step_AB ha hb]; simp only [List.length_append, List.length_cons, List.length_nil]; omega
theorem turn_over (hJ : ((Jn o q : Nat) : Int) < 256) (hJ2 : ¬ ((Jn o q : Nat) : Int) + 1 < 256) (ha : dA o q < 3329) (hb : dB o q < 3329) :
    Cn o (q + 1) = (Cn o q).set ((Jn o q : Int)).toNat (dA o q) ∧ ((Jn o (q + 1) : Nat) : Int) = (Jn o q : Int) + 1 := by
  have h := jn_lt hJ
  have ej := jn_eq h
  rw [ej] at hJ2
  refine ⟨?_, ?_⟩
  · unfold Cn
    rw [step_AB ha hb, pad_over (by simp; omega), pad_push h, ej]; rfl
  · rw [ej]; unfold Jn; rw [step_AB ha hb]; simp only [List.length_append, List.length_cons, List.length_nil]; omega
theorem fnd_mono {r : Nat} (h : r ≤ q) : (fnd o r).length ≤ (fnd o q).length := by
  induction q with
  | zero => rw [Nat.le_zero.mp h]; exact Nat.le_refl _
  | succ q ih =>
    rcases Nat.lt_or_ge r (q + 1) with h' | h'
    · have := ih (by omega)
      show _ ≤ (fnd o q ++ pick o q).length
      rw [List.length_append]; omega
    · rw [Nat.le_antisymm h h']; exact Nat.le_refl _
end
end Mine
end PureY

section PowT
open PySem PySem.W PySem.Calls PyProof.Rows
namespace Mine
theorem kind_pow : builtinKind "pow" = none := by decide +kernel
theorem plain_pow : plainId "pow" = true := by decide +kernel
theorem entry_pow : entryFor table "pow" = some Builtin.«pow» := entryFor_of_tree (by kernel_rfl)
theorem args_pow3 (a b c : Value) : argsOk "pow" ⟨[a, b, c], []⟩ := by unfold argsOk; kernel_rfl
def powV (b e m : Int) : Int := Builtin.powMod (b % (m.natAbs : Int)).toNat e.natAbs m.natAbs
section
variable {prog : Program} {w : World} {A : Around} {E : Value → Shared → Prop} {s : Shared} {Q : Value → Shared → Prop} {t u v : Tok} {b e m : Int}
theorem gives_pow3 (he : 0 ≤ e) (hm : 1 < m) : Gives (Builtin.«int.__pow__» ⟨[.int b t, .int e u, .int m v], []⟩) (.int (powV b e m)) :=
  .of_wp fun M A E s Q h => by
    obtain ⟨hp, g, d, tk, os⟩ := s
    have h1 : (m == 0) = false := by simp; omega
    have h2 : (m.natAbs == 1) = false := by simp; omega
    have h3 : ¬ (e < 0) := by omega
    have h4 : ¬ (m < 0) := by omega
    repeat (any_goals (first
      | assumption
      | wp_step))
    rw [decide_eq_false h4, Bool.false_and, if_neg Bool.false_ne_true]
    exact ⟨_, rfl, h⟩
theorem gives_powInv : Gives (Builtin.«int.__pow__» ⟨[.int 128 t, .int (-1) u, .int 3329 v], []⟩) (.int 3303) :=
  .of_wp fun M A E s Q h => by
    obtain ⟨hp, g, d, tk, os⟩ := s
    repeat (any_goals (first
      | assumption
      | wp_step))
    refine ⟨_, rfl, ?_⟩
    exact h
theorem dunder_pow : PySem.dunder "pow" = Str.ofString "__pow__" := by decide +kernel
theorem slot_pow : Slot "int" (Str.ofString "__pow__") "int.__pow__" := dunder_pow ▸ F.slot_int_pow
theorem bind_pow3 (a b c : Value) : Builtin.Builtins.bindParams "pow" ["base", "exp", "mod"] 2 ⟨[a, b, c], []⟩ = pure [some a, some b, some c] := by rfl
theorem call_pow_of {r : Int} (hg : Gives (Builtin.«int.__pow__» ⟨[.int b t, .int e u, .int m v], []⟩) (.int r)) (h : ∀ t' k, Q (.int r t') { s with toks := k }) :
    wpAny (model prog w) A (call (.builtin "pow") [.int b t, .int e u, .int m v]) Q E s := by
  refine Calls.call_function_entry kind_pow plain_pow entry_pow (args_pow3 _ _ _) ?_
  unfold Builtin.«pow»
  rw [bind_pow3]
  refine wpAny_bind (wpAny_pure ?_)
  dsimp only [Option.getD]
  refine wpAny_bind (wpAny_rule ?_)
  refine wpAny_bind (wpAny_typeOf (typeIs_int _ _ _) ?_)
  dsimp only
  refine wpAny_bind (wpAny_of_eq slot_pow.lookup ?_)
  dsimp only
  with_reducible refine wpAny_bind ?_
  with_reducible refine wpAny_callSpecial?_slot (T := "int") (id := "int.__pow__") (typeIs_int _ _ _) slot_pow ?_
  refine call_gives slot_pow (typeIs_int _ _ _) F.entry_int_pow (F.args_int_pow_3 _ _ _) hg ?_
  show wpAny _ _ _ _ _ _
  dsimp only
  have hne : (Value.int r s.toks != Value.notImplemented) = true := rfl
  rw [if_pos hne]
  exact wpAny_pure ⟨_, rfl, h _ _⟩
end
end Mine
end PowT

section BrT
open PySem PySem.W PySem.Calls PySem.NumText PyProof.Rows
namespace Mine
theorem typeCall_int2 (a b : Value) : checkTypeCall "int" ⟨[a, b], []⟩ = pure () := by kernel_rfl
theorem newCall_int2 (a b : Value) : checkBuiltinCall "int.__new__" ⟨[.type "int", a, b], []⟩ = pure () := by kernel_rfl
theorem init_int3 (a b c : Value) : argsOk "object.__init__" ⟨[a, b, c], []⟩ := by unfold argsOk; kernel_rfl
def reads2 (t : List Nat) : Option Int :=
  match digits? (based 2 (sign (t.dropWhile blank)).2).1 (((based 2 (sign (t.dropWhile blank)).2).2.2.reverse.dropWhile blank).reverse) with
  | none => none
  | some ds =>
    if (based 2 (sign (t.dropWhile blank)).2).1 = 2 ∧ (based 2 (sign (t.dropWhile blank)).2).2.1 = false ∧ (sign (t.dropWhile blank)).1 = false then some ((ds.foldl (fun acc d => acc * 2 + d) 0 : Nat) : Int) else none
theorem reads2_is {t : List Nat} {n : Int} (h : reads2 t = some n) : (int_private% "readNumeral") 0 2 t = (int_private% "Numeral.value") n := by
  rw [readNumeral_eq]
  unfold reads2 at h
  split at h
  · cases h
  · rename_i ds hd
    split at h
    · rename_i hc
      obtain ⟨h1, h2, h3⟩ := hc
      rw [hd, h1, h2, h3]
      cases h
      rfl
    · cases h
theorem wp_text2 {M : Model} {A : Around} {E : Value → Shared → Prop} {s : Shared} {Q : Value → Shared → Prop} {v : Value} {text : List Nat} {n : Int}
    (hs : (text.takeWhile (· != 0)).length ≤ 640) (hr : (int_private% "readNumeral") 0 2 (text.takeWhile (· != 0)) = (int_private% "Numeral.value") n)
    (ha : ((text.takeWhile (· != 0)).length == text.length) = true) (h : Q (.int n s.toks) { s with toks := s.toks + 1 }) :
    wpAny M A ((int_private% "intFromText") v text 2) Q E s := by
  obtain ⟨hp, g, d, tk, os⟩ := s
  repeat (any_goals (first
    | assumption
    | (with_reducible refine wpAny_ite_true (decide_eq_true hs) ?_)
    | (with_reducible refine wpAny_ite_true (decide_eq_true ha) ?_)
    | wp_step))
  all_goals (try rw [hr])
  all_goals (try dsimp only)
  repeat (any_goals (first
    | assumption
    | (with_reducible refine wpAny_ite_true (decide_eq_true hs) ?_)
    | (with_reducible refine wpAny_ite_true (decide_eq_true ha) ?_)
    | wp_step))
structure Held (p : Prop) : Prop where
  out : p
set_option maxHeartbeats 4000000 in
theorem gives_text2 {x : PySem.Str} {u b : Tok} {n : Int} (hs : (numSeenOf x).length ≤ 640) (ha : ((numSeenOf x).length == (numTextOf x).length) = true) (hn : reads2 (numSeenOf x) = some n) :
    Gives (Builtin.«int.__new__» ⟨[.type "int", .str x u, .int 2 b], []⟩) (.int n) :=
  .of_wp fun M A E s Q h => by
    obtain ⟨hp, g, d, tk, os⟩ := s
    have f1 := F.conv_sub_int
    have f2 := F.madeHere_int
    have f6 : typeOf (.str x u) = pure (.type "str") := rfl
    have hk := Held.mk (And.intro hs (And.intro (reads2_is hn) ha))
    clear hs ha hn
    repeat (any_goals (first
      | assumption
      | ((with_reducible show wpAny _ _ ((int_private% "intFromText") _ _ _) _ _ _); refine wp_text2 hk.out.1 hk.out.2.1 hk.out.2.2 ?_)
      | wp_step))
    all_goals first | exact ⟨_, rfl, h⟩ | skip
section
variable {prog : Program} {w : World} {A : Around} {E : Value → Shared → Prop} {s : Shared} {Q : Value → Shared → Prop} {x : PySem.Str} {t b : Tok} {n k : Int}
theorem call_int_base2 (hs : (numSeenOf x).length ≤ 640) (ha : ((numSeenOf x).length == (numTextOf x).length) = true) (hn : reads2 (numSeenOf x) = some n) (h : Q (.int n s.toks) { s with toks := s.toks + 1 }) :
    wpAny (model prog w) A (call (.type "int") [.str x t, .int 2 b]) Q E s :=
  callType_new F.called_int F.newNe_int (typeCall_int2 _ _) (newCall_int2 _ _) (fun obj => init_int3 obj _ _) F.entry_int_new (gives_text2 hs ha hn).meets (show (Made.int n).post _ s from ⟨rfl, h⟩)
end
/-- the text of i's bits, as the program makes it -/
@[irreducible] def brT1 (k : Int) : PySem.Str := baseText "0b" 2 (Builtin.bitAnd k (2 ^ Int.toNat 7 - 1))
theorem brT1_def (k : Int) : brT1 k = baseText "0b" 2 (Builtin.bitAnd k (2 ^ Int.toNat 7 - 1)) := by unfold brT1; rfl
def brT4 (k : Int) : PySem.Str := Txt.sliceBy (Txt.zfill (Txt.slice (brT1 k) (some 2) none) 7) none none (-1, 0)
@[irreducible] def brN (k : Int) : Int := (reads2 (numSeenOf (brT4 k))).getD 0
def brRaw (n : Nat) : PySem.Str := Txt.sliceBy (Txt.zfill (Txt.slice (baseText "0b" 2 (Builtin.bitAnd (n : Int) (2 ^ Int.toNat 7 - 1))) (some 2) none) 7) none none (-1, 0)
def brOk (n : Nat) : Bool :=
  decide ((baseText "0b" 2 (Builtin.bitAnd (n : Int) (2 ^ Int.toNat 7 - 1))).length ≤ 9) &&
  decide ((Txt.zfill (Txt.slice (baseText "0b" 2 (Builtin.bitAnd (n : Int) (2 ^ Int.toNat 7 - 1))) (some 2) none) 7).length ≤ 9) &&
  decide ((numSeenOf (brRaw n)).length ≤ 640) && ((numSeenOf (brRaw n)).length == (numTextOf (brRaw n)).length) &&
  (match reads2 (numSeenOf (brRaw n)) with
    | some v => decide (0 ≤ v)
    | none => false)
set_option maxHeartbeats 4000000 in
theorem brOk_all : ∀ n, n < 128 → brOk n = true := by decide +kernel
theorem br_nat {k : Int} (h0 : 0 ≤ k) (h1 : k < 128) : ∃ n : Nat, n < 128 ∧ k = (n : Int) := ⟨k.toNat, by omega, by omega⟩
theorem br_facts {k : Int} (h0 : 0 ≤ k) (h1 : k < 128) : (brT1 k).length ≤ 9 ∧ (Txt.zfill (Txt.slice (brT1 k) (some 2) none) 7).length ≤ 9 ∧ (numSeenOf (brT4 k)).length ≤ 640 ∧
    ((numSeenOf (brT4 k)).length == (numTextOf (brT4 k)).length) = true ∧ ∃ v, reads2 (numSeenOf (brT4 k)) = some v ∧ 0 ≤ v := by
  obtain ⟨n, hn, rfl⟩ := br_nat h0 h1
  have h := brOk_all n hn
  unfold brOk at h
  unfold brT4
  rw [brT1_def]
  simp only [Bool.and_eq_true, decide_eq_true_eq] at h
  obtain ⟨⟨⟨⟨a, b⟩, c⟩, d⟩, e⟩ := h
  refine ⟨a, b, c, d, ?_⟩
  change (match reads2 (numSeenOf (brRaw n)) with | some v => decide (0 ≤ v) | none => false) = true at e
  show ∃ v, reads2 (numSeenOf (brRaw n)) = some v ∧ 0 ≤ v
  split at e
  · rename_i v hv
    exact ⟨v, hv, of_decide_eq_true e⟩
  · cases e
section
variable {prog : Program} {w : World} {A : Around} {E : Value → Shared → Prop} {s : Shared} {Q : Value → Shared → Prop} {t b u : Tok} {k : Int}
theorem br_bin (h0 : 0 ≤ k) (h1 : k < 128) (h : Q (.str (brT1 k) s.toks) { s with toks := s.toks + 1 }) :
    wpAny (model prog w) A (call (.builtin "bin") [.int (Builtin.bitAnd k (2 ^ Int.toNat 7 - 1)) t]) Q E s := by
  have hl := (br_facts h0 h1).1
  rw [brT1_def] at h hl
  exact P.bin_of_int h (Nat.le_trans hl (by rw [sizeLine_eq]; decide))
theorem br_sz1 (h0 : 0 ≤ k) (h1 : k < 128) : (brT1 k).length ≤ sizeLine := Nat.le_trans (br_facts h0 h1).1 (by rw [sizeLine_eq]; decide)
theorem br_sz3 (h0 : 0 ≤ k) (h1 : k < 128) : (Txt.zfill (Txt.slice (brT1 k) (some 2) none) 7).length ≤ sizeLine := Nat.le_trans (br_facts h0 h1).2.1 (by rw [sizeLine_eq]; decide)
theorem br_int (h0 : 0 ≤ k) (h1 : k < 128) (h : ∀ t', 0 ≤ brN k → Q (.int (brN k) t') { s with toks := s.toks + 1 }) :
    wpAny (model prog w) A (call (.type "int") [.str (Txt.sliceBy (Txt.zfill (Txt.slice (brT1 k) (some 2) none) 7) none none (-1, u)) t, .int 2 b]) Q E s := by
  obtain ⟨_, _, c, d, v, hv, h0v⟩ := br_facts h0 h1
  have e : brN k = v := by unfold brN; rw [hv]; rfl
  rw [e] at h
  exact call_int_base2 (x := brT4 k) c d hv (h _ h0v)
end
end Mine
end BrT

section BytesT
open PySem PySem.W PySem.Calls PyProof.Rows
namespace Mine
section
variable {prog : Program} {w : World} {A : Around} {E : Value → Shared → Prop} {s : Shared} {Q : Value → Shared → Prop} {t u : Tok} {b : Array UInt8} {i : Int}
theorem getItem_bytes_out (hA : A.handled = none) (h0 : 0 ≤ i) (hout : (b.size : Int) ≤ i) (hhi : i < 2 ^ 62)
    (hE : ∀ h' tk e, Heap.NewExc s.heap h' e "IndexError" → E (.ref e) { s with heap := h', toks := tk }) :
    wpAny (model prog w) A (getItem (.bytes b t) (.int i u)) Q E s := by
  have hr : Builtin.Bytes.fitsIndex i = true := by
    simp only [Builtin.Bytes.fitsIndex, Bool.and_eq_true, decide_eq_true_eq]; omega
  have hx : ((seqIndex? i b.size).bind (b[·]?)) = none := by
    have h1 : ¬ i < 0 := by omega
    have h2 : ¬ i < (b.size : Int) := by omega
    simp [seqIndex?, h1, h2]
  refine wpAny_getItem_slot (typeIs_bytes _ _ _) (by decide) FB.slot_bytes_getitem ?_
  refine wpAny_call_entry FB.slot_bytes_getitem (typeIs_bytes _ _ _) FB.entry_bytes_getitem ?_ (FB.args_bytes_getitem_2 _ _)
  show wpAny _ _ (Builtin.Bytes.subscript? (.int i u) >>= fun r => _) _ E s
  refine wpAny_bind ?_
  unfold Builtin.Bytes.subscript?
  refine wpAny_bind (wpAny_specialOf (typeIs_int s i u) F.slot_int_index.lookup ?_)
  show wpAny _ _ (if (!Builtin.Bytes.fitsIndex i) = true then _ else pure (some i)) _ E s
  rw [hr]
  refine wpAny_pure ?_
  show wpAny _ _ (match (seqIndex? i b.size).bind (b[·]?) with | some x => retInt x.toNat | none => _) _ E s
  rw [hx]
  first
      | exact wpAny_bind (wpAny_rule (by exact_raiseError plainExc_IndexError hA hE))
      | exact wpAny_bind (wpAny_rule (wpAny_bind (by exact_raiseError plainExc_IndexError hA hE)))
      | exact wpAny_bind (wpAny_bind (wpAny_rule (by exact_raiseError plainExc_IndexError hA hE)))
      | exact wpAny_rule (by exact_raiseError plainExc_IndexError hA hE)
      | trace_state
theorem item_bytes_out {value slice : PySem.Expr} (hA : A.handled = none) (h0 : 0 ≤ i) (hout : (b.size : Int) ≤ i) (hhi : i < 2 ^ 62)
    (hE : ∀ h' tk e, Heap.NewExc s.heap h' e "IndexError" → E (.ref e) { s with heap := h', toks := tk })
    (hs : subscripted slice false (.bytes b t) (.int i u) = operate [.bytes b t, .int i u] (getItem (.bytes b t) (.int i u)) := by with_unfolding_all rfl)
    (ht : ∀ r, letTemporaryGo value (.bytes b t) r = pure () := by intro _; with_unfolding_all rfl) :
    wpAny (model prog w) A (subscriptTail value slice (.bytes b t) (.int i u)) Q E s :=
  tail_of_ItemOn ⟨"bytes", _, FB.slot_bytes_getitem.lookup, typeIs_bytes _ _ _, getItem_bytes_out hA h0 hout hhi hE⟩ hs ht
end
end Mine
namespace Mine
section
variable {prog : Program} {w : World} {A : Around} {E : Value → Shared → Prop} {s : Shared} {Q : Value → Shared → Prop} {t u : Tok} {o : List Int} {i : Int}
theorem item_octets_out {value slice : PySem.Expr} (hA : A.handled = none) (h0 : 0 ≤ i) (hout : (o.length : Int) ≤ i) (hhi : i < 2 ^ 62)
    (hE : ∀ h' tk e, Heap.NewExc s.heap h' e "IndexError" → E (.ref e) { s with heap := h', toks := tk })
    (hs : subscripted slice false (.bytes (byteArr o) t) (.int i u) = operate [.bytes (byteArr o) t, .int i u] (getItem (.bytes (byteArr o) t) (.int i u)) := by with_unfolding_all rfl)
    (ht : ∀ r, letTemporaryGo value (.bytes (byteArr o) t) r = pure () := by intro _; with_unfolding_all rfl) :
    wpAny (model prog w) A (subscriptTail value slice (.bytes (byteArr o) t) (.int i u)) Q E s :=
  item_bytes_out hA h0 (by rw [byteArr_size]; exact hout) hhi hE hs ht
theorem item_octets_in {value slice : PySem.Expr} (hr : ∀ n ∈ o, 0 ≤ n ∧ n < 256) (hz : o.length ≤ 890) (h0 : 0 ≤ i) (hin : i < (o.length : Int))
    (h : ∀ t' k, 0 ≤ o.getD i.toNat 0 → o.getD i.toNat 0 < 256 → Q (.int (o.getD i.toNat 0) t') { s with toks := k })
    (hs : subscripted slice false (.bytes (byteArr o) t) (.int i u) = operate [.bytes (byteArr o) t, .int i u] (getItem (.bytes (byteArr o) t) (.int i u)) := by with_unfolding_all rfl)
    (ht : ∀ r, letTemporaryGo value (.bytes (byteArr o) t) r = pure () := by intro _; with_unfolding_all rfl) :
    wpAny (model prog w) A (subscriptTail value slice (.bytes (byteArr o) t) (.int i u)) Q E s :=
  KBw.item_K (KBa.ints_make hr) (by omega) h0 hin h hs ht
end
end Mine
end BytesT

section WhileT
open PySem PySem.W PySem.Calls PyProof.Rows
namespace Mine
def Stay (p : Prop) : Prop := p
theorem Stay.out {p : Prop} (h : Stay p) : p := h
def Hold (P : Flow → Shared → Prop) (f : Flow) (s : Shared) : Prop := P f s
section
variable {prog : Program} {w : World} {A : Around} {E : Value → Shared → Prop} {Q : Flow → Shared → Prop} {s : Shared} {env : Env} {h₀ : Heap} {L : Addr}
theorem my_while {σ : Type} {test : PySem.Expr} {body : List Stmt} {pos : Pos} {m₀ : PySem.Str → Option Value} (Led : σ → List (Addr × Obj)) (ps : σ → List (PySem.Str × Value)) (Facts : σ → Prop) (stored : List PySem.Str) (P : σ → Prop) (μ : σ → Nat) (c₀ : σ)
    (F : Fr h₀ L s.heap m₀) (N : News h₀ L s.heap (Led c₀)) (hf : Facts c₀) (hk : ∀ p ∈ ps c₀, m₀ p.1 = some p.2) (hp : P c₀)
    (turn : ∀ (c : σ) (u : PySem.Str → Option Value) h tk, Facts c → P c → Fr h₀ L h (kstB (fun z => if stored.contains z then u z else m₀ z) (ps c)) → News h₀ L h (Led c) →
      wpAny (model prog w) A (isTrue test env (eval test env)) (fun b s₂ =>
        if b = true then Stay (wpAny (model prog w) A (execs body env) (Hold (KswPost h₀ L s Led ps Facts stored m₀ P μ Q c)) E s₂) else Stay (Q .next s₂)) E { s with heap := h, toks := tk })
    (hE : PassesOwn (model prog w) A env E := by passes_own) :
    wpAny (model prog w) A (exec (.While test body [] pos) env) Q E s :=
  ksw_while Led ps Facts stored P μ c₀ F N hf hk hp turn hE
end
end Mine
end WhileT

section CallT
open PySem PySem.W PySem.Calls PyProof.Rows
namespace Mine
section
variable {M : Model} {A : Around} {E : Value → Shared → Prop} {s : Shared} {K : Frag} {env : Env} {pos : Pos} {x C : Addr} {ox : Obj} {od : Option Obj} {first : List Value} {Q : Value → Shared → Prop}
/-- an object with a method __call__ is called with a place and keywords -/
theorem inst_callWith_kw {f : Addr} {e : PySem.Expr} {rest : List PySem.Expr} {kws : List Keyword} (_X : K.In s.heap) (_I : InstAt s.heap x ox C od) (hd : ox.data = .plain) (_hs : findIn K (.ref C) "__call__" = some (some (.ref f)))
    (hall : (backToKw pos (keywordEach kws env)).all (·.1.isSome) = true)
    (h : wpAny M A (spliced (backTo pos (starEach (e :: rest) env))) (fun vs s₁ => wpAny M A (evalAll ((backToKw pos (keywordEach kws env)).map (·.2)))
      (fun ks s₂ => kco_P K x C ox od s₂.heap ∧ wpAny M A (call (.ref x) (first ++ vs) (((backToKw pos (keywordEach kws env)).filterMap (·.1)).zip ks)) Q E s₂) E s₁) E s)
    (hplain : ((backTo pos (starEach (e :: rest) env)).any (·.1) || (backToKw pos (keywordEach kws env)).any (·.1.isNone)) = false := by rfl) (he : starEach (e :: rest) env = (false, eval e env) :: starEach rest env := by rfl) :
    wpAny M A (callWith pos (.ref x) first (backTo pos (starEach (e :: rest) env)) (backToKw pos (keywordEach kws env))) Q E s :=
  kco_callWith_of hplain hd (evalArgs_kw2 hall h he)
end
end Mine
end CallT

section SampL
open PySem PySem.W PySem.Calls PyProof.Rows
namespace Mine
section
variable {o : List Int} {q : Nat} {us : List Value} {a b : Int} {t t' : Tok}
theorem samp_meas {n : Nat} (h : 3 * (q : Int) + 2 < (n : Int)) : n + 1 - 3 * (q + 1) < n + 1 - 3 * q := by omega
theorem samp_fit {n : Nat} (h : 3 * (q : Int) + 2 < (n : Int)) : 3 * (q + 1) ≤ n := by omega
theorem samp_i : 3 * (q : Int) + 3 = 3 * ((q + 1 : Nat) : Int) := by omega
theorem end_none (hJ : ((Jn o q : Nat) : Int) < 256) (eA : a = dA o q) (eB : b = dB o q) (ha : ¬ a < 3329) (hb : ¬ b < 3329) (k : IntsAre us (Cn o q)) :
    3 * (q : Int) + 3 = 3 * ((q + 1 : Nat) : Int) ∧ (Jn o q : Int) = (Jn o (q + 1) : Int) ∧ IntsAre us (Cn o (q + 1)) := by
  subst eA eB
  obtain ⟨e1, e2⟩ := turn_none hJ ha hb
  exact ⟨samp_i, e2.symm, e1 ▸ k⟩
theorem end_A (hJ : ((Jn o q : Nat) : Int) < 256) (eA : a = dA o q) (eB : b = dB o q) (ha : a < 3329) (hb : ¬ b < 3329) (k : IntsAre us (Cn o q)) :
    3 * (q : Int) + 3 = 3 * ((q + 1 : Nat) : Int) ∧ (Jn o q : Int) + 1 = (Jn o (q + 1) : Int) ∧ IntsAre (us.set ((Jn o q : Int)).toNat (.int a t)) (Cn o (q + 1)) := by
  subst eA eB
  obtain ⟨e1, e2⟩ := turn_A hJ ha hb
  rw [e1]
  exact ⟨samp_i, e2.symm, ints_set k _⟩
theorem end_B (hJ : ((Jn o q : Nat) : Int) < 256) (eA : a = dA o q) (eB : b = dB o q) (ha : ¬ a < 3329) (hb : b < 3329) (k : IntsAre us (Cn o q)) :
    3 * (q : Int) + 3 = 3 * ((q + 1 : Nat) : Int) ∧ (Jn o q : Int) + 1 = (Jn o (q + 1) : Int) ∧ IntsAre (us.set ((Jn o q : Int)).toNat (.int b t)) (Cn o (q + 1)) := by
  subst eA eB
  obtain ⟨e1, e2⟩ := turn_B hJ ha hb
  rw [e1]
  exact ⟨samp_i, e2.symm, ints_set k _⟩
theorem end_AB (hJ : ((Jn o q : Nat) : Int) + 1 < 256) (eA : a = dA o q) (eB : b = dB o q) (ha : a < 3329) (hb : b < 3329) (k : IntsAre us (Cn o q)) :
    3 * (q : Int) + 3 = 3 * ((q + 1 : Nat) : Int) ∧ (Jn o q : Int) + 1 + 1 = (Jn o (q + 1) : Int) ∧ IntsAre ((us.set ((Jn o q : Int)).toNat (.int a t)).set ((Jn o q : Int) + 1).toNat (.int b t')) (Cn o (q + 1)) := by
  subst eA eB
  obtain ⟨e1, e2⟩ := turn_AB hJ ha hb
  rw [e1]
  exact ⟨samp_i, e2.symm, ints_set (ints_set k _) _⟩
theorem end_over (hJ : ((Jn o q : Nat) : Int) < 256) (hJ2 : ¬ ((Jn o q : Nat) : Int) + 1 < 256) (eA : a = dA o q) (eB : b = dB o q) (ha : a < 3329) (hb : b < 3329) (k : IntsAre us (Cn o q)) :
    3 * (q : Int) + 3 = 3 * ((q + 1 : Nat) : Int) ∧ (Jn o q : Int) + 1 = (Jn o (q + 1) : Int) ∧ IntsAre (us.set ((Jn o q : Int)).toNat (.int a t)) (Cn o (q + 1)) := by
  subst eA eB
  obtain ⟨e1, e2⟩ := turn_over hJ hJ2 ha hb
  rw [e1]
  exact ⟨samp_i, e2.symm, ints_set k _⟩
theorem jn0_nonneg : (0 : Int) ≤ (Jn o q : Int) := Int.natCast_nonneg _
theorem jn1_nonneg : (0 : Int) ≤ (Jn o q : Int) + 1 := by omega
theorem cn_fit (h : ((Jn o q : Nat) : Int) < 256) : (Jn o q : Int) < ((Cn o q).length : Int) := by rw [Cn_length]; exact h
theorem cn_fit1 {i : Nat} (h : ((Jn o q : Nat) : Int) + 1 < 256) : (Jn o q : Int) + 1 < (((Cn o q).set i a).length : Int) := by rw [List.length_set, Cn_length]; exact h
theorem small_fit {x : Int} (h : x < 256) : x < 2 ^ 63 := by omega
end
end Mine
end SampL

section RingT
open PySem PySem.W PySem.Calls PyProof.Rows
namespace Mine
section ring
local macro_rules | `(tactic| walk_at "call builtin:bin") => `(tactic| (k_here; (refine br_bin (by first | with_reducible assumption | assumption) (by first | with_reducible assumption | assumption) ?_)))
local macro_rules | `(tactic| walk_at "call builtin:str.zfill") => `(tactic| (k_here; (refine SC.zfill (by decide +kernel) ?_); intro _ _))
local macro_rules | `(tactic| walk_at "subscriptTail Call") => `(tactic| (k_here; (with_reducible show wpAny _ _ (subscriptTail _ (Expr.Slice (some _) none none _) (Value.str _ _) _) _ _ _); (with_reducible rename Fr _ _ _ _ => F'); (with_reducible rename News _ _ _ _ => N'); (refine slice_strN_sn (hsz := ?hsz) (s := ⟨_, _, _, _, _⟩) F' N' ?_); (case hsz => exact br_sz1 (by first | with_reducible assumption | assumption) (by first | with_reducible assumption | assumption)); intro _ _ _ _ _))
local macro_rules | `(tactic| walk_at "subscriptTail Name Slice str ref") => `(tactic| (k_here; (with_reducible show wpAny _ _ (subscriptTail _ (Expr.Slice none none (some _) _) _ _) _ _ _); (with_reducible rename Fr _ _ _ _ => F'); (with_reducible rename News _ _ _ _ => N'); (refine slice_strK_nn (hsz := ?hsz) (s := ⟨_, _, _, _, _⟩) F' N' (by decide) ?_); (case hsz => exact br_sz3 (by first | with_reducible assumption | assumption) (by first | with_reducible assumption | assumption)); intro _ _ _ _ _))
local macro_rules | `(tactic| walk_at "call type:int") => `(tactic| (k_here; (refine br_int (by first | with_reducible assumption | assumption) (by first | with_reducible assumption | assumption) ?_); intro tBr hBr))
local macro_rules | `(tactic| walk_at "call builtin:pow") => `(tactic| (k_here; first | (refine call_pow_of gives_powInv ?_) | (refine call_pow_of (gives_pow3 (by with_reducible assumption) (by decide)) ?_); intro _ _))
theorem ring_spec : ∀ (w : World) (s₀ : Shared) (mg mb : Str → Option Value) (cn : Str) (nm : List (Str × NameKind)) (mo : List (Str × Const)) (a : Addr) (ccd : Value) (h₀ : Heap) (L : Addr) (m : Str → Option Value) (s : Shared) (Q E : Value → Shared → Prop) (a1 a2 : Addr) (o1 o2 : Obj)
   (B : Below callerA h₀ [] h₀) (F : Fr h₀ L s.heap m) (X : (hd.heap_39 w.params).In h₀) (N : News h₀ L s.heap [(a1, o1), (a2, o2)])
   (T : Top qv (looseW qv [Str.ofString "PolynomialRing", Str.ofString "PolynomialNTT"]) (ExcName.means s₀.heap) mg mb h₀)
   (ret : ∀ x d z t1 t2 t3 t4 t5 t6 t7 h' tk', Fr h₀ L h' m → News h₀ L h' [(x, instObj 280 d), (d, dictOf
  [{ hash := PyData.keyHash w.params (Str.ofString "q"), key := Value.str (Str.ofString "q") t1, val := Value.int 3329 t2 },
   { hash := PyData.keyHash w.params (Str.ofString "n"), key := Value.str (Str.ofString "n") t3, val := Value.int 256 t4 },
   { hash := PyData.keyHash w.params (Str.ofString "ntt_zetas"), key := Value.str (Str.ofString "ntt_zetas") t5, val := Value.ref z },
   { hash := PyData.keyHash w.params (Str.ofString "ntt_f"), key := Value.str (Str.ofString "ntt_f") t6, val := Value.int 3303 t7 }] 4), (a1, o1), (a2, o2)] → Q (.ref x) { s with heap := h', toks := tk' }),
   wpAny (model PySem.Challenge.rw_yi0038_01.row.prog w) (callerA.deeper (envOf cn { kind := .function, names := nm, isGenerator := false, isCoroutine := false, more := mo } L a ccd)) (call (.ref 280) [] []) Q E s := by
  k_fill
  intro w s₀ mg mb cn nm mo a ccd h₀ L m s Q E a1 a2 o1 o2 B F X N T ret
  have hMk := kstMark
  k_steps
  rename News _ _ _ _ => lN2
  exact ret _ _ _ _ _ _ _ _ _ _ _ _ (by assumption) (kst_newsOf lN2 (by kst_inAny))
end ring
end Mine
end RingT

section SampT
open PySem PySem.W PySem.Calls PyProof.Rows
namespace Mine
section samp
local macro_rules | `(tactic| walk_at "subscriptTail Name") => `(tactic| (k_here; (with_reducible show wpAny _ _ (subscriptTail _ _ (Value.bytes _ _) _) _ _ _); first
  | (refine item_octets_in (by assumption) (by assumption) (by with_reducible assumption) (by with_reducible assumption) ?_; intro t9 k9 hlo9 hhi9)
  | (refine item_octets_out (by rfl) (by with_reducible assumption) (by with_reducible assumption) (by with_reducible assumption) ?_; intro h' tk' e' x')))
local macro_rules | `(tactic| walk_at "call builtin:len") => `(tactic| (k_here; (with_reducible show wpAny _ _ (call (Value.builtin "len") [Value.ref _]) _ _ _); k_dflt (refine' kst_len (k := 256) ?k1 ?k2 ?k3 ?k4 ?_; (case k1 => k_asm); (case k2 => k_memK); (case k3 => assumption); (case k4 => decide)); k_whole))
local macro_rules | `(tactic| walk_at "callWith ref") => `(tactic| (k_here; k_dflt (refine' inst_callWith_kw ?k1 ?k2 ?k3 ?k4 ?k5 ?_; (case k1 => k_in); (case k2 => k_inst); (case k3 => rfl); (case k4 => k_is); (case k5 => exact rfl); k_whole)))
local macro_rules | `(tactic| walk_at "setItem ref int int") => `(tactic| (k_here; (with_reducible show wpAny _ _ (setItem (Value.ref _) (Value.int _ _) (Value.int _ _)) _ _ _); k_dflt (refine' ksa_set ?k1 ?k2 ?k3 ?k4 ?k5 ?k6 ?k7 ?_; (case k1 => k_asm); (case k2 => k_asm); (case k3 => k_upd); (case k4 => l_ints); (case k5 => with_reducible (first | exact jn0_nonneg | exact jn1_nonneg)); (case k6 => with_reducible (first | exact cn_fit (by assumption) | exact cn_fit1 (by assumption))); (case k7 => with_reducible exact small_fit (by assumption)); k_whole); intro h' F' N' hi9 hl9 hs9))
local macro_rules | `(tactic| walk_at "exec While Compare cons nil") => `(tactic| (refine Stay.out ?_))
theorem samp_spec : ∀ (w : World) (s₀ : Shared) (mg mb : Str → Option Value) (cn : Str) (nm : List (Str × NameKind)) (mo : List (Str × Const)) (a : Addr) (ccd : Value) (h₀ : Heap) (L : Addr) (m : Str → Option Value) (s : Shared) (Q E : Value → Shared → Prop) (x d z l a1 a2 : Addr) (o1 o2 : Obj) (t1 t2 t3 t4 t5 t6 t7 : Tok) (vs : List Value) (os : List Int) (c : Nat)
   (B : Below callerA h₀ [] h₀) (F : Fr h₀ L s.heap m) (X : (hd.heap_39 w.params).In h₀)
   (N : News h₀ L s.heap [(x, instObj 280 d), (d, dictOf
  [{ hash := PyData.keyHash w.params (Str.ofString "q"), key := Value.str (Str.ofString "q") t1, val := Value.int 3329 t2 },
   { hash := PyData.keyHash w.params (Str.ofString "n"), key := Value.str (Str.ofString "n") t3, val := Value.int 256 t4 },
   { hash := PyData.keyHash w.params (Str.ofString "ntt_zetas"), key := Value.str (Str.ofString "ntt_zetas") t5, val := Value.ref z },
   { hash := PyData.keyHash w.params (Str.ofString "ntt_f"), key := Value.str (Str.ofString "ntt_f") t6, val := Value.int 3303 t7 }] 4), (l, W.listOf vs.toArray c), (a1, o1), (a2, o2)])
   (T : Top qv (looseW qv [Str.ofString "PolynomialRing", Str.ofString "PolynomialNTT"]) (ExcName.means s₀.heap) mg mb h₀)
   (hi : IntsAre vs os) (hr : ∀ n ∈ os, 0 ≤ n ∧ n < 256) (hz : os.length ≤ 890)
   (ret1 : ∀ q h' tk', (∀ r, r ≤ q → (fnd os r).length < 256) → os.length < 3 * q + 3 → Fr h₀ L h' m → News h₀ L h' [] → Q .none { s with heap := h', toks := tk' })
   (ret2 : ∀ x2 d2 D t8 t9 us un q h' tk', (∀ r, r < q → (fnd os r).length < 256) → 256 ≤ (fnd os q).length → 3 * q ≤ os.length → IntsAre us ((fnd os q).take 256) → Fr h₀ L h' m → News h₀ L h' [(x2, instObj 424 d2), (d2, dictOf
  [{ hash := PyData.keyHash w.params (Str.ofString "parent"), key := Value.str (Str.ofString "parent") t8, val := Value.ref x },
   { hash := PyData.keyHash w.params (Str.ofString "coeffs"), key := Value.str (Str.ofString "coeffs") t9, val := Value.ref D }] 2),
    (D, W.listOf us.toArray un), (x, instObj 280 d), (d, dictOf
  [{ hash := PyData.keyHash w.params (Str.ofString "q"), key := Value.str (Str.ofString "q") t1, val := Value.int 3329 t2 },
   { hash := PyData.keyHash w.params (Str.ofString "n"), key := Value.str (Str.ofString "n") t3, val := Value.int 256 t4 },
   { hash := PyData.keyHash w.params (Str.ofString "ntt_zetas"), key := Value.str (Str.ofString "ntt_zetas") t5, val := Value.ref z },
   { hash := PyData.keyHash w.params (Str.ofString "ntt_f"), key := Value.str (Str.ofString "ntt_f") t6, val := Value.int 3303 t7 }] 4), (a1, o1), (a2, o2)] → Q (.ref x2) { s with heap := h', toks := tk' }),
   wpAny (model PySem.Challenge.rw_yi0038_01.row.prog w) (callerA.deeper (envOf cn { kind := .function, names := nm, isGenerator := false, isCoroutine := false, more := mo } L a ccd)) (call (.ref 450) [.ref x, .ref l] []) Q E s := by
  k_fill
  intro w s₀ mg mb cn nm mo a ccd h₀ L m s Q E x d z l a1 a2 o1 o2 t1 t2 t3 t4 t5 t6 t7 vs os c B F X N T hi hr hz ret1 ret2
  k_steps
  unfold Stay
  rename Fr _ _ _ _ => lF
  rename News _ _ _ _ => lN
  rename IntsAre _ _ => lI
  have hMk := kstMark
  refine' my_while (σ := Nat × Int × Tok × Int × Tok × List Value × Nat) (fun c => [(?D, W.listOf c.2.2.2.2.2.1.toArray c.2.2.2.2.2.2), (x, instObj 280 d), (d, dictOf
  [{ hash := PyData.keyHash w.params (Str.ofString "q"), key := Value.str (Str.ofString "q") t1, val := Value.int 3329 t2 },
   { hash := PyData.keyHash w.params (Str.ofString "n"), key := Value.str (Str.ofString "n") t3, val := Value.int 256 t4 },
   { hash := PyData.keyHash w.params (Str.ofString "ntt_zetas"), key := Value.str (Str.ofString "ntt_zetas") t5, val := Value.ref z },
   { hash := PyData.keyHash w.params (Str.ofString "ntt_f"), key := Value.str (Str.ofString "ntt_f") t6, val := Value.int 3303 t7 }] 4), (a1, o1), (a2, o2)])
   (fun c => [(Str.ofString "i", Value.int c.2.1 c.2.2.1), (Str.ofString "j", Value.int c.2.2.2.1 c.2.2.2.2.1)])
   (fun c => c.2.1 = 3 * (c.1 : Int) ∧ c.2.2.2.1 = (Jn os c.1 : Int) ∧ IntsAre c.2.2.2.2.2.1 (Cn os c.1)) [Str.ofString "d1", Str.ofString "d2"]
   (fun c => 3 * c.1 ≤ os.length ∧ ∀ r, r < c.1 → (fnd os r).length < 256) (fun c => os.length + 1 - 3 * c.1) (0, 0, ?ti, 0, ?tj, ?us, ?un) lF ?kn ?kf ?kk ?kp ?kt
  case kn => with_unfolding_all (first | exact lN | exact kst_newsOf lN (by kst_inAny))
  case kk => kst_all
  case kf => exact ⟨rfl, Jn_zero os, by rw [Cn_zero]; exact lI⟩
  case kp => exact ⟨Nat.zero_le _, fun r hr => absurd hr (Nat.not_lt_zero r)⟩
  clear lF lN lI
  rintro ⟨q, iq, ti, jq, tj, us, un⟩ u h tk ⟨ei, ej, kFacts⟩ ⟨hq3, hprev⟩ kFr kNews
  dsimp only at ei ej kFacts hq3 hprev kFr kNews ⊢
  subst ei ej
  try k_fold
  have hL : us.length = 256 := by rw [kFacts.length, Cn_length]
  k_steps
  rotate_left
  · unfold Stay
    rename ¬ ((Jn os q : Nat) : Int) < 256 => hJ
    have hful := jn_ge hJ
    have hus : IntsAre us ((fnd os q).take 256) := by
      have := kFacts
      unfold Cn at this
      rw [pad_full hful] at this
      exact this
    k_steps
    rename News _ _ _ _ => lN2
    exact ret2 _ _ _ _ _ us un q _ _ hprev hful hq3 hus (by assumption) lN2
  unfold Stay
  rename ((Jn os q : Nat) : Int) < 256 => hJ
  have hlt := jn_lt hJ
  have hall : ∀ r, r ≤ q → (fnd os r).length < 256 := fun r hr => Nat.lt_of_le_of_lt (fnd_mono hr) hlt
  have i00 : 0 ≤ 3 * (q : Int) := by omega
  have i01 : 0 ≤ 3 * (q : Int) + 1 := by omega
  have i02 : 0 ≤ 3 * (q : Int) + 2 := by omega
  have i10 : 3 * (q : Int) < 2 ^ 62 := by omega
  have i11 : 3 * (q : Int) + 1 < 2 ^ 62 := by omega
  have i12 : 3 * (q : Int) + 2 < 2 ^ 62 := by omega
  by_cases hin2 : 3 * (q : Int) + 2 < (os.length : Int)
  · have hin0 : 3 * (q : Int) < (os.length : Int) := by omega
    have hin1 : 3 * (q : Int) + 1 < (os.length : Int) := by omega
    have eA : os.getD (3 * (q : Int)).toNat 0 + 256 * (os.getD (3 * (q : Int) + 1).toNat 0).fmod 16 = dA os q := toA
    have eB : (os.getD (3 * (q : Int) + 1).toNat 0).fdiv 16 + 16 * os.getD (3 * (q : Int) + 2).toNat 0 = dB os q := toB
    k_steps
    all_goals (
      unfold Hold
      dsimp only [KswPost]
      unfold KswEnd
      rename News _ _ _ _ => nE'
      rename Fr _ _ _ _ => fE'
      refine ⟨(q + 1, _, _, _, _, _, _), _, _, _, _, rfl, fE', nE', fun p hp => hp, ?_, (by kst_all), ?_, ?_, ?_⟩)
    all_goals (try dsimp only)
    all_goals first
      | with_reducible exact samp_meas hin2
      | with_reducible exact ⟨samp_fit hin2, fun r hr => hall r (Nat.le_of_lt_succ hr)⟩
      | with_reducible exact end_none hJ eA eB (by assumption) (by assumption) kFacts
      | with_reducible exact end_A hJ eA eB (by assumption) (by assumption) kFacts
      | with_reducible exact end_B hJ eA eB (by assumption) (by assumption) kFacts
      | with_reducible exact end_over hJ (by assumption) eA eB (by assumption) (by assumption) kFacts
      | with_reducible exact end_AB (by assumption) eA eB (by assumption) (by assumption) kFacts
      | skip
    all_goals (
      intro z h2 h3
      have h2a : z ≠ Str.ofString "i" := h2 _ (List.Mem.head _)
      have h2b : z ≠ Str.ofString "j" := h2 _ (List.Mem.tail _ (List.Mem.head _))
      have h3a : z ≠ Str.ofString "d1" := by intro e; rw [e] at h3; revert h3; decide
      have h3b : z ≠ Str.ofString "d2" := by intro e; rw [e] at h3; revert h3; decide
      simp only [if_neg h2a, if_neg h2b, if_neg h3a, if_neg h3b, kstB, h3, Bool.false_eq_true, if_false])
  · have hout2 : (os.length : Int) ≤ 3 * (q : Int) + 2 := by omega
    have hshort : os.length < 3 * q + 3 := by omega
    by_cases hin1 : 3 * (q : Int) + 1 < (os.length : Int)
    · have hin0 : 3 * (q : Int) < (os.length : Int) := by omega
      k_steps
      exact ret1 q _ _ hall hshort (by assumption) News.nil
    · have hout1 : (os.length : Int) ≤ 3 * (q : Int) + 1 := by omega
      by_cases hin0 : 3 * (q : Int) < (os.length : Int)
      · k_steps
        exact ret1 q _ _ hall hshort (by assumption) News.nil
      · have hout0 : (os.length : Int) ≤ 3 * (q : Int) := by omega
        k_steps
        exact ret1 q _ _ hall hshort (by assumption) News.nil
end samp
end Mine
end SampT

section OctL
open PySem PySem.W PySem.Calls PyProof.Rows
namespace Mine
/-- what the law knows of its octets -/
structure Octets (o : List Int) : Prop where
  len : o.length = 890
  byte : ∀ n ∈ o, 0 ≤ n ∧ n < 256
  nought : ∀ i, 500 ≤ i → o.getD i 0 = 0
theorem octets_of (g : Int → Int) : Octets ((rangeKs 0 (500 - 0 : Int).toNat).map (fun k => (g k).fmod 256) ++ (List.replicate (Int.toNat 390) [(0 : Int)]).flatten) := by
  have e : (List.replicate (Int.toNat 390) [(0 : Int)]).flatten = List.replicate 390 0 := by decide +kernel
  have hl : ((rangeKs 0 (500 - 0 : Int).toNat).map (fun k => (g k).fmod 256)).length = 500 := by rw [List.length_map, rangeKs_length]; rfl
  rw [e]
  refine ⟨by rw [List.length_append, hl, List.length_replicate], fun n hn => ?_, fun i hi => ?_⟩
  · rcases List.mem_append.mp hn with h | h
    · obtain ⟨k, _, rfl⟩ := List.mem_map.mp h
      exact ⟨Int.fmod_nonneg_of_pos _ (by decide), Int.fmod_lt_of_pos _ (by decide)⟩
    · rw [(List.mem_replicate.mp h).2]; decide
  · rw [List.getD_eq_getElem?_getD, List.getElem?_append_right (by omega), hl]
    by_cases hi2 : i - 500 < 390
    · rw [List.getElem?_replicate_of_lt hi2]; rfl
    · rw [List.getElem?_eq_none (by rw [List.length_replicate]; omega)]; rfl
theorem octets_some {ws : List Value} {g : Int → Int} (h : IntsAre ws ((rangeKs 0 (500 - 0 : Int).toNat).map (fun k => (g k).fmod 256) ++ (List.replicate (Int.toNat 390) [(0 : Int)]).flatten)) : ∃ o, IntsAre ws o ∧ Octets o := ⟨_, h, octets_of g⟩
section
variable {o : List Int} {q : Nat}
theorem getD_byte (O : Octets o) (i : Nat) : 0 ≤ o.getD i 0 ∧ o.getD i 0 < 256 := by
  by_cases h : i < o.length
  · rw [List.getD_eq_getElem?_getD, List.getElem?_eq_getElem h]
    exact O.byte _ (List.getElem_mem h)
  · rw [List.getD_eq_getElem?_getD, List.getElem?_eq_none (by omega)]; decide
/-- the law's number of a triple, taken apart -/
def num (o : List Int) (q : Nat) : Int := o.getD (3 * q) 0 + 256 * o.getD (3 * q + 1) 0 + 65536 * o.getD (3 * q + 2) 0
theorem num_lo (O : Octets o) : (num o q).fmod 4096 = dA o q := by
  have h0 := getD_byte O (3 * q); have h1 := getD_byte O (3 * q + 1); have h2 := getD_byte O (3 * q + 2)
  unfold num dA
  rw [Int.fmod_eq_emod_of_nonneg _ (by decide)]
  omega
theorem num_hi (O : Octets o) : (num o q).fdiv 4096 = dB o q := by
  have h0 := getD_byte O (3 * q); have h1 := getD_byte O (3 * q + 1); have h2 := getD_byte O (3 * q + 2)
  unfold num dB
  rw [Int.fdiv_eq_ediv_of_nonneg _ (by decide)]
  omega
theorem raw_num : o.getD (3 * (q : Int)).toNat 0 + 256 * o.getD (3 * (q : Int) + 1).toNat 0 + 65536 * o.getD (3 * (q : Int) + 2).toNat 0 = num o q := by
  have e0 : (3 * (q : Int)).toNat = 3 * q := by omega
  have e1 : (3 * (q : Int) + 1).toNat = 3 * q + 1 := by omega
  have e2 : (3 * (q : Int) + 2).toNat = 3 * q + 2 := by omega
  unfold num
  rw [e0, e1, e2]
theorem pick_mixed (O : Octets o) (h : 166 ≤ q) : 1 ≤ (pick o q).length := by
  have h0 := getD_byte O (3 * q + 1)
  have h2 := O.nought (3 * q + 2) (by omega)
  have hb : dB o q < 3329 := by unfold dB; omega
  unfold pick; rw [if_pos hb, List.length_append]; simp
theorem pick_nought (O : Octets o) (h : 167 ≤ q) : (pick o q).length = 2 := by
  have h0 := O.nought (3 * q) (by omega)
  have h1 := O.nought (3 * q + 1) (by omega)
  have h2 := O.nought (3 * q + 2) (by omega)
  have ha : dA o q < 3329 := by unfold dA; omega
  have hb : dB o q < 3329 := by unfold dB; omega
  unfold pick; rw [if_pos ha, if_pos hb]; rfl
theorem fnd_grows (O : Octets o) : ∀ k, 2 * k + 1 ≤ (fnd o (167 + k)).length
  | 0 => by
    have h := pick_mixed O (q := 166) (Nat.le_refl _)
    show 1 ≤ (fnd o 166 ++ pick o 166).length
    rw [List.length_append]; omega
  | k + 1 => by
    have ih := fnd_grows O k
    have h := pick_nought O (q := 167 + k) (by omega)
    show _ ≤ (fnd o (167 + k) ++ pick o (167 + k)).length
    rw [List.length_append]; omega
/-- while fewer than 256 are found, the triple's octets lie within -/
theorem room (O : Octets o) (h : (fnd o q).length < 256) : 3 * q + 2 < 890 := by
  by_cases hq : q < 167
  · omega
  · obtain ⟨k, rfl⟩ : ∃ k, q = 167 + k := ⟨q - 167, by omega⟩
    have := fnd_grows O k
    omega
theorem fnd_bound (q : Nat) : (fnd o q).length ≤ 2 * q := by
  induction q with
  | zero => exact Nat.le_refl _
  | succ q ih =>
    show (fnd o q ++ pick o q).length ≤ _
    have hp : (pick o q).length ≤ 2 := by unfold pick; split <;> split <;> simp
    rw [List.length_append]; omega
theorem many (h : 256 ≤ (fnd o q).length) : 128 ≤ q := by have := fnd_bound (o := o) q; omega
theorem fnd_le (h : ∀ r, r < q → (fnd o r).length < 256) : (fnd o q).length ≤ 257 := by
  cases q with
  | zero => exact Nat.zero_le _
  | succ q =>
    have h1 := h q (Nat.lt_succ_self _)
    show (fnd o q ++ pick o q).length ≤ _
    have hp : (pick o q).length ≤ 2 := by unfold pick; split <;> split <;> simp
    rw [List.length_append]; omega
theorem fnd_fit (h : ∀ r, r < q → (fnd o r).length < 256) : (((fnd o q).length : Nat) : Int) < 2 ^ 63 := by have := fnd_le h; omega
theorem cut_nonneg {k : Int} (h : 128 ≤ q) : 0 ≤ 3 * (q : Int) - 1 - k.fmod 3 := by
  have h1 := Int.fmod_lt_of_pos k (b := 3) (by decide)
  omega
theorem cut_le {k : Int} (h : 128 ≤ q) : (3 * (q : Int) - 1 - k.fmod 3).toNat + 1 ≤ 3 * q := by
  have h1 := Int.fmod_nonneg_of_pos k (b := 3) (by decide)
  omega
theorem cut_ge {k : Int} (h : 128 ≤ q) : 3 * q ≤ (3 * (q : Int) - 1 - k.fmod 3).toNat + 3 := by
  have h1 := Int.fmod_lt_of_pos k (b := 3) (by decide)
  omega
theorem getD_take {n i : Nat} (h : i < n) : (o.take n).getD i 0 = o.getD i 0 := by
  rw [List.getD_eq_getElem?_getD, List.getD_eq_getElem?_getD, List.getElem?_take_of_lt h]
theorem fnd_take {n : Nat} : ∀ r, 3 * r ≤ n → fnd (o.take n) r = fnd o r
  | 0, _ => rfl
  | r + 1, h => by
    have ih := fnd_take (n := n) r (by omega)
    show fnd (o.take n) r ++ pick (o.take n) r = fnd o r ++ pick o r
    have ea : dA (o.take n) r = dA o r := by unfold dA; rw [getD_take (by omega), getD_take (by omega)]
    have eb : dB (o.take n) r = dB o r := by unfold dB; rw [getD_take (by omega), getD_take (by omega)]
    rw [ih]; unfold pick; rw [ea, eb]
theorem take_byte (O : Octets o) (n : Nat) : ∀ k ∈ o.take n, 0 ≤ k ∧ k < 256 := fun k hk => O.byte k (List.mem_of_mem_take hk)
theorem take_fits (O : Octets o) (n : Nat) : (o.take n).length ≤ 890 := by rw [List.length_take, O.len]; omega
theorem used_fits (O : Octets o) (h : ∀ r, r < q → (fnd o r).length < 256) : 3 * q ≤ 890 := by
  cases q with
  | zero => decide
  | succ q => have := room O (h q (Nat.lt_succ_self _)); omega
/-- the whole run of octets is enough: no IndexError -/
theorem whole_no (O : Octets o) (hprev : ∀ r, r < q → (fnd o r).length < 256) (hful : 256 ≤ (fnd o q).length) {p : Nat}
    (hp : ∀ r, r ≤ p → (fnd (o.take (3 * (q : Int)).toNat) r).length < 256) (hs : (o.take (3 * (q : Int)).toNat).length < 3 * p + 3) : False := by
  have e : (3 * (q : Int)).toNat = 3 * q := by omega
  rw [e] at hp hs
  have hu := used_fits O hprev
  rw [List.length_take, O.len, Nat.min_eq_left hu] at hs
  have := hp q (by omega)
  rw [fnd_take q (Nat.le_refl _)] at this
  omega
/-- .. and gives what the law found -/
theorem whole_is (hprev : ∀ r, r < q → (fnd o r).length < 256) {p : Nat}
    (hful : 256 ≤ (fnd (o.take (3 * (q : Int)).toNat) p).length) (hs : 3 * p ≤ (o.take (3 * (q : Int)).toNat).length)
    (hp : ∀ r, r < p → (fnd (o.take (3 * (q : Int)).toNat) r).length < 256) (hq : 256 ≤ (fnd o q).length) : fnd (o.take (3 * (q : Int)).toNat) p = fnd o q := by
  have e : (3 * (q : Int)).toNat = 3 * q := by omega
  rw [e] at hful hs hp ⊢
  rw [List.length_take] at hs
  have hpq : p ≤ q := by omega
  rw [fnd_take p (by omega)] at hful ⊢
  have : p = q := by
    rcases Nat.lt_or_ge p q with h | h
    · have := hprev p h; omega
    · omega
  rw [this]
/-- the cut run of octets is too short -/
theorem cut_no (hprev : ∀ r, r < q → (fnd o r).length < 256) (h128 : 128 ≤ q) {k : Int} {p : Nat}
    (hful : 256 ≤ (fnd (o.take (3 * (q : Int) - 1 - k.fmod 3).toNat) p).length) (hs : 3 * p ≤ (o.take (3 * (q : Int) - 1 - k.fmod 3).toNat).length) : False := by
  have h1 := cut_le (q := q) (k := k) h128
  rw [List.length_take] at hs
  rw [fnd_take p (by omega)] at hful
  have := hprev p (by omega)
  omega
theorem less_of (h : (((fnd o q).length : Nat) : Int) < 256) : (fnd o q).length < 256 := by omega
theorem three_nonneg1 : 0 ≤ 3 * (q : Int) + 1 := by omega
theorem three_nonneg2 : 0 ≤ 3 * (q : Int) + 2 := by omega
theorem three_room (O : Octets o) (h : (fnd o q).length < 256) : 3 * (q : Int) < 890 := by have := room O h; omega
theorem three_room1 (O : Octets o) (h : (fnd o q).length < 256) : 3 * (q : Int) + 1 < 890 := by have := room O h; omega
theorem three_room2 (O : Octets o) (h : (fnd o q).length < 256) : 3 * (q : Int) + 2 < 890 := by have := room O h; omega
theorem law_meas (h : 3 * (q : Int) < 890) : 890 - 3 * (q + 1) < 890 - 3 * q := by omega
theorem law_prev (hp : ∀ r, r < q → (fnd o r).length < 256) (h : (fnd o q).length < 256) : ∀ r, r < q + 1 → (fnd o r).length < 256 := fun r hr => by
  rcases Nat.lt_or_ge r q with h' | h'
  · exact hp r h'
  · rw [Nat.le_antisymm (Nat.le_of_lt_succ hr) h']; exact h
theorem law_both {x : Int} {ws : List Value} (O : Octets o) (e : x = num o q) (ha : x.fmod 4096 < 3329) (hb : x.fdiv 4096 < 3329) (k : IntsAre ws (fnd o q ++ [x.fmod 4096, x.fdiv 4096])) :
    3 * (q : Int) + 3 = 3 * ((q + 1 : Nat) : Int) ∧ IntsAre ws (fnd o (q + 1)) := by
  subst e
  rw [num_lo O] at ha k
  rw [num_hi O] at hb k
  refine ⟨by omega, ?_⟩
  show IntsAre ws (fnd o q ++ pick o q)
  unfold pick; rw [if_pos ha, if_pos hb]; exact k
theorem law_lo {x : Int} {ws : List Value} (O : Octets o) (e : x = num o q) (ha : x.fmod 4096 < 3329) (hb : ¬ x.fdiv 4096 < 3329) (k : IntsAre ws (fnd o q ++ [x.fmod 4096])) :
    3 * (q : Int) + 3 = 3 * ((q + 1 : Nat) : Int) ∧ IntsAre ws (fnd o (q + 1)) := by
  subst e
  rw [num_lo O] at ha k
  rw [num_hi O] at hb
  refine ⟨by omega, ?_⟩
  show IntsAre ws (fnd o q ++ pick o q)
  unfold pick; rw [if_pos ha, if_neg hb]; exact k
theorem law_hi {x : Int} {ws : List Value} (O : Octets o) (e : x = num o q) (ha : ¬ x.fmod 4096 < 3329) (hb : x.fdiv 4096 < 3329) (k : IntsAre ws (fnd o q ++ [x.fdiv 4096])) :
    3 * (q : Int) + 3 = 3 * ((q + 1 : Nat) : Int) ∧ IntsAre ws (fnd o (q + 1)) := by
  subst e
  rw [num_lo O] at ha
  rw [num_hi O] at hb k
  refine ⟨by omega, ?_⟩
  show IntsAre ws (fnd o q ++ pick o q)
  unfold pick; rw [if_neg ha, if_pos hb]; exact k
theorem law_none {x : Int} {ws : List Value} (O : Octets o) (e : x = num o q) (ha : ¬ x.fmod 4096 < 3329) (hb : ¬ x.fdiv 4096 < 3329) (k : IntsAre ws (fnd o q ++ [])) :
    3 * (q : Int) + 3 = 3 * ((q + 1 : Nat) : Int) ∧ IntsAre ws (fnd o (q + 1)) := by
  subst e
  rw [num_lo O] at ha
  rw [num_hi O] at hb
  refine ⟨by omega, ?_⟩
  show IntsAre ws (fnd o q ++ pick o q)
  unfold pick; rw [if_neg ha, if_neg hb]; exact k
theorem full_of (h : ¬ (((fnd o q).length : Nat) : Int) < 256) : 256 ≤ (fnd o q).length := by omega
theorem three_nonneg : 0 ≤ 3 * (q : Int) := by omega
theorem size_oct {ws : List Value} (h : IntsAre ws o) (O : Octets o) : ws.toArray.size ≤ sizeLine := by
  rw [List.size_toArray, h.length, O.len, sizeLine_eq]; decide
theorem size_fnd {ws : List Value} (h : IntsAre ws (fnd o q)) (hp : ∀ r, r < q → (fnd o r).length < 256) : ws.toArray.size ≤ sizeLine := by
  have := fnd_le hp
  rw [List.size_toArray, h.length, sizeLine_eq]; omega
end
section
variable {prog : Program} {w : World} {A : Around} {E : Value → Shared → Prop} {s : Shared} {h₀ : Heap} {L D : Addr} {news : List (Addr × Obj)} {vs : List Value} {o : List Int} {n : Nat} {k : Int} {u : Tok}
theorem oct_item {value slice : PySem.Expr} {Q : Value → Shared → Prop} (N : News h₀ L s.heap news) (hm : (D, W.listOf vs.toArray n) ∈ news) (hi : IntsAre vs o) (O : Octets o) (h0 : 0 ≤ k) (h1 : k < 890)
    (h : ∀ t, 0 ≤ o.getD k.toNat 0 → o.getD k.toNat 0 < 256 → Q (.int (o.getD k.toNat 0) t) s)
    (hs : subscripted slice false (.ref D) (.int k u) = operate [.ref D, .int k u] (getItem (.ref D) (.int k u)) := by with_unfolding_all rfl) :
    wpAny (model prog w) A (subscriptTail value slice (.ref D) (.int k u)) Q E s :=
  ksa_sub N hm hi h0 (by rw [O.len]; exact h1) (by omega) (fun t => h t (getD_byte O _).1 (getD_byte O _).2) hs
end
end Mine
end OctL

section W3
open PySem PySem.W PySem.Calls PyProof.Rows
namespace Mine
@[irreducible] def cellF (ns : List Int) (k : Int) : Int := if k < (ns.length : Int) then (ns.getD k.toNat 0).natAbs else 7 * k + 3
section law
local macro_rules | `(tactic| walk_at "exec While Compare cons nil") => `(tactic| (refine Stay.out ?_))
local macro_rules | `(tactic| walk_at "call builtin:len") => `(tactic| (k_here; (with_reducible show wpAny _ _ (call (Value.builtin "len") [Value.ref _]) _ _ _); k_dflt (refine' kst_len ?k1 ?k2 ?k3 ?k4 ?_; (case k1 => k_asm); (case k2 => k_memK); (case k3 => with_reducible assumption); (case k4 => with_reducible assumption)); k_whole))
local macro_rules | `(tactic| walk_at "call ref") => `(tactic| (k_here; (with_reducible show wpAny _ _ (call (Value.ref 280) _ _) _ _ _); (refine Stay.out ?_)))
local macro_rules | `(tactic| walk_at "call ref") => `(tactic| (k_here; (with_reducible show wpAny _ _ (call (Value.ref 450) _ _) _ _ _); (refine Stay.out ?_)))
local macro_rules | `(tactic| walk_at "subscriptTail Name Slice ref ref") => `(tactic| (k_here; (with_reducible show wpAny _ _ (subscriptTail _ (PySem.Expr.Slice none (some _) none _) (Value.ref _) (Value.ref _)) _ _ _); k_dflt (refine' kmk_slice_ints ?F ?N ?l ?p ?q ?i ?m rfl ?_ ?s ?t ?z; (case F => k_asm); (case N => k_asm); (case l => exact News.isList (by k_asm) (by k_mem)); (case p => kmk_part); (case q => kmk_part); (case i => with_reducible assumption); (case m => exact kmk_upto (by with_reducible assumption) (by first | with_reducible assumption | decide | exact cut_nonneg (by with_reducible assumption))); (case s => with_unfolding_all rfl); (case t => kmk_pure); (case z => with_reducible assumption)); intro D9 ws9 h' F' N' l1 hI9 hC9 hL9; clear hC9 hL9; (try k_lt l1)))
local macro_rules | `(tactic| walk_at "ite") => `(tactic| ((rename ¬ (List.take _ (fnd _ _) = List.take _ (fnd _ _)) => hNe9); exact absurd rfl hNe9))
local macro_rules | `(tactic| walk_at "call builtin:isinstance") => `(tactic| (k_here; k_dflt (refine' isi_call ?k1 ?k2 ?k3 ?k4 ?_; (case k1 => k_in); (case k2 => k_types); (case k3 => k_is); (case k4 => intro e; cases e); k_whole)))
local macro_rules | `(tactic| walk_at "subscriptTail Name") => `(tactic| (k_here; (with_reducible show wpAny _ _ (subscriptTail _ _ (Value.ref _) (Value.int _ _)) _ _ _); k_dflt (refine' oct_item ?k1 ?k2 ?k3 ?k4 ?k5 ?k6 ?_ ?k7; (case k1 => k_asm); (case k2 => k_mem); (case k3 => with_reducible assumption); (case k4 => with_reducible assumption); (case k5 => with_reducible assumption); (case k6 => with_reducible assumption); (case k7 => with_unfolding_all rfl); k_whole); intro t9 hlo9 hhi9))
theorem walk : PySem.Challenge.rw_yi0038_01.Holds := hd (by
  k_with "tree" => simp only [cellF]
  k_with "call ref" => k_call_by "_law_cell" cellF (fun (_ : List Int) (k : Int) => 0 ≤ k)
  w_strict (k_go0; (all_goals try k_fold); k_steps)
  unfold Stay
  rename Fr _ _ _ _ => lF
  rename News _ _ _ _ => lN
  rename IntsAre _ _ => lI
  rename List Value => ws8
  obtain ⟨oct, hI, hO⟩ := octets_some (ws := ws8) lI
  have hMk := kstMark
  refine' my_while (σ := Nat × Int × Tok × Addr × List Value × Nat) (fun c => [(c.2.2.2.1, W.listOf c.2.2.2.2.1.toArray c.2.2.2.2.2), (?D, W.listOf ws8.toArray 0)])
   (fun c => [(Str.ofString "found", Value.ref c.2.2.2.1), (Str.ofString "used", Value.int c.2.1 c.2.2.1)])
   (fun c => c.2.1 = 3 * (c.1 : Int) ∧ IntsAre c.2.2.2.2.1 (fnd oct c.1)) [Str.ofString "number"]
   (fun c => ∀ r, r < c.1 → (fnd oct r).length < 256) (fun c => 890 - 3 * c.1) (0, 0, ?tu, ?fa, [], 0) lF ?kn ?kf ?kk ?kp ?kt
  case kn => exact kst_newsOf lN (by kst_inAny)
  case kk => kst_all
  case kf => exact ⟨rfl, .nil⟩
  case kp => exact fun r hr => absurd hr (Nat.not_lt_zero r)
  clear lF lN lI
  rintro ⟨q, iq, tu, fa, us, un⟩ u h tk ⟨ei, kFacts⟩ hprev kFr kNews
  dsimp only at ei kFacts hprev kFr kNews ⊢
  subst ei
  try k_fold
  have hLen : us.length = (fnd oct q).length := kFacts.length
  have hFit := fnd_fit hprev
  k_steps
  rotate_left
  · unfold Stay
    clear hLen hFit
    rename ¬ (((fnd oct q).length : Nat) : Int) < 256 => hf0
    have hful : 256 ≤ (fnd oct q).length := full_of hf0
    clear hf0
    have h128 := many hful
    have h3q : 0 ≤ 3 * (q : Int) := three_nonneg
    have hz8 : ws8.toArray.size ≤ sizeLine := size_oct hI hO
    have hzu : us.toArray.size ≤ sizeLine := size_fnd kFacts hprev
    k_steps
    unfold Stay
    refine' ring_spec _ _ _ _ _ _ _ _ _ _ _ _ _ _ _ _ _ _ _ ?kB ?kF ?kX ?kN ?kT ?kR
    case kB => k_asm
    case kF => k_asm
    case kX => k_asm
    case kN => k_asm
    case kT => k_asm
    intro x d z t1 t2 t3 t4 t5 t6 t7 h8 k8 F8 N8
    try k_fold
    k_steps
    unfold Stay
    rename News _ _ _ _ => lN
    refine' samp_spec _ _ _ _ _ _ _ _ _ _ _ _ _ _ _ x d z _ fa _ (W.listOf us.toArray un) (W.listOf ws8.toArray 0) t1 t2 t3 t4 t5 t6 t7 _ (oct.take (3 * (q : Int)).toNat) _ ?kB ?kF ?kX (kst_newsOf lN ?kN) ?kT ?kI (take_byte hO _) (take_fits hO _) ?r1 ?r2
    case kB => k_asm
    case kF => k_asm
    case kX => k_asm
    case kN => kst_inAny
    case kT => k_asm
    case kI => assumption
    case r1 => exact fun p _ _ hp hs _ _ => (whole_no hO hprev hful hp hs).elim
    clear lN
    intro x2 d2 D2 t8 t9 us2 un2 p h9 k9 hp hfp hsp hI2 F9 N9
    rw [whole_is hprev hfp hsp hp hful] at hI2
    try k_fold
    k_steps
    unfold Stay
    rename News _ _ _ _ => lN
    refine' samp_spec _ _ _ _ _ _ _ _ _ _ _ _ _ _ _ x d z _ x2 d2 _ _ t1 t2 t3 t4 t5 t6 t7 _ _ _ ?jB ?jF ?jX (kst_newsOf lN ?jN) ?jT ?jI (take_byte hO _) (take_fits hO _) ?j1 ?j2
    case jB => k_asm
    case jF => k_asm
    case jX => k_asm
    case jN => kst_inAny
    case jT => k_asm
    case jI => assumption
    case j2 => exact fun _ _ _ _ _ _ _ p _ _ _ hfp hsp _ _ _ => (cut_no hprev h128 hfp hsp).elim
    intro p h9 k9 hp hs F9 N9
    try k_fold
    k_steps
  unfold Stay
  rename (((fnd oct q).length : Nat) : Int) < 256 => hlt0
  have hlt : (fnd oct q).length < 256 := less_of hlt0
  clear hlt0
  have i00 : 0 ≤ 3 * (q : Int) := three_nonneg
  have i01 : 0 ≤ 3 * (q : Int) + 1 := three_nonneg1
  have i02 : 0 ≤ 3 * (q : Int) + 2 := three_nonneg2
  have i10 : 3 * (q : Int) < 890 := three_room hO hlt
  have i11 : 3 * (q : Int) + 1 < 890 := three_room1 hO hlt
  have i12 : 3 * (q : Int) + 2 < 890 := three_room2 hO hlt
  k_steps
  all_goals (
    unfold Hold
    dsimp only [KswPost]
    unfold KswEnd
    rename News _ _ _ _ => nE'
    rename Fr _ _ _ _ => fE'
    rename IntsAre _ (fnd _ _ ++ _) => hE'
    refine ⟨(q + 1, _, _, _, _, _), _, _, _, _, rfl, fE', nE', (by kst_in), ?_, (by kst_all), ?_, law_prev hprev hlt, law_meas i10⟩)
  all_goals (try dsimp only)
  all_goals first
    | with_reducible exact law_both hO raw_num (by assumption) (by assumption) hE'
    | with_reducible exact law_lo hO raw_num (by assumption) (by assumption) hE'
    | with_reducible exact law_hi hO raw_num (by assumption) (by assumption) hE'
    | with_reducible exact law_none hO raw_num (by assumption) (by assumption) hE'
    | skip
  all_goals (
    intro z h2 h3
    have h2a : z ≠ Str.ofString "found" := h2 _ (List.Mem.head _)
    have h2b : z ≠ Str.ofString "used" := h2 _ (List.Mem.tail _ (List.Mem.head _))
    have h3a : z ≠ Str.ofString "number" := by intro e; rw [e] at h3; revert h3; decide
    simp only [if_neg h2a, if_neg h2b, if_neg h3a, kstB, h3, Bool.false_eq_true, if_false]))
end law
end Mine
end W3

theorem PySem.Challenge.cw_yi0038_01_holds : PySem.Challenge.rw_yi0038_01.Holds := by
  exact Mine.walk
