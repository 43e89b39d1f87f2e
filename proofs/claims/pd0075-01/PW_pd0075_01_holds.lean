import PyProof.Rows.All
import Wide.All
import OpenK.AllK
import Wide.FinOn
import PySem.Challenge.RW_pd0075_01
set_option Elab.async false
set_option maxRecDepth 100000
set_option maxHeartbeats 8000000
set_option linter.all false
section HeadPart
open PySem PySem.W PyProof.Rows
namespace Mine
theorem first9 {P L C W : Prop} (p : P) (_ : L) (_ : C) (_ : W) : P := p
/-- the head: what the top leaves (T.1), the walk (T.2) -/
noncomputable def hd : { T : Prop × Prop // T.1 → T.2 → PySem.Challenge.rw_pd0075_01.Holds } := by
  refine' ⟨(_, _), fun t1 t2 => ?p⟩
  case p =>
    w_on
    o_law
    refine' first9 ?main ?hl ?hc ?hw
    case main => k_head
    case hw => w_witness2
    case hl => exact t1
    case hc => exact t2
/-- the start-up is the library's own; behind it the text's top -/
theorem boot9 {p : Program} {N : Nat} {α : Type} {F : Shared → α} {R : World → α} (e : opening p = plainProg p.main.scope.names) (hN : Nat.ble 600 N = true) (f : ∀ s, fenceModules? p s = some s)
    (h : ∀ (w : World) (os : OsState), (topFrom treeTable p w N ⟨boot_heap w.params, Array.mk [], boot_drawn, boot_toks, os⟩).map F = some (R w)) : ∀ w : World, (openEnds treeTable p w N).map F = some (R w) := fun w => by
  obtain ⟨⟨hp, g, d, tk, os⟩, hs, hv⟩ := Option.map_eq_some_iff.mp (boot_open e hN f w)
  simp only [Prod.mk.injEq] at hv
  obtain ⟨rfl, rfl, rfl, rfl⟩ := hv
  have k := h w os
  unfold openEnds
  rw [hs]
  exact k
theorem prog9 : PySem.Challenge.rw_pd0075_01.row.prog = PySem.Challenge.pw_pd0075_01 := by kernel_rfl
theorem left9 : hd.1.1 := by
  show LeftO _ _ _ _ _ _ _
  refine boot9 (by kernel_rfl) rfl (fun s => by kernel_rfl) (fun w os => ?_)
  first
    | (rw [prog9, PySem.W.Fast.te17673571413044592809]
       unfold topFrom
       rw [PySem.W.Fast.te14082659384304107361, PySem.W.Fast.te4187177175401517315]
       kernel_rfl)
    | kernel_rfl
end Mine
end HeadPart
section P1Part
open PySem PySem.W PyProof.Rows
namespace Mine
open Builtin

theorem extract_toList (l : List UInt8) (i j : Nat) : l.toArray.extract i j = ((l.drop i).take (j - i)).toArray := by
  simp [List.extract_toArray, List.extract]

/-- split at each byte x -/
def splitB (x : UInt8) : List UInt8 → List (List UInt8)
  | [] => [[]]
  | c :: r => if c = x then [] :: splitB x r else match splitB x r with
    | h :: t => (c :: h) :: t
    | [] => [[c]]
theorem splitB_ne (x : UInt8) : ∀ l, splitB x l ≠ []
  | [] => by simp [splitB]
  | c :: r => by
    unfold splitB
    by_cases h : c = x
    · simp [h]
    · simp only [if_neg h]; split <;> simp

/-- the places of x, counted from o -/
def posB (x : UInt8) : Nat → List UInt8 → List Nat
  | _, [] => []
  | o, c :: r => if c = x then o :: posB x (o + 1) r else posB x (o + 1) r

theorem one_at (l : List UInt8) (x : UInt8) (i : Nat) : (l.toArray.extract i (i + 1) == #[x]) = (l[i]? == some x) := by
  rw [extract_toList]
  have e : i + 1 - i = 1 := by omega
  rw [e]
  cases h : l[i]? with
  | none =>
    have : l.drop i = [] := by simpa using h
    simp [this]
  | some c =>
    have hi : i < l.length := by
      rcases Nat.lt_or_ge i l.length with h' | h'
      · exact h'
      · rw [List.getElem?_eq_none h'] at h; cases h
    have e2 : l.drop i = c :: l.drop (i + 1) := by
      rw [List.drop_eq_getElem_cons hi]
      congr 1
      rw [List.getElem?_eq_getElem hi] at h
      exact Option.some.inj h
    rw [e2]
    simp

theorem occ_fold (l : List UInt8) (x : UInt8) : ∀ (r pre : List UInt8) (acc : List Nat) (q : Nat), l = pre ++ r → q ≤ pre.length →
    ((List.range' pre.length r.length).foldl (fun (acc : List Nat × Nat) i => if (i ≥ acc.2 && l.toArray.extract i (i + (#[x] : Array UInt8).size) == #[x]) = true then (i :: acc.1, i + (#[x] : Array UInt8).size) else acc) (acc, q)).1.reverse = acc.reverse ++ posB x pre.length r := by
  intro r
  induction r with
  | nil => intro pre acc q hl hq; simp [posB]
  | cons c r ih =>
    intro pre acc q hl hq
    have hsz : (#[x] : Array UInt8).size = 1 := rfl
    simp only [List.length_cons, List.range'_succ, List.foldl_cons, hsz, one_at]
    have hc : l[pre.length]? = some c := by rw [hl]; simp
    have e1 : pre.length + 1 = (pre ++ [c]).length := by simp
    have hl' : l = (pre ++ [c]) ++ r := by simp [hl]
    by_cases h : c = x
    · subst h
      simp only [hc, ge_iff_le, decide_eq_true hq, beq_self_eq_true, Bool.and_self, if_true]
      have := ih (pre ++ [c]) (pre.length :: acc) (pre.length + 1) hl' (by simp)
      simp only [hsz, one_at] at this
      rw [← e1] at this
      rw [this]
      simp [posB]
    · have hne : (some c == some x) = false := by simpa using h
      simp only [hc, hne, Bool.and_false, Bool.false_eq_true, if_false]
      have := ih (pre ++ [c]) acc q hl' (by simp; omega)
      simp only [hsz, one_at] at this
      rw [← e1] at this
      rw [this]
      simp [posB, h]

theorem occurrences_one (l : List UInt8) (x : UInt8) : Bytes.occurrences l.toArray #[x] 0 l.toArray.size = posB x 0 l := by
  unfold Bytes.occurrences
  have e : List.map (fun y => y + 0) (List.range (l.toArray.size + 1 - (0 + (#[x] : Array UInt8).size))) = List.range' ([] : List UInt8).length l.length := by
    simp [List.range_eq_range']
  rw [e]
  have := occ_fold l x l [] [] 0 (by simp) (by simp)
  simpa using this

theorem between_fold (l : List UInt8) (x : UInt8) : ∀ (r pre : List UInt8) (parts : Array (Array UInt8)) (last : Nat), l = pre ++ r → last ≤ pre.length →
    (let z := (posB x pre.length r).foldl (fun (z : Array (Array UInt8) × Nat) p => (z.1.push (l.toArray.extract z.2 p), p + 1)) (parts, last)
     (z.1.push (l.toArray.extract z.2 l.toArray.size)).toList) = parts.toList ++ (match splitB x r with | h :: t => ((l.drop last).take (pre.length - last) ++ h) :: t | [] => []).map List.toArray := by
  intro r
  induction r with
  | nil =>
    intro pre parts last hl hq
    simp only [posB, List.foldl_nil, splitB, extract_toList]
    have : l.length = pre.length := by rw [hl]; simp
    simp [this]
  | cons c r ih =>
    intro pre parts last hl hq
    have e1 : pre.length + 1 = (pre ++ [c]).length := by simp
    have hl' : l = (pre ++ [c]) ++ r := by simp [hl]
    by_cases h : c = x
    · subst h
      simp only [posB, if_true, List.foldl_cons]
      have := ih (pre ++ [c]) (parts.push (l.toArray.extract last pre.length)) (pre.length + 1) hl' (by simp)
      rw [← e1] at this
      rw [this]
      simp only [splitB, if_true, extract_toList]
      cases hs : splitB c r with
      | nil => exact absurd hs (splitB_ne c r)
      | cons a b => simp
    · simp only [posB, if_neg h]
      have := ih (pre ++ [c]) parts last hl' (by simp; omega)
      rw [← e1] at this
      rw [this]
      simp only [splitB, if_neg h]
      cases hs : splitB x r with
      | nil => exact absurd hs (splitB_ne x r)
      | cons a b =>
        have e2 : (l.drop last).take (pre.length + 1 - last) = (l.drop last).take (pre.length - last) ++ [c] := by
          have : pre.length + 1 - last = (pre.length - last) + 1 := by omega
          rw [this, List.take_add_one]
          congr 1
          rw [List.getElem?_drop]
          have : last + (pre.length - last) = pre.length := by omega
          rw [this, hl]
          simp
        rw [e2]
        simp

theorem between_one (l : List UInt8) (x : UInt8) : Bytes.between l.toArray 1 (posB x 0 l) = (splitB x l).map List.toArray := by
  have := between_fold l x l [] #[] 0 (by simp) (by simp)
  simp only [List.length_nil] at this
  unfold Bytes.between
  refine this.trans ?_
  cases hs : splitB x l with
  | nil => exact absurd hs (splitB_ne x l)
  | cons a b => simp

theorem posB_nil (x : UInt8) : ∀ (l : List UInt8) (o : Nat), posB x o l = [] → splitB x l = [l]
  | [], _, _ => rfl
  | c :: r, o, h => by
    by_cases hc : c = x
    · simp [posB, hc] at h
    · simp only [posB, if_neg hc] at h
      simp only [splitB, if_neg hc, posB_nil x r _ h]
theorem posB_length (x : UInt8) : ∀ (l : List UInt8) (o : Nat), (posB x o l).length ≤ l.length
  | [], _ => by simp [posB]
  | c :: r, o => by
    unfold posB
    have := posB_length x r (o + 1)
    split <;> simp <;> omega
theorem splitB_length (x : UInt8) : ∀ (l : List UInt8), (splitB x l).length ≤ l.length + 1
  | [] => by simp [splitB]
  | c :: r => by
    unfold splitB
    have := splitB_length x r
    split
    · simp; omega
    · split <;> simp_all <;> omega
end Mine
end P1Part
section B1Part
open PySem PySem.W PyProof.Rows
namespace Mine
namespace BR
open Builtin

theorem slot_rfind : Slot "bytes" "rfind" "bytes.rfind" :=
  .of (owner := "bytes") (n := "rfind") (by rw [typeLookup_type, builtinLookup_eq_fast]; kernel_rfl) (by decide +kernel) (by decide +kernel) (by decide +kernel)
    (by first | exact .inl (by decide +kernel) | exact .inr (by decide +kernel)) (by rw [isSubtype_type]; kernel_rfl)
theorem type_rfind : typeOf (.builtin "bytes.rfind") = pure (.type "method_descriptor") := by show builtinType _ = _; rw [builtinType_eq_fast]; kernel_rfl
theorem entry_rfind : entryFor table "bytes.rfind" = some Builtin.«bytes.rfind» := entryFor_of_tree (by kernel_rfl)
theorem args_rfind (a b : Value) : argsOk "bytes.rfind" ⟨[a, b], []⟩ := by unfold argsOk; kernel_rfl
theorem slot_lstrip : Slot "bytes" "lstrip" "bytes.lstrip" :=
  .of (owner := "bytes") (n := "lstrip") (by rw [typeLookup_type, builtinLookup_eq_fast]; kernel_rfl) (by decide +kernel) (by decide +kernel) (by decide +kernel)
    (by first | exact .inl (by decide +kernel) | exact .inr (by decide +kernel)) (by rw [isSubtype_type]; kernel_rfl)
theorem type_lstrip : typeOf (.builtin "bytes.lstrip") = pure (.type "method_descriptor") := by show builtinType _ = _; rw [builtinType_eq_fast]; kernel_rfl
theorem entry_lstrip : entryFor table "bytes.lstrip" = some Builtin.«bytes.lstrip» := entryFor_of_tree (by kernel_rfl)
theorem args_lstrip (a b : Value) : argsOk "bytes.lstrip" ⟨[a, b], []⟩ := by unfold argsOk; kernel_rfl
theorem slot_rstrip : Slot "bytes" "rstrip" "bytes.rstrip" :=
  .of (owner := "bytes") (n := "rstrip") (by rw [typeLookup_type, builtinLookup_eq_fast]; kernel_rfl) (by decide +kernel) (by decide +kernel) (by decide +kernel)
    (by first | exact .inl (by decide +kernel) | exact .inr (by decide +kernel)) (by rw [isSubtype_type]; kernel_rfl)
theorem type_rstrip : typeOf (.builtin "bytes.rstrip") = pure (.type "method_descriptor") := by show builtinType _ = _; rw [builtinType_eq_fast]; kernel_rfl
theorem entry_rstrip : entryFor table "bytes.rstrip" = some Builtin.«bytes.rstrip» := entryFor_of_tree (by kernel_rfl)
theorem args_rstrip (a b : Value) : argsOk "bytes.rstrip" ⟨[a, b], []⟩ := by unfold argsOk; kernel_rfl
theorem slot_split : Slot "bytes" "split" "bytes.split" :=
  .of (owner := "bytes") (n := "split") (by rw [typeLookup_type, builtinLookup_eq_fast]; kernel_rfl) (by decide +kernel) (by decide +kernel) (by decide +kernel)
    (by first | exact .inl (by decide +kernel) | exact .inr (by decide +kernel)) (by rw [isSubtype_type]; kernel_rfl)
theorem type_split : typeOf (.builtin "bytes.split") = pure (.type "method_descriptor") := by show builtinType _ = _; rw [builtinType_eq_fast]; kernel_rfl
theorem entry_split : entryFor table "bytes.split" = some Builtin.«bytes.split» := entryFor_of_tree (by kernel_rfl)
theorem args_split (a b : Value) : argsOk "bytes.split" ⟨[a, b], []⟩ := by unfold argsOk; kernel_rfl
theorem slot_join : Slot "bytes" "join" "bytes.join" :=
  .of (owner := "bytes") (n := "join") (by rw [typeLookup_type, builtinLookup_eq_fast]; kernel_rfl) (by decide +kernel) (by decide +kernel) (by decide +kernel)
    (by first | exact .inl (by decide +kernel) | exact .inr (by decide +kernel)) (by rw [isSubtype_type]; kernel_rfl)
theorem type_join : typeOf (.builtin "bytes.join") = pure (.type "method_descriptor") := by show builtinType _ = _; rw [builtinType_eq_fast]; kernel_rfl
theorem entry_join : entryFor table "bytes.join" = some Builtin.«bytes.join» := entryFor_of_tree (by kernel_rfl)
theorem args_join (a b : Value) : argsOk "bytes.join" ⟨[a, b], []⟩ := by unfold argsOk; kernel_rfl

theorem not_tuple {b : Array UInt8} {t : Tok} : isInstance (.bytes b t) (.type "tuple") = pure false := by
  have e : isInstance (.bytes b t) (.type "tuple") = isSubtype (.type "bytes") (.type "tuple") := rfl
  rw [e, isSubtype_type]; kernel_rfl


theorem window_all (n : Nat) : Bytes.window n none none = (0, (n : Int)) := by
  unfold Bytes.window
  simp only [Option.getD_none]
  have h1 : ¬ ((0 : Int) < 0) := by omega
  have h2 : ¬ ((n : Int) < 0) := by omega
  simp only [if_neg h1, if_neg h2, Int.min_self]
theorem starts_one (l : List UInt8) (x : UInt8) : (if ((l.toArray.size : Nat) : Int) - 0 < ([x].toArray.size : Nat) then false else l.toArray.extract (0 : Int).toNat ((0 : Int).toNat + [x].toArray.size) == [x].toArray) = (l.head? == some x) := by
  cases l with
  | nil => simp
  | cons c r =>
    have h : ¬ (((c :: r).toArray.size : Nat) : Int) - 0 < ([x].toArray.size : Nat) := by simp; omega
    rw [if_neg h]
    have := one_at (c :: r) x 0
    simpa using this
theorem ends_one (l : List UInt8) (x : UInt8) : (if ((l.toArray.size : Nat) : Int) - 0 < ([x].toArray.size : Nat) then false else l.toArray.extract (((l.toArray.size : Nat) : Int).toNat - [x].toArray.size) ((l.toArray.size : Nat) : Int).toNat == [x].toArray) = (l.getLast? == some x) := by
  cases hl : l with
  | nil => simp
  | cons c r =>
    have h : ¬ (((c :: r).toArray.size : Nat) : Int) - 0 < ([x].toArray.size : Nat) := by simp; omega
    rw [if_neg h, ← hl]
    have hlen : 0 < l.length := by rw [hl]; simp
    have := one_at l x (l.length - 1)
    have e : l.length - 1 + 1 = l.length := by omega
    rw [e] at this
    rw [List.getLast?_eq_getElem?]
    simpa using this

section
variable {t u : Tok}
theorem gives_startswith (l : List UInt8) (x : UInt8) :
    Gives («bytes.startswith» ⟨[.bytes l.toArray t, .bytes [x].toArray u], []⟩) (.val (.bool (l.head? == some x))) := by
  refine .of_wp fun M A E s Q hq => ?_
  show wpAny M A (isInstance (.bytes [x].toArray u) (.type "tuple") >>= fun r => _) _ E s
  refine wpAny_bind (wpAny_of_eq not_tuple ?_)
  show wpAny M A (Bytes.buffer? _ (.bytes [x].toArray u) >>= fun r => _) _ E s
  refine wpAny_bind (wpAny_of_eq KBy.buffer_eq ?_)
  refine wpAny_pure ⟨_, rfl, ?_⟩
  show Q (.bool (if (Bytes.window l.toArray.size none none).2 - (Bytes.window l.toArray.size none none).1 < ([x].toArray.size : Nat) then false else l.toArray.extract (Bytes.window l.toArray.size none none).1.toNat ((Bytes.window l.toArray.size none none).1.toNat + [x].toArray.size) == [x].toArray)) s
  rw [window_all, starts_one]
  exact hq
theorem gives_endswith (l : List UInt8) (x : UInt8) :
    Gives («bytes.endswith» ⟨[.bytes l.toArray t, .bytes [x].toArray u], []⟩) (.val (.bool (l.getLast? == some x))) := by
  refine .of_wp fun M A E s Q hq => ?_
  show wpAny M A (isInstance (.bytes [x].toArray u) (.type "tuple") >>= fun r => _) _ E s
  refine wpAny_bind (wpAny_of_eq not_tuple ?_)
  show wpAny M A (Bytes.buffer? _ (.bytes [x].toArray u) >>= fun r => _) _ E s
  refine wpAny_bind (wpAny_of_eq KBy.buffer_eq ?_)
  refine wpAny_pure ⟨_, rfl, ?_⟩
  show Q (.bool (if (Bytes.window l.toArray.size none none).2 - (Bytes.window l.toArray.size none none).1 < ([x].toArray.size : Nat) then false else l.toArray.extract ((Bytes.window l.toArray.size none none).2.toNat - [x].toArray.size) (Bytes.window l.toArray.size none none).2.toNat == [x].toArray)) s
  rw [window_all, ends_one]
  exact hq
end

/-- the last place of x, or -1 -/
def lastB (x : UInt8) (l : List UInt8) : Int := match (posB x 0 l).getLast? with
  | some i => i
  | none => -1
theorem find_rev (x : UInt8) (l : List UInt8) : ∀ (r pre : List UInt8), l = pre ++ r →
    (List.range' pre.length r.length).reverse.find? (fun i => l.toArray.extract i (i + 1) == #[x]) = (posB x pre.length r).getLast? := by
  intro r
  induction r with
  | nil => intro pre hl; simp [posB]
  | cons c r ih =>
    intro pre hl
    have e1 : pre.length + 1 = (pre ++ [c]).length := by simp
    have hl' : l = (pre ++ [c]) ++ r := by simp [hl]
    have hc : l[pre.length]? = some c := by rw [hl]; simp
    simp only [List.length_cons, List.range'_succ, List.reverse_cons, List.find?_append]
    rw [e1, ih (pre ++ [c]) hl', ← e1]
    simp only [List.find?_cons, List.find?_nil, one_at, hc]
    by_cases h : c = x
    · subst h
      simp only [posB, if_true, beq_self_eq_true]
      rw [List.getLast?_cons]
      cases (posB c (pre.length + 1) r).getLast? <;> simp
    · have hne : (some c == some x) = false := by simpa using h
      simp only [posB, if_neg h, hne]
      simp
theorem rfind_one (l : List UInt8) (x : UInt8) : Bytes.rfind? l.toArray [x].toArray 0 l.toArray.size = (posB x 0 l).getLast? := by
  unfold Bytes.rfind?
  have e : List.map (fun y => y + 0) (List.range (l.toArray.size + 1 - (0 + ([x].toArray).size))) = List.range' ([] : List UInt8).length l.length := by
    simp [List.range_eq_range']
  rw [e]
  exact find_rev x l l [] (by simp)
section
variable {t u : Tok}
theorem gives_rfind (l : List UInt8) (x : UInt8) :
    Gives («bytes.rfind» ⟨[.bytes l.toArray t, .bytes [x].toArray u], []⟩) (.int (lastB x l)) := by
  refine .of_wp fun M A E s Q hq => ?_
  show wpAny M A ((Bytes.buffer? _ (.bytes [x].toArray u) >>= fun r => _) >>= fun r => _) _ E s
  refine wpAny_bind (wpAny_bind (wpAny_of_eq KBy.buffer_eq ?_))
  refine wpAny_pure ?_
  show wpAny M A (match ((if (Bytes.window l.toArray.size none none).2 - (Bytes.window l.toArray.size none none).1 < ([x].toArray.size : Nat) then none else some ((Bytes.window l.toArray.size none none).1.toNat, (Bytes.window l.toArray.size none none).2.toNat)) : Option (Nat × Nat)).bind fun z => Bytes.rfind? l.toArray [x].toArray z.1 z.2 with
    | some i => retInt i
    | none => rule ((("bytes" ++ ".") ++ "rfind") ++ ".not-found") >>= fun _ => retInt (-1)) _ E s
  rw [window_all]
  have key : (((if ((0 : Int), ((l.toArray.size : Nat) : Int)).2 - ((0 : Int), ((l.toArray.size : Nat) : Int)).1 < ([x].toArray.size : Nat) then none else some (((0 : Int), ((l.toArray.size : Nat) : Int)).1.toNat, ((0 : Int), ((l.toArray.size : Nat) : Int)).2.toNat)) : Option (Nat × Nat)).bind fun z => Bytes.rfind? l.toArray [x].toArray z.1 z.2) = (posB x 0 l).getLast? := by
    cases l with
    | nil => simp [posB]
    | cons c r =>
      have h : ¬ (((c :: r).toArray.size : Nat) : Int) - 0 < ([x].toArray.size : Nat) := by simp; omega
      rw [if_neg h, ← rfind_one]
      simp
  rw [key]
  have hq' : Q (.int (lastB x l) s.toks) { s with toks := s.toks + 1 } := hq
  unfold lastB at hq'
  cases h : (posB x 0 l).getLast? with
  | none =>
    rw [h] at hq'
    exact wpAny_bind (wpAny_rule (wpAny_bind (wpAny_mkInt (wpAny_pure ⟨_, rfl, hq'⟩))))
  | some i =>
    rw [h] at hq'
    exact wpAny_bind (wpAny_mkInt (wpAny_pure ⟨_, rfl, hq'⟩))
theorem like_eq {b : Array UInt8} {id : String} : Bytes.bytesLike id (.bytes b t) = pure b := KBd.like_eq
theorem meets_lstrip (l : List UInt8) (x : UInt8) :
    Meets («bytes.lstrip» ⟨[.bytes l.toArray t, .bytes [x].toArray u], []⟩) (fun _ R s => l.length ≤ 16777216 ∧ ∀ t' k, R (.ok (.ret (.bytes (l.dropWhile (· == x)).toArray t'))) { s with toks := k }) := by
  refine .of_wp fun prog w A R s hS => ?_
  obtain ⟨hsz, h⟩ := hS
  show wpAny _ _ (Bytes.bytesLike _ (.bytes [x].toArray u) >>= fun r => _) _ _ s
  refine wpAny_bind (wpAny_of_eq like_eq ?_)
  have e : l.toArray.toList.dropWhile [x].toArray.contains = l.dropWhile (· == x) := by
    congr 1
    funext c
    by_cases hcx : c = x <;> simp [hcx]
  show wpAny _ _ (if ((l.toArray.toList.dropWhile [x].toArray.contains).length == l.toArray.size) = true then _ else _) _ _ s
  by_cases hc : ((l.toArray.toList.dropWhile [x].toArray.contains).length == l.toArray.size) = true
  · rw [if_pos hc]
    refine wpAny_bind (wpAny_rule ?_)
    refine wpAny_bind (wpAny_of_eq (a := Value.bytes l.toArray t) rfl ?_)
    refine wpAny_pure ⟨_, rfl, ?_⟩
    have : l.dropWhile (· == x) = l := by
      rw [e] at hc
      have h1 : (l.dropWhile (· == x)).length = l.length := by simpa using hc
      exact (List.dropWhile_suffix _).eq_of_length h1
    have h' := h t s.toks
    rw [this] at h'
    exact h'
  · rw [if_neg hc]
    have hlen : (l.dropWhile (· == x)).length ≤ l.length := (List.dropWhile_suffix _).length_le
    rw [e]
    exact wpAny_bind (wpAny_mkBytes (wpAny_pure ⟨_, rfl, h _ _⟩) (by rw [sizeLine_eq]; simp; omega))
/-- the end's x struck -/
def rstripB (x : UInt8) (l : List UInt8) : List UInt8 := (l.reverse.dropWhile (· == x)).reverse
theorem meets_rstrip (l : List UInt8) (x : UInt8) :
    Meets («bytes.rstrip» ⟨[.bytes l.toArray t, .bytes [x].toArray u], []⟩) (fun _ R s => l.length ≤ 16777216 ∧ ∀ t' k, R (.ok (.ret (.bytes (rstripB x l).toArray t'))) { s with toks := k }) := by
  refine .of_wp fun prog w A R s hS => ?_
  obtain ⟨hsz, h⟩ := hS
  show wpAny _ _ (Bytes.bytesLike _ (.bytes [x].toArray u) >>= fun r => _) _ _ s
  refine wpAny_bind (wpAny_of_eq like_eq ?_)
  have e : (l.toArray.toList.reverse.dropWhile [x].toArray.contains).reverse = rstripB x l := by
    unfold rstripB
    congr 2
    funext c
    by_cases hcx : c = x <;> simp [hcx]
  have hlen : (rstripB x l).length ≤ l.length := by
    have := (List.dropWhile_suffix (l := l.reverse) (· == x)).length_le
    simp only [rstripB, List.length_reverse] at this ⊢
    exact this
  show wpAny _ _ (if ((l.toArray.toList.reverse.dropWhile [x].toArray.contains).reverse.length == l.toArray.size) = true then _ else _) _ _ s
  by_cases hc : ((l.toArray.toList.reverse.dropWhile [x].toArray.contains).reverse.length == l.toArray.size) = true
  · rw [if_pos hc]
    refine wpAny_bind (wpAny_rule ?_)
    refine wpAny_bind (wpAny_of_eq (a := Value.bytes l.toArray t) rfl ?_)
    refine wpAny_pure ⟨_, rfl, ?_⟩
    have : rstripB x l = l := by
      rw [e] at hc
      have h1 : (rstripB x l).length = l.length := by simpa using hc
      unfold rstripB at h1 ⊢
      have h2 : l.reverse.dropWhile (· == x) = l.reverse := (List.dropWhile_suffix _).eq_of_length (by simpa using h1)
      rw [h2]; simp
    have h' := h t s.toks
    rw [this] at h'
    exact h'
  · rw [if_neg hc]
    show wpAny _ _ (mkBytes ((l.toArray.toList.reverse.dropWhile [x].toArray.contains).reverse).toArray >>= fun v => ret v) _ _ s
    rw [e]
    exact wpAny_bind (wpAny_mkBytes (wpAny_pure ⟨_, rfl, h _ _⟩) (by rw [sizeLine_eq]; simp; omega))
end

/-- the values are these bytes -/
inductive AreB : List Value → List (List UInt8) → Prop where
  | nil : AreB [] []
  | cons {l : List UInt8} {t : Tok} {vs : List Value} {bs : List (List UInt8)} : AreB vs bs → AreB (.bytes l.toArray t :: vs) (l :: bs)
theorem AreB.length {vs : List Value} {bs : List (List UInt8)} (h : AreB vs bs) : vs.length = bs.length := by
  induction h with
  | nil => rfl
  | cons _ ih => simp [ih]
theorem AreB.append {vs ws : List Value} {bs cs : List (List UInt8)} (h : AreB vs bs) (k : AreB ws cs) : AreB (vs ++ ws) (bs ++ cs) := by
  induction h with
  | nil => exact k
  | cons _ ih => exact .cons ih
theorem AreB.get {vs : List Value} {bs : List (List UInt8)} (h : AreB vs bs) : ∀ {i : Nat} {b : List UInt8}, bs[i]? = some b → ∃ t, vs[i]? = some (.bytes b.toArray t) := by
  induction h with
  | nil => intro i b e; simp at e
  | cons _ ih =>
    intro i b e
    cases i with
    | zero => simp at e; subst e; exact ⟨_, rfl⟩
    | succ i => simpa using ih (by simpa using e)
theorem AreB.of_get {vs : List Value} {bs : List (List UInt8)} (h : AreB vs bs) : ∀ {i : Nat} {v : Value}, vs[i]? = some v → ∃ b t, bs[i]? = some b ∧ v = .bytes b.toArray t := by
  induction h with
  | nil => intro i b e; simp at e
  | cons _ ih =>
    intro i b e
    cases i with
    | zero => simp at e; subst e; exact ⟨_, _, rfl, rfl⟩
    | succ i => simpa using ih (by simpa using e)

section
variable {M : Model} {A : Around} {E : Value → Shared → Prop}
theorem mapM_new : ∀ (bs : List (List UInt8)) (s : Shared) (Q : List Value → Shared → Prop), (∀ b ∈ bs, b.length ≤ 16777216) → (∀ vs k, AreB vs bs → Q vs { s with toks := k }) →
    wpAny M A ((bs.map List.toArray).mapM (Bytes.Kind.new .bytes)) Q E s := by
  intro bs
  induction bs with
  | nil => intro s Q _ h; exact wpAny_pure (h [] s.toks .nil)
  | cons b r ih =>
    intro s Q hsz h
    rw [List.map_cons, List.mapM_cons]
    refine wpAny_bind ?_
    refine wpAny_mkBytes ?_ (by rw [sizeLine_eq]; have := hsz b (by simp); simpa using this)
    refine wpAny_bind (ih _ _ (fun b hb => hsz b (by simp [hb])) fun vs k hv => ?_)
    exact wpAny_pure (h _ k (.cons hv))
end
section
variable {t u : Tok}
theorem splitB_parts (x : UInt8) : ∀ (l : List UInt8), ∀ b ∈ splitB x l, b.length ≤ l.length
  | [] => by simp [splitB]
  | c :: r => by
    intro b hb
    have ih := splitB_parts x r
    unfold splitB at hb
    split at hb
    · rcases List.mem_cons.mp hb with rfl | hb
      · simp
      · have := ih b hb; simp; omega
    · split at hb
      · rename_i h q hs
        rcases List.mem_cons.mp hb with rfl | hb
        · have := ih h (by rw [hs]; simp); simp; omega
        · have := ih b (by rw [hs]; simp [hb]); simp; omega
      · rename_i hs; exact absurd hs (splitB_ne x r)
theorem meets_split (l : List UInt8) (x : UInt8) :
    Meets («bytes.split» ⟨[.bytes l.toArray t, .bytes [x].toArray u], []⟩) (fun _ R s => l.length ≤ 1000000 ∧ ∀ vs k, AreB vs (splitB x l) →
      R (.ok (.ret (.ref s.heap.objs.size))) { s with heap := s.heap.push { cls := .type "list", data := .seq vs.toArray }, toks := k }) := by
  refine .of_wp fun prog w A R s hS => ?_
  obtain ⟨hsz, h⟩ := hS
  show wpAny _ _ (Bytes.bytesLike _ (.bytes [x].toArray u) >>= fun r => _) _ _ s
  refine wpAny_bind (wpAny_of_eq like_eq ?_)
  have e : (Bytes.occurrences l.toArray [x].toArray 0 l.toArray.size).take (l.toArray.size + 1) = posB x 0 l := by
    rw [show [x].toArray = #[x] from rfl, occurrences_one, List.take_of_length_le]
    have := posB_length x l 0
    simp; omega
  show wpAny _ _ (if ((Bytes.occurrences l.toArray [x].toArray 0 l.toArray.size).take (l.toArray.size + 1)).isEmpty = true then
      rule _ >>= fun _ => newList [.bytes l.toArray t] >>= fun v => ret v
    else (Bytes.between l.toArray 1 ((Bytes.occurrences l.toArray [x].toArray 0 l.toArray.size).take (l.toArray.size + 1))).mapM (Bytes.Kind.new .bytes) >>= fun vs => newList vs >>= fun v => ret v) _ _ s
  rw [e, between_one]
  have hl1 := splitB_length x l
  by_cases hc : (posB x 0 l).isEmpty = true
  · rw [if_pos hc]
    have e2 : splitB x l = [l] := posB_nil x l 0 (by simpa using hc)
    refine wpAny_bind (wpAny_rule ?_)
    refine wpAny_bind (wpAny_newObj_type ?_ (by show (1 : Nat) ≤ sizeLine; rw [sizeLine_eq]; decide))
    have h' := h [.bytes l.toArray t] s.toks (by rw [e2]; exact .cons .nil)
    exact wpAny_pure ⟨_, rfl, h'⟩
  · rw [if_neg hc]
    refine wpAny_bind (mapM_new _ _ _ (fun b hb => ?_) fun vs k hv => ?_)
    · have := splitB_parts x l b hb; omega
    · refine wpAny_bind (wpAny_newObj_type ?_ ?_)
      · exact wpAny_pure ⟨_, rfl, h vs k hv⟩
      · have := hv.length
        show vs.toArray.size ≤ sizeLine
        rw [sizeLine_eq]; simp; omega
end
end BR
end Mine
end B1Part
section B2Part
open PySem PySem.W PyProof.Rows
namespace Mine
/-- sep.join -/
def joinB (sep : List UInt8) : List (List UInt8) → List UInt8
  | [] => []
  | [a] => a
  | a :: b :: r => a ++ (sep ++ joinB sep (b :: r))
namespace BR
open Builtin
theorem joined_fold (sep : Array UInt8) : ∀ (ps : List (Array UInt8)) (k : Nat) (out : Array UInt8), 0 < k →
    (ps.zipIdx k).foldl (fun out (x : Array UInt8 × Nat) => (if x.2 > 0 then out ++ sep else out) ++ x.1) out = out ++ (ps.foldr (fun p r => sep ++ (p ++ r)) #[]) := by
  intro ps
  induction ps with
  | nil => intro k out _; simp
  | cons p r ih =>
    intro k out hk
    rw [List.zipIdx_cons, List.foldl_cons, ih (k + 1) _ (by omega)]
    simp [hk, Array.append_assoc]
theorem joinB_cons (sep : List UInt8) (a : List UInt8) (r : List (List UInt8)) : joinB sep (a :: r) = a ++ (r.foldr (fun p q => sep ++ (p ++ q)) []) := by
  induction r generalizing a with
  | nil => simp [joinB]
  | cons b r ih => rw [joinB, ih b]; simp
theorem foldr_arr (sep : List UInt8) (r : List (List UInt8)) : (r.map List.toArray).foldr (fun p q => sep.toArray ++ (p ++ q)) #[] = (r.foldr (fun p q => sep ++ (p ++ q)) []).toArray := by
  induction r with
  | nil => rfl
  | cons b r ih => simp [ih]
theorem joined_eq (sep : List UInt8) (bs : List (List UInt8)) : Bytes.joined sep.toArray (bs.map List.toArray) = (joinB sep bs).toArray := by
  unfold Bytes.joined
  cases bs with
  | nil => simp [joinB]
  | cons a r =>
    rw [List.map_cons, List.zipIdx_cons, List.foldl_cons, joined_fold _ _ _ _ (by omega), joinB_cons, foldr_arr]
    simp
theorem join_size (sep : List UInt8) : ∀ (a : List UInt8) (r : List (List UInt8)), ((a :: r).map List.toArray).foldl (fun x1 x2 => x1 + x2.size) (sep.toArray.size * ((a :: r).length - 1)) = (joinB sep (a :: r)).length := by
  have gen : ∀ (r : List (List UInt8)) (k : Nat), (r.map List.toArray).foldl (fun x1 x2 => x1 + x2.size) (k + sep.length * r.length) = k + (r.foldr (fun p q => sep ++ (p ++ q)) []).length := by
    intro r
    induction r with
    | nil => intro k; simp
    | cons b r ih =>
      intro k
      simp only [List.map_cons, List.foldl_cons, List.foldr_cons, List.length_append, List.length_cons, List.size_toArray]
      have := ih (k + sep.length + b.length)
      have e : k + sep.length * (r.length + 1) + b.length = k + sep.length + b.length + sep.length * r.length := by rw [Nat.mul_add]; omega
      rw [e, this]; omega
  intro a r
  rw [joinB_cons, List.map_cons, List.foldl_cons, List.length_append]
  have := gen r a.length
  simp only [List.size_toArray, List.length_cons, Nat.add_sub_cancel]
  rw [Nat.add_comm (sep.length * r.length) a.length]
  exact this
theorem quietTake_eq {b : Array UInt8} {t : Tok} {id : String} : Bytes.takeBufferQuiet? id (.bytes b t) 0 = pure (some (b, none)) := by
  unfold Bytes.takeBufferQuiet? Bytes.takeBuffer?
  rw [KBy.special_eq KBy.look_buffer, KBy.own_buffer]
  have e : ∀ full, Bytes.buffer? id (.bytes b t) full = pure (some b) := by
    intro full
    unfold Bytes.buffer?
    rw [KBy.special_eq KBy.look_buffer, KBy.own_buffer, KBy.own_release]
    kernel_rfl
  simp only [pure_bind]
  rw [e]
  kernel_rfl
theorem joinLetGo_any {M : Model} {A : Around} {E : Value → Shared → Prop} : ∀ (taken : List (Value × Option Value)) (keep : List Value) (s : Shared) (Q : Unit → Shared → Prop), (∀ p ∈ taken, p.2 = none) → Q () s →
    wpAny M A (Bytes.joinLetGo taken keep) Q E s
  | [], _, _, _, _, h => wpAny_pure h
  | (x, w) :: r, keep, s, Q, hn, h => by
    have hw : w = none := hn (x, w) (by simp)
    subst hw
    unfold Bytes.joinLetGo
    exact wpAny_bind (wpAny_letGo (joinLetGo_any r keep s Q (fun p hp => hn p (by simp [hp])) h))
theorem list_slot_type {s : Shared} {a : Addr} {items : Array Value} {n : Nat} (h : s.heap.get? a = some { cls := .type "list", data := .seq items n }) : s.TypeIs (.ref a) "list" := ⟨_, h, rfl⟩
theorem meets_join (sep : List UInt8) (t : Tok) (a : Addr) (vs : List Value) (n : Nat) (bs : List (List UInt8)) (hv : AreB vs bs) :
    Meets («bytes.join» ⟨[.bytes sep.toArray t, .ref a], []⟩) (fun _ R s => s.heap.get? a = some { cls := .type "list", data := .seq vs.toArray n } ∧ (joinB sep bs).length ≤ 16777216 ∧ ∀ t' k, R (.ok (.ret (.bytes (joinB sep bs).toArray t'))) { s with toks := k }) := by
  refine .of_wp fun prog w A R s hS => ?_
  obtain ⟨ha, hsz, h⟩ := hS
  show wpAny _ _ (Bytes.joinItems (.ref a) >>= fun seq => _) _ _ s
  refine wpAny_bind ?_
  unfold Bytes.joinItems
  refine wpAny_bind (wpAny_typeOf (list_slot_type ha) ?_)
  refine wpAny_pure ?_
  show wpAny _ _ (seqItems? (.ref a) >>= fun seq => _) _ _ s
  refine wpAny_bind (wpAny_seqItems ha rfl ?_)
  cases hv with
  | nil =>
    show wpAny _ _ (forIn [:0] ((#[], []) : Array (Array UInt8) × List (Value × Option Value)) _ >>= fun z => _) _ _ s
    refine wpAny_bind ?_
    rw [Std.Legacy.Range.forIn_eq_forIn_range']
    refine wpAny_pure ?_
    refine wpAny_bind (wpAny_of_eq (a := sep.toArray) rfl ?_)
    refine wpAny_ite (KBy.ite_no (show ¬ (Bytes.tooLong (sep.toArray.size * (0 - 1)) = true) by rw [KBy.tooLong_not (by omega)]; exact Bool.false_ne_true) ?_)
    refine wpAny_bind (wpAny_mkBytes ?_ (by show (Bytes.joined sep.toArray []).size ≤ sizeLine; simp [Bytes.joined]))
    refine wpAny_bind (wpAny_holding (wpAny_point ?_))
    exact wpAny_pure ⟨_, rfl, h _ _⟩
  | @cons l t1 vs1 bs1 hv1 =>
    cases hv1 with
    | nil =>
      show wpAny _ _ (typeOf (.bytes l.toArray t1) >>= fun ty => _) _ _ s
      refine wpAny_bind (wpAny_typeOf (typeIs_bytes _ _ _) ?_)
      show wpAny _ _ (rule _ >>= fun _ => _) _ _ s
      exact wpAny_bind (wpAny_rule (wpAny_pure ⟨_, rfl, h _ s.toks⟩))
    | @cons l2 t2 vs2 bs2 hv2 =>
      have hv : AreB (Value.bytes l.toArray t1 :: Value.bytes l2.toArray t2 :: vs2) (l :: l2 :: bs2) := .cons (.cons hv2)
      show wpAny _ _ (forIn [:(Value.bytes l.toArray t1 :: Value.bytes l2.toArray t2 :: vs2).toArray.size] ((#[], []) : Array (Array UInt8) × List (Value × Option Value)) _ >>= fun z => _) _ _ s
      refine wpAny_bind ?_
      rw [Std.Legacy.Range.forIn_eq_forIn_range']
      have hlen : vs2.length = bs2.length := hv2.length
      generalize hV : (Value.bytes l.toArray t1 :: Value.bytes l2.toArray t2 :: vs2) = V at *
      generalize hB : l :: l2 :: bs2 = B at *
      have hVl : V.length = B.length := hv.length
      refine wpAny_forIn_list _ (fun rest z s' => ∃ i, s' = s ∧ rest = List.range' i (B.length - i) ∧ i ≤ B.length ∧ z.1.toList = (B.take i).map List.toArray ∧ ∀ p ∈ z.2, p.2 = none ∧ p.1.onHeap = false) _ ?_ ?_ _ _ ⟨0, rfl, ?_, by omega, by simp, by simp⟩
      · rintro i rest ⟨parts, taken⟩ s' ⟨j, rfl, hr, hj, hp, ht⟩
        have hlt : j < B.length := by
          rcases Nat.lt_or_ge j B.length with h' | h'
          · exact h'
          · rw [Nat.sub_eq_zero_of_le h'] at hr; simp at hr
        obtain ⟨rfl, hrest⟩ : i = j ∧ rest = List.range' (j + 1) (B.length - (j + 1)) := by
          have e : B.length - j = (B.length - (j + 1)) + 1 := by omega
          rw [e, List.range'_succ] at hr
          injection hr with h1 h2
          exact ⟨h1, h2⟩
        obtain ⟨tb, hb⟩ := hv.get (i := i) (b := B[i]) (by simp [hlt])
        refine wpAny_bind (wpAny_seqItems ha rfl ?_)
        have hx : V.toArray.getD i .none = .bytes B[i].toArray tb := by
          simp [Array.getD_eq_getD_getElem?, hb]
        have hany : (taken.any fun x => x.1.onHeap) = false := by
          rw [List.any_eq_false]
          intro p hp'
          simp [(ht p hp').2]
        show wpAny _ _ (if (false || taken.any fun x => x.1.onHeap) = true then _ else (holding (V.toArray.getD i .none :: _) (Bytes.takeBufferQuiet? _ (V.toArray.getD i .none) 0) >>= fun r => _)) _ _ s'
        rw [hany, if_neg (by exact Bool.false_ne_true), hx]
        refine wpAny_bind (wpAny_holding (wpAny_of_eq quietTake_eq ?_))
        show wpAny _ _ (seqItems? (.ref a) >>= fun r => _) _ _ s'
        refine wpAny_bind (wpAny_seqItems ha rfl ?_)
        show wpAny _ _ (if (V.toArray.size != V.toArray.size) = true then _ else _) _ _ s'
        rw [if_neg (by simp)]
        refine wpAny_pure ?_
        refine ⟨i + 1, rfl, hrest, hlt, ?_, ?_⟩
        · simp only at hp
          simp only [Array.toList_push, hp]
          rw [List.take_add_one, List.getElem?_eq_getElem hlt, List.map_append]
          rfl
        · intro p hp'
          rcases List.mem_append.mp hp' with h1 | h1
          · exact ht p h1
          · rw [List.mem_singleton.mp h1]
            exact ⟨rfl, rfl⟩
      · rintro ⟨parts, taken⟩ s' ⟨j, rfl, hr, hj, hp, ht⟩
        have hjl : j = B.length := by
          rcases Nat.lt_or_ge j B.length with h' | h'
          · have e : B.length - j = (B.length - (j + 1)) + 1 := by omega
            rw [e, List.range'_succ] at hr
            simp at hr
          · omega
        rw [hjl, List.take_length] at hp
        simp only at hp
        have hf : Array.foldl (fun x1 x2 => x1 + x2.size) (sep.toArray.size * (parts.size - 1)) parts = (joinB sep B).length := by
          rw [← Array.foldl_toList, hp, ← hB]
          have : parts.size = (l :: l2 :: bs2).length := by rw [hB, ← Array.length_toList, hp]; simp
          rw [this]
          exact join_size sep l (l2 :: bs2)
        refine wpAny_bind (wpAny_of_eq (a := sep.toArray) rfl ?_)
        refine wpAny_ite (KBy.ite_no (show ¬ (Bytes.tooLong (Array.foldl (fun x1 x2 => x1 + x2.size) (sep.toArray.size * (parts.size - 1)) parts) = true) by rw [hf, KBy.tooLong_not hsz]; exact Bool.false_ne_true) ?_)
        have hj2 : Bytes.joined sep.toArray parts.toList = (joinB sep B).toArray := by rw [hp, joined_eq]
        refine wpAny_bind (wpAny_mkBytes ?_ (by rw [hj2, sizeLine_eq]; simpa using hsz))
        refine wpAny_bind (wpAny_holding (wpAny_point ?_))
        refine wpAny_bind (joinLetGo_any _ _ _ _ (fun p hp' => (ht p hp').1) ?_)
        rw [hj2]
        exact wpAny_pure ⟨_, rfl, h _ _⟩
      · simp [hVl]
end BR
end Mine
end B2Part
section B3Part
open PySem PySem.W PyProof.Rows
namespace Mine
/-- l[lo:hi] -/
def cutB (l : List UInt8) (lo hi : Option Int) : List UInt8 := (l.drop (lo.elim 0 (clipAt l.length))).take (hi.elim l.length (clipAt l.length) - lo.elim 0 (clipAt l.length))
theorem cutB_length (l : List UInt8) (lo hi : Option Int) : (cutB l lo hi).length ≤ l.length := by
  unfold cutB; simp only [List.length_take, List.length_drop]; omega
namespace BR
open Builtin
section
variable {prog : Program} {w : World} {A : Around} {E : Value → Shared → Prop} {s : Shared} {h₀ : Heap} {L : Addr} {m : PySem.Str → Option Value} {news : List (Addr × Obj)} {l r : List UInt8} {x : UInt8} {t u : Tok}

theorem noRef {b : Array UInt8} : ∀ a, Value.bytes b t = .ref a → ∃ o, s.heap.get? a = some o ∧ o.dict = none := fun _ e => nomatch e
theorem m_startswith {M : Model} {b : Array UInt8} {pl : Sem Bool} {Q : Value × List Value → Shared → Prop} (h : Q (.builtin "bytes.startswith", [.bytes b t]) s) : wpAny M A (getMethod (.bytes b t) "startswith" pl) Q E s := by
  with_reducible exact KBd.method_of (.bytes b t) (typeIs_bytes _ _ _) FB.slot_bytes_startswith FB.type_bytes_startswith noRef h
theorem m_endswith {M : Model} {b : Array UInt8} {pl : Sem Bool} {Q : Value × List Value → Shared → Prop} (h : Q (.builtin "bytes.endswith", [.bytes b t]) s) : wpAny M A (getMethod (.bytes b t) "endswith" pl) Q E s := by
  with_reducible exact KBd.method_of (.bytes b t) (typeIs_bytes _ _ _) FB.slot_bytes_endswith FB.type_bytes_endswith noRef h
theorem m_rfind {M : Model} {b : Array UInt8} {pl : Sem Bool} {Q : Value × List Value → Shared → Prop} (h : Q (.builtin "bytes.rfind", [.bytes b t]) s) : wpAny M A (getMethod (.bytes b t) "rfind" pl) Q E s := by
  with_reducible exact KBd.method_of (.bytes b t) (typeIs_bytes _ _ _) slot_rfind type_rfind noRef h
theorem m_lstrip {M : Model} {b : Array UInt8} {pl : Sem Bool} {Q : Value × List Value → Shared → Prop} (h : Q (.builtin "bytes.lstrip", [.bytes b t]) s) : wpAny M A (getMethod (.bytes b t) "lstrip" pl) Q E s := by
  with_reducible exact KBd.method_of (.bytes b t) (typeIs_bytes _ _ _) slot_lstrip type_lstrip noRef h
theorem m_rstrip {M : Model} {b : Array UInt8} {pl : Sem Bool} {Q : Value × List Value → Shared → Prop} (h : Q (.builtin "bytes.rstrip", [.bytes b t]) s) : wpAny M A (getMethod (.bytes b t) "rstrip" pl) Q E s := by
  with_reducible exact KBd.method_of (.bytes b t) (typeIs_bytes _ _ _) slot_rstrip type_rstrip noRef h
theorem m_split {M : Model} {b : Array UInt8} {pl : Sem Bool} {Q : Value × List Value → Shared → Prop} (h : Q (.builtin "bytes.split", [.bytes b t]) s) : wpAny M A (getMethod (.bytes b t) "split" pl) Q E s := by
  with_reducible exact KBd.method_of (.bytes b t) (typeIs_bytes _ _ _) slot_split type_split noRef h
theorem m_join {M : Model} {b : Array UInt8} {pl : Sem Bool} {Q : Value × List Value → Shared → Prop} (h : Q (.builtin "bytes.join", [.bytes b t]) s) : wpAny M A (getMethod (.bytes b t) "join" pl) Q E s := by
  with_reducible exact KBd.method_of (.bytes b t) (typeIs_bytes _ _ _) slot_join type_join noRef h

theorem c_startswith {Q : Value → Shared → Prop} (h : Q (.bool (l.head? == some x)) s) : wpAny (model prog w) A (call (.builtin "bytes.startswith") [.bytes l.toArray t, .bytes [x].toArray u]) Q E s :=
  call_gives FB.slot_bytes_startswith (typeIs_bytes _ _ _) FB.entry_bytes_startswith (FB.args_bytes_startswith_2 _ _) (gives_startswith l x) h
theorem c_endswith {Q : Value → Shared → Prop} (h : Q (.bool (l.getLast? == some x)) s) : wpAny (model prog w) A (call (.builtin "bytes.endswith") [.bytes l.toArray t, .bytes [x].toArray u]) Q E s :=
  call_gives FB.slot_bytes_endswith (typeIs_bytes _ _ _) FB.entry_bytes_endswith (FB.args_bytes_endswith_2 _ _) (gives_endswith l x) h
theorem c_rfind {Q : Value → Shared → Prop} (h : ∀ t' k, Q (.int (lastB x l) t') { s with toks := k }) : wpAny (model prog w) A (call (.builtin "bytes.rfind") [.bytes l.toArray t, .bytes [x].toArray u]) Q E s :=
  call_gives slot_rfind (typeIs_bytes _ _ _) entry_rfind (args_rfind _ _) (gives_rfind l x) (h _ _)
theorem c_lstrip {Q : Value → Shared → Prop} (hz : l.length ≤ 16777216) (h : ∀ t' k, Q (.bytes (l.dropWhile (· == x)).toArray t') { s with toks := k }) : wpAny (model prog w) A (call (.builtin "bytes.lstrip") [.bytes l.toArray t, .bytes [x].toArray u]) Q E s :=
  call_meets slot_lstrip (typeIs_bytes _ _ _) entry_lstrip (args_lstrip _ _) (meets_lstrip l x) ⟨hz, h⟩
theorem c_rstrip {Q : Value → Shared → Prop} (hz : l.length ≤ 16777216) (h : ∀ t' k, Q (.bytes (rstripB x l).toArray t') { s with toks := k }) : wpAny (model prog w) A (call (.builtin "bytes.rstrip") [.bytes l.toArray t, .bytes [x].toArray u]) Q E s :=
  call_meets slot_rstrip (typeIs_bytes _ _ _) entry_rstrip (args_rstrip _ _) (meets_rstrip l x) ⟨hz, h⟩
theorem c_split {Q : Value → Shared → Prop} (F : Fr h₀ L s.heap m) (N : News h₀ L s.heap news) (hz : l.length ≤ 1000000)
    (h : ∀ vs a h' k, AreB vs (splitB x l) → Fr h₀ L h' m → News h₀ L h' ((a, listOf vs.toArray 0) :: news) → (∀ p ∈ news, p.1 < a) → Q (.ref a) { s with heap := h', toks := k }) :
    wpAny (model prog w) A (call (.builtin "bytes.split") [.bytes l.toArray t, .bytes [x].toArray u]) Q E s :=
  call_meets slot_split (typeIs_bytes _ _ _) entry_split (args_split _ _) (meets_split l x) ⟨hz, fun vs k hv => h vs _ _ k hv (F.push _) (N.push F _) fun p hp => Heap.lt_size (N p hp).1⟩
theorem c_join {Q : Value → Shared → Prop} {a : Addr} {vs : List Value} {n : Nat} {bs : List (List UInt8)} (N : News h₀ L s.heap news) (hm : (a, listOf vs.toArray n) ∈ news) (hv : AreB vs bs) (hz : (joinB l bs).length ≤ 16777216)
    (h : ∀ t' k, Q (.bytes (joinB l bs).toArray t') { s with toks := k }) :
    wpAny (model prog w) A (call (.builtin "bytes.join") [.bytes l.toArray t, .ref a]) Q E s :=
  call_meets slot_join (typeIs_bytes _ _ _) entry_join (args_join _ _) (meets_join l t a vs n bs hv) ⟨(N _ hm).1, hz, h⟩

theorem o_add {Q : Value → Shared → Prop} (hz : l.length + r.length ≤ 16777216) (h : ∀ t' k, Q (.bytes (l ++ r).toArray t') { s with toks := k }) : wpAny (model prog w) A (binaryOp .Add (.bytes l.toArray t) (.bytes r.toArray u)) Q E s :=
  bytes_add_K (by simpa using hz) rfl h
theorem o_len {Q : Value → Shared → Prop} (hz : l.length ≤ 16777216) (h : ∀ t' k, Q (.int l.length t') { s with toks := k }) : wpAny (model prog w) A (call (.builtin "len") [.bytes l.toArray t]) Q E s :=
  len_bytes (by simp; omega) (by have := h (s.toks + 1) (s.toks + 1 + 1); simpa using this)
theorem o_truthy {Q : Bool → Shared → Prop} (hz : l.length ≤ 16777216) (h : ∀ k, Q (!l.isEmpty) { s with toks := k }) : wpAny (model prog w) A (truthy (.bytes l.toArray t)) Q E s := by
  refine truthy_bytes (by simp; omega) ?_
  have e : (((l.toArray.size : Nat) : Int) != 0) = !l.isEmpty := by cases l <;> simp <;> omega
  rw [e]
  exact h _
theorem o_eq {Q : Value → Shared → Prop} (h : Q (.bool (l == r)) s) : wpAny (model prog w) A (compareOp .Eq (.bytes l.toArray t) (.bytes r.toArray u)) Q E s := eq_bytes h
theorem o_ne {Q : Value → Shared → Prop} (h : Q (.bool (l != r)) s) : wpAny (model prog w) A (compareOp .NotEq (.bytes l.toArray t) (.bytes r.toArray u)) Q E s := ne_bytes h
theorem o_cut {value slice : PySem.Expr} {lv uv : Value} {lo hi : Option Int} {Q : Value → Shared → Prop} (F : Fr h₀ L s.heap m) (N : News h₀ L s.heap news) (hl : IsPart lv lo) (hu : IsPart uv hi) (hz : l.length ≤ 16777216)
    (h : ∀ h' t' k, Fr h₀ L h' m → News h₀ L h' news → Q (.bytes (cutB l lo hi).toArray t') { s with heap := h', toks := k })
    (hs : subscripted slice false (.bytes l.toArray t) (.ref s.heap.objs.size) = operate [.ref s.heap.objs.size, .bytes l.toArray t] (getItem (.bytes l.toArray t) (.ref s.heap.objs.size)) := by with_unfolding_all rfl)
    (ht : ∀ r, letTemporaryGo value (.bytes l.toArray t) r = pure () := by intro _; with_unfolding_all rfl) :
    wpAny (model prog w) A (subscriptTail value slice (.bytes l.toArray t) (.ref s.heap.objs.size)) Q E { s with heap := s.heap.push { cls := .type "slice", data := .fields #[lv, uv, .none] } } := by
  have e : KBy.picked l.toArray lo hi = (cutB l lo hi).toArray := by
    rw [KBc.picked_eq]
    simp [cutB]
  refine KBc.slice_K F N (ks := KBw.bInts l.toArray) rfl hl hu (by rw [KBw.ints_length]; simpa using hz) (fun h' t' k F' N' _ => ?_) hs ht
  rw [e]
  exact h h' t' k F' N'
end
end BR
end Mine
end B3Part
section P2Part
open PySem PySem.W PyProof.Rows
namespace Mine
/-- the letters of a number -/
def ap (n : Nat) : List UInt8 := if n = 0 then [] else ap (n / 16) ++ [(65 + n % 16).toUInt8]
theorem ap_zero : ap 0 = [] := by unfold ap; simp
theorem ap_pos {n : Nat} (h : n ≠ 0) : ap n = ap (n / 16) ++ [(65 + n % 16).toUInt8] := by rw [ap, if_neg h]
theorem ap_length : ∀ (k n : Nat), n < 16 ^ k → (ap n).length ≤ k
  | 0, n, h => by
    have : n = 0 := by simpa using h
    subst this; rw [ap_zero]; simp
  | k + 1, n, h => by
    by_cases hn : n = 0
    · subst hn; rw [ap_zero]; simp
    · rw [ap_pos hn]
      have := ap_length k (n / 16) (by rw [Nat.pow_succ] at h; omega)
      simp; omega
theorem cut_letter (r : Int) (h0 : 0 ≤ r) (h1 : r < 16) : cutB [65, 66, 67, 68, 69, 70, 71, 72, 73, 74, 75, 76, 77, 78, 79, 80] (some r) (some (r + 1)) = [(65 + r.toNat).toUInt8] := by
  obtain ⟨k, rfl⟩ : ∃ k : Nat, r = k := ⟨r.toNat, by omega⟩
  have hk : k < 16 := by omega
  clear h0 h1
  revert hk
  revert k
  decide
theorem cutB_len1 (l : List UInt8) (lo hi : Option Int) : (cutB l lo hi).length ≤ l.length := cutB_length l lo hi
end Mine
end P2Part
section P3Part
open PySem PySem.W PyProof.Rows
namespace Mine
/-- where both come to when ever the greater is divided by 16 -/
def meetN (a b : Nat) : Nat := if a = b then a else if b < a then meetN (a / 16) b else meetN a (b / 16)
termination_by a + b
decreasing_by all_goals omega
theorem meetN_same (a : Nat) : meetN a a = a := by rw [meetN]; simp
theorem meetN_gt {a b : Nat} (h : b < a) : meetN a b = meetN (a / 16) b := by rw [meetN]; simp [h, show a ≠ b by omega]
theorem meetN_lt {a b : Nat} (h : a < b) : meetN a b = meetN a (b / 16) := by rw [meetN]; simp [show ¬ b < a by omega, show a ≠ b by omega]
theorem fdiv16 {a : Int} (h : 0 ≤ a) : (Int.fdiv a 16).toNat = a.toNat / 16 := by
  rw [Int.fdiv_eq_ediv_of_nonneg _ (by decide)]; omega
theorem fdiv16_nonneg {a : Int} (h : 0 ≤ a) : 0 ≤ Int.fdiv a 16 := by
  rw [Int.fdiv_eq_ediv_of_nonneg _ (by decide)]; omega
theorem fdiv16_le {a : Int} (h : 0 ≤ a) : Int.fdiv a 16 ≤ a := by
  rw [Int.fdiv_eq_ediv_of_nonneg _ (by decide)]; omega
/-- the number without its leading figure 1 -/
def restZ (n : Nat) (k : Nat) : Int := (n : Int) - (16 : Int) ^ k
def above (n : Int) : Int := if n < 16 then 1 else n / 16
theorem pow16_cast (k : Nat) : (16 : Int) ^ k = ((16 ^ k : Nat) : Int) := by simp
theorem pow16_uniq {n : Int} {j k : Nat} (h1 : 16 ^ j ≤ n) (h2 : n < 16 ^ (j + 1)) (h3 : 16 ^ k ≤ n) (h4 : n < 16 ^ (k + 1)) : j = k := by
  rw [pow16_cast] at h1 h2 h3 h4
  rcases Nat.lt_trichotomy j k with h | h | h
  · have := Nat.pow_le_pow_right (n := 16) (by decide) (show j + 1 ≤ k from h)
    omega
  · exact h
  · have := Nat.pow_le_pow_right (n := 16) (by decide) (show k + 1 ≤ j from h)
    omega
end Mine
end P3Part
section B4Part
open PySem PySem.W PyProof.Rows
namespace Mine
namespace BR
section
variable {prog : Program} {w : World} {A : Around} {h₀ : Heap} {L : Addr} {m : Str → Option Value} {env : Env} {elt : Expr} {x : Str} {scope : Scope} {cl : List (Str × Addr)} {s : Shared} {S : List (Addr × Obj) → Prop} {P : Nat → Value → Prop} {Fin : List Value → List (Addr × Obj) → Prop} {news : List (Addr × Obj)}
/-- a list comprehension by an invariant over what is made so far and the ledger -/
theorem comp_inv {n : Nat} (J : Nat → List Value → List (Addr × Obj) → Prop) (h0 : J 0 [] news)
    (turn : ∀ i v ys nw I oI C oC D m₂ h tk (E' : Value → Shared → Prop), i < n → J i ys nw → P i v → LCg.NsObj oC m₂ → m₂ x = some v → Fr h₀ L h m → News h₀ L h ((I, oI) :: (C, oC) :: (D, LCg.lst ys) :: nw) → LCg.Off3 I C D nw → ((@Ne Nat I C) ∧ (@Ne Nat I D) ∧ (@Ne Nat C D)) →
      wpAny (model prog w) A (eval elt (compEnvC scope cl C env)) (LCg.CompEnd h₀ L m { s with heap := h, toks := tk } I oI C oC D (LCg.lst ys) S (fun y nw' => J (i + 1) (ys ++ [y]) nw')) E' { s with heap := h, toks := tk })
    (fin : ∀ ys nw, J n ys nw → Fin ys nw) : LCg.CompRest prog w A h₀ L m env elt x scope cl s S P Fin n 0 [] news := by
  have key : ∀ (j i : Nat) (ys : List Value) (nw : List (Addr × Obj)), i + j = n → J i ys nw → LCg.CompRest prog w A h₀ L m env elt x scope cl s S P Fin j i ys nw := by
    intro j
    induction j with
    | zero =>
      intro i ys nw hi hy
      have e : i = n := by omega
      subst e
      exact LCg.CompRest.zero (fin ys nw hy)
    | succ j ih =>
      intro i ys nw hi hy
      refine LCg.CompRest.succ ?_
      intro v I oI C oC D m₂ h tk E' hv hC hx F N off ne
      refine wpAny_mono (turn i v ys nw I oI C oC D m₂ h tk E' (by omega) hy hv hC hx F N off ne) (fun y s₂ hq => ?_) fun _ _ e => e
      obtain ⟨h', tk', nw', e, F', N', off', hS, hj⟩ := hq
      exact ⟨h', tk', nw', e, F', N', off', hS, ih (i + 1) _ _ (by omega) hj⟩
  exact key n 0 [] news (by omega) h0
end
end BR
end Mine
namespace Mine
namespace BR
section
variable {prog : Program} {w : World} {A : Around} {E : Value → Shared → Prop} {s : Shared} {h₀ : Heap} {L : Addr} {m : PySem.Str → Option Value} {news : List (Addr × Obj)}
theorem o_addL {a b : Addr} {vs ws : List Value} {n k : Nat} {Q : Value → Shared → Prop} (F : Fr h₀ L s.heap m) (N : News h₀ L s.heap news) (ha : (a, listOf vs.toArray n) ∈ news) (hb : (b, listOf ws.toArray k) ∈ news) (hz : vs.length + ws.length ≤ 1000000)
    (h : ∀ D h', Fr h₀ L h' m → News h₀ L h' ((D, listOf (vs ++ ws).toArray 0) :: news) → (∀ p ∈ news, p.1 < D) → Q (.ref D) { s with heap := h' }) : wpAny (model prog w) A (binaryOp .Add (.ref a) (.ref b)) Q E s :=
  add_lists F N ⟨_, (N _ ha).1, rfl, _, rfl⟩ ⟨_, (N _ hb).1, rfl, _, rfl⟩ (fun h' F' N' => h _ h' F' N' fun p hp => Heap.lt_size (N p hp).1) (by rw [sizeLine_eq]; omega)
end
end BR
end Mine
end B4Part
section P4Part
open PySem PySem.W PyProof.Rows
namespace Mine
theorem take_min (l : List UInt8) (k : Nat) : l.take (min k l.length) = l.take k := by
  rcases Nat.le_total k l.length with h | h
  · rw [Nat.min_eq_left h]
  · rw [Nat.min_eq_right h, List.take_length, List.take_of_length_le h]
theorem drop_min (l : List UInt8) (k : Nat) : l.drop (min k l.length) = l.drop k := by
  rcases Nat.le_total k l.length with h | h
  · rw [Nat.min_eq_left h]
  · rw [Nat.min_eq_right h, List.drop_length, List.drop_of_length_le h]
theorem cutB_to (l : List UInt8) (k : Nat) : cutB l none (some (k : Int)) = l.take k := by
  simp only [cutB, Option.elim, clipAt_nat, List.drop_zero, Nat.sub_zero, take_min]
theorem cutB_from (l : List UInt8) (k : Nat) : cutB l (some (k : Int)) none = l.drop k := by
  simp only [cutB, Option.elim, clipAt_nat, drop_min]
  rw [List.take_of_length_le]
  simp only [List.length_drop]; omega
theorem cutB_mid (l : List UInt8) (i j : Nat) : cutB l (some (i : Int)) (some (j : Int)) = (l.drop i).take (j - i) := by
  simp only [cutB, Option.elim, clipAt_nat, drop_min]
  rcases Nat.le_total j l.length with h | h
  · rw [Nat.min_eq_left h]
    rcases Nat.le_total i l.length with h' | h'
    · rw [Nat.min_eq_left h']
    · rw [List.drop_of_length_le h']; simp
  · rw [Nat.min_eq_right h]
    rw [List.take_of_length_le (by simp only [List.length_drop]; omega), List.take_of_length_le (by simp only [List.length_drop]; omega)]
theorem cutB_one (l : List UInt8) (k : Nat) (c : UInt8) (h : l[k]? = some c) : cutB l (some (k : Int)) (some ((k : Int) + 1)) = [c] := by
  have := cutB_mid l k (k + 1)
  rw [show ((k + 1 : Nat) : Int) = (k : Int) + 1 by omega] at this
  rw [this]
  have hk : k < l.length := by
    rcases Nat.lt_or_ge k l.length with h' | h'
    · exact h'
    · rw [List.getElem?_eq_none h'] at h; cases h
  rw [List.drop_eq_getElem_cons hk]
  rw [List.getElem?_eq_getElem hk] at h
  rw [Option.some.inj h, show k + 1 - k = 1 by omega]
  rfl
theorem cutB_to_lit (l : List UInt8) (k : Nat) : cutB l none (some (@OfNat.ofNat Int k instOfNat)) = l.take k := cutB_to l k
theorem cutB_from_lit (l : List UInt8) (k : Nat) : cutB l (some (@OfNat.ofNat Int k instOfNat)) none = l.drop k := cutB_from l k
theorem cutB_mid_lit (l : List UInt8) (i j : Nat) : cutB l (some (@OfNat.ofNat Int i instOfNat)) (some (@OfNat.ofNat Int j instOfNat)) = (l.drop i).take (j - i) := cutB_mid l i j
theorem joinB_length (sep : List UInt8) (k : Nat) : ∀ bs : List (List UInt8), (∀ b ∈ bs, b.length ≤ k) → (joinB sep bs).length ≤ bs.length * (k + sep.length)
  | [], _ => by simp [joinB]
  | [a], h => by
    have := h a (by simp)
    simp [joinB]; omega
  | a :: b :: r, h => by
    have h1 := h a (by simp)
    have h2 := joinB_length sep k (b :: r) fun x hx => h x (by simp [hx])
    rw [joinB]
    simp only [List.length_append, List.length_cons] at h2 ⊢
    rw [Nat.add_mul (r.length + 1) 1]
    omega
/-- the place's path -/
def placeB (n : Nat) : List UInt8 := match ap n with
  | 66 :: r => 47 :: joinB [47] (r.map fun c => [c])
  | _ => []
theorem placeB_no {n : Nat} (h : (ap n).take 1 ≠ [66]) : placeB n = [] := by
  unfold placeB
  split
  · rename_i r e; rw [e] at h; simp at h
  · rfl
theorem placeB_yes {n : Nat} (h : (ap n).take 1 = [66]) : placeB n = 47 :: joinB [47] (((ap n).drop 1).map fun c => [c]) := by
  unfold placeB
  split
  · rename_i r e; rw [e]; simp
  · rename_i hne
    cases e : ap n with
    | nil => rw [e] at h; simp at h
    | cons c r =>
      rw [e] at h
      simp at h
      subst h
      exact absurd e (hne r)
end Mine
namespace Mine
/-- the letters of the lowest figures -/
def dnB : Nat → Nat → List (List UInt8)
  | 0, _ => []
  | k + 1, q => [(65 + (q / 16 ^ k) % 16).toUInt8] :: dnB k q
theorem dnB_length : ∀ k q, (dnB k q).length = k
  | 0, _ => rfl
  | k + 1, q => by simp [dnB, dnB_length k q]
theorem dnB_parts : ∀ k q, ∀ b ∈ dnB k q, b.length ≤ 1
  | 0, _ => by simp [dnB]
  | k + 1, q => by
    intro b hb
    rcases List.mem_cons.mp hb with rfl | hb
    · simp
    · exact dnB_parts k q b hb
theorem div_succ (p k : Nat) : p / 16 ^ (k + 1) = p / 16 ^ k / 16 := by rw [Nat.pow_succ, Nat.div_div_eq_div_mul]
end Mine
namespace Mine
theorem lastB_ge (x : UInt8) (l : List UInt8) : 0 ≤ BR.lastB x l + 1 := by
  unfold BR.lastB
  split <;> omega
theorem lastB_le (x : UInt8) : ∀ (l : List UInt8), BR.lastB x l < l.length := by
  have gen : ∀ (l : List UInt8) (o i : Nat), i ∈ posB x o l → i < o + l.length := by
    intro l
    induction l with
    | nil => intro o i h; simp [posB] at h
    | cons c r ih =>
      intro o i h
      unfold posB at h
      split at h
      · rcases List.mem_cons.mp h with rfl | h
        · simp
        · have := ih (o + 1) i h; simp; omega
      · have := ih (o + 1) i h; simp; omega
  intro l
  unfold BR.lastB
  split
  · rename_i i h
    have := gen l 0 i (List.mem_of_getLast? h)
    omega
  · omega
theorem cutB_toI (l : List UInt8) {x : Int} (h : 0 ≤ x) : cutB l none (some x) = l.take x.toNat := by
  have := cutB_to l x.toNat
  rwa [Int.toNat_of_nonneg h] at this
theorem cutB_fromI (l : List UInt8) {x : Int} (h : 0 ≤ x) : cutB l (some x) none = l.drop x.toNat := by
  have := cutB_from l x.toNat
  rwa [Int.toNat_of_nonneg h] at this
/-- split's two parts -/
def splitHd (l : List UInt8) : List UInt8 :=
  if (l.take (BR.lastB 47 l + 1).toNat).isEmpty = false ∧ (l.take (BR.lastB 47 l + 1).toNat != (List.replicate (l.take (BR.lastB 47 l + 1).toNat).length [47]).flatten) = true then BR.rstripB 47 (l.take (BR.lastB 47 l + 1).toNat) else l.take (BR.lastB 47 l + 1).toNat
def splitTl (l : List UInt8) : List UInt8 := l.drop (BR.lastB 47 l + 1).toNat
end Mine
namespace Mine
/-- one part of a rooted path -/
def stepC (acc : List (List UInt8)) (c : List UInt8) : List (List UInt8) := if c = [] ∨ c = [46] then acc else if c = [46, 46] then acc.dropLast else acc ++ [c]
def normC (cs : List (List UInt8)) : List (List UInt8) := cs.foldl stepC []
def normP (r : List UInt8) : List UInt8 := 47 :: joinB [47] (normC (splitB 47 r))
theorem foldC_gen : ∀ (cs acc : List (List UInt8)), (cs.foldl stepC acc).length ≤ acc.length + cs.length
  | [], acc => by simp
  | c :: cs, acc => by
    have := foldC_gen cs (stepC acc c)
    have h2 : (stepC acc c).length ≤ acc.length + 1 := by
      unfold stepC
      split
      · omega
      · split <;> simp <;> omega
    simp only [List.foldl_cons, List.length_cons]
    omega
theorem foldC_length (cs : List (List UInt8)) : (cs.foldl stepC []).length ≤ cs.length := by
  have := foldC_gen cs []
  simpa using this
theorem foldC_succ {cs : List (List UInt8)} {i : Nat} {b : List UInt8} (h : cs[i]? = some b) : (cs.take (i + 1)).foldl stepC [] = stepC ((cs.take i).foldl stepC []) b := by
  rw [List.take_add_one, h, List.foldl_append]; rfl
theorem stepC_skip {acc : List (List UInt8)} {b : List UInt8} (h : b = [] ∨ b = [46]) : stepC acc b = acc := by rw [stepC, if_pos h]
theorem stepC_up {acc : List (List UInt8)} : stepC acc [46, 46] = acc.dropLast := by rw [stepC, if_neg (by decide), if_pos rfl]
theorem stepC_in {acc : List (List UInt8)} {b : List UInt8} (h1 : b ≠ []) (h2 : b ≠ [46]) (h3 : b ≠ [46, 46]) : stepC acc b = acc ++ [b] := by rw [stepC, if_neg (by simp [h1, h2]), if_neg h3]
theorem getLastD_mem : ∀ (bs : List (List UInt8)), bs ≠ [] → bs.getLastD [] ∈ bs
  | [], h => absurd rfl h
  | [a], _ => by simp
  | a :: b :: r, _ => by
    have := getLastD_mem (b :: r) (by simp)
    exact List.mem_cons_of_mem _ this
theorem stepC_parts {k : Nat} {acc : List (List UInt8)} {c : List UInt8} (h1 : ∀ b ∈ acc, b.length ≤ k) (h2 : c.length ≤ k) : ∀ b ∈ stepC acc c, b.length ≤ k := by
  intro b hb
  unfold stepC at hb
  split at hb
  · exact h1 b hb
  · split at hb
    · exact h1 b ((List.dropLast_sublist _).mem hb)
    · rcases List.mem_append.mp hb with hb | hb
      · exact h1 b hb
      · rw [List.mem_singleton.mp hb]; exact h2
theorem foldC_parts (k : Nat) : ∀ (cs acc : List (List UInt8)), (∀ b ∈ acc, b.length ≤ k) → (∀ b ∈ cs, b.length ≤ k) → ∀ b ∈ cs.foldl stepC acc, b.length ≤ k
  | [], acc, h1, _ => h1
  | c :: cs, acc, h1, h2 => foldC_parts k cs (stepC acc c) (stepC_parts h1 (h2 c (by simp))) fun b hb => h2 b (by simp [hb])
/-- joined again, no longer than what was split -/
def sumL (bs : List (List UInt8)) : Nat := (bs.map fun b => b.length + 1).sum
theorem sumL_append (a b : List (List UInt8)) : sumL (a ++ b) = sumL a + sumL b := by simp [sumL]
theorem sumL_dropLast (a : List (List UInt8)) : sumL a.dropLast ≤ sumL a := by
  rcases List.eq_nil_or_concat a with h | ⟨r, x, h⟩
  · subst h; simp
  · subst h; rw [List.concat_eq_append, List.dropLast_concat, sumL_append]; omega
theorem sumL_split (x : UInt8) : ∀ l, sumL (splitB x l) = l.length + 1
  | [] => by simp [splitB, sumL]
  | c :: r => by
    have ih := sumL_split x r
    unfold splitB
    by_cases h : c = x
    · rw [if_pos h]; simp only [sumL, List.map_cons, List.sum_cons, List.length_nil, List.length_cons] at ih ⊢; omega
    · rw [if_neg h]
      cases hs : splitB x r with
      | nil => exact absurd hs (splitB_ne x r)
      | cons a b => rw [hs] at ih; simp only [sumL, List.map_cons, List.sum_cons, List.length_cons] at ih ⊢; omega
theorem sumL_fold : ∀ (cs acc : List (List UInt8)), sumL (cs.foldl stepC acc) ≤ sumL acc + sumL cs
  | [], acc => by simp [sumL]
  | c :: cs, acc => by
    have ih := sumL_fold cs (stepC acc c)
    have h1 : sumL (stepC acc c) ≤ sumL acc + (c.length + 1) := by
      unfold stepC
      split
      · omega
      · split
        · have := sumL_dropLast acc; omega
        · rw [sumL_append]; simp [sumL]
    rw [List.foldl_cons]
    simp only [sumL, List.map_cons, List.sum_cons] at ih h1 ⊢
    omega
theorem joinB_sum : ∀ bs : List (List UInt8), (joinB [47] bs).length ≤ sumL bs
  | [] => by simp [joinB]
  | [a] => by simp [joinB, sumL]
  | a :: b :: r => by
    have := joinB_sum (b :: r)
    rw [joinB]
    simp only [sumL, List.map_cons, List.sum_cons, List.length_append, List.length_cons, List.length_nil] at this ⊢
    omega
theorem normP_length (r : List UInt8) : (joinB [47] (normC (splitB 47 r))).length ≤ r.length + 1 := by
  have h1 := joinB_sum (normC (splitB 47 r))
  have h2 := sumL_fold (splitB 47 r) []
  rw [sumL_split] at h2
  simp only [normC] at h1 ⊢
  simp only [sumL, List.map_nil, List.sum_nil] at h2
  simp only [sumL] at h1
  omega
end Mine
end P4Part
section B5Part
open PySem PySem.W PyProof.Rows PySem.Calls
namespace Mine
namespace BR
open Builtin
section
variable {prog : Program} {w : World} {A : Around} {E : Value → Shared → Prop} {s : Shared} {h₀ : Heap} {L : Addr} {m : PySem.Str → Option Value} {news : List (Addr × Obj)}
theorem c_type {b : Array UInt8} {t : Tok} {Q : Value → Shared → Prop} (h : Q (.type "bytes") s) : wpAny (model prog w) A (call (.type "type") [.bytes b t]) Q E s := by
  refine wpAny_call (codeAny_of_tree ?_)
  show wpAny _ _ (callAny (.type "type") ⟨[.bytes b t], []⟩) _ _ _
  simp only [callAny]
  refine wpAny_pure ⟨Code.quiet_builtin _ (by decide +kernel), codeAny_builtin entry_type_call ?_⟩
  unfold Builtin.«type.__call__»
  dsimp only
  unfold shownTypeOf
  repeat wp_step
  exact h
theorem sub_bytes_str : isSubtype (.type "bytes") (.type "str") = pure false := by rw [isSubtype_type]; kernel_rfl
theorem sub_str {Q : PySem.Fin → Shared → Prop} {k : Int} {tk : Tok} (h : Q (.done (.ret (.bool false))) s) : wpAny (model prog w) A (Builtin.«issubclass.nested» ⟨[.type "bytes", .type "str", .int k tk], []⟩) Q E s := by
  unfold Builtin.«issubclass.nested»
  dsimp only
  repeat wp_step
  rw [sub_bytes_str]
  exact wpAny_pure (wpAny_pure h)
theorem sub_bytes {Q : PySem.Fin → Shared → Prop} {k : Int} {tk : Tok} (h : Q (.done (.ret (.bool true))) s) : wpAny (model prog w) A (Builtin.«issubclass.nested» ⟨[.type "bytes", .type "bytes", .int k tk], []⟩) Q E s := by
  unfold Builtin.«issubclass.nested»
  dsimp only
  repeat wp_step
  rw [F.sub_bytes_bytes]
  exact wpAny_pure (wpAny_pure h)
theorem kind_nested : builtinKind "issubclass.nested" = none := by decide +kernel
theorem plain_nested : plainId "issubclass.nested" = true := by decide +kernel
theorem args_nested (a b c : Value) : argsOk "issubclass.nested" ⟨[a, b, c], []⟩ := by unfold argsOk; kernel_rfl
theorem c_sub_str {k : Int} {tk : Tok} {Q : Value → Shared → Prop} (h : Q (.bool false) s) : wpAny (model prog w) A (call (.builtin "issubclass.nested") [.type "bytes", .type "str", .int k tk]) Q E s :=
  call_function_meets kind_nested plain_nested F.entry_issubclass_nested (args_nested _ _ _) (S := fun _ R s => R (.ok (.ret (.bool false))) s) (fun _ _ _ _ _ hs => sub_str hs) h
theorem c_sub_bytes {k : Int} {tk : Tok} {Q : Value → Shared → Prop} (h : Q (.bool true) s) : wpAny (model prog w) A (call (.builtin "issubclass.nested") [.type "bytes", .type "bytes", .int k tk]) Q E s :=
  call_function_meets kind_nested plain_nested F.entry_issubclass_nested (args_nested _ _ _) (S := fun _ R s => R (.ok (.ret (.bool true))) s) (fun _ _ _ _ _ hs => sub_bytes hs) h
theorem inst_tuple : isSubtype (.type "tuple") (.type "tuple") = pure true := by rw [isSubtype_type]; kernel_rfl
theorem c_issub {a : Addr} {n : Nat} {Q : Value → Shared → Prop} (ha : s.heap.get? a = some { cls := .type "tuple", data := .seq #[.type "str", .type "bytes"] n }) (h : ∀ k, Q (.bool true) { s with toks := k }) :
    wpAny (model prog w) A (call (.builtin "issubclass") [.type "bytes", .ref a]) Q E s := by
  have hT : s.TypeIs (.ref a) "tuple" := ⟨_, ha, rfl⟩
  refine call_issubclass (S := fun _ R s => s.heap.get? a = some { cls := .type "tuple", data := .seq #[.type "str", .type "bytes"] n } ∧ ∀ k, R (.ok (.ret (.bool true))) { s with toks := k }) ?_ ⟨ha, h⟩
  intro prog w A R s hS
  obtain ⟨ha, h⟩ := hS
  have hT : s.TypeIs (.ref a) "tuple" := ⟨_, ha, rfl⟩
  refine issubclass_outer ?_
  unfold Builtin.«issubclass.nested»
  dsimp only
  show wpAny _ _ (typeOf (.ref a) >>= fun r => _) _ _ s
  refine wpAny_bind (wpAny_typeOf hT ?_)
  show wpAny _ _ (Builtins.unionMembers (.ref a) >>= fun r => _) _ _ s
  unfold Builtins.unionMembers
  refine wpAny_bind (wpAny_bind (wpAny_typeOf hT ?_))
  refine wpAny_pure ?_
  refine wpAny_bind (wpAny_isInstance hT inst_tuple ?_)
  rw [if_pos rfl]
  refine wpAny_ite (KBy.ite_no (by decide) ?_)
  refine wpAny_bind (wpAny_seqItems ha rfl ?_)
  dsimp only [Option.getD_some]
  rw [← Array.forIn_toList]
  show wpAny _ _ (forIn [Value.type "str", Value.type "bytes"] _ _ >>= fun z => _) _ _ s
  rw [List.forIn_cons]
  refine wpAny_bind (wpAny_bind (wpAny_bind (c_sub_str ?_)))
  refine wpAny_bind (wpAny_of_eq (a := false) rfl ?_)
  rw [if_neg Bool.false_ne_true]
  refine wpAny_pure ?_
  dsimp only
  rw [List.forIn_cons]
  refine wpAny_bind (wpAny_bind (c_sub_bytes ?_))
  refine wpAny_bind (wpAny_of_eq (a := true) rfl ?_)
  rw [if_pos rfl]
  refine wpAny_bind (wpAny_pure (wpAny_pure ?_))
  refine wpAny_pure ?_
  exact wpAny_pure (h s.toks)
theorem c_issubN {a : Addr} {n : Nat} {Q : Value → Shared → Prop} (N : News h₀ L s.heap news) (hm : (a, ({ cls := .type "tuple", data := .seq #[.type "str", .type "bytes"] n } : Obj)) ∈ news) (h : ∀ k, Q (.bool true) { s with toks := k }) :
    wpAny (model prog w) A (call (.builtin "issubclass") [.type "bytes", .ref a]) Q E s := c_issub (N _ hm).1 h
end
end BR
end Mine
namespace Mine
namespace BR
section
variable {prog : Program} {w : World} {A : Around} {E : Value → Shared → Prop} {s : Shared}
theorem noI_bytes_add : typeLookup (.type "bytes") (dunderI "add") = pure none := by rw [typeLookup_type, builtinLookup_eq_fast]; kernel_rfl
theorem o_iadd {l r : List UInt8} {t u : Tok} {Q : Value → Shared → Prop} (hz : l.length + r.length ≤ 16777216) (h : ∀ t' k, Q (.bytes (l ++ r).toArray t') { s with toks := k }) : wpAny (model prog w) A (inplaceOp .Add (.bytes l.toArray t) (.bytes r.toArray u)) Q E s := by
  have hsz : l.toArray.size + r.toArray.size ≤ 16777216 := by simpa using hz
  refine iconcat_gives (typeIs_bytes s _ t) (typeIs_bytes s _ u) noI_bytes_add KBy.noFill_bytes_add KBy.seq_bytes_add FB.slot_bytes_add FB.entry_bytes_add (FB.args_bytes_add_2 _ _) (KBy.gives_bytes_add (KBy.tooLong_not hsz)) ?_
  cases l with
  | nil =>
    rw [if_pos (by simp)]
    exact h u s.toks
  | cons c l' =>
    rw [if_neg (by simp)]
    cases r with
    | nil =>
      rw [if_pos (by simp)]
      have h' := h t s.toks
      rw [List.append_nil] at h'
      exact h'
    | cons d r' =>
      rw [if_neg (by simp), List.append_toArray]
      exact ⟨by rw [sizeLine_eq]; rw [List.size_toArray, List.length_append]; exact hz, h s.toks (s.toks + 1)⟩
end
end BR
end Mine
end B5Part
section B6Part
open PySem PySem.W PyProof.Rows PySem.Calls
namespace Mine
section
variable {prog : Program} {w : World} {A : Around} {E : Value → Shared → Prop} {s : Shared} {env : Env} {h₀ : Heap} {x : Str} {body : List Stmt} {Q : Flow → Shared → Prop}
/-- a turn's end -/
def ForEnd {σ : Type} (h₀ : Heap) (L : Addr) (s : Shared) (Led : σ → List (Addr × Obj)) (ps : σ → List (Str × Value)) (stored : List Str) (m₀ : Str → Option Value) (J : σ → Prop) (I : Addr) (oI : Obj) (s₂ : Shared) : Prop :=
  ∃ (c' : σ) (h' : Heap) (tk : Nat) (m' : Str → Option Value) (news' : List (Addr × Obj)), s₂ = { s with heap := h', toks := tk } ∧ Fr h₀ L h' m' ∧ News h₀ L h' news' ∧ (I, oI) ∈ news' ∧ (∀ p ∈ Led c', p ∈ news') ∧ (∀ p ∈ ps c', m' p.1 = some p.2) ∧ (∀ z, (∀ p ∈ ps c', z ≠ p.1) → stored.contains z = false → m' z = m₀ z) ∧ J c'
def ForPost {σ : Type} (h₀ : Heap) (L : Addr) (s : Shared) (Led : σ → List (Addr × Obj)) (ps : σ → List (Str × Value)) (stored : List Str) (m₀ : Str → Option Value) (J : σ → Prop) (Q : Flow → Shared → Prop) (I : Addr) (oI : Obj) (f : Flow) (s₂ : Shared) : Prop :=
  match f with
  | .ret v => Q (.ret v) s₂
  | .brk => Q .next s₂
  | _ => ForEnd h₀ L s Led ps stored m₀ J I oI s₂
theorem for_end {σ : Type} {L : Addr} {Led : σ → List (Addr × Obj)} {ps : σ → List (Str × Value)} {stored : List Str} {m₀ m' : Str → Option Value} {J : σ → Prop} {I : Addr} {oI : Obj} {h' : Heap} {tk : Nat} {news' : List (Addr × Obj)} (c' : σ)
    (F : Fr h₀ L h' m') (N : News h₀ L h' news') (hI : (I, oI) ∈ news') (hn : ∀ p ∈ Led c', p ∈ news') (hk : ∀ p ∈ ps c', m' p.1 = some p.2) (hr : ∀ z, (∀ p ∈ ps c', z ≠ p.1) → stored.contains z = false → m' z = m₀ z) (hj : J c') :
    ForEnd h₀ L s Led ps stored m₀ J I oI { s with heap := h', toks := tk } := ⟨c', h', tk, m', news', rfl, F, N, hI, hn, hk, hr, hj⟩
theorem for_led {σ : Type} {l : Addr} {its : List Value} {n : Nat} {m₀ : Str → Option Value} (Led : σ → List (Addr × Obj)) (ps : σ → List (Str × Value)) (stored : List Str) (J : Nat → σ → Prop) (c₀ : σ)
    (hh : A.handled = none) (F : Fr h₀ env.locals s.heap m₀) (N : News h₀ env.locals s.heap (Led c₀)) (hl : ∀ c, (l, listOf its.toArray n) ∈ Led c) (ha : ∀ c, (Led c).map (·.1) = (Led c₀).map (·.1))
    (hk : ∀ p ∈ ps c₀, m₀ p.1 = some p.2) (hj : J 0 c₀)
    (turn : ∀ i v c (u : Str → Option Value) h tk I oI, its[i]? = some v → J i c → (∀ p ∈ Led c, p.1 < I) → Fr h₀ env.locals h (fun y => if y = x then some v else kstB (fun z => if stored.contains z then u z else m₀ z) (ps c) y) → News h₀ env.locals h ((I, oI) :: Led c) →
      wpAny (model prog w) A (execs body env) (ForPost h₀ env.locals s Led ps stored m₀ (J (i + 1)) Q I oI) E { s with heap := h, toks := tk })
    (done : ∀ c (u : Str → Option Value) h tk, J its.length c → Fr h₀ env.locals h (kstB (fun z => if stored.contains z then u z else m₀ z) (ps c)) → News h₀ env.locals h (Led c) → Q .next { s with heap := h, toks := tk }) :
    wpAny (model prog w) A (pyIter (.ref l)) (fun it s₂ => LoopAtV prog w A h₀ env x body Q E it s₂) E s := by
  have hls : s.heap.IsList l its.toArray := ⟨_, (N _ (hl c₀)).1, rfl, _, rfl⟩
  have hlt : l < s.heap.objs.size := Heap.lt_size (N _ (hl c₀)).1
  refine wpAny_pyIter_list hls ?_
  have W := Walks.list (prog := prog) (w := w) hh s.heap.objs.size l (Nat.ne_of_lt hlt) its.toArray
  have below : ∀ c, ∀ p ∈ Led c, p.1 < s.heap.objs.size := fun c p hp => by
    have : p.1 ∈ (Led c₀).map (·.1) := ha c ▸ List.mem_map.mpr ⟨p, hp, rfl⟩
    obtain ⟨q, hq, e⟩ := List.mem_map.mp this
    exact e ▸ Heap.lt_size (N q hq).1
  let J' : Nat → (Str → Option Value) → List (Addr × Obj) → Prop := fun i m₁ news₁ => ∃ c, news₁ = Led c ∧ J i c ∧ (∀ p ∈ ps c, m₁ p.1 = some p.2) ∧ (∀ z, (∀ p ∈ ps c, z ≠ p.1) → stored.contains z = false → m₁ z = m₀ z)
  refine ⟨_, _, _, its.toArray.size, _, _, m₀, Led c₀, J', rfl, W, ?_, ?_, ?_, ⟨⟨_, Heap.get?_push_size _ rfl, rfl, rfl⟩, hls.at fun o e => Heap.get?_push_of_some _ e⟩, F.push _, (fun p hp => ⟨Heap.get?_push_of_some _ (N p hp).1, (N p hp).2⟩), ⟨c₀, rfl, hj, hk, fun _ _ _ => rfl⟩, ?_, ?_⟩
  · intro hm
    rcases List.mem_cons.mp hm with e | hm
    · exact absurd F.ns.lt (e ▸ Nat.lt_irrefl _)
    · exact (N _ (hl c₀)).2.1 (List.mem_singleton.mp hm).symm
  · intro b hb
    rw [List.mem_singleton.mp hb]
    exact next_is_new F
  · intro p hp hI
    exact absurd (Heap.lt_size (N p hp).1) ((List.mem_singleton.mp hI) ▸ Nat.lt_irrefl _)
  · rintro i v m₁ news₁ s₁ own ⟨hh', tk', rfl⟩ hin hP ⟨c, rfl, hJ, h1, h2⟩ hoff hown hget hall hst F₁ N₁
    have hP' : its[i]? = some v := by simpa using hP
    obtain ⟨oI, hoI, _⟩ := hst.1
    have hIown : (s.heap.objs.size, oI) ∈ own := hall _ (by simp) (next_is_new F) _ hoI
    have N₂ : News h₀ env.locals hh' ((s.heap.objs.size, oI) :: Led c) := fun p hp => by
      rcases List.mem_cons.mp hp with rfl | hp
      · exact N₁ _ (List.mem_append.mpr (.inl hIown))
      · exact N₁ _ (List.mem_append.mpr (.inr hp))
    have F₂ : Fr h₀ env.locals hh' (fun y => if y = x then some v else kstB (fun z => if stored.contains z then m₁ z else m₀ z) (ps c) y) := by
      have em : kstB (fun z => if stored.contains z then m₁ z else m₀ z) (ps c) = m₁ := by
        funext y
        refine kstB_eq h1 fun hn => ?_
        show (if stored.contains y = true then m₁ y else m₀ y) = m₁ y
        cases h3 : stored.contains y with
        | true => simp
        | false => simp only [Bool.false_eq_true, if_false]; exact (h2 y hn h3).symm
      rw [em]
      exact F₁
    refine wpAny_mono (turn i v c m₁ hh' tk' _ oI hP' hJ (below c) F₂ N₂) (fun f s₂ p => ?_) fun _ _ e => e
    have fin : ForEnd h₀ env.locals s Led ps stored m₀ (J (i + 1)) s.heap.objs.size oI s₂ → LoopStepU h₀ env.locals [s.heap.objs.size] own (J' (i + 1)) { s with heap := hh', toks := tk' } .next s₂ := by
      rintro ⟨c', h', tk, m', news', e, F', N', hI', hn, hk', hr, hj'⟩
      refine ⟨rfl, h', tk, m', Led c', e, F', fun p hp => ?_, fun p hp hI => absurd (below c' p hp) ((List.mem_singleton.mp hI) ▸ Nat.lt_irrefl _), c', rfl, hj', hk', hr⟩
      rcases List.mem_append.mp hp with hp | hp
      · have g := hget p hp
        rcases List.mem_cons.mp (hown p hp) with e1 | e1
        · have e2 : p.2 = oI := by rw [e1, hoI] at g; exact (Option.some.inj g).symm
          have e3 : p = (s.heap.objs.size, oI) := Prod.ext e1 e2
          rw [e3]; exact N' _ hI'
        · have e1 := List.mem_singleton.mp e1
          have e2 : p.2 = listOf its.toArray n := by
            have z := (N₂ _ (List.mem_cons_of_mem _ (hl c))).1
            rw [e1, z] at g; exact (Option.some.inj g).symm
          have e3 : p = (l, listOf its.toArray n) := Prod.ext e1 e2
          rw [e3]; exact N' _ (hn _ (hl c'))
      · exact N' p (hn p hp)
    cases f with
    | ret v => exact .ret p
    | brk => exact .brk p
    | next => exact .next (fin p)
    | cont => exact .cont (fin p)
  · rintro h' tk m' news' F' N' _ ⟨c, rfl, hJ, h1, h2⟩
    refine done c m' h' tk (by simpa using hJ) ?_ N'
    have em : kstB (fun z => if stored.contains z then m' z else m₀ z) (ps c) = m' := by
      funext y
      refine kstB_eq h1 fun hn => ?_
      show (if stored.contains y = true then m' y else m₀ y) = m' y
      cases h3 : stored.contains y with
      | true => simp
      | false => simp only [Bool.false_eq_true, if_false]; exact (h2 y hn h3).symm
    rw [em]
    exact F'
end
end Mine
namespace Mine
namespace BR
theorem AreB.last {vs : List Value} {bs : List (List UInt8)} (h : AreB vs bs) : vs.isEmpty = false → ∃ t, vs = vs.dropLast ++ [.bytes (bs.getLastD []).toArray t] ∧ AreB vs.dropLast bs.dropLast := by
  induction h with
  | nil => intro h; cases h
  | @cons l t vs bs r ih =>
    intro _
    cases r with
    | nil => exact ⟨t, rfl, .nil⟩
    | @cons l2 t2 vs2 bs2 r2 =>
      obtain ⟨t3, h1, h2⟩ := ih rfl
      refine ⟨t3, ?_, .cons h2⟩
      have e : (l :: l2 :: bs2).getLastD [] = (l2 :: bs2).getLastD [] := rfl
      rw [e]
      exact congrArg (List.cons (Value.bytes l.toArray t)) h1
section
variable {prog : Program} {w : World} {A : Around} {E : Value → Shared → Prop} {s : Shared} {h₀ : Heap} {L D : Addr} {m : PySem.Str → Option Value} {news news' : List (Addr × Obj)} {vs : List Value} {bs : List (List UInt8)} {n : Nat}
theorem o_truthyL {Q : Bool → Shared → Prop} (N : News h₀ L s.heap news) (hm : (D, listOf vs.toArray n) ∈ news) (hz : vs.length ≤ 1000000) (h : ∀ k, Q (!vs.isEmpty) { s with toks := k }) : wpAny (model prog w) A (truthy (.ref D)) Q E s := by
  refine wpAny_truthy_list ⟨_, (N _ hm).1, rfl, _, rfl⟩ (by simp; omega) ?_
  have e : vs.toArray.isEmpty = vs.isEmpty := by cases vs <;> rfl
  rw [e]
  exact h _
theorem o_lastL {value slice : PySem.Expr} {u : Tok} {Q : Value → Shared → Prop} (N : News h₀ L s.heap news) (hm : (D, listOf vs.toArray n) ∈ news) (hv : AreB vs bs) (hne : vs.isEmpty = false) (h : ∀ t', Q (.bytes (bs.getLastD []).toArray t') s)
    (hs : subscripted slice false (.ref D) (.int (-1) u) = operate [.ref D, .int (-1) u] (getItem (.ref D) (.int (-1) u)) := by with_unfolding_all rfl) :
    wpAny (model prog w) A (subscriptTail value slice (.ref D) (.int (-1) u)) Q E s := by
  obtain ⟨t, h1, _⟩ := AreB.last hv hne
  have hlen : 0 < vs.length := by cases vs with | nil => cases hne | cons _ _ => simp
  refine kde_neg (vs := vs) ⟨_, (N _ hm).1, rfl, _, rfl⟩ (by decide) (by decide) (j := vs.length - 1) ?_ ?_ (h t) hs
  · have h1 : (-1 : Int) < 0 := by decide
    have h2 : 0 ≤ (-1 : Int) + (vs.length : Int) := by omega
    have h3 : (-1 : Int) + (vs.length : Int) < vs.length := by omega
    have h4 : ((-1 : Int) + (vs.length : Int)).toNat = vs.length - 1 := by omega
    simp [seqIndex?, h2, h3, h4]
  · rw [h1]
    have : (vs.dropLast ++ [Value.bytes (bs.getLastD []).toArray t]).length - 1 = vs.dropLast.length := by simp
    rw [this]
    simp
theorem o_popL {Q : Value → Shared → Prop} (F : Fr h₀ L s.heap m) (N : News h₀ L s.heap news) (U : Upd D (listOf vs.toArray n) (listOf vs.dropLast.toArray (n + 1)) news news') (hv : AreB vs bs) (hne : vs.isEmpty = false) (hz : vs.length ≤ 1000000)
    (h : ∀ h' t', Fr h₀ L h' m → News h₀ L h' news' → AreB vs.dropLast bs.dropLast → Q (.bytes (bs.getLastD []).toArray t') { s with heap := h' }) : wpAny (model prog w) A (call (.builtin "list.pop") [.ref D]) Q E s := by
  obtain ⟨t, h1, h2⟩ := AreB.last hv hne
  refine kl_pop F N (p := vs.dropLast) (y := .bytes (bs.getLastD []).toArray t) ?_ U (by rw [sizeLine_eq]; simp; omega) fun h' F' N' => h h' t F' N' h2
  have e := kpa_last (.bytes (bs.getLastD []).toArray t) vs.dropLast
  rw [← h1] at e
  simpa using e
end
end BR
end Mine
namespace Mine
namespace BR
section
variable {prog : Program} {w : World} {A : Around} {E : Value → Shared → Prop} {s : Shared} {h₀ : Heap} {L D : Addr} {m : PySem.Str → Option Value} {news news' : List (Addr × Obj)} {vs : List Value} {n : Nat} {x : Value}
theorem o_appendL {Q : Value → Shared → Prop} (F : Fr h₀ L s.heap m) (N : News h₀ L s.heap news) (U : Upd D (listOf vs.toArray n) (listOf (vs ++ [x]).toArray (n + 1)) news news') (hz : vs.length ≤ 1000000)
    (h : ∀ h', Fr h₀ L h' m → News h₀ L h' news' → Q .none { s with heap := h' }) : wpAny (model prog w) A (call (.builtin "list.append") [.ref D, x]) Q E s :=
  append_K F N (by rw [List.push_toArray]; exact U) h (by rw [sizeLine_eq]; simp; omega)
end
end BR
end Mine
namespace Mine
namespace BR
section
variable {prog : Program} {w : World} {A : Around} {E : Value → Shared → Prop} {s : Shared} {h₀ : Heap} {L D : Addr} {m : PySem.Str → Option Value} {news news' : List (Addr × Obj)} {vs : List Value} {n : Nat} {x : Value}
theorem o_truthyT {Q : Bool → Shared → Prop} (N : News h₀ L s.heap news) (hm : (D, ({ cls := .type "tuple", data := .seq vs.toArray n } : Obj)) ∈ news) (hz : vs.length ≤ 1000000) (h : ∀ k, Q (!vs.isEmpty) { s with toks := k }) : wpAny (model prog w) A (truthy (.ref D)) Q E s := by
  refine ktl_truthy (N _ hm).1 (by simp; omega) ?_
  have e : vs.toArray.isEmpty = vs.isEmpty := by cases vs <;> rfl
  rw [e]
  exact h _
theorem o_itemT0 {value slice : PySem.Expr} {u : Tok} {Q : Value → Shared → Prop} (N : News h₀ L s.heap news) (hm : (D, ({ cls := .type "tuple", data := .seq (x :: vs).toArray n } : Obj)) ∈ news) (h : Q x s)
    (hs : subscripted slice false (.ref D) (.int 0 u) = operate [.ref D, .int 0 u] (getItem (.ref D) (.int 0 u)) := by with_unfolding_all rfl) (hg : ∀ r, letTemporaryGo value (.ref D) r = pure () := by intro _; with_unfolding_all rfl) :
    wpAny (model prog w) A (subscriptTail value slice (.ref D) (.int 0 u)) Q E s :=
  item_tupleL (l := x :: vs) (j := 0) ⟨_, (N _ hm).1, rfl, _, rfl⟩ (by decide) (by decide) (by simp [seqIndex?] <;> omega) rfl h hs hg
end
end BR
end Mine
end B6Part
section BasePart
open PySem PySem.W PyProof.Rows
namespace Mine

/-- a call of the def at f comes back with a value that C holds of (the heap behind it, the heap's size ahead of it, the value); nothing that stood is changed -/
def SaysV (k : Nat) (f : Addr) (vs : List Value) (Pre : Heap → Prop) (C : Heap → Nat → Value → Prop) : Prop :=
  ∀ (w : World) (mean : ExcName → Option Value) (mg mb : Str → Option Value) (dp un : Nat) (gd : Option (List Code)) (cn : Str) (cs : Scope) (a : Addr) (ccd : Value) (cl : List (Str × Addr)) (outer : List Env) (A₀ : Around) (base h₀ : Heap) (L : Addr) (m : Str → Option Value) (s : Shared) (Q E : Value → Shared → Prop),
    Below A₀ base outer h₀ → Fr h₀ L s.heap m → (hd.heap_39 w.params).In h₀ → Top hd.view_39 (looseW hd.view_39 []) mean mg mb h₀ → cs.kind = .function →
    dp + k < recursionLimit → un + 20 * k < cLine → Pre s.heap →
    (∀ (v : Value) (h' : Heap) (tk' : Nat), (∀ b o, s.heap.get? b = some o → h'.get? b = some o) → C h' s.heap.objs.size v → Q v { s with heap := h', toks := tk' }) →
    wpAny (model PySem.Challenge.rw_pd0075_01.row.prog w) (ktrTop dp un gd cn cs L a ccd cl outer) (call (.ref f) vs) Q E s
def SaysP (k : Nat) (f : Addr) (vs : List Value) (R : Tok → Value) : Prop := SaysV k f vs (fun _ => True) (fun _ _ v => ∃ t, v = R t)

theorem SaysP.use {k : Nat} {f : Addr} {vs : List Value} {R : Tok → Value} (C : SaysP k f vs R) {w : World} {mean : ExcName → Option Value} {mg mb : Str → Option Value} {news : List (Addr × Obj)} {dp un : Nat} {gd : Option (List Code)} {cn : Str} {cs : Scope} {a : Addr} {ccd : Value} {cl : List (Str × Addr)} {outer : List Env} {A₀ : Around} {base h₀ : Heap} {L : Addr} {m : Str → Option Value} {s : Shared} {Q E : Value → Shared → Prop}
    (B : Below A₀ base outer h₀) (F : Fr h₀ L s.heap m) (X : (hd.heap_39 w.params).In h₀) (N : News h₀ L s.heap news) (T : Top hd.view_39 (looseW hd.view_39 []) mean mg mb h₀) (hk : cs.kind = .function)
    (hd : dp + k < recursionLimit) (hu : un + 20 * k < cLine)
    (hret : ∀ (t : Tok) (h' : Heap) (tk' : Nat), Fr h₀ L h' m → News h₀ L h' news → Q (R t) { s with heap := h', toks := tk' }) :
    wpAny (model PySem.Challenge.rw_pd0075_01.row.prog w) (ktrTop dp un gd cn cs L a ccd cl outer) (call (.ref f) vs) Q E s :=
  C w mean mg mb dp un gd cn cs a ccd cl outer A₀ base h₀ L m s Q E B F X T hk hd hu trivial fun v h' tk' hkeep hv => by
    obtain ⟨t, rfl⟩ := hv
    exact hret t h' tk' (F.keeps hkeep) fun p hp => ⟨hkeep _ _ (N p hp).1, (N p hp).2⟩

section
variable {prog : Program} {w : World} {A A₀ : Around} {E : Value → Shared → Prop} {s : Shared} {K : Frag} {L : Addr} {h₀ base : Heap} {m mg mb : Str → Option Value} {p : Program} {loose : List Str} {mean : ExcName → Option Value} {Q : Value → Shared → Prop}
theorem fr_refl {env : Env} {outer : List Env} (B : Below A₀ base outer h₀) (F : Fr h₀ L s.heap m) (hA : A.frames = some (env :: outer)) (hf : env.frame = some L) (hke : env.scope.kind = .function) : Below A base (env :: outer) s.heap :=
  (groundX (R := fun _ _ => True) B F (News.nil (h₀ := h₀) (h := s.heap) (L := L)) hA hf hke).2.1
theorem code_defE {env : Env} {outer : List Env} {name qual : Str} {params : Arguments} {body : List Stmt} {scope : Scope} {dV kV doc pm cdv ct oc : Value} {an od : Option Addr} {osl : Array (Option Value)} {f : Addr} {args : List Value} {binds : List (Str × Value)}
    (B : Below A₀ base outer h₀) (F : Fr h₀ L s.heap m) (X₀ : K.In h₀) (T : Top p loose mean mg mb h₀) (hA : A.frames = some (env :: outer)) (hf : env.frame = some L) (hke : env.scope.kind = .function)
    (ho : K.lookup f = some ⟨oc, od, .func (fnOf name qual params body scope dV kV doc pm an cdv ct), osl⟩) (hcd : codeIn K cdv qual = true) (hroom : A.depth < recursionLimit)
    (hbind : BindsTo s (fnOf name qual params body scope dV kV doc pm an cdv ct) ⟨args, []⟩ binds) (hloc : ∀ y ∈ binds, scope.names.lookup y.1 = some .local)
    (h : ∀ L' h₁, L' = s.heap.objs.size → Fr s.heap L' h₁ (fun y => binds.reverse.lookup y) → News s.heap L' h₁ [] → Below A base (env :: outer) s.heap → K.In s.heap → Top p loose mean mg mb s.heap →
      wpAny (model prog w) (A.deeper (envOf qual scope L' f cdv)) (execs body (envOf qual scope L' f cdv))
        (fun fl s' => Q (match fl with | .ret v => v | _ => .none) s')
        (fun e s' => wpAny (model prog w) (A.deeper (envOf qual scope L' f cdv)) (leaving (envOf qual scope L' f cdv) e) (fun _ s'' => E e s'') (fun e' s'' => E e' s'') s')
        { s with heap := h₁, toks := s.toks + binds.length })
    (hco : scope.isCoroutine = false) (hgen : scope.isGenerator = false) (hk : scope.kind = .function)
    (hcell : ∀ x ∈ scope.names, x.2 ≠ .cell) : wpAny (model prog w) A (call (.ref f) args) Q E s := by
  have B' := fr_refl (A := A) B F hA hf hke
  refine wpAny_call (codeAny_call_def (fd := fnOf name qual params body scope dV kV doc pm an cdv ct) (body := body) (binds := binds) hroom ((X₀.keeps F.keep) _ _ ho) rfl (T.nolimit.keeps F.keep) (codeRec_of (X₀.keeps F.keep) hcd) rfl hbind hcell hloc (fun h₁ hns hk₁ => ?_) hco hgen hk)
  exact h _ h₁ rfl ⟨hns, hk₁, Nat.le_refl _⟩ News.nil B' (X₀.keeps F.keep) (T.keeps F.keep)
theorem code_defEC {env : Env} {outer : List Env} {name qual : Str} {params : Arguments} {body : List Stmt} {scope : Scope} {dV kV doc pm cdv ct oc : Value} {an od : Option Addr} {osl : Array (Option Value)} {f : Addr} {args : List Value} {binds : List (Str × Value)}
    (B : Below A₀ base outer h₀) (F : Fr h₀ L s.heap m) (X₀ : K.In h₀) (T : Top p loose mean mg mb h₀) (hA : A.frames = some (env :: outer)) (hf : env.frame = some L) (hke : env.scope.kind = .function)
    (ho : K.lookup f = some ⟨oc, od, .func (fnOf name qual params body scope dV kV doc pm an cdv ct), osl⟩) (hcd : codeIn K cdv qual = true) (hroom : A.depth < recursionLimit)
    (hbind : BindsTo s (fnOf name qual params body scope dV kV doc pm an cdv ct) ⟨args, []⟩ binds) (hkind : (binds.all fun y => scope.names.lookup y.1 == some .local || scope.names.lookup y.1 == some .cell) = true)
    (hnd : ((cellsFrom 0 scope.names []).map (·.1)).Nodup)
    (h : ∀ L' h₁ tk cells, L' = s.heap.objs.size → Fr s.heap L' h₁ (bindL (envOfC qual scope L' f cdv).kindOf binds fun _ => none) → News s.heap L' h₁ cells →
      CellsAre (bindC (envOfC qual scope L' f cdv).kindOf binds fun _ => none) (cellsFrom (L' + 1) scope.names []) cells → Below A base (env :: outer) s.heap → K.In s.heap → Top p loose mean mg mb s.heap →
      wpAny (model prog w) (A.deeper (envOfC qual scope L' f cdv)) (execs body (envOfC qual scope L' f cdv))
        (fun fl s' => Q (match fl with | .ret v => v | _ => .none) s')
        (fun e s' => wpAny (model prog w) (A.deeper (envOfC qual scope L' f cdv)) (leaving (envOfC qual scope L' f cdv) e) (fun _ s'' => E e s'') (fun e' s'' => E e' s'') s')
        { s with heap := h₁, toks := tk })
    (hco : scope.isCoroutine = false) (hgen : scope.isGenerator = false) (hk : scope.kind = .function) : wpAny (model prog w) A (call (.ref f) args) Q E s := by
  have B' := fr_refl (A := A) B F hA hf hke
  refine wpAny_call (codeAny_call_function hroom ((X₀.keeps F.keep) _ _ ho) rfl hco hgen rfl (codeRec_of (X₀.keeps F.keep) hcd) (hbind _ _ _ _ ?_))
  refine wpAny_newFunctionEnv_cells hk (kindsX hkind _) fun env' he s' x => ?_
  subst he
  refine ⟨(T.nolimit.keeps F.keep).keeps x.toInCall.keep, codeAny_func ?_⟩
  obtain ⟨h₁, tk, rfl, _⟩ := x.done
  have hk₁ := x.toInCall.keep
  obtain ⟨cells, NC, Y⟩ := Cl.news (h₀ := s.heap) (Nat.le_refl _) fun n c hm => ⟨x.cell n c (lookup_of_mem_nodup (cellsFrom_names scope.names 0 (s.heap.objs.size + 1) [] [] rfl ▸ hnd) hm), x.above n c hm⟩
  exact h _ h₁ tk cells rfl ⟨x.toInCall.ns, hk₁, Nat.le_refl _⟩ NC Y B' (X₀.keeps F.keep) (T.keeps F.keep)
end

theorem peek1_at {α : Type} {K : Frag} {M : Model} {A : Around} {E : Value → Shared → Prop} {Q : α → Shared → Prop} {s : Shared} {o : Obj} {r : Addr → α}
    (X : K.In s.heap) (q : Q (r s.heap.objs.size) { s with heap := s.heap.push o }) :
    ∀ (t : Sem α) (g : Addr → Option α), peek1 K ⟨M.prog, M.w.params⟩ t = some (o, g) → (∀ D, g D = some (r D)) → wpAny M A t Q E s := by
  intro t
  induction t with
  | rule _ k ih => intro g e hg Γ p hΓ; exact ih () g e hg Γ p hΓ
  | point _ k ih => intro g e hg Γ p hΓ; exact ih () g e hg Γ p hΓ
  | ask k ih => intro g e hg Γ p hΓ; exact ih _ g e hg Γ p hΓ
  | load a _ k ih =>
    intro g e hg Γ p hΓ
    simp only [peek1] at e
    split at e
    · rename_i ob ho; exact ⟨ob, X _ _ ho, ih ob g e hg Γ p hΓ⟩
    · cases e
  | alloc ob k _ =>
    intro g e hg
    have e : some (ob, fun D => peek K ⟨M.prog, M.w.params⟩ (k D)) = some (o, g) := e
    obtain ⟨e1, e2⟩ := Prod.mk.inj (Option.some.inj e)
    subst e1
    subst e2
    have X' : K.In (s.heap.push ob) := X.keeps fun b x hb => Heap.get?_push_of_some _ hb
    show wpAny M A (alloc ob >>= k) Q E s
    refine wpAny_bind (wpAny_alloc ?_)
    exact (Looks.of_peek (M := M) (h := s.heap.push ob) X' (hg s.heap.objs.size)).here (s := { s with heap := s.heap.push ob }) q
  | _ => intro g e; cases e
section
variable {prog : Program} {w : World} {A A₀ : Around} {E : Value → Shared → Prop} {s : Shared} {K : Frag} {L : Addr} {h₀ base : Heap} {m mg mb : Str → Option Value} {p : Program} {loose : List Str} {mean : ExcName → Option Value} {Q : Value → Shared → Prop}
theorem code_defER {env : Env} {outer : List Env} {name qual : Str} {params : Arguments} {body : List Stmt} {scope : Scope} {dV kV doc pm cdv ct oc : Value} {an od : Option Addr} {osl : Array (Option Value)} {f : Addr} {args : List Value} {vs : List Value} {g₁ : Addr → Option (List (Str × Value))} {binds : Addr → List (Str × Value)}
    (B : Below A₀ base outer h₀) (F : Fr h₀ L s.heap m) (X₀ : K.In h₀) (T : Top p loose mean mg mb h₀) (hA : A.frames = some (env :: outer)) (hf : env.frame = some L) (hke : env.scope.kind = .function)
    (ho : K.lookup f = some ⟨oc, od, .func (fnOf name qual params body scope dV kV doc pm an cdv ct), osl⟩) (hcd : codeIn K cdv qual = true) (hroom : A.depth < recursionLimit)
    (hp : peek1 K ⟨prog, w.params⟩ (bindArgs (fnOf name qual params body scope dV kV doc pm an cdv ct) ⟨args, []⟩) = some (({ cls := .type "tuple", data := .seq vs.toArray } : Obj), g₁))
    (hg : ∀ D, g₁ D = some (binds D)) (hloc : ∀ D, ∀ y ∈ binds D, scope.names.lookup y.1 = some .local)
    (h : ∀ D L' h₁, D = s.heap.objs.size → L' = D + 1 → Fr s.heap L' h₁ (fun y => (binds D).reverse.lookup y) → News s.heap L' h₁ [(D, ({ cls := .type "tuple", data := .seq vs.toArray } : Obj))] → Below A base (env :: outer) s.heap → K.In s.heap → Top p loose mean mg mb s.heap →
      wpAny (model prog w) (A.deeper (envOf qual scope L' f cdv)) (execs body (envOf qual scope L' f cdv))
        (fun fl s' => Q (match fl with | .ret v => v | _ => .none) s')
        (fun e s' => wpAny (model prog w) (A.deeper (envOf qual scope L' f cdv)) (leaving (envOf qual scope L' f cdv) e) (fun _ s'' => E e s'') (fun e' s'' => E e' s'') s')
        { s with heap := h₁, toks := s.toks + (binds D).length })
    (hco : scope.isCoroutine = false) (hgen : scope.isGenerator = false) (hk : scope.kind = .function)
    (hcell : ∀ x ∈ scope.names, x.2 ≠ .cell) : wpAny (model prog w) A (call (.ref f) args) Q E s := by
  have B' := fr_refl (A := A) B F hA hf hke
  have X₁ := X₀.keeps F.keep
  refine wpAny_call (codeAny_call_function (fd := fnOf name qual params body scope dV kV doc pm an cdv ct) (body := body) hroom (X₁ _ _ ho) rfl hco hgen rfl (codeRec_of X₁ hcd) ?_)
  refine peek1_at (o := ({ cls := .type "tuple", data := .seq vs.toArray } : Obj)) X₁ (r := binds) ?_ _ g₁ hp hg
  refine wpAny_newFunctionEnv hcell (hloc _) (fun h₁ hns hsb => ⟨((T.nolimit.keeps F.keep).keeps fun b o e => Heap.get?_push_of_some _ e).fresh _ hsb, codeAny_func ?_⟩) hk
  have hk₁ : ∀ b o, (s.heap.push ({ cls := .type "tuple", data := .seq vs.toArray } : Obj)).get? b = some o → h₁.get? b = some o := fun b o e => hsb.extBut b o (Nat.ne_of_lt (Heap.lt_size e)) (Heap.get?_push_of_some _ e)
  have hsz : (s.heap.push ({ cls := .type "tuple", data := .seq vs.toArray } : Obj)).objs.size = s.heap.objs.size + 1 := Heap.size_push _ _
  exact h s.heap.objs.size _ h₁ rfl hsz ⟨hns, fun b o e => hk₁ b o (Heap.get?_push_of_some _ e), by rw [hsz]; exact Nat.le_succ _⟩
    (fun p hp => by
      rw [List.mem_singleton.mp hp]
      refine ⟨hk₁ _ _ (Heap.get?_push_size _ rfl), by rw [hsz]; exact Nat.ne_of_lt (Nat.lt_succ_self _), ?_⟩
      cases q : s.heap.get? s.heap.objs.size with
      | none => rfl
      | some o' => exact absurd (Heap.lt_size q) (Nat.lt_irrefl _)) B' X₁ (T.keeps F.keep)
end

section
variable {h₀ h' : Heap} {L L' : Addr} {m m' : Str → Option Value} {s : Shared} {Q : Value → Shared → Prop} {R : Tok → Value} {v : Value} {t : Tok} {tk' : Nat}
theorem finI {x y : Int} (hret : ∀ (v : Value) (h' : Heap) (tk' : Nat), (∀ b o, s.heap.get? b = some o → h'.get? b = some o) → (∃ t, v = Value.int y t) → Q v { s with heap := h', toks := tk' }) (F : Fr s.heap L' h' m') (e : x = y) : Q (.int x t) { s with heap := h', toks := tk' } := by
  subst e
  exact hret _ h' tk' F.keep ⟨t, rfl⟩
theorem finB {x y : List UInt8} (hret : ∀ (v : Value) (h' : Heap) (tk' : Nat), (∀ b o, s.heap.get? b = some o → h'.get? b = some o) → (∃ t, v = Value.bytes y.toArray t) → Q v { s with heap := h', toks := tk' }) (F : Fr s.heap L' h' m') (e : x = y) : Q (.bytes x.toArray t) { s with heap := h', toks := tk' } := by
  subst e
  exact hret _ h' tk' F.keep ⟨t, rfl⟩
theorem finT {x y : Bool} (hret : ∀ (v : Value) (h' : Heap) (tk' : Nat), (∀ b o, s.heap.get? b = some o → h'.get? b = some o) → (∃ t : Tok, v = (fun _ => Value.bool y) t) → Q v { s with heap := h', toks := tk' }) (F : Fr s.heap L' h' m') (e : x = y) : Q (.bool x) { s with heap := h', toks := tk' } := by
  subst e
  exact hret _ h' tk' F.keep ⟨0, rfl⟩
end
/-- the tuple of these values -/
abbrev tupOf (vs : List Value) : Obj := { cls := .type "tuple", data := .seq vs.toArray }
/-- a call comes back with a new tuple whose values P holds of -/
def SaysT (k : Nat) (f : Addr) (vs : List Value) (P : List Value → Prop) : Prop := SaysV k f vs (fun _ => True) (fun h' n v => ∃ x ws, v = .ref x ∧ n ≤ x ∧ P ws ∧ h'.get? x = some (tupOf ws))
theorem SaysT.use {k : Nat} {f : Addr} {vs : List Value} {P : List Value → Prop} (C : SaysT k f vs P) {w : World} {mean : ExcName → Option Value} {mg mb : Str → Option Value} {news : List (Addr × Obj)} {dp un : Nat} {gd : Option (List Code)} {cn : Str} {cs : Scope} {a : Addr} {ccd : Value} {cl : List (Str × Addr)} {outer : List Env} {A₀ : Around} {base h₀ : Heap} {L : Addr} {m : Str → Option Value} {s : Shared} {Q E : Value → Shared → Prop}
    (B : Below A₀ base outer h₀) (F : Fr h₀ L s.heap m) (X : (hd.heap_39 w.params).In h₀) (N : News h₀ L s.heap news) (T : Top hd.view_39 (looseW hd.view_39 []) mean mg mb h₀) (hk : cs.kind = .function)
    (hd : dp + k < recursionLimit) (hu : un + 20 * k < cLine)
    (hret : ∀ (ws : List Value) (x : Addr) (h' : Heap) (tk' : Nat), P ws → Fr h₀ L h' m → News h₀ L h' ((x, tupOf ws) :: news) → (∀ p ∈ news, p.1 < x) → Q (.ref x) { s with heap := h', toks := tk' }) :
    wpAny (model PySem.Challenge.rw_pd0075_01.row.prog w) (ktrTop dp un gd cn cs L a ccd cl outer) (call (.ref f) vs) Q E s :=
  C w mean mg mb dp un gd cn cs a ccd cl outer A₀ base h₀ L m s Q E B F X T hk hd hu trivial fun v h' tk' hkeep hv => by
    obtain ⟨x, ws, rfl, hx, hP, ho⟩ := hv
    have hlt : ∀ p ∈ news, p.1 < x := fun p hp => Nat.lt_of_lt_of_le (Heap.lt_size (N p hp).1) hx
    refine hret ws x h' tk' hP (F.keeps hkeep) (fun p hp => ?_) hlt
    rcases List.mem_cons.mp hp with rfl | hp
    · refine ⟨ho, Ne.symm (Nat.ne_of_lt (Nat.lt_of_lt_of_le F.ns.lt hx)), ?_⟩
      cases q : h₀.get? x with
      | none => rfl
      | some o => exact absurd (Heap.lt_size (F.keep _ _ q)) (Nat.not_lt.mpr hx)
    · exact ⟨hkeep _ _ (N p hp).1, (N p hp).2⟩
section
variable {M : Model} {A : Around} {E : Value → Shared → Prop} {s : Shared} {h₀ : Heap} {L : Addr} {m : Str → Option Value} {news : List (Addr × Obj)}
theorem newTuple_M {vs : List Value} {Q : Value → Shared → Prop} (F : Fr h₀ L s.heap m) (N : News h₀ L s.heap news)
    (h : ∀ x h', Fr h₀ L h' m → News h₀ L h' ((x, tupOf vs) :: news) → (∀ p ∈ news, p.1 < x) → @LT.lt Nat _ L x → Q (.ref x) { s with heap := h' }) (hsz : vs.length ≤ 1000000) : wpAny M A (newTuple vs) Q E s :=
  newTuple_N F N (fun h' F' N' => h _ h' F' N' (fun p hp => Heap.lt_size (N p hp).1) F.ns.lt) (by rw [sizeLine_eq]; omega)
theorem finU {h' : Heap} {L' : Addr} {m' : Str → Option Value} {Q : Value → Shared → Prop} {P : List Value → Prop} {x : Addr} {ws : List Value} {tk' : Nat}
    (hret : ∀ (v : Value) (h' : Heap) (tk' : Nat), (∀ b o, s.heap.get? b = some o → h'.get? b = some o) → (∃ x ws, v = .ref x ∧ s.heap.objs.size ≤ x ∧ P ws ∧ h'.get? x = some (tupOf ws)) → Q v { s with heap := h', toks := tk' }) (F : Fr s.heap L' h' m') (N : News s.heap L' h' ((x, tupOf ws) :: news)) (hx : @LT.lt Nat _ L' x) (hP : P ws) : Q (.ref x) { s with heap := h', toks := tk' } :=
  hret _ h' tk' F.keep ⟨x, ws, rfl, Nat.le_of_lt (Nat.lt_of_le_of_lt F.above hx), hP, (N _ List.mem_cons_self).1⟩
end
theorem two_b {a b a' b' : List UInt8} {x y : Tok} (h1 : a = a') (h2 : b = b') : ∃ t1 t2, [Value.bytes a.toArray x, .bytes b.toArray y] = [.bytes a'.toArray t1, .bytes b'.toArray t2] := by subst h1; subst h2; exact ⟨_, _, rfl⟩
theorem three_b {a b c a' b' c' : List UInt8} {x y z : Tok} (h1 : a = a') (h2 : b = b') (h3 : c = c') : ∃ t1 t2 t3, [Value.bytes a.toArray x, .bytes b.toArray y, .bytes c.toArray z] = [.bytes a'.toArray t1, .bytes b'.toArray t2, .bytes c'.toArray t3] := by subst h1; subst h2; subst h3; exact ⟨_, _, _, rfl⟩
theorem bi_b {a a' : List UInt8} {b b' : Int} {x y : Tok} (h1 : a = a') (h2 : b = b') : ∃ t1 t2, [Value.bytes a.toArray x, .int b y] = [.bytes a'.toArray t1, .int b' t2] := by subst h1; subst h2; exact ⟨_, _, rfl⟩
theorem room9 {dp k j : Nat} (h : dp + k < recursionLimit) (hj : Nat.ble (j + 1) k = true) : dp + 1 + j < recursionLimit := by
  have := Nat.le_of_ble_eq_true hj
  omega
theorem units9 {un k j : Nat} (c : Nat) (h : un + 20 * k < cLine) (hj : Nat.ble (c + 20 * j) (20 * k) = true) : un + c + 20 * j < cLine := by
  have := Nat.le_of_ble_eq_true hj
  omega
end Mine
end BasePart
section B7Part
open PySem PySem.W PyProof.Rows PySem.Calls
namespace Mine
namespace MP
theorem slot_next : Slot "map" "__next__" "map.__next__" :=
  .of (owner := "map") (n := "__next__") (by rw [typeLookup_type, builtinLookup_eq_fast]; kernel_rfl) (by decide +kernel) (by decide +kernel) (by decide +kernel)
    (by first | exact .inl (by decide +kernel) | exact .inr (by decide +kernel)) (by rw [isSubtype_type]; kernel_rfl)
theorem entry_next : entryFor table "map.__next__" = some Builtin.«map.__next__» := entryFor_of_tree (by kernel_rfl)
theorem args_next (a : Value) : argsOk "map.__next__" ⟨[a], []⟩ := by unfold argsOk; kernel_rfl
theorem slot_iter : Slot "map" "__iter__" "map.__iter__" :=
  .of (owner := "map") (n := "__iter__") (by rw [typeLookup_type, builtinLookup_eq_fast]; kernel_rfl) (by decide +kernel) (by decide +kernel) (by decide +kernel)
    (by first | exact .inl (by decide +kernel) | exact .inr (by decide +kernel)) (by rw [isSubtype_type]; kernel_rfl)
theorem entry_iter : entryFor table "map.__iter__" = some Builtin.«dict_keyiterator.__iter__» :=
  entryFor_alias (id' := "dict_keyiterator.__iter__") (by kernel_rfl) (by first | rfl | decide +kernel | (unfold String.splitOn; simp +decide [String.splitOnAux])) (by decide +kernel) (by kernel_rfl)
theorem args_iter (a : Value) : argsOk "map.__iter__" ⟨[a], []⟩ := by unfold argsOk; kernel_rfl
theorem mro_map : mroOf (.type "map") = pure [.type "map", .type "object"] := by rw [mroOf_type]; kernel_rfl
theorem lookup_new : typeLookup (.type "map") "__new__" = pure (some (.builtin "map.__new__")) := by rw [typeLookup_type, builtinLookup_eq_fast]; kernel_rfl
theorem slot_init : Slot "map" "__init__" "object.__init__" :=
  .of (owner := "object") (n := "__init__") (by rw [typeLookup_type, builtinLookup_eq_fast]; kernel_rfl) (by decide +kernel) (by decide +kernel) (by decide +kernel)
    (by first | exact .inl (by decide +kernel) | exact .inr (by decide +kernel)) (by rw [isSubtype_type]; kernel_rfl)
theorem called_map : TypeCalled "map" "map.__new__" "object.__init__" :=
  ⟨by decide +kernel, by decide +kernel, ⟨_, _, mro_map⟩, madeBy_type mro_map lookup_new (by decide +kernel), by decide +kernel, by rw [isSubtype_type]; kernel_rfl, slot_init⟩
theorem typeCall_map (a b : Value) : checkTypeCall "map" ⟨[a, b], []⟩ = pure () := by kernel_rfl
theorem newCall_map (a b : Value) : checkBuiltinCall "map.__new__" ⟨[.type "map", a, b], []⟩ = pure () := by kernel_rfl
theorem entry_new : entryFor table "map.__new__" = some Builtin.«map.__new__» := entryFor_of_tree (by kernel_rfl)
theorem sub_map : isSubtype (.type "map") (.type "map") = pure true := by rw [isSubtype_type]; kernel_rfl
theorem no_len : typeLookup (.type "map") "__len__" = pure none := by rw [typeLookup_type, builtinLookup_eq_fast]; kernel_rfl
theorem no_hint : typeLookup (.type "map") "__length_hint__" = pure none := by rw [typeLookup_type, builtinLookup_eq_fast]; kernel_rfl

abbrev IsMap (h : Heap) (z T : Addr) (f : Value) : Prop := h.get? z = some { cls := .type "map", dict := none, data := .fields #[.ref T, f], slots := #[] }
abbrev IsOne (h : Heap) (T : Addr) (a : Value) : Prop := h.get? T = some { cls := .type "tuple", data := .seq #[a] }
abbrev mapH1 (h : Heap) (l : Addr) : Heap := h.push { cls := .type "list_iterator", data := .fields #[.ref l, .int 0 0] }
abbrev mapH2 (h : Heap) (l : Addr) : Heap := (mapH1 h l).push { cls := .type "tuple", data := .seq #[.ref h.objs.size] }
abbrev mapH3 (h : Heap) (l : Addr) (f : Value) : Heap := (mapH2 h l).push { cls := .type "map", data := .fields #[.ref (mapH1 h l).objs.size, f] }
theorem meets_new (l : Addr) (f : Value) (xs : Array Value) :
    Meets (Builtin.«map.__new__» ⟨[.type "map", f, .ref l], []⟩) (fun _ R s => s.heap.IsList l xs ∧ R (.ok (.ret (.ref (mapH2 s.heap l).objs.size))) { s with heap := mapH3 s.heap l f }) :=
  .of_wp fun prog w A R s h => by
    obtain ⟨hp, g, d, tk, os⟩ := s; obtain ⟨hl, h⟩ := h
    have hsub := sub_map
    have hL : Heap.IsList (Shared.heap ⟨hp, g, d, tk, os⟩) l xs := hl
    wp_walk using wpAny_pyIter_list hL
    exact ⟨_, rfl, h⟩
section
variable {prog : Program} {w : World} {A : Around} {E : Value → Shared → Prop} {s : Shared}
theorem call_map {l : Addr} {f : Value} {xs : Array Value} {Q : Value → Shared → Prop} (hl : s.heap.IsList l xs)
    (h : ∀ h', IsMap h' (s.heap.objs.size + 2) (s.heap.objs.size + 1) f → IsOne h' (s.heap.objs.size + 1) (.ref s.heap.objs.size) → h'.IsListIter s.heap.objs.size l 0 → h'.objs.size = s.heap.objs.size + 3 →
      (∀ c o, s.heap.get? c = some o → h'.get? c = some o) → Q (.ref (s.heap.objs.size + 2)) { s with heap := h' }) :
    wpAny (model prog w) A (call (.type "map") [f, .ref l]) Q E s := by
  refine callType_new called_map (by decide) (typeCall_map _ _) (newCall_map _ _) (fun obj => F.args_object_init_3 obj _ _) entry_new (meets_new l f xs) ⟨hl, ?_⟩
  have z1 : (mapH1 s.heap l).objs.size = s.heap.objs.size + 1 := Heap.size_push ..
  have z2 : (mapH2 s.heap l).objs.size = s.heap.objs.size + 2 := by rw [Heap.size_push, z1]
  have z3 : (mapH3 s.heap l f).objs.size = s.heap.objs.size + 3 := by rw [Heap.size_push, z2]
  have g3 : (mapH3 s.heap l f).get? (mapH2 s.heap l).objs.size = some _ := Heap.get?_push_size _ rfl
  have g2 : (mapH3 s.heap l f).get? (mapH1 s.heap l).objs.size = some _ := Heap.get?_push_of_some _ (Heap.get?_push_size _ rfl)
  have g1 : (mapH3 s.heap l f).get? s.heap.objs.size = some _ := Heap.get?_push_of_some _ (Heap.get?_push_of_some _ (Heap.get?_push_size _ rfl))
  show _ ∧ _
  rw [z1, z2] at g3
  rw [z1] at g2
  rw [z2]
  exact ⟨⟨_, g3, rfl⟩, h _ g3 g2 ⟨_, g1, rfl, rfl⟩ z3 fun c o x => Heap.get?_push_of_some _ (Heap.get?_push_of_some _ (Heap.get?_push_of_some _ x))⟩
theorem iter_map {z T : Addr} {f : Value} {Q : Value → Shared → Prop} (hz : IsMap s.heap z T f) (h : Q (.ref z) s) : wpAny (model prog w) A (pyIter (.ref z)) Q E s := by
  have hT : s.TypeIs (.ref z) "map" := ⟨_, hz, rfl⟩
  refine wpAny_pyIter_slot hT slot_iter (wpAny_call_entry slot_iter hT entry_iter ?_ (args_iter _))
  show wpAny _ _ (ret (.ref z)) _ _ s
  exact wpAny_pure ⟨_, rfl, "map", _, hT, slot_next.lookup, h⟩
theorem next_item {z T it l : Addr} {f x : Value} {k : Nat} {xs : Array Value} {Q : Value → Shared → Prop} (hz : IsMap s.heap z T f) (hT : IsOne s.heap T (.ref it)) (h1 : s.heap.IsListIter it l k) (hl : s.heap.IsList l xs) (hx : xs[k]? = some x) (hne : T ≠ it) (hnz : z ≠ it)
    (hf : ∀ h', h'.IsListIter it l (k + 1) → Heap.SameBut it s.heap h' → wpAny (model prog w) A (call f [x]) Q E { s with heap := h' }) :
    wpAny (model prog w) A (Builtin.«map.__next__» ⟨[.ref z], []⟩) (fun fin s' => ∃ v, fin = .done (.ret v) ∧ Q v s') E s := by
  show wpAny _ _ (field (.ref z) 0 >>= _) _ _ _
  refine wpAny_bind (wpAny_field hz rfl (x := .ref T) rfl ?_)
  refine wpAny_bind (wpAny_seqItems hT rfl ?_)
  dsimp only
  rw [← Array.forIn_toList]
  show wpAny _ _ (forIn [Value.ref it] (#[] : Array Value) _ >>= fun z => _) _ _ s
  rw [List.forIn_cons]
  refine wpAny_bind (wpAny_bind (wpAny_bind (wpAny_holding (wpAny_nextOf_list_item h1 hl hx fun h' h1' hs' => wpAny_pure ?_))))
  dsimp only
  rw [List.forIn_nil]
  refine wpAny_pure ?_
  have hz' : IsMap h' z T f := hs'.extBut _ _ hnz hz
  refine wpAny_bind (wpAny_field hz' rfl (x := f) rfl ?_)
  refine wpAny_bind (wpAny_holding ?_)
  refine wpAny_mono (hf h' h1' hs') (fun v s₂ hq => ?_) fun _ _ e => e
  exact wpAny_bind (wpAny_letGo (wpAny_pure ⟨_, rfl, hq⟩))
theorem next_end {z T it l : Addr} {f : Value} {k : Nat} {xs : Array Value} {Q : PySem.Fin → Shared → Prop} (hh : A.handled = none) (hz : IsMap s.heap z T f) (hT : IsOne s.heap T (.ref it)) (h1 : s.heap.IsListIter it l k) (hl : s.heap.IsList l xs) (hx : xs[k]? = none)
    (hE : ∀ h' e, Heap.ExtBut it s.heap h' → (∃ o, h'.get? e = some o ∧ o.cls = .type "StopIteration") → E (.ref e) { s with heap := h' }) :
    wpAny (model prog w) A (Builtin.«map.__next__» ⟨[.ref z], []⟩) Q E s := by
  show wpAny _ _ (field (.ref z) 0 >>= _) _ _ _
  refine wpAny_bind (wpAny_field hz rfl (x := .ref T) rfl ?_)
  refine wpAny_bind (wpAny_seqItems hT rfl ?_)
  dsimp only
  rw [← Array.forIn_toList]
  show wpAny _ _ (forIn [Value.ref it] (#[] : Array Value) _ >>= fun z => _) _ _ s
  rw [List.forIn_cons]
  exact wpAny_bind (wpAny_bind (wpAny_bind (wpAny_holding (wpAny_nextOf_list_end hh h1 hl hx hE))))
theorem pyNext_item {z T it l : Addr} {f x : Value} {k : Nat} {xs : Array Value} {Q : Option Value → Shared → Prop} (hz : IsMap s.heap z T f) (hT : IsOne s.heap T (.ref it)) (h1 : s.heap.IsListIter it l k) (hl : s.heap.IsList l xs) (hx : xs[k]? = some x) (hne : T ≠ it) (hnz : z ≠ it)
    (hf : ∀ h', h'.IsListIter it l (k + 1) → Heap.SameBut it s.heap h' → wpAny (model prog w) A.in1 (call f [x]) (fun v s' => Q (some v) s') (fun _ _ => False) { s with heap := h' }) :
    wpAny (model prog w) A (pyNext (.ref z)) Q E s := by
  have hT' : s.TypeIs (.ref z) "map" := ⟨_, hz, rfl⟩
  unfold pyNext
  exact wpAny_bind (wpAny_attempt (wpAny_callSpecial?_slot (name := Str.ofString "__next__") hT' slot_next
    (wpAny_call_entry slot_next hT' entry_next (next_item hz hT h1 hl hx hne hnz fun h' a b => wpAny_mono (hf h' a b) (fun v s' q => wpAny_pure q) fun _ _ e => e.elim) (args_next _))))
theorem pyNext_end {z T it l : Addr} {f : Value} {k : Nat} {xs : Array Value} {Q : Option Value → Shared → Prop} (hh : A.handled = none) (hz : IsMap s.heap z T f) (hT : IsOne s.heap T (.ref it)) (h1 : s.heap.IsListIter it l k) (hl : s.heap.IsList l xs) (hx : xs[k]? = none)
    (hQ : ∀ h', Heap.ExtBut it s.heap h' → Q none { s with heap := h' }) : wpAny (model prog w) A (pyNext (.ref z)) Q E s := by
  have hT' : s.TypeIs (.ref z) "map" := ⟨_, hz, rfl⟩
  unfold pyNext
  refine wpAny_bind (wpAny_attempt (wpAny_callSpecial?_slot (name := Str.ofString "__next__") hT' slot_next
    (wpAny_call_entry slot_next hT' entry_next (next_end hh hz hT h1 hl hx fun h' e hk he => ?_) (args_next _))))
  obtain ⟨o, ho, hc⟩ := he
  refine wpAny_bind (wpAny_isInstance (T := "StopIteration") (b := true) ⟨o, ho, hc⟩ isSubtype_stop ?_)
  exact wpAny_pure (hQ _ hk)
theorem collect_map {I : Addr} {fp wr : List Addr} {G : Array GenState → Array GenState → Prop} {n : Nat} {P : Nat → Value → Prop} {St : Nat → Shared → Prop} {Q : List Value → Shared → Prop}
    (W : WalksS prog w A.in1 I fp wr G n P St) (hT : ∀ i s, St i s → s.TypeIs (.ref I) "map") (hst : St 0 s) (hfp : ∀ b ∈ fp, b < s.heap.objs.size) (hI : I ∈ fp)
    (hQ : ∀ s' acc, Moved wr G s s' → ItemsOf P acc n → Q acc.toList s') (hn : n ≤ sizeLine) : wpAny (model prog w) A (collect (.ref I)) Q E s := by
  have hSf : s.heap.objs.size ∉ fp := fun hm => Nat.lt_irrefl _ (hfp _ hm)
  have hSI : s.heap.objs.size ≠ I := fun e => hSf (e ▸ hI)
  have h1 : Builtin.List.listSameRef (.ref s.heap.objs.size) (.ref I) = false := by simp [Builtin.List.listSameRef, hSI]
  unfold collect
  refine wpAny_bind (wpAny_runValue (codeAny_builtin F.entry_proto_collect ?_))
  rw [Around.under_plainId F.plain_proto_collect _]
  show wpAny _ A.in1 (newList [] >>= fun l => again (.builtin "list.__iadd__" ⟨[l, .ref I], []⟩)) _ _ s
  refine wpAny_bind (wpAny_newObj_type ?_)
  refine wpAny_pure ⟨plainId_quiet F.plain_list_iadd _, codeAny_builtin F.entry_list_iadd ?_⟩
  rw [Around.under_plainId F.plain_list_iadd _]
  generalize hO : ({ cls := .type "list", data := .seq ([] : List Value).toArray } : Obj) = O
  have hst₁ := W.frame 0 s (s.heap.push O) s.toks hst (Nat.le_refl _) fun b _ o e => Heap.get?_push_of_some _ e
  have hS₁ : (s.heap.push O).get? s.heap.objs.size = some O := Heap.get?_push_size _ (by rw [← hO]; rfl)
  show wpAny _ A.in1 (Builtin.List.listExtendWith (.ref s.heap.objs.size) (.ref I) (.ref s.heap.objs.size)) _ _ _
  unfold Builtin.List.listExtendWith
  refine wpAny_bind (wpAny_typeOf (hT 0 _ hst₁) ?_)
  rw [if_neg (by rw [h1]; decide)]
  refine wpAny_bind (W.self 0 _ _ _ hst₁ ?_)
  refine wpAny_bind (wpAny_holding ?_)
  unfold Builtin.List.listLengthHint
  refine wpAny_bind (wpAny_specialOf (hT 0 _ hst₁) no_len ?_)
  show wpAny _ A.in1 (specialOf (Value.ref I) (Str.ofString "__length_hint__") >>= _) _ _ _
  refine wpAny_bind (wpAny_specialOf (hT 0 _ hst₁) no_hint ?_)
  refine wpAny_pure ?_
  show wpAny _ A.in1 (rule "list.extend.makes-room" >>= fun _ => Builtin.List.listTouch (.ref s.heap.objs.size) >>= fun _ =>
    again (.builtin "list.extend.loop" ⟨[.ref s.heap.objs.size, .ref I, .ref s.heap.objs.size], []⟩)) _ _ _
  refine wpAny_bind (wpAny_rule ?_)
  refine wpAny_bind ?_
  show wpAny _ A.in1 (updateSeq s.heap.objs.size (·.push .none) >>= fun _ => updateSeq s.heap.objs.size (·.pop)) _ _ _
  subst hO
  refine wpAny_bind (wpAny_updateSeq hS₁ rfl ?_)
  have hS₂ := Heap.get?_update_self (Obj.mapSeq (·.push Value.none)) hS₁ rfl
  refine wpAny_updateSeq hS₂ rfl ?_
  have hS₃ := Heap.get?_update_self (Obj.mapSeq (·.pop)) hS₂ rfl
  have oth : ∀ b o, b ≠ s.heap.objs.size → (s.heap.push { cls := .type "list", data := .seq ([] : List Value).toArray }).get? b = some o →
      (((s.heap.push { cls := .type "list", data := .seq ([] : List Value).toArray }).update s.heap.objs.size (Obj.mapSeq (·.push Value.none))).update s.heap.objs.size (Obj.mapSeq (·.pop))).get? b = some o :=
    fun b o hb e => (Heap.get?_update_other _ _ (Ne.symm hb)).trans ((Heap.get?_update_other _ _ (Ne.symm hb)).trans e)
  refine wpAny_pure ⟨plainId_quiet F.plain_extend_loop _, codeAny_extend_loopS W hn _ hSf _ n 0 _ _ _ rfl (Nat.zero_le _)
    (W.frame 0 ({ s with heap := s.heap.push { cls := .type "list", data := .seq ([] : List Value).toArray } } : Shared) _ s.toks hst₁ (Nat.le_refl _) fun b hb o e => oth b o (fun h => hSf (h ▸ hb)) e) hS₃ (ItemsOf.nil P) fun s' acc' c' hm hS' hacc => ?_⟩
  show wpAny _ A (load s.heap.objs.size >>= _) _ _ s'
  refine wpAny_bind (wpAny_load hS' ?_)
  refine wpAny_pure (hQ s' acc' (Moved.drop_new (o := { cls := .type "list", data := .seq ([] : List Value).toArray }) (tk := s.toks) (Moved.trans W.gtrans ((Moved.refl W.grefl).then_heap (Nat.le_refl _) fun b o hb e => ?_) hm) (Nat.le_refl _)) hacc)
  exact oth b o (fun h => hb (h ▸ List.mem_cons_self)) e
theorem new_tuple {I : Addr} {fp wr : List Addr} {G : Array GenState → Array GenState → Prop} {n : Nat} {P : Nat → Value → Prop} {St : Nat → Shared → Prop} {Q₁ : Value → Shared → Prop}
    (W : WalksS prog w A.in1.in1 I fp wr G n P St) (hT : ∀ i s, St i s → s.TypeIs (.ref I) "map") (hst : St 0 s) (hfp : ∀ b ∈ fp, b < s.heap.objs.size) (hI : I ∈ fp)
    (h : ∀ s' acc, Moved wr G s s' → ItemsOf P acc n → Q₁ (.ref s'.heap.objs.size) { s' with heap := s'.heap.push { cls := .type "tuple", data := .seq acc } }) (hsz : n ≤ sizeLine) :
    codeAny (model prog w) A (.call (.builtin "tuple.__new__") ⟨[.type "tuple", .ref I], []⟩) (wants Q₁ E) s := by
  refine codeAny_of_tree ?_
  show wpAny _ A.in1 (do checkBuiltinCall "tuple.__new__" ⟨[.type "tuple", .ref I], []⟩; again (.builtin "tuple.__new__" ⟨[.type "tuple", .ref I], []⟩)) _ _ s
  refine wpAny_bind (wpAny_of_eq (F.newCall_tuple_1 _) (wpAny_pure ⟨plainId_quiet F.plain_tuple_new _, codeAny_builtin F.entry_tuple_new ?_⟩))
  rw [Around.under_plainId F.plain_tuple_new _]
  have hsub := sub_tuple_self
  have hinit := init_tuple_lookup
  have hmh := madeHere_tuple
  have hTI := hT 0 s hst
  wp_walk using wpAny_typeOf hTI, collect_map W hT hst hfp hI
  · intro s' acc hm hacc
    show wpAny _ _ (Builtin.Tuple.tupleExact acc.toList.toArray >>= fun v => ret v) _ _ _
    unfold Builtin.Tuple.tupleExact
    refine wpAny_bind (wpAny_newObj_type ?_ (by show acc.toList.toArray.size ≤ sizeLine; simp only [Array.toArray_toList]; rw [hacc.1]; exact hsz))
    refine wpAny_pure ?_
    have e : acc.toList.toArray = acc := by simp
    rw [e]
    exact h s' acc hm hacc
  · exact hsz
theorem call_tuple {I : Addr} {fp wr : List Addr} {G : Array GenState → Array GenState → Prop} {n : Nat} {P : Nat → Value → Prop} {St : Nat → Shared → Prop} {Q : Value → Shared → Prop}
    (W : WalksS prog w A.in1.in1.in1 I fp wr G n P St) (hT : ∀ i s, St i s → s.TypeIs (.ref I) "map") (hst : St 0 s) (hfp : ∀ b ∈ fp, b < s.heap.objs.size) (hI : I ∈ fp)
    (hQ : ∀ s' acc, Moved wr G s s' → ItemsOf P acc n → Q (.ref s'.heap.objs.size) { s' with heap := s'.heap.push { cls := .type "tuple", data := .seq acc } }) (hsz : n ≤ sizeLine) :
    wpAny (model prog w) A (call (.type "tuple") [.ref I]) Q E s := by
  refine callType_codes (Q₁ := fun obj s₁ => s₁.TypeIs obj "tuple" ∧ Q obj s₁) F.called_tuple (F.typeCall_tuple_1 _) F.entry_object_init
    (new_tuple W hT hst hfp hI (fun s' acc hm hacc => ⟨⟨_, Heap.get?_push_size _ rfl, rfl⟩, hQ s' acc hm hacc⟩) hsz) fun obj s₁ h₁ => ?_
  exact ⟨h₁.1, F.args_object_init_2 obj _, object_init_meets F.called_tuple.init.lookup F.called_tuple.made (by decide) prog w A.in1 _ s₁ ⟨h₁.1, rfl, h₁.2⟩⟩
end
end MP
end Mine
end B7Part
section B8Part
open PySem PySem.W PyProof.Rows PySem.Calls
namespace Mine
namespace CT
abbrev tupN (its : Array Value) (n : Nat) : Obj := { cls := .type "tuple", data := .seq its n }
section
variable {prog : Program} {w : World} {A : Around} {E : Value → Shared → Prop} {s : Shared} {h₀ : Heap} {L : Addr} {m : Str → Option Value} {env : Env}
/-- a comprehension's source that is a tuple of the call's own -/
def SrcT (prog : Program) (w : World) (A : Around) (h₀ : Heap) (L : Addr) (m : Str → Option Value) (env : Env) (elt : Expr) (x : Str) (scope : Scope) (cl : List (Str × Addr)) (Fin : Shared → List Value → List (Addr × Obj) → Prop) (xv : Value) (s₁ : Shared) : Prop :=
  ∃ ax its n news, xv = .ref ax ∧ A.handled = none ∧ Fr h₀ L s₁.heap m ∧ News h₀ L s₁.heap news ∧ (ax, tupN its n) ∈ news ∧ its.size ≤ sizeLine ∧
    ∀ s₂ : Shared, (∃ h, s₂ = { s₁ with heap := h }) → LCg.CompRest prog w A h₀ L m env elt x scope cl s₂ (fun nw => (ax, tupN its n) ∈ nw) (fun i v => its[i]? = some v) (Fin s₂) its.size 0 [] news
theorem SrcT.ledger {elt : Expr} {x : Str} {scope : Scope} {cl : List (Str × Addr)} {Fin : Shared → List Value → List (Addr × Obj) → Prop} {ax : Addr} {its : Array Value} {n : Nat} {news : List (Addr × Obj)} {s₁ : Shared}
    (hh : A.handled = none) (F : Fr h₀ L s₁.heap m) (N : News h₀ L s₁.heap news) (hm : (ax, tupN its n) ∈ news) (hsz : its.size ≤ sizeLine)
    (h : ∀ g, LCg.CompRest prog w A h₀ L m env elt x scope cl { s₁ with heap := g } (fun nw => (ax, tupN its n) ∈ nw) (fun i v => its[i]? = some v) (Fin { s₁ with heap := g }) its.size 0 [] news) :
    SrcT prog w A h₀ L m env elt x scope cl Fin (.ref ax) s₁ := ⟨ax, its, n, news, rfl, hh, F, N, hm, hsz, fun _ ⟨g, e⟩ => e ▸ h g⟩
theorem tup_st {ax I : Addr} {its : Array Value} {n : Nat} : ∀ i (h h' : Heap) (o : Obj) (nw : List (Addr × Obj)), (h.IsTupleIter I ax i ∧ h.IsTuple ax its) → h.get? I = some o → h'.get? I = some o → (∀ b o, h₀.get? b = some o → h'.get? b = some o) → News h₀ L h' nw → (ax, tupN its n) ∈ nw → (h'.IsTupleIter I ax i ∧ h'.IsTuple ax its) :=
  fun i h h' o nw st e e' _ N S => ⟨by obtain ⟨o', q, r⟩ := st.1; rw [e] at q; cases q; exact ⟨o, e', r⟩, ⟨_, (N _ S).1, rfl, _, rfl⟩⟩
theorem Assign_ListComp_T {elt iter : Expr} {x y : Str} {px py : Pos} {scope : Scope} {cl : List (Str × Addr)} {pos spos : Pos} {Q : Flow → Shared → Prop} (F₀ : Fr h₀ L s.heap m) (hLe : env.locals = L)
    (hsw : swapsWith (.ListComp elt [⟨.Name x px, iter, [], 0⟩] scope pos) (some (.Name y py)) spos.line env = pure true)
    (hclos : closureFor scope env = pure cl) (hcell : ∀ z ∈ scope.names, z.2 ≠ .cell) (hkind : scope.kind = .function)
    (hnames : ∀ z ∈ scope.names, z.2 = .local → scope.names.lookup z.1 = some .local) (hx : scope.names.lookup x = some .local)
    (hy : env.kindOf y = some .local) (hp : (env.scope.kind == .class || (env.scope.kind == .module && env.locals != env.globals)) = false)
    (h : wpAny (model prog w) A (eval iter env) (SrcT prog w A h₀ L m env elt x scope cl (fun s₂ => LCg.FinA h₀ L m s₂ y Q)) E s)
    (hs : ∀ x, foldedSetIterable iter env x = pure x := by intro _; rfl) :
    wpAny (model prog w) A (exec (.Assign [.Name y py] (.ListComp elt [⟨.Name x px, iter, [], 0⟩] scope pos) spos) env) Q E s := by
  subst hLe
  rw [exec_Assign_Name_used _ _ _ _ hsw]
  refine wpAny_bind (wpAny_standAt (wpAny_bind ?_))
  show wpAny _ A (do let _ ← comprehension (.ListComp elt [⟨.Name x px, iter, [], 0⟩] scope pos) scope env _ (newList []) false (eval iter env) (some (assign (.Name y py) env))) _ _ s
  refine wpAny_bind (wpAny_mono (wpAny_comprehension_free (use := some (assign (.Name y py) env)) (Q := fun _ s' => Q .next s') rfl hs hclos hkind hnames
    (wpAny_mono h (fun xv s₁ h₁ => ?_) fun _ _ e => e)) (fun _ s' hq => wpAny_pure (wpAny_pure hq)) fun _ _ e => e)
  obtain ⟨ax, its, n, news, rfl, hh, F, N, S, hsz, R⟩ := h₁
  have ht : s₁.heap.IsTuple ax its := ⟨_, (N _ S).1, rfl, _, rfl⟩
  have hlt : ax < s₁.heap.objs.size := Heap.lt_size (N _ S).1
  refine wpAny_pyIter_tuple ht ?_
  have up : ∀ b o, s₁.heap.get? b = some o → (s₁.heap.push { cls := .type "tuple_iterator", data := .fields #[.ref ax, .int 0 0] }).get? b = some o := fun b o e => Heap.get?_push_of_some _ e
  refine LCg.block_U (Walks.tuple hh s₁.heap.objs.size ax (Nat.ne_of_lt hlt) its) hsz (fun i h st => by obtain ⟨o, e, _⟩ := st.1; exact ⟨o, e⟩) tup_st hcell hkind hx ⟨⟨_, Heap.get?_push_size _ rfl, rfl, rfl⟩, ⟨_, up _ _ (N _ S).1, rfl, _, rfl⟩⟩ (fun b hb => ?_)
    (F.keeps up) (N.grown up) (Nat.ne_of_lt F.ns.lt) (next_is_new F) (fun p hp => Nat.ne_of_lt (Heap.lt_size (N p hp).1)) S (R _ ⟨_, rfl⟩) ?_
  · show b < (s₁.heap.push _).objs.size
    rw [Heap.size_push]
    rcases List.mem_cons.mp hb with rfl | hb
    · exact Nat.lt_succ_self _
    · rw [List.mem_singleton.mp hb]; exact Nat.lt_succ_of_lt hlt
  · intro D C h' tk m' ys news' F' N' o1 hn hC₀ hD₀ hCL hDL hCD offC fin
    show wpAny _ A (assign (.Name y py) env (.ref D)) _ _ _
    refine wpAny_assign_Name (wpAny_storeName_local hy F'.ns (fun h₂ hn₂ hs₂ => ?_) hp)
    have hL₀ : h₀.get? env.locals = none := Heap.get?_none_of_le F'.above
    have F₂ : Fr h₀ env.locals h₂ (fun z => if z = y then some (.ref D) else m z) := ⟨hn₂, fun b o e => hs₂.extBut b o (fun q => by rw [q, hL₀] at e; cases e) (F'.keep b o e), F'.above⟩
    refine ⟨m', hn.sameBut hs₂ hCL, fun h'' hs'' => fin D h'' _ (F₂.change hs'' hCL hC₀) (fun p hp => ?_) o1⟩
    have z : h₂.get? p.1 = some p.2 := hs₂.extBut _ _ (N' p hp).2.1 (N' p hp).1
    refine ⟨hs''.extBut _ _ ?_ z, (N' p hp).2⟩
    rcases List.mem_cons.mp hp with rfl | hp
    · exact Ne.symm hCD
    · exact offC p hp
end
end CT
open BR
/-- the values are lists of the ledger that hold these bytes -/
inductive ListsB (nw : List (Addr × Obj)) : List Value → List (List (List UInt8)) → Prop where
  | nil : ListsB nw [] []
  | cons {a : Addr} {vs : List Value} {n : Nat} {bs : List (List UInt8)} {ys : List Value} {css : List (List (List UInt8))} : (a, listOf vs.toArray n) ∈ nw → AreB vs bs → ListsB nw ys css → ListsB nw (.ref a :: ys) (bs :: css)
theorem ListsB.mono {nw nw' : List (Addr × Obj)} {ys : List Value} {css : List (List (List UInt8))} (h : ListsB nw ys css) (hs : ∀ p ∈ nw, p ∈ nw') : ListsB nw' ys css := by
  induction h with
  | nil => exact .nil
  | cons hm hv _ ih => exact .cons (hs _ hm) hv ih
theorem ListsB.snoc {nw : List (Addr × Obj)} {ys : List Value} {css : List (List (List UInt8))} (h : ListsB nw ys css) {a : Addr} {vs : List Value} {n : Nat} {bs : List (List UInt8)} (hm : (a, listOf vs.toArray n) ∈ nw) (hv : AreB vs bs) : ListsB nw (ys ++ [.ref a]) (css ++ [bs]) := by
  induction h with
  | nil => exact .cons hm hv .nil
  | cons hm' hv' _ ih => exact .cons hm' hv' ih
theorem ListsB.length {nw : List (Addr × Obj)} {ys : List Value} {css : List (List (List UInt8))} (h : ListsB nw ys css) : ys.length = css.length := by
  induction h with
  | nil => rfl
  | cons _ _ _ ih => simp [ih]
theorem ListsB.of_get {nw : List (Addr × Obj)} {ys : List Value} {css : List (List (List UInt8))} (h : ListsB nw ys css) : ∀ {i : Nat} {v : Value}, ys[i]? = some v → ∃ a vs n bs, v = .ref a ∧ (a, listOf vs.toArray n) ∈ nw ∧ AreB vs bs ∧ css[i]? = some bs := by
  induction h with
  | nil => intro i v e; simp at e
  | cons hm hv _ ih =>
    intro i v e
    cases i with
    | zero => simp at e; subst e; exact ⟨_, _, _, _, rfl, hm, hv, rfl⟩
    | succ i => simpa using ih (by simpa using e)
end Mine
end B8Part
section B10Part
open PySem PySem.W PyProof.Rows
namespace Mine
namespace BR
section
variable {prog : Program} {w : World} {A : Around} {h₀ : Heap} {L : Addr} {m : Str → Option Value} {env : Env} {ct elt : Expr} {x : Str} {scope : Scope} {cl : List (Str × Addr)} {s : Shared} {S : List (Addr × Obj) → Prop} {P : Nat → Value → Prop} {Fin : List Value → List (Addr × Obj) → Prop} {news : List (Addr × Obj)}
/-- a list comprehension with a test, by an invariant -/
theorem comp_invT {n : Nat} (J : Nat → List Value → List (Addr × Obj) → Prop) (h0 : J 0 [] news)
    (turn : ∀ i v ys nw I oI C oC D m₂ h tk (E' : Value → Shared → Prop), i < n → J i ys nw → P i v → LCg.NsObj oC m₂ → m₂ x = some v → Fr h₀ L h m → News h₀ L h ((I, oI) :: (C, oC) :: (D, LCg.lst ys) :: nw) → LCg.Off3 I C D nw → ((@Ne Nat I C) ∧ (@Ne Nat I D) ∧ (@Ne Nat C D)) →
      wpAny (model prog w) A (isTrue ct (compEnvC scope cl C env) (eval ct (compEnvC scope cl C env))) (fun ok s' => if ok = true then
        wpAny (model prog w) A (eval elt (compEnvC scope cl C env)) (LCg.CompEnd h₀ L m { s with heap := h, toks := tk } I oI C oC D (LCg.lst ys) S (fun y nw' => J (i + 1) (ys ++ [y]) nw')) E' s'
        else LCg.CompEnd h₀ L m { s with heap := h, toks := tk } I oI C oC D (LCg.lst ys) S (fun _ nw' => J (i + 1) ys nw') Value.none s') E' { s with heap := h, toks := tk })
    (fin : ∀ ys nw, J n ys nw → Fin ys nw) : LCt.CompRestT prog w A h₀ L m env ct elt x scope cl s S P Fin n 0 [] news := by
  have key : ∀ (j i : Nat) (ys : List Value) (nw : List (Addr × Obj)), i + j = n → J i ys nw → LCt.CompRestT prog w A h₀ L m env ct elt x scope cl s S P Fin j i ys nw := by
    intro j
    induction j with
    | zero =>
      intro i ys nw hi hy
      have e : i = n := by omega
      subst e
      exact LCt.CompRestT.zero (fin ys nw hy)
    | succ j ih =>
      intro i ys nw hi hy
      refine LCt.CompRestT.succ ?_
      intro v I oI C oC D m₂ h tk E' hv hC hx F N off ne
      refine wpAny_mono (turn i v ys nw I oI C oC D m₂ h tk E' (by omega) hy hv hC hx F N off ne) (fun ok s₂ hq => ?_) fun _ _ e => e
      cases ok with
      | true =>
        rw [if_pos rfl] at hq ⊢
        refine wpAny_mono hq (fun y s₃ hq => ?_) fun _ _ e => e
        obtain ⟨h', tk', nw', e, F', N', off', hS, hj⟩ := hq
        exact ⟨h', tk', nw', e, F', N', off', hS, ih (i + 1) _ _ (by omega) hj⟩
      | false =>
        rw [if_neg Bool.false_ne_true] at hq ⊢
        obtain ⟨h', tk', nw', e, F', N', off', hS, hj⟩ := hq
        exact ⟨h', tk', nw', e, F', N', off', hS, ih (i + 1) _ _ (by omega) hj⟩
  exact key n 0 [] news (by omega) h0
end
end BR
/-- the names that commonpath keeps -/
def keepC (c : List UInt8) : Bool := !c.isEmpty && c != [46]
theorem keep_t {l : List (List UInt8)} {i : Nat} {c : List UInt8} (hc : l[i]? = some c) (h1 : c.isEmpty = false) (h2 : (c != [46]) = true) : (l.take (i + 1)).filter keepC = (l.take i).filter keepC ++ [c] := by
  rw [List.take_add_one, hc, List.filter_append]
  simp [keepC, h1, h2]
theorem keep_e {l : List (List UInt8)} {i : Nat} {c : List UInt8} (hc : l[i]? = some c) (h1 : c.isEmpty = true) : (l.take (i + 1)).filter keepC = (l.take i).filter keepC := by
  rw [List.take_add_one, hc, List.filter_append]
  simp [keepC, h1]
theorem keep_d {l : List (List UInt8)} {i : Nat} {c : List UInt8} (hc : l[i]? = some c) (h2 : (c != [46]) = false) : (l.take (i + 1)).filter keepC = (l.take i).filter keepC := by
  rw [List.take_add_one, hc, List.filter_append]
  simp [keepC, h2]
end Mine
end B10Part
section B9Part
open PySem PySem.W PyProof.Rows PySem.Calls
namespace Mine
namespace ST
abbrev t0 (led : Bool) : SetTable := .fresh 0 0 led
abbrev t1 (led : Bool) : SetTable := { SetTable.fresh 0 0 led with place := #[1] }
abbrev setNone (led : Bool) : Obj := { cls := .type "set", dict := none, data := .set #[] 0 (t0 led) }
abbrev setOne (led : Bool) : Obj := { cls := .type "set", dict := none, data := .set #[(1, .bool true)] 1 (t1 led) }
theorem lay_one (led : Bool) : layNew (t0 led) #[] 1 (.bool true) = (#[(1, .bool true)], t1 led, false, false) := by cases led <;> decide +kernel
theorem full_one (led : Bool) : (t1 led).tooFull = false := by cases led <;> decide +kernel
theorem slot_next : Slot "set_iterator" "__next__" "set_iterator.__next__" :=
  .of (owner := "set_iterator") (n := "__next__") (by rw [typeLookup_type, builtinLookup_eq_fast]; kernel_rfl) (by decide +kernel) (by decide +kernel) (by decide +kernel)
    (by first | exact .inl (by decide +kernel) | exact .inr (by decide +kernel)) (by rw [isSubtype_type]; kernel_rfl)
theorem entry_next : entryFor table "set_iterator.__next__" = some Builtin.«set_iterator.__next__» := entryFor_of_tree (by kernel_rfl)
theorem args_next (a : Value) : argsOk "set_iterator.__next__" ⟨[a], []⟩ := by unfold argsOk; kernel_rfl
theorem entry_iter : entryFor table "set.__iter__" = some Builtin.«frozenset.__iter__» :=
  entryFor_alias (id' := "frozenset.__iter__") (by kernel_rfl) rfl (by decide +kernel) (by kernel_rfl)
section
variable {prog : Program} {w : World} {A : Around} {E : Value → Shared → Prop} {s : Shared}
def byTxt (w : World) : Bool := w.params.followText "set-order"
theorem setsByText_is {Q : Bool → Shared → Prop} (h : Q (byTxt w) s) : wpAny (model prog w) A setsByText Q E s := by
  unfold setsByText
  exact wpAny_bind (wpAny_askSetting (wpAny_pure h))
theorem newSet_is {Q : Value → Shared → Prop} (h : Q (.ref s.heap.objs.size) { s with heap := s.heap.push (setNone (!byTxt w)) }) : wpAny (model prog w) A (newSet (.type "set")) Q E s := by
  unfold newSet
  refine wpAny_bind (setsByText_is ?_)
  exact wpAny_newObj_type h
theorem pyHash_true {Q : Int → Shared → Prop} (h : Q 1 { s with toks := s.toks + 1 }) : wpAny (model prog w) A (pyHash (.bool true)) Q E s := by
  unfold pyHash
  have hv : [Value.bool true].any Value.onHeap = false := rfl
  refine wpAny_bind ?_
  rw [cRoomFor, if_neg (by rw [hv]; exact Bool.false_ne_true)]; refine wpAny_pure ?_
  refine wpAny_bind (wpAny_specialOf (PySem.typeIs_bool s true) F.slot_bool_hash.lookup ?_)
  show wpAny _ _ (if (some (Value.builtin "int.__hash__") == some Value.none) = true then _ else _) Q E s
  rw [if_neg (by rw [beq_builtin_none]; exact Bool.false_ne_true)]
  refine wpAny_bind (wpAny_specialOf (PySem.typeIs_bool s true) F.slot_bool_hash.lookup ?_)
  show wpAny _ _ (callSpecialIfBoundUnlessNone? (.bool true) "__hash__" _ >>= _) Q E s
  refine wpAny_bind (wpAny_callSpecialIfBoundUnlessNone?_slot (PySem.typeIs_bool s true) F.slot_bool_hash
    (wpAny_call_entry F.slot_bool_hash (PySem.typeIs_bool s true) entry_int_hash
      (show wpAny _ _ (do ret (← mkInt (rawHash 1))) _ _ s from wpAny_ret_mkInt ?_) (args_int_hash _)))
  exact wpAny_pure h
theorem eqBool_true {Q : Bool → Shared → Prop} (h : Q true s) : wpAny (model prog w) A (eqBool (.bool true) (.bool true)) Q E s := by
  unfold eqBool
  refine wpAny_holding ?_
  rw [if_pos (show (Value.bool true == Value.bool true) = true from rfl)]
  exact wpAny_bind (wpAny_rule (wpAny_pure h))
theorem fits0 (led : Bool) : (t0 led).fits 0 = true := by cases led <;> rfl
theorem fits1 (led : Bool) : (t1 led).fits 1 = true := by cases led <;> rfl
theorem add_first {a : Addr} {led : Bool} {Q : Value → Shared → Prop} (ho : s.heap.get? a = some (setNone led))
    (h : ∀ h' k, h'.get? a = some (setOne led) → Heap.SameBut a s.heap h' → Q .none { s with heap := h', toks := k }) : wpAny (model prog w) A (call (.builtin "set.add") [.ref a, .bool true]) Q E s := by
  have hT : s.TypeIs (.ref a) "set" := ⟨_, ho, rfl⟩
  refine wpAny_call_entry F.slot_set_add hT F.entry_set_add ?_ (F.args_set_add_2 _ _)
  unfold Builtin.«set.add» Builtin.Frozenset.oneOther
  simp only [List.isEmpty_nil, bind_assoc]
  unfold Builtin.Frozenset.addrOf setAdd
  refine wpAny_bind (wpAny_pure ?_)
  try dsimp only
  refine wpAny_bind (wpAny_pure ?_)
  try dsimp only
  refine wpAny_bind ?_
  refine wpAny_holding ?_
  refine wpAny_bind (pyHash_true ?_)
  unfold setAddHashed setAddHashedIn
  refine wpAny_holding (wpAny_bind (wpAny_setState_of (s := { s with toks := s.toks + 1 }) ho rfl (fits0 led) ?_))
  dsimp only
  rw [show byScan (.bool true) #[] = true from by simp [byScan, Value.scannable, scanBound]]
  simp only [↓reduceIte]
  unfold setAddByScan
  refine wpAny_bind ?_
  refine wpAny_bind (wpAny_rule ?_)
  refine wpAny_bind (m := setScan _ _ _ _ _) (wpAny_pure (a := ScanMet.absent) ?_)
  dsimp only
  rw [lay_one]
  dsimp only
  refine wpAny_bind (wpAny_pure (a := ()) ?_)
  refine wpAny_bind (m := hashByValue 8 (.bool true)) (wpAny_pure (a := true) ?_)
  simp only [if_true]
  refine wpAny_bind (wpAny_storeSet_of (s := { s with toks := s.toks + 1 }) ho rfl ?_ (by rw [sizeLine_eq]; decide))
  rw [full_one]
  simp only [Bool.not_false, Bool.and_false, Bool.false_eq_true, if_false]
  refine wpAny_pure (wpAny_pure ?_)
  show wpAny _ _ (ret Value.none) _ _ _
  have hg := Heap.get?_update_self (Obj.putSet #[(1, Value.bool true)] (t1 led)) ho (by rfl)
  exact wpAny_pure ⟨_, rfl, h _ _ hg (Heap.SameBut.update ..)⟩
theorem add_again {a : Addr} {led : Bool} {Q : Value → Shared → Prop} (ho : s.heap.get? a = some (setOne led))
    (h : ∀ k, Q .none { s with toks := k }) : wpAny (model prog w) A (call (.builtin "set.add") [.ref a, .bool true]) Q E s := by
  have hT : s.TypeIs (.ref a) "set" := ⟨_, ho, rfl⟩
  refine wpAny_call_entry F.slot_set_add hT F.entry_set_add ?_ (F.args_set_add_2 _ _)
  unfold Builtin.«set.add» Builtin.Frozenset.oneOther
  simp only [List.isEmpty_nil, bind_assoc]
  unfold Builtin.Frozenset.addrOf setAdd
  refine wpAny_bind (wpAny_pure ?_)
  try dsimp only
  refine wpAny_bind (wpAny_pure ?_)
  try dsimp only
  refine wpAny_bind ?_
  refine wpAny_holding ?_
  refine wpAny_bind (pyHash_true ?_)
  unfold setAddHashed setAddHashedIn
  refine wpAny_holding (wpAny_bind (wpAny_setState_of (s := { s with toks := s.toks + 1 }) ho rfl (fits1 led) ?_))
  dsimp only
  rw [show byScan (.bool true) #[(1, .bool true)] = true from by simp [byScan, Value.scannable, scanBound]]
  simp only [↓reduceIte]
  unfold setAddByScan
  refine wpAny_bind ?_
  refine wpAny_bind (wpAny_rule ?_)
  refine wpAny_bind (m := setScan _ _ _ _ _) ?_
  show wpAny _ _ (setScanFrom a (.bool true) 1 true [(1, .bool true)] 0) _ _ _
  unfold setScanFrom
  rw [if_pos (by rfl)]
  refine wpAny_bind (wpAny_setEpoch_of (s := { s with toks := s.toks + 1 }) ho rfl (fits1 led) ?_)
  refine wpAny_bind (eqBool_true ?_)
  rw [if_pos (by rfl)]
  refine wpAny_pure (wpAny_pure (wpAny_pure ?_))
  show wpAny _ _ (ret Value.none) _ _ _
  exact wpAny_pure ⟨_, rfl, h _⟩
abbrev itO (a : Addr) (p i : Nat) : Obj := { cls := .type "set_iterator", data := .fields #[.int p 0, .int i 0, .ref a, .int 1 0, .int 1 0] }
theorem pick_one (f : Nat → Nat) (x : Int × Value) : pickOrder f #[x] = #[x] := by
  unfold pickOrder
  simp [pickOrder.go, Nat.mod_one]
theorem iter_one {a : Addr} {led : Bool} {Q : Value → Shared → Prop} (ho : s.heap.get? a = some (setOne led)) (h : Q (.ref s.heap.objs.size) { s with heap := s.heap.push (itO a 0 0) }) :
    wpAny (model prog w) A (pyIter (.ref a)) Q E s := by
  have hT : s.TypeIs (.ref a) "set" := ⟨_, ho, rfl⟩
  refine wpAny_pyIter_slot hT F.slot_set_iter (wpAny_call_entry F.slot_set_iter hT entry_iter ?_ (F.args_set_iter_1 _))
  unfold Builtin.«frozenset.__iter__» Builtin.Frozenset.slot0 slotArgs
  simp only [List.isEmpty_nil, Bool.not_true, Bool.false_eq_true, ↓reduceIte, bind_assoc, List.length_nil, bne_self_eq_false]
  unfold Builtin.Frozenset.addrOf Builtin.Frozenset.sizeOf
  refine wpAny_bind (wpAny_pure ?_)
  try dsimp only
  refine wpAny_bind (wpAny_pure ?_)
  refine wpAny_bind (wpAny_bind (wpAny_setEntries_of ho rfl (fits1 led) (wpAny_pure ?_)))
  unfold setDrawn
  refine wpAny_bind (wpAny_bind (wpAny_setState_of ho rfl (fits1 led) ?_))
  dsimp only
  refine wpAny_bind (setsByText_is (wpAny_pure ?_))
  rw [if_neg (by cases byTxt w <;> cases led <;> exact Bool.false_ne_true)]
  refine wpAny_bind (wpAny_pure ?_)
  refine wpAny_bind (wpAny_setEpoch_of ho rfl (fits1 led) ?_)
  exact wpAny_bind (wpAny_newObj_type (wpAny_pure ⟨_, rfl, "set_iterator", _, ⟨_, Heap.get?_push_size _ rfl, rfl⟩, slot_next.lookup, h⟩))

theorem setWalk_one {a : Addr} {Q : Array (Int × Value) → Shared → Prop} (hb : byTxt w = true) {led : Bool} (ho : s.heap.get? a = some (setOne led)) (h : Q #[(1, .bool true)] s) : wpAny (model prog w) A (setWalk a) Q E s := by
  unfold setWalk
  refine wpAny_bind (wpAny_setState_of ho rfl (fits1 _) ?_)
  dsimp only
  refine wpAny_bind (setsByText_is ?_)
  rw [if_pos hb]
  refine wpAny_bind (wpAny_askSetting ?_)
  rw [pick_one]
  exact wpAny_pure h
theorem setNext_item {a : Addr} {Q : Option (Value × Nat) → Shared → Prop} (ho : s.heap.get? a = some (setOne (!byTxt w))) (h : ∀ p, (byTxt w = false → p = 2) → Q (some (.bool true, p)) s) : wpAny (model prog w) A (setNext a 0 0 1) Q E s := by
  unfold setNext
  refine wpAny_bind (wpAny_setState_of ho rfl (fits1 _) ?_)
  dsimp only
  refine wpAny_bind (setsByText_is ?_)
  cases hb : byTxt w with
  | true =>
    rw [if_pos rfl, if_neg (by decide)]
    refine wpAny_bind (setWalk_one hb ho ?_)
    exact wpAny_pure (h 0 fun e => by rw [hb] at e; cases e)
  | false =>
    rw [if_neg Bool.false_ne_true]
    rw [if_neg (by exact Bool.false_ne_true)]
    refine wpAny_bind (wpAny_pure (a := ()) ?_)
    exact wpAny_pure (h 2 fun _ => rfl)
theorem setNext_end {a : Addr} {p : Nat} {Q : Option (Value × Nat) → Shared → Prop} (ho : s.heap.get? a = some (setOne (!byTxt w))) (hp : byTxt w = false → p = 2) (h : Q none s) : wpAny (model prog w) A (setNext a p 1 1) Q E s := by
  unfold setNext
  refine wpAny_bind (wpAny_setState_of ho rfl (fits1 _) ?_)
  dsimp only
  refine wpAny_bind (setsByText_is ?_)
  cases hb : byTxt w with
  | true =>
    rw [if_pos rfl, if_neg (by decide)]
    refine wpAny_bind (setWalk_one hb ho ?_)
    exact wpAny_pure h
  | false =>
    obtain rfl := hp hb
    rw [if_neg Bool.false_ne_true]
    rw [if_neg (by exact Bool.false_ne_true)]
    refine wpAny_bind (wpAny_pure (a := ()) ?_)
    exact wpAny_pure h
theorem next_item {it a : Addr} {Q : Option Value → Shared → Prop} (hi : s.heap.get? it = some (itO a 0 0)) (ho : s.heap.get? a = some (setOne (!byTxt w)))
    (h : ∀ h' p, h'.get? it = some (itO a p 1) → (byTxt w = false → p = 2) → Heap.SameBut it s.heap h' → Q (some (.bool true)) { s with heap := h' }) : wpAny (model prog w) A (pyNext (.ref it)) Q E s := by
  have hT : s.TypeIs (.ref it) "set_iterator" := ⟨_, hi, rfl⟩
  unfold pyNext
  refine wpAny_bind (wpAny_attempt (wpAny_callSpecial?_slot (name := Str.ofString "__next__") hT slot_next (wpAny_call_entry slot_next hT entry_next ?_ (args_next _))))
  show wpAny _ _ (slotArgs "__next__" 0 ⟨[.ref it], []⟩ >>= _) _ _ s
  refine wpAny_bind (wpAny_pure ?_)
  refine wpAny_bind (wpAny_fieldsOf hi rfl ?_)
  dsimp only
  refine wpAny_bind (wpAny_setEntries_of ho rfl (fits1 _) ?_)
  rw [if_neg (by decide)]
  refine wpAny_bind (setNext_item ho fun p hp => ?_)
  dsimp only
  refine wpAny_bind (wpAny_setField hi rfl (by simp) ?_)
  have h1 := Heap.get?_update_self (Obj.mapFields (·.setIfInBounds 0 (rawInt p))) hi (by rfl)
  refine wpAny_bind (wpAny_setField h1 rfl (by simp) ?_)
  have h2 := Heap.get?_update_self (Obj.mapFields (·.setIfInBounds 1 (rawInt (((0 : Nat) : Int) + 1)))) h1 (by rfl)
  exact wpAny_pure ⟨_, rfl, wpAny_pure (h _ p h2 hp ((Heap.SameBut.update ..).trans (Heap.SameBut.update ..)))⟩
theorem next_end {it a : Addr} {p : Nat} {Q : Option Value → Shared → Prop} (hh : A.handled = none) (hp : byTxt w = false → p = 2) (hi : s.heap.get? it = some (itO a p 1)) (ho : s.heap.get? a = some (setOne (!byTxt w)))
    (hQ : ∀ h', Heap.ExtBut it s.heap h' → Q none { s with heap := h' }) : wpAny (model prog w) A (pyNext (.ref it)) Q E s := by
  have hT : s.TypeIs (.ref it) "set_iterator" := ⟨_, hi, rfl⟩
  unfold pyNext
  refine wpAny_bind (wpAny_attempt (wpAny_callSpecial?_slot (name := Str.ofString "__next__") hT slot_next (wpAny_call_entry slot_next hT entry_next ?_ (args_next _))))
  show wpAny _ _ (slotArgs "__next__" 0 ⟨[.ref it], []⟩ >>= _) _ _ s
  refine wpAny_bind (wpAny_pure ?_)
  refine wpAny_bind (wpAny_fieldsOf hi rfl ?_)
  dsimp only
  refine wpAny_bind (wpAny_setEntries_of ho rfl (fits1 _) ?_)
  rw [if_neg (by decide)]
  refine wpAny_bind (setNext_end ho hp ?_)
  dsimp only
  refine wpAny_bind (wpAny_setField hi rfl (by simp) ?_)
  refine wpAny_bind ?_
  simp only [newExc, newTuple]
  refine wpAny_bind (wpAny_newObj_type ?_ (by size_fits))
  refine wpAny_bind (m := firstArgMember _ _) (wpAny_of_eq (a := Value.none) (by first | rfl | (simp only [firstArgMember]; rfl)) ?_)
  refine wpAny_newObj_type ?_ (by size_fits)
  simp only [raiseNew]
  refine wpAny_bind (wpAny_handled ?_)
  first | rw [show A.in1.handled = none from hh] | rw [hh]
  refine wpAny_bind (wpAny_pure (wpAny_throw ?_))
  refine wpAny_bind (wpAny_isInstance (T := "StopIteration") (b := true) ⟨_, Heap.get?_push_size _ rfl, rfl⟩ isSubtype_stop ?_)
  exact wpAny_pure (hQ _ (((Heap.SameBut.update ..).extBut.push _).push _))
theorem unpack_one {a : Addr} {Q : List Value → Shared → Prop} (hh : A.handled = none) (ho : s.heap.get? a = some (setOne (!byTxt w)))
    (hQ : ∀ h', Heap.ExtBut s.heap.objs.size s.heap h' → Q [.bool true] { s with heap := h' }) : wpAny (model prog w) A (unpackItems (.ref a) 1 none) Q E s := by
  have hT : s.TypeIs (.ref a) "set" := ⟨_, ho, rfl⟩
  have hlt : a ≠ s.heap.objs.size := Nat.ne_of_lt (Heap.lt_size ho)
  unfold unpackItems
  refine wpAny_bind ?_
  unfold notIterableAtAll
  refine wpAny_bind (wpAny_specialOf hT F.slot_set_iter.lookup ?_)
  refine wpAny_pure ?_
  simp only [Bool.false_eq_true, if_false]
  refine wpAny_bind (wpAny_holding (iter_one ho ?_))
  have ho1 := Heap.get?_push_of_some (itO a 0 0) ho
  refine wpAny_bind (wpAny_holding ?_)
  show wpAny _ _ (pyNext (.ref s.heap.objs.size) >>= _) _ _ _
  refine wpAny_bind (next_item (Heap.get?_push_size _ rfl) ho1 fun h₁ p hi₁ hp hs₁ => ?_)
  refine wpAny_bind (wpAny_holding (wpAny_pure (wpAny_pure ?_)))
  rw [if_neg (by simp)]
  refine wpAny_bind (wpAny_holding (next_end hh hp hi₁ (hs₁.extBut _ _ hlt ho1) fun h₂ he₂ => ?_))
  simp only [Option.isSome_none, Bool.false_eq_true, if_false]
  exact wpAny_pure (hQ h₂ fun b o hb e => he₂ b o hb (hs₁.extBut b o hb (Heap.get?_push_of_some _ e)))
theorem assign_one {env : Env} {y : Str} {py : Pos} {x1} {pos : Pos} {a : Addr} {Q : Unit → Shared → Prop} (hh : A.handled = none) (ho : s.heap.get? a = some (setOne (!byTxt w)))
    (h : ∀ h', Heap.ExtBut s.heap.objs.size s.heap h' → wpAny (model prog w) A (assign (.Name y py) env (.bool true)) Q E { s with heap := h' }) :
    wpAny (model prog w) A (assign (.Tuple [.Name y py] x1 pos) env (.ref a)) Q E s := by
  rw [arm_assign_Tuple]
  refine wpAny_bind (wpAny_standAt ?_)
  unfold unpack
  refine wpAny_bind (wpAny_holding (unpack_one hh ho fun h' he => ?_))
  exact wpAny_bind (wpAny_holding (wpAny_mono (h h' he) (fun _ _ q => wpAny_pure q) fun _ _ e => e))

theorem codeAny_compStart_set {elt target iter ifs rest scope pos it acc env} {R : Result → Shared → Prop}
    (h0 : codeAny (model prog w) A (.compLoop (.SetComp elt (⟨target, iter, ifs, 0⟩ :: rest) scope pos) 0 it acc env) R s)
    (h : wpAny (model prog w) A (pyIter it) (fun it' s' => codeAny (model prog w) A (.compLoop (.SetComp elt (⟨target, iter, ifs, 0⟩ :: rest) scope pos) 0 it' acc env) R s')
      (notedBy (model prog w) A env fun x s' => R (.error x) s') s) :
    codeAny (model prog w) A (.compStart (.SetComp elt (⟨target, iter, ifs, 0⟩ :: rest) scope pos) 0 it acc env) R s := by
  refine codeAny_of_tree ?_
  show wpAny _ A ((compStart (.SetComp elt (⟨target, iter, ifs, 0⟩ :: rest) scope pos) 0 it acc env).onRaise (fun x => do noteFrame x env; standAt theWindowsPlace)) _ _ s
  refine wpAny_notedAt ?_
  unfold compStart
  show wpAny _ A (ask >>= _) _ _ s
  refine wpAny_bind (wpAny_askSetting (wpAny_ite ?_))
  split
  · first
      | exact wpAny_bind (wpAny_pure (wpAny_pure (And.intro rfl h0)))
      | exact wpAny_pure (And.intro rfl h0)
  · first
      | exact wpAny_bind (wpAny_rule (wpAny_bind (wpAny_standAt (wpAny_bind (wpAny_mono h (fun it' s' h' => wpAny_pure (And.intro rfl h')) fun _ _ x => x)))))
      | (refine wpAny_bind (wpAny_rule ?_); show wpAny _ _ (standAt iter.pos >>= _) _ _ s; exact wpAny_bind (wpAny_standAt (wpAny_bind (wpAny_mono h (fun it' s' h' => wpAny_pure (And.intro rfl h')) fun _ _ x => x))))
theorem compTurn_set1 (elt target iter : Expr) (scope : Scope) (pos : Pos) (it acc : Value) (env : Env) :
    compTurn (.SetComp elt [⟨target, iter, [], 0⟩] scope pos) 0 it acc env = (standAt iter.pos >>= fun _ => pyNext it >>= fun r => match r with
      | none => pure (.done .next)
      | some v => letOwnedTupleGo target it v >>= fun _ => assign target env v >>= fun _ =>
        (eval elt env >>= fun x => standAt elt.pos >>= fun _ => call (.builtin "set.add") [acc, x] >>= fun _ => pure ()) >>= fun _ =>
          again (.compLoop (.SetComp elt [⟨target, iter, [], 0⟩] scope pos) 0 it acc env)) := by rfl
theorem codeAny_compLoop_set {elt target iter : Expr} {scope : Scope} {pos : Pos} {it acc : Value} {env : Env} {R : Result → Shared → Prop} (I : Nat → Shared → Prop)
    (turn : ∀ n s, I n s → wpAny (model prog w) A (pyNext it) (fun r s₁ => match r with
      | none => R (.ok .next) s₁
      | some v => wpAny (model prog w) A (assign target env v) (fun _ s₂ => wpAny (model prog w) A (eval elt env) (fun x s₃ =>
          wpAny (model prog w) A (call (.builtin "set.add") [acc, x]) (fun _ s₄ => ∃ m, m < n ∧ I m s₄) (notedBy (model prog w) A env fun e s' => R (.error e) s') s₃)
            (notedBy (model prog w) A env fun e s' => R (.error e) s') s₂) (notedBy (model prog w) A env fun e s' => R (.error e) s') s₁) (notedBy (model prog w) A env fun e s' => R (.error e) s') s)
    (n : Nat) (h : I n s) (ht : ∀ v, letOwnedTupleGo target it v = pure () := by intro _; rfl) :
    codeAny (model prog w) A (.compLoop (.SetComp elt [⟨target, iter, [], 0⟩] scope pos) 0 it acc env) R s := by
  refine codeAny_loop rfl I (fun n s hI => ?_) n h
  show wpAny _ A ((compTurn (.SetComp elt [⟨target, iter, [], 0⟩] scope pos) 0 it acc env).onRaise (fun x => do noteFrame x env; theTreesLotGoes x)) _ _ s
  refine wpAny_noted ?_
  rw [compTurn_set1]
  refine wpAny_bind (wpAny_standAt (wpAny_bind (wpAny_mono (turn n s hI) (fun r s₁ h₁ => ?_) fun _ _ h' => h')))
  cases r with
  | none => exact wpAny_pure h₁
  | some v =>
    refine wpAny_bind (wpAny_of_eq (ht v) ?_)
    refine wpAny_bind (wpAny_mono h₁ (fun _ s₂ h₂ => ?_) fun _ _ h' => h')
    exact wpAny_bind (wpAny_bind (wpAny_mono h₂ (fun x s₄ h₄ => wpAny_bind (wpAny_standAt (wpAny_bind (wpAny_mono h₄ (fun _ s₅ h₅ => wpAny_pure (wpAny_pure ⟨rfl, h₅⟩)) fun _ _ h' => h')))) fun _ _ h' => h'))
abbrev stO (led : Bool) : Nat → Obj
  | 0 => setNone led
  | _ + 1 => setOne led
theorem add_at {a : Addr} {led : Bool} {i : Nat} {Q : Value → Shared → Prop} (ho : s.heap.get? a = some (stO led i))
    (h : ∀ h' k, h'.get? a = some (stO led (i + 1)) → Heap.SameBut a s.heap h' → Q .none { s with heap := h', toks := k }) : wpAny (model prog w) A (call (.builtin "set.add") [.ref a, .bool true]) Q E s := by
  cases i with
  | zero => exact add_first ho h
  | succ i => exact add_again ho fun k => h s.heap k ho (Heap.SameBut.refl ..)

open LCg in
theorem block_S {elt iter : Expr} {x : Str} {px : Pos} {scope : Scope} {cl : List (Str × Addr)} {pos : Pos} {s₂ : Shared} {I : Addr} {fp : List Addr} {n : Nat} {P : Nat → Value → Prop} {St : Nat → Heap → Prop} {S : List (Addr × Obj) → Prop} {news : List (Addr × Obj)} {h₀ : Heap} {L : Addr} {m : Str → Option Value} {env : Env}
    {RR : Value → Addr → Result → Shared → Prop}
    (W : Walks prog w A I fp [I] n P St) (hIo : ∀ i h, St i h → ∃ o, h.get? I = some o)
    (hSt : ∀ i h h' o nw, St i h → h.get? I = some o → h'.get? I = some o → (∀ b o, h₀.get? b = some o → h'.get? b = some o) → News h₀ L h' nw → S nw → St i h')
    (hcell : ∀ y ∈ scope.names, y.2 ≠ .cell) (hkind : scope.kind = .function) (hx : scope.names.lookup x = some .local) (hst : St 0 s₂.heap) (hfp : ∀ b ∈ fp, b < s₂.heap.objs.size)
    (F : Fr h₀ L s₂.heap m) (N : News h₀ L s₂.heap news) (hIL : L ≠ I) (hI₀ : h₀.get? I = none) (off : ∀ p ∈ news, p.1 ≠ I) (hS : S news)
    (R : ∀ i v I oI C oC D oD m₂ h tk (E' : Value → Shared → Prop), i < n → P i v → NsObj oC m₂ → m₂ x = some v → Fr h₀ L h m → News h₀ L h ((I, oI) :: (C, oC) :: (D, oD) :: news) → Off3 I C D news → ((@Ne Nat I C) ∧ (@Ne Nat I D) ∧ (@Ne Nat C D)) →
      wpAny (model prog w) A (eval elt (compEnvC scope cl C env)) (CompEnd h₀ L m { s₂ with heap := h, toks := tk } I oI C oC D oD (fun nw => nw = news) (fun y _ => y = .bool true)) E' { s₂ with heap := h, toks := tk })
    (hRR : ∀ D C h tk m', Fr h₀ L h m → News h₀ L h ((D, stO (!byTxt w) n) :: news) → Off1 D news → h.Ns C m' → h₀.get? C = none → h₀.get? D = none → C ≠ L → D ≠ L → C ≠ D → (∀ p ∈ news, p.1 ≠ C) → RR (.ref D) C (.ok .next) { s₂ with heap := h, toks := tk }) :
    wpAny (model prog w) A (newSet (.type "set")) (fun acc s₃ => wpAny (model prog w) A (newFunctionEnv scope env.globals cl [] env.qual none .none (some env)) (fun cenv s₄ =>
      codeAny (model prog w) A (.compStart (.SetComp elt [⟨.Name x px, iter, [], 0⟩] scope pos) 0 (.ref I) acc { cenv with scope := relabel scope env }) (RR acc cenv.locals) s₄) E s₃) E s₂ := by
  refine newSet_is (wpAny_newFunctionEnv hcell (by intro y hy; simp at hy) (fun h₁ hns₁ hsb₁ => ?_) hkind)
  dsimp only at hns₁ hsb₁ ⊢
  generalize hH2 : s₂.heap.push (setNone (!byTxt w)) = H2 at hns₁ hsb₁ ⊢
  have hC : H2.objs.size = s₂.heap.objs.size + 1 := by rw [← hH2, Heap.size_push]
  have hDC : s₂.heap.objs.size ≠ H2.objs.size := by rw [hC]; exact Nat.ne_of_lt (Nat.lt_succ_self _)
  have below : ∀ b, b < s₂.heap.objs.size → b ≠ H2.objs.size ∧ b ≠ s₂.heap.objs.size := fun b hb => ⟨by rw [hC]; exact Nat.ne_of_lt (Nat.lt_succ_of_lt hb), Nat.ne_of_lt hb⟩
  have hDf : s₂.heap.objs.size ∉ fp := fun hm => Nat.lt_irrefl _ (hfp _ hm)
  have hCf : H2.objs.size ∉ fp := fun hm => by have := hfp _ hm; rw [hC] at this; exact Nat.lt_irrefl _ (Nat.lt_of_succ_lt this)
  have hIf : I ∈ fp := W.sub I (List.mem_singleton.mpr rfl)
  have hIlt : I < s₂.heap.objs.size := hfp I hIf
  have old : ∀ b o, s₂.heap.get? b = some o → h₁.get? b = some o := fun b o e => hsb₁.extBut b o (below b (Heap.lt_size e)).1 (Heap.get?_push_of_some _ (hH2 ▸ Heap.get?_push_of_some _ e))
  have hacc : h₁.get? s₂.heap.objs.size = some (setNone (!byTxt w)) := hsb₁.extBut _ _ hDC (Heap.get?_push_of_some _ (hH2 ▸ Heap.get?_push_size _ rfl))
  have hst₁ : St 0 h₁ := W.frame _ _ _ hst fun b _ o e => old b o e
  have fresh : ∀ a, s₂.heap.objs.size ≤ a → s₂.heap.get? a = none := fun a ha => by
    cases e : s₂.heap.get? a with
    | none => rfl
    | some o' => exact absurd (Heap.lt_size e) (Nat.not_lt.mpr ha)
  have fresh₀ : ∀ a, s₂.heap.objs.size ≤ a → h₀.get? a = none := fun a ha => by
    cases e : h₀.get? a with
    | none => rfl
    | some o' => have := F.keep a o' e; rw [fresh a ha] at this; cases this
  have hD₀ : h₀.get? s₂.heap.objs.size = none := fresh₀ _ (Nat.le_refl _)
  have hC₀ : h₀.get? H2.objs.size = none := fresh₀ _ (by rw [hC]; exact Nat.le_succ _)
  have hLlt : L < s₂.heap.objs.size := F.ns.lt
  have hDL : s₂.heap.objs.size ≠ L := Ne.symm (below L hLlt).2
  have hCL : H2.objs.size ≠ L := Ne.symm (below L hLlt).1
  have hCI : I ≠ H2.objs.size := (below I hIlt).1
  have hDI : I ≠ s₂.heap.objs.size := (below I hIlt).2
  have off₀ : Off3 I H2.objs.size s₂.heap.objs.size news := Off3.of fun p hp => ⟨off p hp, (below _ (Heap.lt_size (N p hp).1)).1, (below _ (Heap.lt_size (N p hp).1)).2⟩
  have loop : ∀ s₃ : Shared, s₃ = { s₂ with heap := h₁, toks := s₂.toks + ([] : List (Str × Value)).length } →
      codeAny (model prog w) A (.compLoop (.SetComp elt [⟨.Name x px, iter, [], 0⟩] scope pos) 0 (.ref I) (.ref s₂.heap.objs.size) (compEnvC scope cl H2.objs.size env))
        (RR (.ref s₂.heap.objs.size) H2.objs.size) s₃ := by
    rintro s₃ rfl
    refine codeAny_compLoop_set
      (fun k s' => ∃ h' tk i m', s' = { s₂ with heap := h', toks := tk } ∧ i ≤ n ∧ k = n + 1 - i ∧ St i h' ∧ Fr h₀ L h' m ∧ h'.Ns H2.objs.size m' ∧ News h₀ L h' ((s₂.heap.objs.size, stO (!byTxt w) i) :: news)) ?_ (n + 1)
      ⟨h₁, _, 0, _, rfl, Nat.zero_le _, rfl, hst₁, F.keeps old, hns₁, fun p hp => ?_⟩
    · rintro k s' ⟨h', tk, i, m', rfl, hi, rfl, hst', F', hn', N'⟩
      have off3 := off₀.mem
      by_cases hlt : i < n
      · refine W.item i _ _ _ hlt hst' fun v h₂ tk₂ hPv hst₂ hk₂ => ?_
        refine wpAny_assign_Name (wpAny_storeName_local (lookup_relabel_local hx) (hn'.at' fun o e => hk₂ _ o (by simpa using Ne.symm hCI) e) (fun h₃ hn₃ hs₃ => ?_) (by simp [compEnvC, relabel, hkind]))
        have hst₃ : St (i + 1) h₃ := W.frame _ _ _ hst₂ fun b hb o e => hs₃.extBut b o (fun q => hCf (by have q' : b = H2.objs.size := q; rw [← q']; exact hb)) e
        obtain ⟨oI, heI⟩ := hIo _ _ hst₃
        obtain ⟨oC, heC, hoC⟩ := ns_obj hn₃
        have F₃ : Fr h₀ L h₃ m := (fr_but F' hk₂ hIL hI₀).change hs₃ hCL hC₀
        have N₂ : News h₀ L h₂ ((s₂.heap.objs.size, stO (!byTxt w) i) :: news) := news_but N' hk₂ fun p hp => by
          rcases List.mem_cons.mp hp with rfl | hp
          · exact Ne.symm hDI
          · exact (off3 p hp).1
        have N₃ : News h₀ L h₃ ((I, oI) :: (H2.objs.size, oC) :: (s₂.heap.objs.size, stO (!byTxt w) i) :: news) := fun p hp => by
          rcases List.mem_cons.mp hp with rfl | hp
          · exact ⟨heI, Ne.symm hIL, hI₀⟩
          · rcases List.mem_cons.mp hp with rfl | hp
            · exact ⟨heC, hCL, hC₀⟩
            · have z := N₂ p hp
              refine ⟨hs₃.extBut _ _ ?_ z.1, z.2⟩
              rcases List.mem_cons.mp hp with rfl | hp
              · exact hDC
              · exact (off3 p hp).2.1
        refine wpAny_mono (R i v I oI H2.objs.size oC s₂.heap.objs.size _ _ h₃ _ _ hlt hPv hoC (by simp) F₃ N₃ off₀ ⟨hCI, hDI, Ne.symm hDC⟩) (fun y s₄ h₄ => ?_) fun _ _ e => e
        obtain ⟨h₄, tk₄, news₄, rfl, F₄, N₄, off₄, rfl, rfl⟩ := h₄
        have zI := (N₄ (I, oI) List.mem_cons_self).1
        have zC := (N₄ (H2.objs.size, oC) (List.mem_cons_of_mem _ List.mem_cons_self)).1
        have zD := (N₄ (s₂.heap.objs.size, stO (!byTxt w) i) (List.mem_cons_of_mem _ (List.mem_cons_of_mem _ List.mem_cons_self))).1
        have N₄' : News h₀ L h₄ news₄ := fun p hp => N₄ p (List.mem_cons_of_mem _ (List.mem_cons_of_mem _ (List.mem_cons_of_mem _ hp)))
        have hst₄ : St (i + 1) h₄ := hSt _ _ _ _ _ hst₃ heI zI F₄.keep N₄' hS
        refine add_at zD fun h₅ k₅ hD₅ hs₅ => ?_
        refine ⟨n + 1 - (i + 1), by omega, h₅, k₅, i + 1, _, rfl, hlt, rfl, W.frame _ _ _ hst₄ fun b hb o e => hs₅.extBut b o (fun q => hDf (q ▸ hb)) e, F₄.change hs₅ hDL hD₀,
          (hoC.ns zC).sameBut hs₅ (Ne.symm hDC), fun p hp => ?_⟩
        rcases List.mem_cons.mp hp with rfl | hp
        · exact ⟨hD₅, hDL, hD₀⟩
        · exact ⟨hs₅.extBut _ _ (off3 p hp).2.2 (N₄' p hp).1, (N₄' p hp).2⟩
      · obtain rfl : i = n := Nat.le_antisymm hi (Nat.not_lt.mp hlt)
        refine W.done _ _ _ hst' fun h₂ tk₂ hk₂ => ?_
        exact hRR _ _ h₂ tk₂ _ (fr_but F' hk₂ hIL hI₀) (news_but N' hk₂ fun p hp => by
          rcases List.mem_cons.mp hp with rfl | hp
          · exact Ne.symm hDI
          · exact (off3 p hp).1) off₀.one (hn'.at' fun o e => hk₂ _ o (by simpa using Ne.symm hCI) e) hC₀ hD₀ hCL hDL (Ne.symm hDC) (fun p hp => (off3 p hp).2.1)
    · rcases List.mem_cons.mp hp with rfl | hp
      · exact ⟨hacc, hDL, hD₀⟩
      · exact ⟨old _ _ (N p hp).1, (N p hp).2⟩
  exact codeAny_compStart_set (loop _ rfl) (W.self 0 _ _ _ hst₁ (loop _ rfl))
section
open LCg
variable {h₀ : Heap} {L : Addr} {m : Str → Option Value} {env : Env}
def SrcS (prog : Program) (w : World) (A : Around) (h₀ : Heap) (L : Addr) (m : Str → Option Value) (env : Env) (elt : Expr) (x : Str) (scope : Scope) (cl : List (Str × Addr)) (Q : Value → Shared → Prop) (xv : Value) (s₁ : Shared) : Prop :=
  ∃ ax its n news, xv = .ref ax ∧ A.handled = none ∧ Fr h₀ L s₁.heap m ∧ News h₀ L s₁.heap news ∧ (ax, CT.tupN its n) ∈ news ∧ 0 < its.size ∧
    (∀ (i : Nat) v I oI C oC D oD m₂ h tk (E' : Value → Shared → Prop), its[i]? = some v → NsObj oC m₂ → m₂ x = some v → Fr h₀ L h m → News h₀ L h ((I, oI) :: (C, oC) :: (D, oD) :: news) → Off3 I C D news → ((@Ne Nat I C) ∧ (@Ne Nat I D) ∧ (@Ne Nat C D)) →
      wpAny (model prog w) A (eval elt (compEnvC scope cl C env)) (CompEnd h₀ L m { s₁ with heap := h, toks := tk } I oI C oC D oD (fun nw => nw = news) (fun y _ => y = .bool true)) E' { s₁ with heap := h, toks := tk }) ∧
    (∀ D h tk, Fr h₀ L h m → News h₀ L h ((D, setOne (!byTxt w)) :: news) → Off1 D news → Q (.ref D) { s₁ with heap := h, toks := tk })
theorem eval_Set {elt iter : Expr} {x : Str} {px : Pos} {scope : Scope} {cl : List (Str × Addr)} {pos : Pos} {Q : Value → Shared → Prop} (F₀ : Fr h₀ L s.heap m) (hLe : env.locals = L)
    (hclos : closureFor scope env = pure cl) (hcell : ∀ z ∈ scope.names, z.2 ≠ .cell) (hkind : scope.kind = .function)
    (hnames : ∀ z ∈ scope.names, z.2 = .local → scope.names.lookup z.1 = some .local) (hx : scope.names.lookup x = some .local)
    (h : wpAny (model prog w) A (eval iter env) (SrcS prog w A h₀ L m env elt x scope cl Q) E s)
    (hs : ∀ x, foldedSetIterable iter env x = pure x := by intro _; rfl) :
    wpAny (model prog w) A (eval (.SetComp elt [⟨.Name x px, iter, [], 0⟩] scope pos) env) Q E s := by
  subst hLe
  rw [arm_eval_SetComp]
  show wpAny _ A (comprehension (.SetComp elt [⟨.Name x px, iter, [], 0⟩] scope pos) scope env _ (newSet (.type "set")) false (eval iter env) none) _ _ s
  refine wpAny_comprehension_free (use := none) rfl hs hclos hkind hnames (wpAny_mono h (fun xv s₁ h₁ => ?_) fun _ _ e => e)
  obtain ⟨ax, its, n, news, rfl, hh, F, N, S, hpos, R, fin⟩ := h₁
  have ht : s₁.heap.IsTuple ax its := ⟨_, (N _ S).1, rfl, _, rfl⟩
  have hlt : ax < s₁.heap.objs.size := Heap.lt_size (N _ S).1
  refine wpAny_pyIter_tuple ht ?_
  have up : ∀ b o, s₁.heap.get? b = some o → (s₁.heap.push { cls := .type "tuple_iterator", data := .fields #[.ref ax, .int 0 0] }).get? b = some o := fun b o e => Heap.get?_push_of_some _ e
  refine block_S (Walks.tuple hh s₁.heap.objs.size ax (Nat.ne_of_lt hlt) its) (fun i h st => by obtain ⟨o, e, _⟩ := st.1; exact ⟨o, e⟩) CT.tup_st hcell hkind hx ⟨⟨_, Heap.get?_push_size _ rfl, rfl, rfl⟩, ⟨_, up _ _ (N _ S).1, rfl, _, rfl⟩⟩ (fun b hb => ?_)
    (F.keeps up) (N.grown up) (Nat.ne_of_lt F.ns.lt) (next_is_new F) (fun p hp => Nat.ne_of_lt (Heap.lt_size (N p hp).1)) S (fun i v I oI C oC D oD m₂ h tk E' _ => R i v I oI C oC D oD m₂ h tk E') ?_
  · show b < (s₁.heap.push _).objs.size
    rw [Heap.size_push]
    rcases List.mem_cons.mp hb with rfl | hb
    · exact Nat.lt_succ_self _
    · rw [List.mem_singleton.mp hb]; exact Nat.lt_succ_of_lt hlt
  · intro D C h' tk m' F' N' o1 hn hC₀ hD₀ hCL hDL hCD offC
    obtain ⟨j, hj⟩ : ∃ j, its.size = j + 1 := ⟨its.size - 1, by omega⟩
    rw [hj] at N'
    refine ⟨m', hn, fun h'' hs'' => fin D h'' _ (F'.change hs'' hCL hC₀) (fun p hp => ⟨hs''.extBut _ _ ?_ (N' p hp).1, (N' p hp).2⟩) o1⟩
    rcases List.mem_cons.mp hp with rfl | hp
    · exact Ne.symm hCD
    · exact offC p hp
theorem SrcS.ledger {elt : Expr} {x : Str} {scope : Scope} {cl : List (Str × Addr)} {Q : Value → Shared → Prop} {ax : Addr} {its : Array Value} {n : Nat} {news : List (Addr × Obj)} {s₁ : Shared}
    (hh : A.handled = none) (F : Fr h₀ L s₁.heap m) (N : News h₀ L s₁.heap news) (hm : (ax, CT.tupN its n) ∈ news) (hpos : 0 < its.size)
    (turn : ∀ (i : Nat) v I oI C oC D oD m₂ h tk (E' : Value → Shared → Prop), its[i]? = some v → NsObj oC m₂ → m₂ x = some v → Fr h₀ L h m → News h₀ L h ((I, oI) :: (C, oC) :: (D, oD) :: news) → Off3 I C D news → ((@Ne Nat I C) ∧ (@Ne Nat I D) ∧ (@Ne Nat C D)) →
      wpAny (model prog w) A (eval elt (compEnvC scope cl C env)) (CompEnd h₀ L m { s₁ with heap := h, toks := tk } I oI C oC D oD (fun nw => nw = news) (fun y _ => y = .bool true)) E' { s₁ with heap := h, toks := tk })
    (fin : ∀ D h tk, Fr h₀ L h m → News h₀ L h ((D, setOne (!byTxt w)) :: news) → Off1 D news → Q (.ref D) { s₁ with heap := h, toks := tk }) :
    SrcS prog w A h₀ L m env elt x scope cl Q (.ref ax) s₁ := ⟨ax, its, n, news, rfl, hh, F, N, hm, hpos, turn, fin⟩
theorem assign_isone {a : Addr} {y : Str} {py : Pos} {x1} {pos : Pos} {news : List (Addr × Obj)} {Q : Unit → Shared → Prop} (hLe : env.locals = L) (hh : A.handled = none) (F : Fr h₀ L s.heap m) (N : News h₀ L s.heap news) (hm : (a, setOne (!byTxt w)) ∈ news)
    (hy : env.kindOf y = some .local) (hp : (env.scope.kind == .class || (env.scope.kind == .module && env.locals != env.globals)) = false)
    (h : ∀ h' k, Fr h₀ L h' (fun z => if z = y then some (.bool true) else m z) → News h₀ L h' news → Q () { s with heap := h', toks := k }) :
    wpAny (model prog w) A (assign (.Tuple [.Name y py] x1 pos) env (.ref a)) Q E s := by
  subst hLe
  refine assign_one hh (N _ hm).1 fun h₁ he => ?_
  have up : ∀ b o, s.heap.get? b = some o → h₁.get? b = some o := fun b o e => he b o (Nat.ne_of_lt (Heap.lt_size e)) e
  have F₁ := F.keeps up
  have N₁ : News h₀ env.locals h₁ news := N.grown up
  refine wpAny_assign_Name (wpAny_storeName_local hy F₁.ns (fun h₂ hn₂ hs₂ => ?_) hp)
  have hL₀ : h₀.get? env.locals = none := Heap.get?_none_of_le F₁.above
  exact h h₂ _ ⟨hn₂, fun b o e => hs₂.extBut b o (fun q => by rw [q, hL₀] at e; cases e) (F₁.keep b o e), F₁.above⟩ fun p hp => ⟨hs₂.extBut _ _ (N₁ p hp).2.1 (N₁ p hp).1, (N₁ p hp).2⟩
end
end
end ST
end Mine
end B9Part
section B11Part
open PySem PySem.W PyProof.Rows PySem.Calls
namespace Mine
/-- the order of lists of bytes -/
def lexL (f : Ordering) : List (List UInt8) → List (List UInt8) → Bool
  | [], [] => false
  | [], _ :: _ => f == .lt
  | _ :: _, [] => f == .gt
  | x :: a, y :: b => if x = y then lexL f a b else Builtin.Bytes.order x y == f
namespace MM
open BR Builtin AutoSeq1 MeetsSeq MeetsSeq3

theorem slot_bytes_lt : Slot "bytes" (cmpInfo .Lt).2.1 "bytes.__lt__" :=
  .of (owner := "bytes") (n := "__lt__") (by rw [typeLookup_type, builtinLookup_eq_fast]; kernel_rfl) (by decide +kernel) (by decide +kernel) (by decide +kernel)
    (by first | exact .inl (by decide +kernel) | exact .inr (by decide +kernel)) (by rw [isSubtype_type]; kernel_rfl)
theorem entry_bytes_lt : entryFor table "bytes.__lt__" = some Builtin.«bytes.__lt__» := entryFor_of_tree (by kernel_rfl)
theorem args_bytes_lt (a b : Value) : argsOk "bytes.__lt__" ⟨[a, b], []⟩ := by unfold argsOk; kernel_rfl
theorem slot_lst_lt : Slot "list" (cmpInfo .Lt).2.1 "list.__lt__" :=
  .of (owner := "list") (n := "__lt__") (by rw [typeLookup_type, builtinLookup_eq_fast]; kernel_rfl) (by decide +kernel) (by decide +kernel) (by decide +kernel)
    (by first | exact .inl (by decide +kernel) | exact .inr (by decide +kernel)) (by rw [isSubtype_type]; kernel_rfl)
theorem entry_lst_lt : entryFor table "list.__lt__" = some Builtin.«list.__lt__» := entryFor_of_tree (by kernel_rfl)
theorem args_lst_lt (a b : Value) : argsOk "list.__lt__" ⟨[a, b], []⟩ := by unfold argsOk; kernel_rfl
theorem gives_bytes_lt (b c : Array UInt8) (t u : Tok) : Gives («bytes.__lt__» ⟨[.bytes b t, .bytes c u], []⟩) (.val (.bool (Bytes.order b.toList c.toList == .lt))) := by
  refine .of_wp fun M A E s Q hq => ?_
  show wpAny M A (isInstance (.bytes c u) (.type "bytes") >>= fun r => _) _ E s
  refine wpAny_bind (wpAny_isInstance (typeIs_bytes s c u) F.sub_bytes_bytes ?_)
  exact wpAny_pure ⟨_, rfl, hq⟩
theorem rc_bytes_lt {prog : Program} {w : World} {A : Around} {E : Value → Shared → Prop} {s : Shared} {b c : List UInt8} {t u : Tok} {Q : Value → Shared → Prop} (h : Q (.bool (Bytes.order b c == .lt)) s) : wpAny (model prog w) A (richCompare .Lt (.bytes b.toArray t) (.bytes c.toArray u)) Q E s :=
  richCompare_gives (op := .Lt) (T := "bytes") rfl rfl slot_bytes_lt entry_bytes_lt (args_bytes_lt _ _) (gives_bytes_lt b.toArray c.toArray t u) (fun x => nomatch x) h
theorem loop_lt {a b : Addr} {xs ys : List Value} {n n2 : Nat} {bs cs : List (List UInt8)} (hx : AreB xs bs) (hy : AreB ys cs) (k : Nat) :
    ∀ i : Nat, i ≤ bs.length → i ≤ cs.length → bs.length - i = k → Meets (Builtin.«list.__eq__.loop» ⟨[.ref a, .ref b, rawInt i, rawInt 0], []⟩)
      (fun _ R s => s.heap.get? a = some { cls := .type "list", dict := none, data := .seq xs.toArray n, slots := #[] } ∧ s.heap.get? b = some { cls := .type "list", dict := none, data := .seq ys.toArray n2, slots := #[] } ∧
        R (.ok (.ret (.bool (lexL .lt (bs.drop i) (cs.drop i))))) s) := by
  have hxl := hx.length
  have hyl := hy.length
  induction k with
  | zero =>
    intro i h1 h2 hk prog w A R s h
    obtain ⟨hp, g, d, tk, os⟩ := s; obtain ⟨hl, hb, h⟩ := h
    wp_walk using wpAny_loadPart' hl, wpAny_loadPart' hb
    have hi1 : xs.toArray[((i : Nat) : Int).toNat]? = none := by simp; omega
    have hd : bs.drop i = [] := by simp; omega
    rw [hd] at h
    rw [hi1]
    wp_walk using wpAny_loadPart' hl, wpAny_loadPart' hb
    show R (.ok (.ret (.bool (decide (xs.toArray.size < ys.toArray.size))))) _
    have e : decide (xs.toArray.size < ys.toArray.size) = lexL .lt [] (cs.drop i) := by
      rcases hc : cs.drop i with _ | ⟨c, r⟩
      · have : cs.length ≤ i := by simpa using hc
        simp [lexL]; omega
      · have : i < cs.length := by
          rcases Nat.lt_or_ge i cs.length with h | h
          · exact h
          · rw [List.drop_eq_nil_of_le h] at hc; cases hc
        simp [lexL]; omega
    rw [e]; exact h
  | succ k ih =>
    intro i h1 h2 hk prog w A R s h
    obtain ⟨hp, g, d, tk, os⟩ := s; obtain ⟨hl, hb, h⟩ := h
    wp_walk using wpAny_loadPart' hl, wpAny_loadPart' hb
    have hlt : i < bs.length := by omega
    obtain ⟨t1, g1⟩ := hx.get (List.getElem?_eq_getElem hlt)
    have hi1 : xs.toArray[((i : Nat) : Int).toNat]? = some (.bytes (bs[i]).toArray t1) := by simpa using g1
    have hd : bs.drop i = bs[i] :: bs.drop (i + 1) := List.drop_eq_getElem_cons hlt
    have hc : ((i : Int) + 1) = ((i + 1 : Nat) : Int) := by push_cast; rfl
    rw [hd] at h
    rw [hi1]
    rcases Nat.lt_or_ge i cs.length with hlt2 | hge2
    · obtain ⟨t2, g2⟩ := hy.get (List.getElem?_eq_getElem hlt2)
      have hi2 : ys.toArray[((i : Nat) : Int).toNat]? = some (.bytes (cs[i]).toArray t2) := by simpa using g2
      have hd2 : cs.drop i = cs[i] :: cs.drop (i + 1) := List.drop_eq_getElem_cons hlt2
      rw [hd2] at h
      rw [hi2]
      refine wpAny_bind (eqBool_bytes ?_)
      dsimp only [lexL] at h
      by_cases hb' : bs[i] = cs[i]
      · have e : decide (bs[i].toArray.toList = cs[i].toArray.toList) = true := by simpa using hb'
        rw [e]
        rw [if_pos hb'] at h
        wp_walk
        rw [hc]
        exact ⟨plainId_quiet plain_eq_loop _, codeAny_builtin entry_eq_loop (by
          rw [Around.under_plainId plain_eq_loop _]
          exact ih (i + 1) (by omega) (by omega) (by omega) prog w A R _ ⟨hl, hb, h⟩)⟩
      · have e : decide (bs[i].toArray.toList = cs[i].toArray.toList) = false := by simpa using hb'
        rw [e]
        rw [if_neg hb'] at h
        wp_walk using wpAny_loadPart' hl, wpAny_loadPart' hb
        rw [hi1, hi2]
        dsimp only
        refine wpAny_bind (rc_bytes_lt ?_)
        wp_walk
        exact h
    · have hi2 : ys.toArray[((i : Nat) : Int).toNat]? = none := by simp; omega
      have hd2 : cs.drop i = [] := by simp; omega
      rw [hd2] at h
      rw [hi2]
      wp_walk using wpAny_loadPart' hl, wpAny_loadPart' hb
      show R (.ok (.ret (.bool (decide (xs.toArray.size < ys.toArray.size))))) _
      have e : decide (xs.toArray.size < ys.toArray.size) = lexL .lt (bs[i] :: bs.drop (i + 1)) [] := by
        simp [lexL]; omega
      rw [e]; exact h
theorem meets_lt {a b : Addr} {xs ys : List Value} {n n2 : Nat} {bs cs : List (List UInt8)} (hx : AreB xs bs) (hy : AreB ys cs) : Meets (Builtin.«list.__lt__» ⟨[.ref a, .ref b], []⟩)
      (fun _ R s => s.heap.get? a = some { cls := .type "list", dict := none, data := .seq xs.toArray n, slots := #[] } ∧ s.heap.get? b = some { cls := .type "list", dict := none, data := .seq ys.toArray n2, slots := #[] } ∧
        R (.ok (.ret (.bool (lexL .lt bs cs)))) s) := by
  intro prog w A R s h
  obtain ⟨hp, g, d, tk, os⟩ := s; obtain ⟨hl, hb, h⟩ := h
  have f3 := AutoSeq1.sub_list_list
  wp_walk using wpAny_loadPart' hl, wpAny_loadPart' hb
  exact ⟨plainId_quiet plain_eq_loop _, codeAny_builtin entry_eq_loop (by
    rw [Around.under_plainId plain_eq_loop _]
    exact loop_lt hx hy _ 0 (Nat.zero_le _) (Nat.zero_le _) rfl prog w A R _ ⟨hl, hb, by simpa using h⟩)⟩
theorem rc_lists_lt {prog : Program} {w : World} {A : Around} {E : Value → Shared → Prop} {s : Shared} {a b : Addr} {xs ys : List Value} {n n2 : Nat} {bs cs : List (List UInt8)} (hx : AreB xs bs) (hy : AreB ys cs) {Q : Value → Shared → Prop} (hu : A.units < cLine)
    (ha : s.heap.get? a = some (W.listOf xs.toArray n)) (hb : s.heap.get? b = some (W.listOf ys.toArray n2)) (h : Q (.bool (lexL .lt bs cs)) s) : wpAny (model prog w) A (richCompare .Lt (.ref a) (.ref b)) Q E s :=
  richCompare_meets_room (op := .Lt) ⟨_, ha, rfl⟩ ⟨_, hb, rfl⟩ slot_lst_lt entry_lst_lt (args_lst_lt _ _) (meets_lt hx hy)
    ⟨ha, hb, show Value.bool (lexL .lt bs cs) ≠ Value.notImplemented ∧ Q (.bool (lexL .lt bs cs)) s from ⟨(fun x => nomatch x), h⟩⟩ hu

theorem slot_bytes_gt : Slot "bytes" (cmpInfo .Gt).2.1 "bytes.__gt__" :=
  .of (owner := "bytes") (n := "__gt__") (by rw [typeLookup_type, builtinLookup_eq_fast]; kernel_rfl) (by decide +kernel) (by decide +kernel) (by decide +kernel)
    (by first | exact .inl (by decide +kernel) | exact .inr (by decide +kernel)) (by rw [isSubtype_type]; kernel_rfl)
theorem entry_bytes_gt : entryFor table "bytes.__gt__" = some Builtin.«bytes.__gt__» := entryFor_of_tree (by kernel_rfl)
theorem args_bytes_gt (a b : Value) : argsOk "bytes.__gt__" ⟨[a, b], []⟩ := by unfold argsOk; kernel_rfl
theorem slot_lst_gt : Slot "list" (cmpInfo .Gt).2.1 "list.__gt__" :=
  .of (owner := "list") (n := "__gt__") (by rw [typeLookup_type, builtinLookup_eq_fast]; kernel_rfl) (by decide +kernel) (by decide +kernel) (by decide +kernel)
    (by first | exact .inl (by decide +kernel) | exact .inr (by decide +kernel)) (by rw [isSubtype_type]; kernel_rfl)
theorem entry_lst_gt : entryFor table "list.__gt__" = some Builtin.«list.__gt__» := entryFor_of_tree (by kernel_rfl)
theorem args_lst_gt (a b : Value) : argsOk "list.__gt__" ⟨[a, b], []⟩ := by unfold argsOk; kernel_rfl
theorem gives_bytes_gt (b c : Array UInt8) (t u : Tok) : Gives («bytes.__gt__» ⟨[.bytes b t, .bytes c u], []⟩) (.val (.bool (Bytes.order b.toList c.toList == .gt))) := by
  refine .of_wp fun M A E s Q hq => ?_
  show wpAny M A (isInstance (.bytes c u) (.type "bytes") >>= fun r => _) _ E s
  refine wpAny_bind (wpAny_isInstance (typeIs_bytes s c u) F.sub_bytes_bytes ?_)
  exact wpAny_pure ⟨_, rfl, hq⟩
theorem rc_bytes_gt {prog : Program} {w : World} {A : Around} {E : Value → Shared → Prop} {s : Shared} {b c : List UInt8} {t u : Tok} {Q : Value → Shared → Prop} (h : Q (.bool (Bytes.order b c == .gt)) s) : wpAny (model prog w) A (richCompare .Gt (.bytes b.toArray t) (.bytes c.toArray u)) Q E s :=
  richCompare_gives (op := .Gt) (T := "bytes") rfl rfl slot_bytes_gt entry_bytes_gt (args_bytes_gt _ _) (gives_bytes_gt b.toArray c.toArray t u) (fun x => nomatch x) h
theorem loop_gt {a b : Addr} {xs ys : List Value} {n n2 : Nat} {bs cs : List (List UInt8)} (hx : AreB xs bs) (hy : AreB ys cs) (k : Nat) :
    ∀ i : Nat, i ≤ bs.length → i ≤ cs.length → bs.length - i = k → Meets (Builtin.«list.__eq__.loop» ⟨[.ref a, .ref b, rawInt i, rawInt 4], []⟩)
      (fun _ R s => s.heap.get? a = some { cls := .type "list", dict := none, data := .seq xs.toArray n, slots := #[] } ∧ s.heap.get? b = some { cls := .type "list", dict := none, data := .seq ys.toArray n2, slots := #[] } ∧
        R (.ok (.ret (.bool (lexL .gt (bs.drop i) (cs.drop i))))) s) := by
  have hxl := hx.length
  have hyl := hy.length
  induction k with
  | zero =>
    intro i h1 h2 hk prog w A R s h
    obtain ⟨hp, g, d, tk, os⟩ := s; obtain ⟨hl, hb, h⟩ := h
    wp_walk using wpAny_loadPart' hl, wpAny_loadPart' hb
    have hi1 : xs.toArray[((i : Nat) : Int).toNat]? = none := by simp; omega
    have hd : bs.drop i = [] := by simp; omega
    rw [hd] at h
    rw [hi1]
    wp_walk using wpAny_loadPart' hl, wpAny_loadPart' hb
    show R (.ok (.ret (.bool (decide (xs.toArray.size > ys.toArray.size))))) _
    have e : decide (xs.toArray.size > ys.toArray.size) = lexL .gt [] (cs.drop i) := by
      rcases hc : cs.drop i with _ | ⟨c, r⟩
      · have : cs.length ≤ i := by simpa using hc
        simp [lexL]; omega
      · have : i < cs.length := by
          rcases Nat.lt_or_ge i cs.length with h | h
          · exact h
          · rw [List.drop_eq_nil_of_le h] at hc; cases hc
        simp [lexL]; omega
    rw [e]; exact h
  | succ k ih =>
    intro i h1 h2 hk prog w A R s h
    obtain ⟨hp, g, d, tk, os⟩ := s; obtain ⟨hl, hb, h⟩ := h
    wp_walk using wpAny_loadPart' hl, wpAny_loadPart' hb
    have hlt : i < bs.length := by omega
    obtain ⟨t1, g1⟩ := hx.get (List.getElem?_eq_getElem hlt)
    have hi1 : xs.toArray[((i : Nat) : Int).toNat]? = some (.bytes (bs[i]).toArray t1) := by simpa using g1
    have hd : bs.drop i = bs[i] :: bs.drop (i + 1) := List.drop_eq_getElem_cons hlt
    have hc : ((i : Int) + 1) = ((i + 1 : Nat) : Int) := by push_cast; rfl
    rw [hd] at h
    rw [hi1]
    rcases Nat.lt_or_ge i cs.length with hlt2 | hge2
    · obtain ⟨t2, g2⟩ := hy.get (List.getElem?_eq_getElem hlt2)
      have hi2 : ys.toArray[((i : Nat) : Int).toNat]? = some (.bytes (cs[i]).toArray t2) := by simpa using g2
      have hd2 : cs.drop i = cs[i] :: cs.drop (i + 1) := List.drop_eq_getElem_cons hlt2
      rw [hd2] at h
      rw [hi2]
      refine wpAny_bind (eqBool_bytes ?_)
      dsimp only [lexL] at h
      by_cases hb' : bs[i] = cs[i]
      · have e : decide (bs[i].toArray.toList = cs[i].toArray.toList) = true := by simpa using hb'
        rw [e]
        rw [if_pos hb'] at h
        wp_walk
        rw [hc]
        exact ⟨plainId_quiet plain_eq_loop _, codeAny_builtin entry_eq_loop (by
          rw [Around.under_plainId plain_eq_loop _]
          exact ih (i + 1) (by omega) (by omega) (by omega) prog w A R _ ⟨hl, hb, h⟩)⟩
      · have e : decide (bs[i].toArray.toList = cs[i].toArray.toList) = false := by simpa using hb'
        rw [e]
        rw [if_neg hb'] at h
        wp_walk using wpAny_loadPart' hl, wpAny_loadPart' hb
        rw [hi1, hi2]
        dsimp only
        refine wpAny_bind (rc_bytes_gt ?_)
        wp_walk
        exact h
    · have hi2 : ys.toArray[((i : Nat) : Int).toNat]? = none := by simp; omega
      have hd2 : cs.drop i = [] := by simp; omega
      rw [hd2] at h
      rw [hi2]
      wp_walk using wpAny_loadPart' hl, wpAny_loadPart' hb
      show R (.ok (.ret (.bool (decide (xs.toArray.size > ys.toArray.size))))) _
      have e : decide (xs.toArray.size > ys.toArray.size) = lexL .gt (bs[i] :: bs.drop (i + 1)) [] := by
        simp [lexL]; omega
      rw [e]; exact h
theorem meets_gt {a b : Addr} {xs ys : List Value} {n n2 : Nat} {bs cs : List (List UInt8)} (hx : AreB xs bs) (hy : AreB ys cs) : Meets (Builtin.«list.__gt__» ⟨[.ref a, .ref b], []⟩)
      (fun _ R s => s.heap.get? a = some { cls := .type "list", dict := none, data := .seq xs.toArray n, slots := #[] } ∧ s.heap.get? b = some { cls := .type "list", dict := none, data := .seq ys.toArray n2, slots := #[] } ∧
        R (.ok (.ret (.bool (lexL .gt bs cs)))) s) := by
  intro prog w A R s h
  obtain ⟨hp, g, d, tk, os⟩ := s; obtain ⟨hl, hb, h⟩ := h
  have f3 := AutoSeq1.sub_list_list
  wp_walk using wpAny_loadPart' hl, wpAny_loadPart' hb
  exact ⟨plainId_quiet plain_eq_loop _, codeAny_builtin entry_eq_loop (by
    rw [Around.under_plainId plain_eq_loop _]
    exact loop_gt hx hy _ 0 (Nat.zero_le _) (Nat.zero_le _) rfl prog w A R _ ⟨hl, hb, by simpa using h⟩)⟩
theorem rc_lists_gt {prog : Program} {w : World} {A : Around} {E : Value → Shared → Prop} {s : Shared} {a b : Addr} {xs ys : List Value} {n n2 : Nat} {bs cs : List (List UInt8)} (hx : AreB xs bs) (hy : AreB ys cs) {Q : Value → Shared → Prop} (hu : A.units < cLine)
    (ha : s.heap.get? a = some (W.listOf xs.toArray n)) (hb : s.heap.get? b = some (W.listOf ys.toArray n2)) (h : Q (.bool (lexL .gt bs cs)) s) : wpAny (model prog w) A (richCompare .Gt (.ref a) (.ref b)) Q E s :=
  richCompare_meets_room (op := .Gt) ⟨_, ha, rfl⟩ ⟨_, hb, rfl⟩ slot_lst_gt entry_lst_gt (args_lst_gt _ _) (meets_gt hx hy)
    ⟨ha, hb, show Value.bool (lexL .gt bs cs) ≠ Value.notImplemented ∧ Q (.bool (lexL .gt bs cs)) s from ⟨(fun x => nomatch x), h⟩⟩ hu
end MM
end Mine
end B11Part
section B12Part
open PySem PySem.W PyProof.Rows PySem.Calls
namespace Mine
/-- the best of them, the first of equals -/
def bestL (f : Ordering) (b : List (List UInt8)) (cs : List (List (List UInt8))) : List (List UInt8) := cs.foldl (fun b c => if lexL f c b then c else b) b
namespace MM
open BR Builtin
/-- the heap holds these -/
def Holds (nw : List (Addr × Obj)) (h : Heap) : Prop := ∀ p ∈ nw, h.get? p.1 = some p.2
theorem plain_cons {b : List (List UInt8)} {css : List (List (List UInt8))} {j : Nat} (hj : css[j]? = some b) : css.drop j = b :: css.drop (j + 1) := by
  obtain ⟨h, rfl⟩ := List.getElem?_eq_some_iff.mp hj
  exact List.drop_eq_getElem_cons h
section
variable {prog : Program} {w : World} {A : Around} {R : Result → Shared → Prop} {I S l : Addr} {nw : List (Addr × Obj)} {ys : List Value} {css : List (List (List UInt8))}

theorem loop_min (hh : A.handled = none) (hu : A.units + 1 < cLine) (hy : ListsB nw ys css) (hlI : l ≠ I) (hlS : l ≠ S) (hIS : I ≠ S) (hnI : ∀ p ∈ nw, p.1 ≠ I ∧ p.1 ≠ S) :
    ∀ (k j : Nat) (s : Shared) (a : Addr) (vs : List Value) (nn : Nat) (b : List (List UInt8)) (c : Nat), css.length - (j + 1) = k → j + 1 ≤ css.length → s.heap.IsListIter I l (j + 1) → s.heap.IsList l ys.toArray → Holds nw s.heap → (a, W.listOf vs.toArray nn) ∈ nw → AreB vs b →
    s.heap.get? S = some { cls := .type "list", dict := none, data := .seq #[.ref a, .ref a] c, slots := #[] } →
    (∀ a' vs' n' h' tk, (a', W.listOf vs'.toArray n') ∈ nw → AreB vs' (bestL .lt b (css.drop (j + 1))) → (∀ x o, x ≠ I → x ≠ S → s.heap.get? x = some o → h'.get? x = some o) → R (.ok (.ret (.ref a'))) { s with heap := h', toks := tk }) →
    codeAny (model prog w) A (.builtin "min.loop" ⟨[.ref I, .none, .ref S], []⟩) R s := by
  have hname : (toString "min" ++ toString ".loop" : String) = "min.loop" := by decide
  have W := Walks.list (prog := prog) (w := w) (A := A.in1) hh I l hlI ys.toArray
  have hyl := hy.length
  intro k
  induction k with
  | zero =>
    intro j s a vs nn b c hk hj hi hl hH ha hv hS hR
    refine codeAny_builtin F.entry_min_loop ?_
    rw [Around.under_plainId F.plain_min_loop _]
    show wpAny _ A.in1 (seqItems? (.ref S) >>= _) _ _ s
    refine wpAny_bind (wpAny_seqItems hS rfl ?_)
    show wpAny _ A.in1 (tryCatch (pyNext (.ref I)) _ >>= _) _ _ s
    have e1 : j + 1 = ys.toArray.size := by simp; omega
    refine wpAny_bind (wpAny_tryCatch (W.done s _ _ (e1 ▸ ⟨hi, hl⟩) fun h' tk hk' => ?_))
    have hS' := hk' S _ (by simpa using Ne.symm hIS) hS
    show wpAny _ A.in1 (updateSeq S (fun _ => #[]) >>= _) _ _ _
    refine wpAny_bind ?_
    refine wpAny_updateSeq hS' rfl (wpAny_bind (wpAny_letGo (wpAny_pure ?_)))
    have e2 : css.drop (j + 1) = [] := by simp; omega
    rw [e2] at hR
    exact hR a vs nn _ tk ha hv fun x o hxI hxS e => (Heap.get?_update_other _ _ (Ne.symm hxS)).trans (hk' x o (by simpa using hxI) e)
  | succ k ih =>
    intro j s a vs nn b c hk hj hi hl hH ha hv hS hR
    have hlt : j + 1 < ys.toArray.size := by simp; omega
    refine codeAny_builtin F.entry_min_loop ?_
    rw [Around.under_plainId F.plain_min_loop _]
    show wpAny _ A.in1 (seqItems? (.ref S) >>= _) _ _ s
    refine wpAny_bind (wpAny_seqItems hS rfl ?_)
    show wpAny _ A.in1 (tryCatch (pyNext (.ref I)) _ >>= _) _ _ s
    refine wpAny_bind (wpAny_tryCatch (W.item (j + 1) s _ _ hlt ⟨hi, hl⟩ fun v h' tk hP hst' hk' => ?_))
    obtain ⟨a2, vs2, n2, b2, rfl, m2, v2, c2⟩ := hy.of_get (show ys[j + 1]? = some v by simpa using hP)
    have hS' := hk' S _ (by simpa using Ne.symm hIS) hS
    have hH' : Holds nw h' := fun p hp => hk' _ _ (by simpa using (hnI p hp).1) (hH p hp)
    rw [plain_cons c2] at hR
    dsimp only [bestL, List.foldl_cons] at hR
    show wpAny _ A.in1 (tryCatch (holding [Value.ref a2, Value.ref a2] (richCompare .Lt (.ref a2) (.ref a) >>= _)) _ >>= _) _ _ _
    refine wpAny_bind (wpAny_tryCatch (wpAny_holding (wpAny_bind (rc_lists_lt v2 hv hu (hH' _ m2) (hH' _ ha) ?_))))
    refine wpAny_bind (wpAny_holding (wpAny_truthy_bool ?_))
    refine wpAny_bind (wpAny_letGo (wpAny_pure ?_))
    cases hb : lexL .lt b2 b with
    | true =>
      rw [hb, if_pos rfl] at hR
      simp only [if_true]
      refine wpAny_bind ?_
      refine wpAny_updateSeq hS' rfl (wpAny_bind (wpAny_letGo ?_))
      rw [hname]
      have up : ∀ x o, x ≠ S → h'.get? x = some o → (h'.update S (Obj.mapSeq fun _ => #[Value.ref a2, Value.ref a2])).get? x = some o := fun x o hx e => (Heap.get?_update_other _ _ (Ne.symm hx)).trans e
      refine wpAny_pure ⟨plainId_quiet F.plain_min_loop _, ih (j + 1) _ a2 vs2 n2 b2 _ (by omega) (by simp at hlt; omega) (hst'.1.at fun o e => up _ _ hIS e) (hst'.2.at fun o e => up _ _ hlS e) (fun p hp => up _ _ (hnI p hp).2 (hH' p hp)) m2 v2 (Heap.get?_update_self _ hS' rfl) ?_⟩
      intro a' vs' n' h'' tk'' q1 q2 q3
      exact hR a' vs' n' h'' tk'' q1 q2 fun x o hxI hxS e => q3 x o hxI hxS (up _ _ hxS (hk' x o (by simpa using hxI) e))
    | false =>
      rw [hb, if_neg Bool.false_ne_true] at hR
      simp only [Bool.false_eq_true, if_false]
      refine wpAny_bind (wpAny_letGo ?_)
      rw [hname]
      refine wpAny_pure ⟨plainId_quiet F.plain_min_loop _, ih (j + 1) _ a vs nn b c (by omega) (by simp at hlt; omega) hst'.1 hst'.2 hH' ha hv hS' ?_⟩
      intro a' vs' n' h'' tk'' q1 q2 q3
      exact hR a' vs' n' h'' tk'' q1 q2 fun x o hxI hxS e => q3 x o hxI hxS (hk' x o (by simpa using hxI) e)
theorem call_min {E : Value → Shared → Prop} {s : Shared} {h₀ : Heap} {L : Addr} {mm : Str → Option Value} {n : Nat} {b0 : List (List UInt8)} {cs : List (List (List UInt8))} {Q : Value → Shared → Prop} (hh : A.handled = none) (hu : A.units + 1 < cLine) (F₀ : Fr h₀ L s.heap mm) (N : News h₀ L s.heap nw) (hm : (l, W.listOf ys.toArray n) ∈ nw) (hy : ListsB nw ys (b0 :: cs))
    (h : ∀ a' vs' n' h' tk, (a', W.listOf vs'.toArray n') ∈ nw → AreB vs' (bestL .lt b0 cs) → Fr h₀ L h' mm → News h₀ L h' nw → Q (.ref a') { s with heap := h', toks := tk }) :
    wpAny (model prog w) A (call (.builtin "min") [.ref l]) Q E s := by
  have hname : (toString "min" ++ toString ".loop" : String) = "min.loop" := by decide
  have hls : s.heap.IsList l ys.toArray := ⟨_, (N _ hm).1, rfl, _, rfl⟩
  have hlt : l < s.heap.objs.size := Heap.lt_size (N _ hm).1
  refine call_function_tree F.kind_min F.plain_min F.entry_min (F.args_min1 _) ?_
  show wpAny _ A.in1 (Builtin.Builtins.bindParams "min" ["key", "default"] 0 ⟨[], []⟩ >>= _) _ _ s
  refine wpAny_bind (wpAny_of_eq (show Builtin.Builtins.bindParams "min" ["key", "default"] 0 ⟨[], []⟩ = pure [none, none] from rfl) ?_)
  refine wpAny_bind (wpAny_pure ?_)
  refine wpAny_bind (wpAny_pyIter_list hls ?_)
  refine wpAny_bind (wpAny_newObj_type ?_)
  rw [hname]
  refine wpAny_pure ⟨plainId_quiet F.plain_min_loop _, ?_⟩
  refine codeAny_builtin F.entry_min_loop ?_
  rw [Around.under_plainId F.plain_min_loop _]
  have sz : (s.heap.push ({ cls := .type "list_iterator", data := .fields #[.ref l, .int 0 0] } : Obj)).objs.size = s.heap.objs.size + 1 := Heap.size_push _ _
  have up : ∀ x o, s.heap.get? x = some o → ((s.heap.push ({ cls := .type "list_iterator", data := .fields #[.ref l, .int 0 0] } : Obj)).push ({ cls := .type "list", data := .seq #[] } : Obj)).get? x = some o := fun x o e => Heap.get?_push_of_some _ (Heap.get?_push_of_some _ e)
  have gI : ((s.heap.push ({ cls := .type "list_iterator", data := .fields #[.ref l, .int 0 0] } : Obj)).push ({ cls := .type "list", data := .seq #[] } : Obj)).get? s.heap.objs.size = some ({ cls := .type "list_iterator", data := .fields #[.ref l, .int 0 0] } : Obj) := Heap.get?_push_of_some _ (Heap.get?_push_size _ rfl)
  have gS : ((s.heap.push ({ cls := .type "list_iterator", data := .fields #[.ref l, .int 0 0] } : Obj)).push ({ cls := .type "list", data := .seq #[] } : Obj)).get? (s.heap.objs.size + 1) = some ({ cls := .type "list", data := .seq #[] } : Obj) := by
    rw [← sz]; exact Heap.get?_push_size _ rfl
  have hlI : l ≠ s.heap.objs.size := Nat.ne_of_lt hlt
  have hlS : l ≠ s.heap.objs.size + 1 := Nat.ne_of_lt (Nat.lt_succ_of_lt hlt)
  have hIS : s.heap.objs.size ≠ s.heap.objs.size + 1 := Nat.ne_of_lt (Nat.lt_succ_self _)
  have hnI : ∀ p ∈ nw, p.1 ≠ s.heap.objs.size ∧ p.1 ≠ s.heap.objs.size + 1 := fun p hp => ⟨Nat.ne_of_lt (Heap.lt_size (N p hp).1), Nat.ne_of_lt (Nat.lt_succ_of_lt (Heap.lt_size (N p hp).1))⟩
  have hyl := hy.length
  have hpos : 0 < ys.toArray.size := by simp at hyl ⊢; omega
  have W := Walks.list (prog := prog) (w := w) (A := A.in1) hh s.heap.objs.size l hlI ys.toArray
  rw [sz]
  show wpAny _ A.in1 (seqItems? (.ref (s.heap.objs.size + 1)) >>= _) _ _ _
  refine wpAny_bind (wpAny_seqItems gS rfl ?_)
  show wpAny _ A.in1 (tryCatch (pyNext (.ref s.heap.objs.size)) _ >>= _) _ _ _
  refine wpAny_bind (wpAny_tryCatch (W.item 0 _ _ _ hpos ⟨⟨_, gI, rfl, rfl⟩, hls.at fun o e => up _ _ e⟩ fun v h' tk hP hst' hk' => ?_))
  obtain ⟨a2, vs2, n2, b2, rfl, m2, v2, c2⟩ := hy.of_get (show ys[0]? = some v by simpa using hP)
  have e2 : b2 = b0 := by simpa using c2.symm
  subst e2
  have gS' := hk' _ _ (by simp) gS
  show wpAny _ A.in1 (updateSeq (s.heap.objs.size + 1) (fun _ => #[Value.ref a2, Value.ref a2]) >>= _) _ _ _
  refine wpAny_bind ?_
  refine wpAny_updateSeq gS' rfl ?_
  rw [hname]
  have up2 : ∀ x o, x ≠ s.heap.objs.size + 1 → h'.get? x = some o → (h'.update (s.heap.objs.size + 1) (Obj.mapSeq fun _ => #[Value.ref a2, Value.ref a2])).get? x = some o := fun x o hx e => (Heap.get?_update_other _ _ (Ne.symm hx)).trans e
  have old : ∀ x o, s.heap.get? x = some o → h'.get? x = some o := fun x o e => hk' x o (by simpa using Nat.ne_of_lt (Heap.lt_size e)) (up x o e)
  refine wpAny_pure ⟨plainId_quiet F.plain_min_loop _, loop_min (A := A) (S := s.heap.objs.size + 1) hh hu hy hlI hlS hIS hnI _ 0 _ a2 vs2 n2 b2 _ rfl (by simp) (hst'.1.at fun o e => up2 _ _ hIS e) (hst'.2.at fun o e => up2 _ _ hlS e) (fun p hp => up2 _ _ (hnI p hp).2 (old _ _ (N p hp).1)) m2 v2 (Heap.get?_update_self _ gS' rfl) ?_⟩
  intro a' vs' n' h'' tk'' q1 q2 q3
  have keep : ∀ x o, s.heap.get? x = some o → h''.get? x = some o := fun x o e => q3 x o (Nat.ne_of_lt (Heap.lt_size e)) (Nat.ne_of_lt (Nat.lt_succ_of_lt (Heap.lt_size e))) (up2 _ _ (Nat.ne_of_lt (Nat.lt_succ_of_lt (Heap.lt_size e))) (old x o e))
  exact h a' vs' n' h'' tk'' q1 q2 (F₀.keeps keep) fun p hp => ⟨keep _ _ (N p hp).1, (N p hp).2⟩

theorem loop_max (hh : A.handled = none) (hu : A.units + 1 < cLine) (hy : ListsB nw ys css) (hlI : l ≠ I) (hlS : l ≠ S) (hIS : I ≠ S) (hnI : ∀ p ∈ nw, p.1 ≠ I ∧ p.1 ≠ S) :
    ∀ (k j : Nat) (s : Shared) (a : Addr) (vs : List Value) (nn : Nat) (b : List (List UInt8)) (c : Nat), css.length - (j + 1) = k → j + 1 ≤ css.length → s.heap.IsListIter I l (j + 1) → s.heap.IsList l ys.toArray → Holds nw s.heap → (a, W.listOf vs.toArray nn) ∈ nw → AreB vs b →
    s.heap.get? S = some { cls := .type "list", dict := none, data := .seq #[.ref a, .ref a] c, slots := #[] } →
    (∀ a' vs' n' h' tk, (a', W.listOf vs'.toArray n') ∈ nw → AreB vs' (bestL .gt b (css.drop (j + 1))) → (∀ x o, x ≠ I → x ≠ S → s.heap.get? x = some o → h'.get? x = some o) → R (.ok (.ret (.ref a'))) { s with heap := h', toks := tk }) →
    codeAny (model prog w) A (.builtin "max.loop" ⟨[.ref I, .none, .ref S], []⟩) R s := by
  have hname : (toString "max" ++ toString ".loop" : String) = "max.loop" := by decide
  have W := Walks.list (prog := prog) (w := w) (A := A.in1) hh I l hlI ys.toArray
  have hyl := hy.length
  intro k
  induction k with
  | zero =>
    intro j s a vs nn b c hk hj hi hl hH ha hv hS hR
    refine codeAny_builtin F.entry_max_loop ?_
    rw [Around.under_plainId F.plain_max_loop _]
    show wpAny _ A.in1 (seqItems? (.ref S) >>= _) _ _ s
    refine wpAny_bind (wpAny_seqItems hS rfl ?_)
    show wpAny _ A.in1 (tryCatch (pyNext (.ref I)) _ >>= _) _ _ s
    have e1 : j + 1 = ys.toArray.size := by simp; omega
    refine wpAny_bind (wpAny_tryCatch (W.done s _ _ (e1 ▸ ⟨hi, hl⟩) fun h' tk hk' => ?_))
    have hS' := hk' S _ (by simpa using Ne.symm hIS) hS
    show wpAny _ A.in1 (updateSeq S (fun _ => #[]) >>= _) _ _ _
    refine wpAny_bind ?_
    refine wpAny_updateSeq hS' rfl (wpAny_bind (wpAny_letGo (wpAny_pure ?_)))
    have e2 : css.drop (j + 1) = [] := by simp; omega
    rw [e2] at hR
    exact hR a vs nn _ tk ha hv fun x o hxI hxS e => (Heap.get?_update_other _ _ (Ne.symm hxS)).trans (hk' x o (by simpa using hxI) e)
  | succ k ih =>
    intro j s a vs nn b c hk hj hi hl hH ha hv hS hR
    have hlt : j + 1 < ys.toArray.size := by simp; omega
    refine codeAny_builtin F.entry_max_loop ?_
    rw [Around.under_plainId F.plain_max_loop _]
    show wpAny _ A.in1 (seqItems? (.ref S) >>= _) _ _ s
    refine wpAny_bind (wpAny_seqItems hS rfl ?_)
    show wpAny _ A.in1 (tryCatch (pyNext (.ref I)) _ >>= _) _ _ s
    refine wpAny_bind (wpAny_tryCatch (W.item (j + 1) s _ _ hlt ⟨hi, hl⟩ fun v h' tk hP hst' hk' => ?_))
    obtain ⟨a2, vs2, n2, b2, rfl, m2, v2, c2⟩ := hy.of_get (show ys[j + 1]? = some v by simpa using hP)
    have hS' := hk' S _ (by simpa using Ne.symm hIS) hS
    have hH' : Holds nw h' := fun p hp => hk' _ _ (by simpa using (hnI p hp).1) (hH p hp)
    rw [plain_cons c2] at hR
    dsimp only [bestL, List.foldl_cons] at hR
    show wpAny _ A.in1 (tryCatch (holding [Value.ref a2, Value.ref a2] (richCompare .Gt (.ref a2) (.ref a) >>= _)) _ >>= _) _ _ _
    refine wpAny_bind (wpAny_tryCatch (wpAny_holding (wpAny_bind (rc_lists_gt v2 hv hu (hH' _ m2) (hH' _ ha) ?_))))
    refine wpAny_bind (wpAny_holding (wpAny_truthy_bool ?_))
    refine wpAny_bind (wpAny_letGo (wpAny_pure ?_))
    cases hb : lexL .gt b2 b with
    | true =>
      rw [hb, if_pos rfl] at hR
      simp only [if_true]
      refine wpAny_bind ?_
      refine wpAny_updateSeq hS' rfl (wpAny_bind (wpAny_letGo ?_))
      rw [hname]
      have up : ∀ x o, x ≠ S → h'.get? x = some o → (h'.update S (Obj.mapSeq fun _ => #[Value.ref a2, Value.ref a2])).get? x = some o := fun x o hx e => (Heap.get?_update_other _ _ (Ne.symm hx)).trans e
      refine wpAny_pure ⟨plainId_quiet F.plain_max_loop _, ih (j + 1) _ a2 vs2 n2 b2 _ (by omega) (by simp at hlt; omega) (hst'.1.at fun o e => up _ _ hIS e) (hst'.2.at fun o e => up _ _ hlS e) (fun p hp => up _ _ (hnI p hp).2 (hH' p hp)) m2 v2 (Heap.get?_update_self _ hS' rfl) ?_⟩
      intro a' vs' n' h'' tk'' q1 q2 q3
      exact hR a' vs' n' h'' tk'' q1 q2 fun x o hxI hxS e => q3 x o hxI hxS (up _ _ hxS (hk' x o (by simpa using hxI) e))
    | false =>
      rw [hb, if_neg Bool.false_ne_true] at hR
      simp only [Bool.false_eq_true, if_false]
      refine wpAny_bind (wpAny_letGo ?_)
      rw [hname]
      refine wpAny_pure ⟨plainId_quiet F.plain_max_loop _, ih (j + 1) _ a vs nn b c (by omega) (by simp at hlt; omega) hst'.1 hst'.2 hH' ha hv hS' ?_⟩
      intro a' vs' n' h'' tk'' q1 q2 q3
      exact hR a' vs' n' h'' tk'' q1 q2 fun x o hxI hxS e => q3 x o hxI hxS (hk' x o (by simpa using hxI) e)
theorem call_max {E : Value → Shared → Prop} {s : Shared} {h₀ : Heap} {L : Addr} {mm : Str → Option Value} {n : Nat} {b0 : List (List UInt8)} {cs : List (List (List UInt8))} {Q : Value → Shared → Prop} (hh : A.handled = none) (hu : A.units + 1 < cLine) (F₀ : Fr h₀ L s.heap mm) (N : News h₀ L s.heap nw) (hm : (l, W.listOf ys.toArray n) ∈ nw) (hy : ListsB nw ys (b0 :: cs))
    (h : ∀ a' vs' n' h' tk, (a', W.listOf vs'.toArray n') ∈ nw → AreB vs' (bestL .gt b0 cs) → Fr h₀ L h' mm → News h₀ L h' nw → Q (.ref a') { s with heap := h', toks := tk }) :
    wpAny (model prog w) A (call (.builtin "max") [.ref l]) Q E s := by
  have hname : (toString "max" ++ toString ".loop" : String) = "max.loop" := by decide
  have hls : s.heap.IsList l ys.toArray := ⟨_, (N _ hm).1, rfl, _, rfl⟩
  have hlt : l < s.heap.objs.size := Heap.lt_size (N _ hm).1
  refine call_function_tree F.kind_max F.plain_max F.entry_max (F.args_max1 _) ?_
  show wpAny _ A.in1 (Builtin.Builtins.bindParams "max" ["key", "default"] 0 ⟨[], []⟩ >>= _) _ _ s
  refine wpAny_bind (wpAny_of_eq (show Builtin.Builtins.bindParams "max" ["key", "default"] 0 ⟨[], []⟩ = pure [none, none] from rfl) ?_)
  refine wpAny_bind (wpAny_pure ?_)
  refine wpAny_bind (wpAny_pyIter_list hls ?_)
  refine wpAny_bind (wpAny_newObj_type ?_)
  rw [hname]
  refine wpAny_pure ⟨plainId_quiet F.plain_max_loop _, ?_⟩
  refine codeAny_builtin F.entry_max_loop ?_
  rw [Around.under_plainId F.plain_max_loop _]
  have sz : (s.heap.push ({ cls := .type "list_iterator", data := .fields #[.ref l, .int 0 0] } : Obj)).objs.size = s.heap.objs.size + 1 := Heap.size_push _ _
  have up : ∀ x o, s.heap.get? x = some o → ((s.heap.push ({ cls := .type "list_iterator", data := .fields #[.ref l, .int 0 0] } : Obj)).push ({ cls := .type "list", data := .seq #[] } : Obj)).get? x = some o := fun x o e => Heap.get?_push_of_some _ (Heap.get?_push_of_some _ e)
  have gI : ((s.heap.push ({ cls := .type "list_iterator", data := .fields #[.ref l, .int 0 0] } : Obj)).push ({ cls := .type "list", data := .seq #[] } : Obj)).get? s.heap.objs.size = some ({ cls := .type "list_iterator", data := .fields #[.ref l, .int 0 0] } : Obj) := Heap.get?_push_of_some _ (Heap.get?_push_size _ rfl)
  have gS : ((s.heap.push ({ cls := .type "list_iterator", data := .fields #[.ref l, .int 0 0] } : Obj)).push ({ cls := .type "list", data := .seq #[] } : Obj)).get? (s.heap.objs.size + 1) = some ({ cls := .type "list", data := .seq #[] } : Obj) := by
    rw [← sz]; exact Heap.get?_push_size _ rfl
  have hlI : l ≠ s.heap.objs.size := Nat.ne_of_lt hlt
  have hlS : l ≠ s.heap.objs.size + 1 := Nat.ne_of_lt (Nat.lt_succ_of_lt hlt)
  have hIS : s.heap.objs.size ≠ s.heap.objs.size + 1 := Nat.ne_of_lt (Nat.lt_succ_self _)
  have hnI : ∀ p ∈ nw, p.1 ≠ s.heap.objs.size ∧ p.1 ≠ s.heap.objs.size + 1 := fun p hp => ⟨Nat.ne_of_lt (Heap.lt_size (N p hp).1), Nat.ne_of_lt (Nat.lt_succ_of_lt (Heap.lt_size (N p hp).1))⟩
  have hyl := hy.length
  have hpos : 0 < ys.toArray.size := by simp at hyl ⊢; omega
  have W := Walks.list (prog := prog) (w := w) (A := A.in1) hh s.heap.objs.size l hlI ys.toArray
  rw [sz]
  show wpAny _ A.in1 (seqItems? (.ref (s.heap.objs.size + 1)) >>= _) _ _ _
  refine wpAny_bind (wpAny_seqItems gS rfl ?_)
  show wpAny _ A.in1 (tryCatch (pyNext (.ref s.heap.objs.size)) _ >>= _) _ _ _
  refine wpAny_bind (wpAny_tryCatch (W.item 0 _ _ _ hpos ⟨⟨_, gI, rfl, rfl⟩, hls.at fun o e => up _ _ e⟩ fun v h' tk hP hst' hk' => ?_))
  obtain ⟨a2, vs2, n2, b2, rfl, m2, v2, c2⟩ := hy.of_get (show ys[0]? = some v by simpa using hP)
  have e2 : b2 = b0 := by simpa using c2.symm
  subst e2
  have gS' := hk' _ _ (by simp) gS
  show wpAny _ A.in1 (updateSeq (s.heap.objs.size + 1) (fun _ => #[Value.ref a2, Value.ref a2]) >>= _) _ _ _
  refine wpAny_bind ?_
  refine wpAny_updateSeq gS' rfl ?_
  rw [hname]
  have up2 : ∀ x o, x ≠ s.heap.objs.size + 1 → h'.get? x = some o → (h'.update (s.heap.objs.size + 1) (Obj.mapSeq fun _ => #[Value.ref a2, Value.ref a2])).get? x = some o := fun x o hx e => (Heap.get?_update_other _ _ (Ne.symm hx)).trans e
  have old : ∀ x o, s.heap.get? x = some o → h'.get? x = some o := fun x o e => hk' x o (by simpa using Nat.ne_of_lt (Heap.lt_size e)) (up x o e)
  refine wpAny_pure ⟨plainId_quiet F.plain_max_loop _, loop_max (A := A) (S := s.heap.objs.size + 1) hh hu hy hlI hlS hIS hnI _ 0 _ a2 vs2 n2 b2 _ rfl (by simp) (hst'.1.at fun o e => up2 _ _ hIS e) (hst'.2.at fun o e => up2 _ _ hlS e) (fun p hp => up2 _ _ (hnI p hp).2 (old _ _ (N p hp).1)) m2 v2 (Heap.get?_update_self _ gS' rfl) ?_⟩
  intro a' vs' n' h'' tk'' q1 q2 q3
  have keep : ∀ x o, s.heap.get? x = some o → h''.get? x = some o := fun x o e => q3 x o (Nat.ne_of_lt (Heap.lt_size e)) (Nat.ne_of_lt (Nat.lt_succ_of_lt (Heap.lt_size e))) (up2 _ _ (Nat.ne_of_lt (Nat.lt_succ_of_lt (Heap.lt_size e))) (old x o e))
  exact h a' vs' n' h'' tk'' q1 q2 (F₀.keeps keep) fun p hp => ⟨keep _ _ (N p hp).1, (N p hp).2⟩
end
end MM
end Mine
end B12Part
section B13Part
open PySem PySem.W PyProof.Rows PySem.Calls
namespace Mine
namespace BR
section
variable {prog : Program} {w : World} {A : Around} {E : Value → Shared → Prop} {s : Shared} {h₀ : Heap} {L D : Addr} {m : PySem.Str → Option Value} {news : List (Addr × Obj)} {vs : List Value} {bs : List (List UInt8)} {n : Nat}
/-- an item at a place in bounds -/
theorem o_itemL {value slice : PySem.Expr} {k : Nat} {u : Tok} {b : List UInt8} {Q : Value → Shared → Prop} (N : News h₀ L s.heap news) (hm : (D, listOf vs.toArray n) ∈ news) (hv : AreB vs bs) (hb : bs[k]? = some b) (hz : bs.length ≤ 1000000) (h : ∀ t', Q (.bytes b.toArray t') s)
    (hs : subscripted slice false (.ref D) (.int (k : Int) u) = operate [.ref D, .int (k : Int) u] (getItem (.ref D) (.int (k : Int) u)) := by with_unfolding_all rfl) (hg : ∀ r, letTemporaryGo value (.ref D) r = pure () := by intro _; with_unfolding_all rfl) :
    wpAny (model prog w) A (subscriptTail value slice (.ref D) (.int (k : Int) u)) Q E s := by
  obtain ⟨t, ht⟩ := hv.get hb
  have hlt := (List.getElem?_eq_some_iff.mp hb).1
  exact item_listL ⟨_, (N _ hm).1, rfl, _, rfl⟩ (by omega) (by omega) (by simpa using ht) (h t) hs hg
theorem AreB.take {vs : List Value} {bs : List (List UInt8)} (h : AreB vs bs) : ∀ k, AreB (vs.take k) (bs.take k) := by
  induction h with
  | nil => intro k; simp only [List.take_nil]; exact .nil
  | cons _ ih =>
    intro k
    cases k with
    | zero => exact .nil
    | succ k => exact .cons (ih k)
/-- xs[:k] -/
theorem o_takeL {value slice : PySem.Expr} {k : Nat} {u : Tok} {Q : Value → Shared → Prop} (F : Fr h₀ L s.heap m) (N : News h₀ L s.heap news) (hm : (D, listOf vs.toArray n) ∈ news) (hk : k ≤ vs.length) (hz : vs.length ≤ 1000000)
    (h : ∀ x h', Fr h₀ L h' m → News h₀ L h' ((x, listOf (vs.take k).toArray 0) :: news) → (∀ p ∈ news, p.1 < x) → Q (.ref x) { s with heap := h' })
    (hs : subscripted slice false (.ref D) (.ref s.heap.objs.size) = operate [.ref s.heap.objs.size, .ref D] (getItem (.ref D) (.ref s.heap.objs.size)) := by with_unfolding_all rfl) (ht : ∀ r, letTemporaryGo value (.ref D) r = pure () := by intro _; with_unfolding_all rfl) :
    wpAny (model prog w) A (subscriptTail value slice (.ref D) (.ref s.heap.objs.size)) Q E { s with heap := s.heap.push { cls := .type "slice", data := .fields #[.none, .int (k : Int) u, .none] } } := by
  refine kms_slice_lit F N ⟨_, (N _ hm).1, rfl, _, rfl⟩ (lo := none) (hi := some (k : Int)) (by constructor) (by constructor) ?_ h hs ht (by rw [sizeLine_eq]; simp; omega)
  have e : kms_hi (some (k : Int)) vs.length = k := by
    simp only [kms_hi]
    rw [if_neg (by omega)]
    omega
  have e0 : kms_lo none vs.length = 0 := rfl
  simp only [kms_pick, List.toList_toArray, e, e0, List.drop_zero, Nat.sub_zero]
end
end BR
open BR
section
variable {prog : Program} {w : World} {A : Around} {E : Value → Shared → Prop} {s : Shared} {env : Env} {h₀ : Heap} {target : Expr} {body : List Stmt} {Q : Flow → Shared → Prop}
theorem AllObj.mono' : ∀ {ws : List (Addr × String)} {k k' : List (Addr × Obj) → Prop}, (∀ its, k its → k' its) → AllObj ws k → AllObj ws k'
  | [], _, _, h, x => h _ x
  | _ :: r, _, _, h, x => fun o e => AllObj.mono' (ws := r) (fun its => h _) (x o e)
/-- the map m with two names -/
def mk2 (m : Str → Option Value) (xi xc : Str) (v1 v2 : Option Value) : Str → Option Value := fun y => if y = xc then v2 else if y = xi then v1 else m y
theorem mk2_self (m : Str → Option Value) (xi xc : Str) : mk2 m xi xc (m xi) (m xc) = m := by
  funext y
  unfold mk2
  split
  · rename_i h; rw [h]
  · split
    · rename_i h; rw [h]
    · rfl
theorem enum_rest {vs : List Value} {bs : List (List UInt8)} (hv : AreB vs bs) {m₀ : Str → Option Value} {news keep : List (Addr × Obj)} {ws : List (Addr × String)} (xi xc : Str) (Inv : Nat → Prop) (hk : SubL keep news) (h0 : Inv 0)
    (turn : ∀ k b t tb T v1 v2 h tk, bs[k]? = some b → Inv k → IsTup h T #[.int (k : Int) t, .bytes b.toArray tb] → Fr h₀ env.locals h (mk2 m₀ xi xc v1 v2) → AllObj ws (fun its => News h₀ env.locals h (its ++ news) →
      wpAny (model prog w) A (assign target env (.ref T)) (fun _ s₂ => wpAny (model prog w) A (execs body env) (UnrPostW h₀ env.locals { s with heap := h, toks := tk } its (fun m' n' => n' = news ∧ (∃ u1 u2, m' = mk2 m₀ xi xc u1 u2) ∧ Inv (k + 1)) Q) E s₂) E { s with heap := h, toks := tk }))
    (done : ∀ v1 v2 h tk, Inv bs.length → Fr h₀ env.locals h (mk2 m₀ xi xc v1 v2) → News h₀ env.locals h news → Q .next { s with heap := h, toks := tk }) :
    ItemsRest prog w A E h₀ env target body Q s ws keep (enumItems 0 vs) m₀ news := by
  have key : ∀ (vs2 : List Value) (k : Nat) (bs2 : List (List UInt8)) (v1 v2 : Option Value), AreB vs2 bs2 → bs2 = bs.drop k → k ≤ bs.length → Inv k → ItemsRest prog w A E h₀ env target body Q s ws keep (enumItems k vs2) (mk2 m₀ xi xc v1 v2) news := by
    intro vs2
    induction vs2 with
    | nil =>
      intro k bs2 v1 v2 ha hb hkl hi
      cases ha
      have : bs.length ≤ k := by simpa using hb.symm
      have e : k = bs.length := by omega
      subst e
      exact ItemsRest.zero fun h tk F N => done v1 v2 h tk hi F N
    | cons v r ih =>
      intro k bs2 v1 v2 ha hb hkl hi
      cases ha with
      | @cons b tb _ bs3 ha' =>
      have hlt : k < bs.length := by
        rcases Nat.lt_or_ge k bs.length with h | h
        · exact h
        · rw [List.drop_eq_nil_of_le h] at hb; cases hb
      rw [List.drop_eq_getElem_cons hlt] at hb
      obtain ⟨e1, e2⟩ := List.cons.inj hb
      subst e1
      refine ItemsRest.pair fun T t h tk hT F => ?_
      refine AllObj.mono' (fun its hq N => ?_) (turn k _ t tb T v1 v2 h tk (List.getElem?_eq_getElem hlt) hi hT F)
      refine wpAny_mono (hq N) (fun _ s₂ h2 => wpAny_mono h2 (fun f s₃ h3 => ?_) fun _ _ e => e) fun _ _ e => e
      have fin : UnrEndW h₀ env.locals { s with heap := h, toks := tk } its (fun m' n' => n' = news ∧ (∃ u1 u2, m' = mk2 m₀ xi xc u1 u2) ∧ Inv (k + 1)) s₃ → UnrEndW h₀ env.locals { s with heap := h, toks := tk } its (fun m' n' => SubL keep n' ∧ ItemsRest prog w A E h₀ env target body Q s ws keep (enumItems (k + 1) r) m' n') s₃ := by
        rintro ⟨h', tk', m', n', e, F', N', o', rfl, ⟨u1, u2, rfl⟩, hi'⟩
        exact ⟨h', tk', _, _, e, F', N', o', hk, ih (k + 1) _ u1 u2 ha' e2 (by omega) hi'⟩
      cases f with
      | ret v => exact h3
      | brk => exact h3
      | next => exact fin h3
      | cont => exact fin h3
  have := key vs 0 bs (m₀ xi) (m₀ xc) hv rfl (Nat.zero_le _) h0
  rwa [mk2_self] at this
end
end Mine
end B13Part
section B14Part
open PySem PySem.W PyProof.Rows PySem.Calls
namespace Mine
section
variable {prog : Program} {w : World} {A : Around} {E : Value → Shared → Prop} {s : Shared} {env : Env} {h₀ : Heap} {x : Str} {body : List Stmt} {Q : Flow → Shared → Prop}
/-- the same over a list that stood ahead of the frame -/
theorem for_ledH {σ : Type} {l : Addr} {its : List Value} {m₀ : Str → Option Value} (Led : σ → List (Addr × Obj)) (ps : σ → List (Str × Value)) (stored : List Str) (J : Nat → σ → Prop) (c₀ : σ)
    (hh : A.handled = none) (F : Fr h₀ env.locals s.heap m₀) (N : News h₀ env.locals s.heap (Led c₀)) (hl : h₀.IsList l its.toArray) (ha : ∀ c, (Led c).map (·.1) = (Led c₀).map (·.1))
    (hk : ∀ p ∈ ps c₀, m₀ p.1 = some p.2) (hj : J 0 c₀)
    (turn : ∀ i v c (u : Str → Option Value) h tk I oI, its[i]? = some v → J i c → (∀ p ∈ Led c, p.1 < I) → Fr h₀ env.locals h (fun y => if y = x then some v else kstB (fun z => if stored.contains z then u z else m₀ z) (ps c) y) → News h₀ env.locals h ((I, oI) :: Led c) →
      wpAny (model prog w) A (execs body env) (ForPost h₀ env.locals s Led ps stored m₀ (J (i + 1)) Q I oI) E { s with heap := h, toks := tk })
    (done : ∀ c (u : Str → Option Value) h tk, J its.length c → Fr h₀ env.locals h (kstB (fun z => if stored.contains z then u z else m₀ z) (ps c)) → News h₀ env.locals h (Led c) → Q .next { s with heap := h, toks := tk }) :
    wpAny (model prog w) A (pyIter (.ref l)) (fun it s₂ => LoopAtV prog w A h₀ env x body Q E it s₂) E s := by
  have hls : s.heap.IsList l its.toArray := hl.at fun o e => F.keep l o e
  obtain ⟨ol, hol, _⟩ := id hl
  have hl0 : l < h₀.objs.size := Heap.lt_size hol
  have hlL : l < env.locals := Nat.lt_of_lt_of_le hl0 F.above
  have hlt : l < s.heap.objs.size := Nat.lt_trans hlL F.ns.lt
  refine wpAny_pyIter_list hls ?_
  have W := Walks.list (prog := prog) (w := w) hh s.heap.objs.size l (Nat.ne_of_lt hlt) its.toArray
  have below : ∀ c, ∀ p ∈ Led c, p.1 < s.heap.objs.size := fun c p hp => by
    have : p.1 ∈ (Led c₀).map (·.1) := ha c ▸ List.mem_map.mpr ⟨p, hp, rfl⟩
    obtain ⟨q, hq, e⟩ := List.mem_map.mp this
    exact e ▸ Heap.lt_size (N q hq).1
  let J' : Nat → (Str → Option Value) → List (Addr × Obj) → Prop := fun i m₁ news₁ => ∃ c, news₁ = Led c ∧ J i c ∧ (∀ p ∈ ps c, m₁ p.1 = some p.2) ∧ (∀ z, (∀ p ∈ ps c, z ≠ p.1) → stored.contains z = false → m₁ z = m₀ z)
  refine ⟨_, _, _, its.toArray.size, _, _, m₀, Led c₀, J', rfl, W, ?_, ?_, ?_, ⟨⟨_, Heap.get?_push_size _ rfl, rfl, rfl⟩, hls.at fun o e => Heap.get?_push_of_some _ e⟩, F.push _, (fun p hp => ⟨Heap.get?_push_of_some _ (N p hp).1, (N p hp).2⟩), ⟨c₀, rfl, hj, hk, fun _ _ _ => rfl⟩, ?_, ?_⟩
  · intro hm
    rcases List.mem_cons.mp hm with e | hm
    · exact absurd F.ns.lt (e ▸ Nat.lt_irrefl _)
    · exact Nat.ne_of_gt hlL (List.mem_singleton.mp hm)
  · intro b hb
    rw [List.mem_singleton.mp hb]
    exact next_is_new F
  · intro p hp hI
    exact absurd (Heap.lt_size (N p hp).1) ((List.mem_singleton.mp hI) ▸ Nat.lt_irrefl _)
  · rintro i v m₁ news₁ s₁ own ⟨hh', tk', rfl⟩ hin hP ⟨c, rfl, hJ, h1, h2⟩ hoff hown hget hall hst F₁ N₁
    have hP' : its[i]? = some v := by simpa using hP
    obtain ⟨oI, hoI, _⟩ := hst.1
    have hIown : (s.heap.objs.size, oI) ∈ own := hall _ (by simp) (next_is_new F) _ hoI
    have N₂ : News h₀ env.locals hh' ((s.heap.objs.size, oI) :: Led c) := fun p hp => by
      rcases List.mem_cons.mp hp with rfl | hp
      · exact N₁ _ (List.mem_append.mpr (.inl hIown))
      · exact N₁ _ (List.mem_append.mpr (.inr hp))
    have F₂ : Fr h₀ env.locals hh' (fun y => if y = x then some v else kstB (fun z => if stored.contains z then m₁ z else m₀ z) (ps c) y) := by
      have em : kstB (fun z => if stored.contains z then m₁ z else m₀ z) (ps c) = m₁ := by
        funext y
        refine kstB_eq h1 fun hn => ?_
        show (if stored.contains y = true then m₁ y else m₀ y) = m₁ y
        cases h3 : stored.contains y with
        | true => simp
        | false => simp only [Bool.false_eq_true, if_false]; exact (h2 y hn h3).symm
      rw [em]
      exact F₁
    refine wpAny_mono (turn i v c m₁ hh' tk' _ oI hP' hJ (below c) F₂ N₂) (fun f s₂ p => ?_) fun _ _ e => e
    have fin : ForEnd h₀ env.locals s Led ps stored m₀ (J (i + 1)) s.heap.objs.size oI s₂ → LoopStepU h₀ env.locals [s.heap.objs.size] own (J' (i + 1)) { s with heap := hh', toks := tk' } .next s₂ := by
      rintro ⟨c', h', tk, m', news', e, F', N', hI', hn, hk', hr, hj'⟩
      refine ⟨rfl, h', tk, m', Led c', e, F', fun p hp => ?_, fun p hp hI => absurd (below c' p hp) ((List.mem_singleton.mp hI) ▸ Nat.lt_irrefl _), c', rfl, hj', hk', hr⟩
      rcases List.mem_append.mp hp with hp | hp
      · have g := hget p hp
        rcases List.mem_cons.mp (hown p hp) with e1 | e1
        · have e2 : p.2 = oI := by rw [e1, hoI] at g; exact (Option.some.inj g).symm
          have e3 : p = (s.heap.objs.size, oI) := Prod.ext e1 e2
          rw [e3]; exact N' _ hI'
        · have e1 := List.mem_singleton.mp e1
          have hno := (N₁ p (List.mem_append.mpr (.inl hp))).2.2
          rw [e1, hol] at hno
          cases hno
      · exact N' p (hn p hp)
    cases f with
    | ret v => exact .ret p
    | brk => exact .brk p
    | next => exact .next (fin p)
    | cont => exact .cont (fin p)
  · rintro h' tk m' news' F' N' _ ⟨c, rfl, hJ, h1, h2⟩
    refine done c m' h' tk (by simpa using hJ) ?_ N'
    have em : kstB (fun z => if stored.contains z then m' z else m₀ z) (ps c) = m' := by
      funext y
      refine kstB_eq h1 fun hn => ?_
      show (if stored.contains y = true then m' y else m₀ y) = m' y
      cases h3 : stored.contains y with
      | true => simp
      | false => simp only [Bool.false_eq_true, if_false]; exact (h2 y hn h3).symm
    rw [em]
    exact F'
end
end Mine
end B14Part
section P5Part
open PySem
namespace Mine
structure STO {α : Type} (r : α → α → Prop) : Prop where
  irr : ∀ a, ¬ r a a
  tr : ∀ {a b c}, r a b → r b c → r a c
  tri : ∀ a b, r a b ∨ a = b ∨ r b a
def lx {α : Type} (r : α → α → Prop) : List α → List α → Prop
  | [], [] => False
  | [], _ :: _ => True
  | _ :: _, [] => False
  | a :: x, b :: y => r a b ∨ (a = b ∧ lx r x y)
theorem STO.list {α : Type} {r : α → α → Prop} (h : STO r) : STO (lx r) where
  irr := fun a => by
    induction a with
    | nil => exact fun x => x
    | cons a x ih =>
      rintro (h1 | ⟨_, h2⟩)
      · exact h.irr a h1
      · exact ih h2
  tr := fun {a b c} => by
    intro h1 h2
    induction a generalizing b c with
    | nil =>
      cases b with
      | nil => exact h1.elim
      | cons b y =>
        cases c with
        | nil => exact h2.elim
        | cons c z => trivial
    | cons a x ih =>
      cases b with
      | nil => exact h1.elim
      | cons b y =>
        cases c with
        | nil => exact h2.elim
        | cons c z =>
          rcases h1 with h1 | ⟨e1, h1⟩
          · rcases h2 with h2 | ⟨e2, h2⟩
            · exact .inl (h.tr h1 h2)
            · subst e2; exact .inl h1
          · subst e1
            rcases h2 with h2 | ⟨e2, h2⟩
            · exact .inl h2
            · exact .inr ⟨e2, ih h1 h2⟩
  tri := fun a b => by
    induction a generalizing b with
    | nil =>
      cases b with
      | nil => exact .inr (.inl rfl)
      | cons b y => exact .inl trivial
    | cons a x ih =>
      cases b with
      | nil => exact .inr (.inr trivial)
      | cons b y =>
        rcases h.tri a b with h1 | h1 | h1
        · exact .inl (.inl h1)
        · subst h1
          rcases ih y with h2 | h2 | h2
          · exact .inl (.inr ⟨rfl, h2⟩)
          · exact .inr (.inl (by rw [h2]))
          · exact .inr (.inr (.inr ⟨rfl, h2⟩))
        · exact .inr (.inr (.inl h1))
theorem sto_u8 : STO (fun a b : UInt8 => a < b) where
  irr := fun a => UInt8.lt_irrefl a
  tr := fun h1 h2 => UInt8.lt_trans h1 h2
  tri := fun a b => by
    by_cases h1 : a < b
    · exact .inl h1
    · by_cases h2 : b < a
      · exact .inr (.inr h2)
      · exact .inr (.inl (UInt8.le_antisymm (UInt8.not_lt.mp h2) (UInt8.not_lt.mp h1)))
theorem order_lx : ∀ a b : List UInt8, (Builtin.Bytes.order a b = .lt ↔ lx (fun a b => a < b) a b) ∧ (Builtin.Bytes.order a b = .gt ↔ lx (fun a b => a < b) b a)
  | [], [] => by simp [Builtin.Bytes.order, lx]
  | [], _ :: _ => by simp [Builtin.Bytes.order, lx]
  | _ :: _, [] => by simp [Builtin.Bytes.order, lx]
  | a :: x, b :: y => by
    have ih := order_lx x y
    by_cases h1 : a < b
    · have n1 : ¬ b < a := fun h => UInt8.lt_irrefl a (UInt8.lt_trans h1 h)
      have n2 : b ≠ a := fun h => by subst h; exact UInt8.lt_irrefl _ h1
      simp [Builtin.Bytes.order, lx, h1, n1, n2]
    · by_cases h2 : b < a
      · have n2 : a ≠ b := fun h => by subst h; exact UInt8.lt_irrefl _ h2
        simp [Builtin.Bytes.order, lx, h1, h2, n2]
      · have e : a = b := UInt8.le_antisymm (UInt8.not_lt.mp h2) (UInt8.not_lt.mp h1)
        subst e
        simp [Builtin.Bytes.order, lx, h1, ih]
abbrev RB : List (List UInt8) → List (List UInt8) → Prop := lx (lx fun a b : UInt8 => a < b)
theorem sto_RB : STO RB := sto_u8.list.list
theorem lexL_lt : ∀ a b, lexL .lt a b = true ↔ RB a b
  | [], [] => by simp [lexL, RB, lx]
  | [], _ :: _ => by simp [lexL, RB, lx]
  | _ :: _, [] => by simp [lexL, RB, lx]
  | a :: x, b :: y => by
    have ih := lexL_lt x y
    by_cases h1 : a = b
    · subst h1
      have := sto_u8.list.irr a
      simp [lexL, RB, lx, this, ih]
    · simp [lexL, RB, lx, h1, (order_lx a b).1]
theorem lexL_gt : ∀ a b, lexL .gt a b = true ↔ RB b a
  | [], [] => by simp [lexL, RB, lx]
  | [], _ :: _ => by simp [lexL, RB, lx]
  | _ :: _, [] => by simp [lexL, RB, lx]
  | a :: x, b :: y => by
    have ih := lexL_gt x y
    by_cases h1 : a = b
    · subst h1
      have := sto_u8.list.irr a
      simp [lexL, RB, lx, this, ih]
    · have h1' : b ≠ a := fun e => h1 e.symm
      simp [lexL, RB, lx, h1, h1', (order_lx a b).2]
theorem best_lt (cs : List (List (List UInt8))) : ∀ b, bestL .lt b cs ∈ b :: cs ∧ ∀ c ∈ b :: cs, ¬ RB c (bestL .lt b cs) := by
  induction cs with
  | nil => intro b; simp [bestL]; exact sto_RB.irr b
  | cons d cs ih =>
    intro b
    have e : bestL .lt b (d :: cs) = bestL .lt (if lexL .lt d b then d else b) cs := rfl
    obtain ⟨i1, i2⟩ := ih (if lexL .lt d b then d else b)
    rw [e]
    by_cases h : lexL .lt d b = true
    · rw [if_pos h] at i1 i2 ⊢
      have hd := i2 d (by simp)
      refine ⟨List.mem_cons_of_mem _ i1, fun c hc => ?_⟩
      rcases List.mem_cons.mp hc with rfl | hc
      · intro hr; exact hd (sto_RB.tr ((lexL_lt _ _).mp h) hr)
      · exact i2 c hc
    · rw [if_neg h] at i1 i2 ⊢
      have hb := i2 b (by simp)
      have h' : ¬ RB d b := fun x => h ((lexL_lt _ _).mpr x)
      refine ⟨by rcases List.mem_cons.mp i1 with i1 | i1 <;> simp [i1], fun c hc => ?_⟩
      rcases List.mem_cons.mp hc with rfl | hc
      · exact hb
      · rcases List.mem_cons.mp hc with rfl | hc
        · intro hr
          rcases sto_RB.tri (bestL .lt b cs) b with h3 | h3 | h3
          · exact h' (sto_RB.tr hr h3)
          · rw [h3] at hr; exact h' hr
          · exact hb h3
        · exact i2 c (List.mem_cons_of_mem _ hc)
theorem best_gt (cs : List (List (List UInt8))) : ∀ b, bestL .gt b cs ∈ b :: cs ∧ ∀ c ∈ b :: cs, ¬ RB (bestL .gt b cs) c := by
  induction cs with
  | nil => intro b; simp [bestL]; exact sto_RB.irr b
  | cons d cs ih =>
    intro b
    have e : bestL .gt b (d :: cs) = bestL .gt (if lexL .gt d b then d else b) cs := rfl
    obtain ⟨i1, i2⟩ := ih (if lexL .gt d b then d else b)
    rw [e]
    by_cases h : lexL .gt d b = true
    · rw [if_pos h] at i1 i2 ⊢
      have hd := i2 d (by simp)
      refine ⟨List.mem_cons_of_mem _ i1, fun c hc => ?_⟩
      rcases List.mem_cons.mp hc with rfl | hc
      · intro hr; exact hd (sto_RB.tr hr ((lexL_gt _ _).mp h))
      · exact i2 c hc
    · rw [if_neg h] at i1 i2 ⊢
      have hb := i2 b (by simp)
      have h' : ¬ RB b d := fun x => h ((lexL_gt _ _).mpr x)
      refine ⟨by rcases List.mem_cons.mp i1 with i1 | i1 <;> simp [i1], fun c hc => ?_⟩
      rcases List.mem_cons.mp hc with rfl | hc
      · exact hb
      · rcases List.mem_cons.mp hc with rfl | hc
        · intro hr
          rcases sto_RB.tri (bestL .gt b cs) b with h3 | h3 | h3
          · exact hb h3
          · rw [h3] at hr; exact h' hr
          · exact h' (sto_RB.tr h3 hr)
        · exact i2 c (List.mem_cons_of_mem _ hc)
/-- the common beginning -/
def cpre {α : Type} [DecidableEq α] : List α → List α → List α
  | a :: x, b :: y => if a = b then a :: cpre x y else []
  | _, _ => []
section
variable {α : Type} [DecidableEq α]
theorem cpre_left : ∀ a b : List α, cpre a b <+: a
  | [], _ => by simp [cpre]
  | _ :: _, [] => by simp [cpre]
  | a :: x, b :: y => by
    simp only [cpre]
    split
    · exact List.cons_prefix_cons.mpr ⟨rfl, cpre_left x y⟩
    · simp
theorem cpre_right : ∀ a b : List α, cpre a b <+: b
  | [], _ => by simp [cpre]
  | _ :: _, [] => by simp [cpre]
  | a :: x, b :: y => by
    simp only [cpre]
    split
    · rename_i h; subst h; exact List.cons_prefix_cons.mpr ⟨rfl, cpre_right x y⟩
    · simp
theorem cpre_max : ∀ (p a b : List α), p <+: a → p <+: b → p <+: cpre a b
  | [], _, _, _, _ => by simp
  | c :: p, [], _, h, _ => by simp at h
  | c :: p, _ :: _, [], _, h => by simp at h
  | c :: p, a :: x, b :: y, h1, h2 => by
    obtain ⟨e1, g1⟩ := List.cons_prefix_cons.mp h1
    obtain ⟨e2, g2⟩ := List.cons_prefix_cons.mp h2
    subst e1; subst e2
    simp only [cpre, if_true]
    exact List.cons_prefix_cons.mpr ⟨rfl, cpre_max p x y g1 g2⟩
omit [DecidableEq α] in
theorem pre_anti {a b : List α} (h1 : a <+: b) (h2 : b <+: a) : a = b := h1.eq_of_length (Nat.le_antisymm h1.length_le h2.length_le)
theorem fold_cpre (xs : List (List α)) : ∀ x0, (∀ c ∈ x0 :: xs, xs.foldl cpre x0 <+: c) ∧ ∀ p, (∀ c ∈ x0 :: xs, p <+: c) → p <+: xs.foldl cpre x0 := by
  induction xs with
  | nil => intro x0; simp
  | cons x xs ih =>
    intro x0
    obtain ⟨i1, i2⟩ := ih (cpre x0 x)
    rw [List.foldl_cons]
    have h0 := i1 (cpre x0 x) (by simp)
    refine ⟨fun c hc => ?_, fun p hp => i2 p fun c hc => ?_⟩
    · rcases List.mem_cons.mp hc with rfl | hc
      · exact h0.trans (cpre_left _ _)
      · rcases List.mem_cons.mp hc with rfl | hc
        · exact h0.trans (cpre_right _ _)
        · exact i1 c (List.mem_cons_of_mem _ hc)
    · rcases List.mem_cons.mp hc with rfl | hc
      · exact cpre_max _ _ _ (hp x0 (by simp)) (hp x (by simp))
      · exact hp c (by simp [hc])
theorem cpre_diff {a b : List α} {k : Nat} {x y : α} (h : a.take k = b.take k) (hx : a[k]? = some x) (hy : b[k]? = some y) (hne : x ≠ y) : cpre a b = a.take k := by
  induction k generalizing a b with
  | zero =>
    cases a with
    | nil => simp at hx
    | cons a1 a2 =>
      cases b with
      | nil => simp at hy
      | cons b1 b2 =>
        simp at hx hy
        subst hx; subst hy
        simp [cpre, hne]
  | succ k ih =>
    cases a with
    | nil => simp at hx
    | cons a1 a2 =>
      cases b with
      | nil => simp at hy
      | cons b1 b2 =>
        simp only [List.take_succ_cons, List.cons.injEq] at h
        obtain ⟨e, h⟩ := h
        subst e
        simp at hx hy
        simp only [cpre, if_true, List.take_succ_cons]
        rw [ih h hx hy]
theorem cpre_whole {a b : List α} (h : a.take a.length = b.take a.length) : cpre a b = a := by
  have h1 : a <+: b := by
    rw [List.take_length] at h
    rw [h]; exact List.take_prefix _ _
  exact pre_anti (cpre_left _ _) (cpre_max _ _ _ (List.prefix_refl _) h1)
end
theorem lx_pre {α : Type} [DecidableEq α] {r : α → α → Prop} (hr : STO r) : ∀ {a b c : List α}, ¬ lx r c a → ¬ lx r b c → cpre a b <+: c
  | [], _, _, _, _ => by simp [cpre]
  | _ :: _, [], _, _, _ => by simp [cpre]
  | a :: x, b :: y, [], h1, _ => absurd trivial h1
  | a :: x, b :: y, c :: z, h1, h2 => by
    simp only [cpre]
    split
    · rename_i e
      subst e
      simp only [lx, not_or, not_and] at h1 h2
      have e : a = c := by
        rcases hr.tri a c with h | h | h
        · exact absurd h h2.1
        · exact h
        · exact absurd h h1.1
      subst e
      exact List.cons_prefix_cons.mpr ⟨rfl, lx_pre hr (h1.2 rfl) (h2.2 rfl)⟩
    · simp
theorem lx_len {α : Type} {r : α → α → Prop} (hr : STO r) : ∀ {a b : List α} {k : Nat}, ¬ lx r b a → a.take k = b.take k → k < a.length → k < b.length
  | [], _, _, _, _, h => by simp at h
  | a :: x, [], _, h1, _, _ => absurd trivial h1
  | a :: x, b :: y, 0, _, _, _ => by simp
  | a :: x, b :: y, k + 1, h1, h2, h3 => by
    simp only [List.take_succ_cons, List.cons.injEq] at h2
    obtain ⟨e, h2⟩ := h2
    subst e
    simp only [lx, not_or, not_and] at h1
    have := lx_len hr (h1.2 trivial) h2 (by simpa using h3)
    simpa using this
/-- the common beginning of the least and the greatest is that of all -/
theorem cpre_best (x0 : List (List UInt8)) (xs : List (List (List UInt8))) : cpre (bestL .lt x0 xs) (bestL .gt x0 xs) = xs.foldl cpre x0 := by
  obtain ⟨l1, l2⟩ := best_lt xs x0
  obtain ⟨g1, g2⟩ := best_gt xs x0
  obtain ⟨f1, f2⟩ := fold_cpre xs x0
  exact pre_anti (f2 _ fun c hc => lx_pre sto_u8.list (l2 c hc) (g2 c hc)) (cpre_max _ _ _ (f1 _ l1) (f1 _ g1))
theorem best_le (x0 : List (List UInt8)) (xs : List (List (List UInt8))) {k : Nat} (h : (bestL .lt x0 xs).take k = (bestL .gt x0 xs).take k) (hk : k < (bestL .lt x0 xs).length) : k < (bestL .gt x0 xs).length :=
  lx_len sto_u8.list ((best_lt xs x0).2 _ (best_gt xs x0).1) h hk
end Mine
end P5Part
section P6Part
open PySem
namespace Mine
/-- the place of these figures -/
def pl (ds : List Nat) : Nat := ds.foldl (fun a d => 16 * a + d) 1
def ltr (d : Nat) : UInt8 := (65 + d).toUInt8
def seg (ds : List Nat) : List (List UInt8) := ds.map fun d => [ltr d]
/-- the path of these figures -/
def pb (ds : List Nat) : List UInt8 := 47 :: joinB [47] (seg ds)
abbrev Dig (ds : List Nat) : Prop := ∀ d ∈ ds, d < 16
theorem snoc_ind {α : Type} {P : List α → Prop} (h0 : P []) (h1 : ∀ l a, P l → P (l ++ [a])) : ∀ l, P l := by
  intro l
  have key : ∀ r : List α, P r.reverse := by
    intro r
    induction r with
    | nil => exact h0
    | cons a r ih => rw [List.reverse_cons]; exact h1 _ _ ih
  have := key l.reverse
  rwa [List.reverse_reverse] at this
theorem Dig.left {a b : List Nat} (h : Dig (a ++ b)) : Dig a := fun d hd => h d (by simp [hd])
theorem Dig.right {a b : List Nat} (h : Dig (a ++ b)) : Dig b := fun d hd => h d (by simp [hd])
theorem Dig.app {a b : List Nat} (h : Dig a) (k : Dig b) : Dig (a ++ b) := fun d hd => by
  rcases List.mem_append.mp hd with hd | hd
  · exact h d hd
  · exact k d hd
theorem Dig.take {a : List Nat} (h : Dig a) (k : Nat) : Dig (a.take k) := fun d hd => h d (List.mem_of_mem_take hd)
theorem Dig.drop {a : List Nat} (h : Dig a) (k : Nat) : Dig (a.drop k) := fun d hd => h d (List.mem_of_mem_drop hd)
theorem Dig.dropLast {a : List Nat} (h : Dig a) : Dig a.dropLast := fun d hd => h d ((List.dropLast_sublist a).mem hd)
theorem pl_nil : pl [] = 1 := rfl
theorem pl_snoc (ds : List Nat) (d : Nat) : pl (ds ++ [d]) = 16 * pl ds + d := by simp [pl]
theorem pl_pos (ds : List Nat) : 16 ^ ds.length ≤ pl ds := by
  induction ds using snoc_ind with
  | h0 => simp [pl]
  | h1 l a ih => rw [pl_snoc, List.length_append, List.length_singleton, Nat.pow_succ]; omega
theorem pl_lt {ds : List Nat} : Dig ds → pl ds < 2 * 16 ^ ds.length := by
  induction ds using snoc_ind with
  | h0 => intro _; simp [pl]
  | h1 l a ih =>
    intro h
    have := ih h.left
    have := h a (by simp)
    rw [pl_snoc, List.length_append, List.length_singleton, Nat.pow_succ]; omega
theorem one_pow16 (k : Nat) : 1 ≤ 16 ^ k := Nat.pos_of_ne_zero (by simp)
theorem pl_one (ds : List Nat) : 1 ≤ pl ds := Nat.le_trans (one_pow16 _) (pl_pos ds)
theorem pl_div (ds : List Nat) {d : Nat} (h : d < 16) : pl (ds ++ [d]) / 16 = pl ds := by rw [pl_snoc]; omega
theorem pl_mod (ds : List Nat) {d : Nat} (h : d < 16) : pl (ds ++ [d]) % 16 = d := by rw [pl_snoc]; omega
theorem pl_lt16 {ds : List Nat} (h : pl ds < 16) : ds = [] := by
  cases ds with
  | nil => rfl
  | cons a r =>
    have := pl_pos (a :: r)
    rw [List.length_cons, Nat.pow_succ] at this
    have := one_pow16 r.length
    omega
theorem ap_pl {ds : List Nat} : Dig ds → ap (pl ds) = 66 :: ds.map ltr := by
  induction ds using snoc_ind with
  | h0 => intro _; rw [pl_nil, ap_pos (by decide)]; show ap 0 ++ _ = _; rw [ap_zero]; rfl
  | h1 l a ih =>
    intro h
    have ha := h a (by simp)
    have h1 := pl_one l
    rw [ap_pos (by rw [pl_snoc]; omega), pl_div l ha, pl_mod l ha, ih h.left]
    simp [ltr]
theorem placeB_pl {ds : List Nat} (h : Dig ds) : placeB (pl ds) = pb ds := by
  unfold placeB
  rw [ap_pl h]
  simp only [pb, seg, List.map_map]
  rfl
theorem ltr_ne {d : Nat} (h : d < 16) : ltr d ≠ 47 ∧ ltr d ≠ 46 ∧ (ltr d).toNat = 65 + d := by
  revert h; revert d; decide
theorem ltr_inj {a b : Nat} (ha : a < 16) (hb : b < 16) (h : ltr a = ltr b) : a = b := by
  have h1 := (ltr_ne ha).2.2
  have h2 := (ltr_ne hb).2.2
  rw [h] at h1
  omega
theorem seg_app (a b : List Nat) : seg (a ++ b) = seg a ++ seg b := by simp [seg]
theorem seg_length (a : List Nat) : (seg a).length = a.length := by simp [seg]
theorem seg_parts {ds : List Nat} (h : Dig ds) : ∀ b ∈ seg ds, ∃ d, d < 16 ∧ b = [ltr d] := by
  intro b hb
  obtain ⟨d, hd, rfl⟩ := List.mem_map.mp hb
  exact ⟨d, h d hd, rfl⟩
theorem seg_no {ds : List Nat} (h : Dig ds) : ∀ b ∈ seg ds, (47 : UInt8) ∉ b := by
  intro b hb
  obtain ⟨d, hd, rfl⟩ := seg_parts h b hb
  simp [Ne.symm (ltr_ne hd).1]
theorem joinB_snoc (sep : List UInt8) : ∀ (xs : List (List UInt8)) (x : List UInt8), joinB sep (xs ++ [x]) = if xs = [] then x else joinB sep xs ++ (sep ++ x)
  | [], x => by simp [joinB]
  | [a], x => by simp [joinB]
  | a :: b :: r, x => by
    have ih := joinB_snoc sep (b :: r) x
    rw [if_neg (by simp)] at ih
    rw [if_neg (by simp)]
    show a ++ (sep ++ joinB sep (b :: r ++ [x])) = _
    rw [ih]
    simp [joinB]
theorem splitB_none {x : UInt8} : ∀ {l : List UInt8}, x ∉ l → splitB x l = [l]
  | [], _ => rfl
  | c :: r, h => by
    have hc : c ≠ x := fun e => h (by simp [e])
    have hr : x ∉ r := fun e => h (by simp [e])
    simp only [splitB, if_neg hc, splitB_none hr]
theorem splitB_app (x : UInt8) : ∀ (a b : List UInt8), splitB x (a ++ x :: b) = splitB x a ++ splitB x b
  | [], b => by simp [splitB]
  | c :: r, b => by
    have ih := splitB_app x r b
    rw [List.cons_append]
    by_cases hc : c = x
    · simp only [splitB, if_pos hc, ih, List.cons_append]
    · simp only [splitB, if_neg hc, ih]
      cases hs : splitB x r with
      | nil => exact absurd hs (splitB_ne x r)
      | cons p q => simp
theorem splitB_join {x : UInt8} : ∀ {ps : List (List UInt8)}, ps ≠ [] → (∀ b ∈ ps, x ∉ b) → splitB x (joinB [x] ps) = ps
  | [], h, _ => absurd rfl h
  | [a], _, h => splitB_none (h a (by simp))
  | a :: b :: r, _, h => by
    show splitB x (a ++ ([x] ++ joinB [x] (b :: r))) = _
    rw [List.singleton_append, splitB_app, splitB_none (h a (by simp)), splitB_join (by simp) fun c hc => h c (by simp [hc])]
    rfl
theorem posB_app (x : UInt8) : ∀ (a b : List UInt8) (o : Nat), posB x o (a ++ b) = posB x o a ++ posB x (o + a.length) b
  | [], b, o => by simp [posB]
  | c :: r, b, o => by
    have e : o + (c :: r).length = o + 1 + r.length := by simp; omega
    rw [List.cons_append, e]
    by_cases hc : c = x
    · simp only [posB, if_pos hc, posB_app x r b, List.cons_append]
    · simp only [posB, if_neg hc, posB_app x r b]
theorem posB_none {x : UInt8} : ∀ {l : List UInt8} {o : Nat}, x ∉ l → posB x o l = []
  | [], _, _ => rfl
  | c :: r, o, h => by
    have hc : c ≠ x := fun e => h (by simp [e])
    have hr : x ∉ r := fun e => h (by simp [e])
    simp only [posB, if_neg hc, posB_none hr]
theorem lastB_at {x : UInt8} (a : List UInt8) {b : List UInt8} (h : x ∉ b) : BR.lastB x (a ++ x :: b) = a.length := by
  unfold BR.lastB
  rw [posB_app]
  simp [posB, posB_none h]
theorem split_tl {a b : List UInt8} (h : (47 : UInt8) ∉ b) : splitTl (a ++ 47 :: b) = b := by
  unfold splitTl
  rw [lastB_at a h, show ((a.length : Int) + 1).toNat = a.length + 1 by omega]
  rw [List.drop_append]
  simp
theorem split_hd0 {b : List UInt8} (h : (47 : UInt8) ∉ b) : splitHd (47 :: b) = [47] := by
  have := lastB_at [] h
  simp only [List.nil_append, List.length_nil] at this
  unfold splitHd
  rw [this]
  rw [if_neg]
  · rfl
  · rintro ⟨_, h2⟩; revert h2; show (([47] : List UInt8) != [47]) = true → False; decide
theorem split_hd1 {a b : List UInt8} {c : UInt8} (h : (47 : UInt8) ∉ b) (hc : c ≠ 47) : splitHd (a ++ [c] ++ 47 :: b) = a ++ [c] := by
  unfold splitHd
  rw [lastB_at (a ++ [c]) h, show (((a ++ [c]).length : Int) + 1).toNat = (a ++ [c]).length + 1 by omega]
  have e : (a ++ [c] ++ 47 :: b).take ((a ++ [c]).length + 1) = a ++ [c] ++ [47] := by
    rw [List.take_append, List.take_of_length_le (by omega)]
    simp
  rw [e, if_pos]
  · simp [BR.rstripB, hc]
  · refine ⟨by simp, ?_⟩
    simp only [bne_iff_ne]
    intro h2
    have : c ∈ (List.replicate (a ++ [c] ++ [47]).length [(47 : UInt8)]).flatten := by rw [← h2]; simp
    obtain ⟨l, hl, hcl⟩ := List.mem_flatten.mp this
    rw [(List.mem_replicate.mp hl).2] at hcl
    exact hc (List.mem_singleton.mp hcl)
theorem pb_snoc (ds : List Nat) (d : Nat) : pb (ds ++ [d]) = (if ds = [] then [] else pb ds) ++ 47 :: [ltr d] := by
  unfold pb
  rw [seg_app]
  show 47 :: joinB [47] (seg ds ++ [[ltr d]]) = _
  rw [joinB_snoc]
  cases ds with
  | nil => rfl
  | cons a r => rw [if_neg (by simp [seg]), if_neg (by simp)]; simp
theorem pb_length {ds : List Nat} : (pb ds).length ≤ 1 + 2 * ds.length := by
  induction ds using snoc_ind with
  | h0 => simp [pb, seg, joinB]
  | h1 l a ih =>
    rw [pb_snoc, List.length_append, List.length_append]
    split <;> simp <;> omega
theorem pb_last {ds : List Nat} (h : ds ≠ []) : ∃ a d, d ∈ ds ∧ pb ds = a ++ [ltr d] := by
  induction ds using snoc_ind with
  | h0 => exact absurd rfl h
  | h1 l a ih =>
    refine ⟨(if l = [] then [] else pb l) ++ [47], a, by simp, ?_⟩
    rw [pb_snoc]; simp
theorem pb_split_tl (ds : List Nat) {d : Nat} (h : d < 16) : splitTl (pb (ds ++ [d])) = [ltr d] := by
  rw [pb_snoc]; exact split_tl (by simp [Ne.symm (ltr_ne h).1])
theorem pb_split_hd {ds : List Nat} {d : Nat} (hd : Dig ds) (h : d < 16) : splitHd (pb (ds ++ [d])) = pb ds := by
  rw [pb_snoc]
  have hb : (47 : UInt8) ∉ [ltr d] := by simp [Ne.symm (ltr_ne h).1]
  by_cases e : ds = []
  · subst e; rw [if_pos rfl]; exact split_hd0 hb
  · rw [if_neg e]
    obtain ⟨a, c, hc, q⟩ := pb_last e
    rw [q]
    exact split_hd1 hb (ltr_ne (hd c hc)).1
theorem pb_split_nil : splitTl (pb []) = [] ∧ splitHd (pb []) = [47] := ⟨split_tl (a := []) (b := []) (by simp), split_hd0 (b := []) (by simp)⟩
end Mine
end P6Part
section P7Part
open PySem
namespace Mine
/-- what a number says of a step -/
def sK (n : Int) : Nat := n.natAbs % 6144 % 6
def sD (n : Int) : Nat := n.natAbs % 6144 / 6 % 16
def sE (n : Int) : Nat := n.natAbs % 6144 / 96 % 16
def sB (n : Int) : Nat := n.natAbs % 6144 / 1536
theorem sD_lt (n : Int) : sD n < 16 := Nat.mod_lt _ (by decide)
theorem sE_lt (n : Int) : sE n < 16 := Nat.mod_lt _ (by decide)
theorem sB_lt (n : Int) : sB n < 4 := by unfold sB; omega
theorem abs_if (n : Int) : (if n < 0 then -n else n) = (n.natAbs : Int) := by split <;> omega
theorem step0 (n : Int) : (if n < 0 then -n else n).fmod 6144 = ((n.natAbs % 6144 : Nat) : Int) := by
  rw [abs_if, Int.fmod_eq_emod_of_nonneg _ (by decide)]; omega
theorem stepK (n : Int) : ((if n < 0 then -n else n).fmod 6144).fmod 6 = (sK n : Int) := by
  rw [step0, Int.fmod_eq_emod_of_nonneg _ (by decide)]; unfold sK; omega
theorem stepD (n : Int) : (((if n < 0 then -n else n).fmod 6144).fdiv 6).fmod 16 = (sD n : Int) := by
  rw [step0, Int.fdiv_eq_ediv_of_nonneg _ (by decide), Int.fmod_eq_emod_of_nonneg _ (by decide)]; unfold sD; omega
theorem stepE (n : Int) : (((if n < 0 then -n else n).fmod 6144).fdiv 96).fmod 16 = (sE n : Int) := by
  rw [step0, Int.fdiv_eq_ediv_of_nonneg _ (by decide), Int.fmod_eq_emod_of_nonneg _ (by decide)]; unfold sE; omega
theorem stepB (n : Int) : ((if n < 0 then -n else n).fmod 6144).fdiv 1536 = (sB n : Int) := by
  rw [step0, Int.fdiv_eq_ediv_of_nonneg _ (by decide)]; unfold sB; omega
theorem ltr_of (d : Nat) : (65 + (d : Int)).toNat.toUInt8 = ltr d := by
  unfold ltr
  rw [show (65 + (d : Int)).toNat = 65 + d by omega]
theorem pl_two (ds : List Nat) (a b : Nat) : pl (ds ++ [a, b]) = 16 * (16 * pl ds + a) + b := by simp [pl]
def sepB : Nat → List UInt8
  | 0 => [47]
  | 1 => [47, 47]
  | 2 => [47, 46, 47]
  | _ => [47, 46, 46, 47]
/-- the step's part -/
def partB (n : Int) : List UInt8 :=
  if sK n = 0 then [46, 46] else if sK n = 3 then [ltr (sD n)] ++ sepB (sB n) ++ [ltr (sE n)] else if sK n = 4 then [46, 46, 47, 46, 46, 47, ltr (sD n)] else if sK n = 5 then [47, ltr (sD n)] else [ltr (sD n)]
/-- the step's end -/
def goalD (n : Int) (ds : List Nat) : List Nat :=
  if sK n = 0 then ds.dropLast else if sK n = 3 then (if sB n = 3 then ds ++ [sE n] else ds ++ [sD n, sE n]) else if sK n = 4 then ds.dropLast.dropLast ++ [sD n] else if sK n = 5 then [sD n] else ds ++ [sD n]
theorem goalD_dig (n : Int) {ds : List Nat} (h : Dig ds) : Dig (goalD n ds) := by
  have h1 := sD_lt n
  have h2 := sE_lt n
  have one : ∀ {d}, d < 16 → Dig [d] := fun hd e he => by rw [List.mem_singleton.mp he]; exact hd
  unfold goalD
  split
  · exact h.dropLast
  · split
    · split
      · exact h.app (one h2)
      · exact h.app (fun e he => by simp at he; rcases he with rfl | rfl <;> assumption)
    · split
      · exact h.dropLast.dropLast.app (one h1)
      · split
        · exact one h1
        · exact h.app (one h1)
theorem goalD_length (n : Int) (ds : List Nat) : (goalD n ds).length ≤ ds.length + 2 := by
  unfold goalD
  split
  · simp; omega
  · split
    · split <;> simp
    · split
      · simp; omega
      · split <;> simp
theorem partB_length (n : Int) : (partB n).length ≤ 7 := by
  have h := sB_lt n
  unfold partB
  split
  · simp
  · split
    · have : ∀ k, (sepB k).length ≤ 4 := by intro k; unfold sepB; split <;> simp
      have := this (sB n)
      simp; omega
    · split
      · simp
      · split <;> simp
theorem above_pl {ds : List Nat} (h : Dig ds) : above (pl ds) = pl ds.dropLast := by
  rcases List.eq_nil_or_concat ds with e | ⟨r, d, e⟩
  · subst e; rfl
  · rw [List.concat_eq_append] at e
    subst e
    have hd := h d (by simp)
    have h1 := pl_one r
    rw [List.dropLast_concat]
    have := pl_div r hd
    unfold above
    rw [pl_snoc] at *
    rw [if_neg (by push_cast; omega)]
    omega
end Mine
end P7Part
section P8Part
open PySem
namespace Mine
theorem pl_take {ds : List Nat} : Dig ds → ∀ k, k ≤ ds.length → pl ds / 16 ^ k = pl (ds.take (ds.length - k)) := by
  induction ds using snoc_ind with
  | h0 => intro _ k hk; simp at hk; subst hk; simp
  | h1 l a ih =>
    intro h k hk
    cases k with
    | zero => rw [Nat.sub_zero, List.take_length]; simp
    | succ k =>
      rw [Nat.pow_succ, Nat.mul_comm, ← Nat.div_div_eq_div_mul, pl_div l (h a (by simp))]
      simp only [List.length_append, List.length_singleton] at hk ⊢
      rw [ih h.left k (by omega)]
      rw [show l.length + 1 - (k + 1) = l.length - k by omega, List.take_append_of_le_length (by omega)]
theorem pl_len {a b : List Nat} (ha : Dig a) (hb : Dig b) (h : pl a = pl b) : a.length = b.length := by
  have a1 := pl_pos a
  have a2 := pl_lt ha
  have b1 := pl_pos b
  have b2 := pl_lt hb
  rcases Nat.lt_trichotomy a.length b.length with h1 | h1 | h1
  · have := Nat.pow_le_pow_right (n := 16) (by decide) (show a.length + 1 ≤ b.length from h1)
    rw [Nat.pow_succ] at this
    omega
  · exact h1
  · have := Nat.pow_le_pow_right (n := 16) (by decide) (show b.length + 1 ≤ a.length from h1)
    rw [Nat.pow_succ] at this
    omega
theorem pl_gt_len {a b : List Nat} (ha : Dig a) (h : a.length < b.length) : pl a < pl b := by
  have a2 := pl_lt ha
  have b1 := pl_pos b
  have := Nat.pow_le_pow_right (n := 16) (by decide) (show a.length + 1 ≤ b.length from h)
  rw [Nat.pow_succ] at this
  omega
theorem pl_inj {a : List Nat} : ∀ {b : List Nat}, Dig a → Dig b → pl a = pl b → a = b := by
  induction a using snoc_ind with
  | h0 =>
    intro b ha hb h
    have := pl_len ha hb h
    exact (List.length_eq_zero_iff.mp this.symm).symm
  | h1 l x ih =>
    intro b ha hb h
    have hl := pl_len ha hb h
    rcases List.eq_nil_or_concat b with e | ⟨r, y, e⟩
    · subst e; simp at hl
    · rw [List.concat_eq_append] at e
      subst e
      have hx := ha x (by simp)
      have hy := hb y (by simp)
      have h1 := pl_div l hx
      have h2 := pl_div r hy
      have h3 := pl_mod l hx
      have h4 := pl_mod r hy
      rw [h] at h1 h3
      rw [ih ha.left hb.left (h1.symm.trans h2), show x = y by omega]
theorem cpre_dropL {a b : List Nat} (h : (cpre a b).length < a.length) : cpre a.dropLast b = cpre a b := by
  have h1 := cpre_left a b
  have h2 := cpre_right a b
  refine pre_anti (cpre_max _ _ _ ((cpre_left _ _).trans (List.dropLast_prefix a)) (cpre_right _ _)) (cpre_max _ _ _ ?_ h2)
  rw [List.dropLast_eq_take]
  exact List.prefix_take_iff.mpr ⟨h1, by omega⟩
theorem cpre_comm {α : Type} [DecidableEq α] (a b : List α) : cpre a b = cpre b a := pre_anti (cpre_max _ _ _ (cpre_right _ _) (cpre_left _ _)) (cpre_max _ _ _ (cpre_right _ _) (cpre_left _ _))
theorem cpre_same {α : Type} [DecidableEq α] (a : List α) : cpre a a = a := pre_anti (cpre_left _ _) (cpre_max _ _ _ (List.prefix_refl _) (List.prefix_refl _))
theorem cpre_short {a b : List Nat} (hne : a ≠ b) (h : b.length ≤ a.length) : (cpre a b).length < a.length := by
  have h1 := (cpre_left a b)
  have h2 := (cpre_right a b)
  rcases Nat.lt_or_ge (cpre a b).length a.length with h3 | h3
  · exact h3
  · exfalso
    apply hne
    have e1 := h1.eq_of_length (Nat.le_antisymm h1.length_le h3)
    have := h2.length_le
    have e2 := h2.eq_of_length (by rw [e1]; rw [e1] at this; omega)
    rw [← e1, e2]
/-- the meeting place is the common beginning -/
theorem meet_pl : ∀ (k : Nat) {a b : List Nat}, a.length + b.length ≤ k → Dig a → Dig b → meetN (pl a) (pl b) = pl (cpre a b) := by
  intro k
  induction k with
  | zero =>
    intro a b hk ha hb
    have e1 : a = [] := List.length_eq_zero_iff.mp (by omega)
    have e2 : b = [] := List.length_eq_zero_iff.mp (by omega)
    subst e1; subst e2
    rw [meetN_same]; rfl
  | succ k ih =>
    intro a b hk ha hb
    by_cases hab : a = b
    · subst hab; rw [meetN_same, cpre_same]
    · have hne : pl a ≠ pl b := fun h => hab (pl_inj ha hb h)
      rcases Nat.lt_or_ge (pl b) (pl a) with h | h
      · rw [meetN_gt h]
        have hl : b.length ≤ a.length := by
          rcases Nat.lt_or_ge a.length b.length with h1 | h1
          · have := pl_gt_len ha h1; omega
          · exact h1
        have hs := cpre_short hab hl
        rcases List.eq_nil_or_concat a with e | ⟨r, x, e⟩
        · subst e; simp at hs
        · rw [List.concat_eq_append] at e
          subst e
          rw [pl_div r (ha x (by simp)), ← cpre_dropL hs, List.dropLast_concat]
          exact ih (by simp at hk; omega) ha.left hb
      · have h : pl a < pl b := by omega
        rw [meetN_lt h]
        have hl : a.length ≤ b.length := by
          rcases Nat.lt_or_ge b.length a.length with h1 | h1
          · have := pl_gt_len hb h1; omega
          · exact h1
        have hs := cpre_short (Ne.symm hab) hl
        rw [cpre_comm a b]
        rcases List.eq_nil_or_concat b with e | ⟨r, x, e⟩
        · subst e; simp at hs
        · rw [List.concat_eq_append] at e
          subst e
          rw [pl_div r (hb x (by simp)), ← cpre_dropL hs, List.dropLast_concat, cpre_comm]
          exact ih (by simp at hk; omega) ha hb.left
theorem cpre_dig {a b : List Nat} (h : Dig a) : Dig (cpre a b) := fun d hd => h d ((cpre_left a b).subset hd)
theorem pre_take {α : Type} {p a : List α} (h : p <+: a) : a.take p.length = p := (List.prefix_iff_eq_take.mp h).symm
theorem dnB_pl {b : List Nat} (h : Dig b) : ∀ j, j ≤ b.length → dnB j (pl b) = seg (b.drop (b.length - j)) := by
  intro j
  induction j with
  | zero => intro _; simp [dnB, seg]
  | succ j ih =>
    intro hj
    have hlt : b.length - (j + 1) < b.length := by omega
    rw [dnB, ih (by omega), List.drop_eq_getElem_cons hlt, show b.length - (j + 1) + 1 = b.length - j by omega, pl_take h j (by omega)]
    have e : b.take (b.length - j) = b.take (b.length - (j + 1)) ++ [b[b.length - (j + 1)]] := by
      rw [show b.length - j = b.length - (j + 1) + 1 by omega, List.take_add_one, List.getElem?_eq_getElem hlt]
      rfl
    rw [e, pl_mod _ (h _ (List.getElem_mem _))]
    rfl
/-- the figures alone -/
def rs (ds : List Nat) : Nat := ds.foldl (fun a d => 16 * a + d) 0
theorem rs_snoc (ds : List Nat) (d : Nat) : rs (ds ++ [d]) = 16 * rs ds + d := by simp [rs]
theorem pl_rs (ds : List Nat) : pl ds = 16 ^ ds.length + rs ds := by
  induction ds using snoc_ind with
  | h0 => rfl
  | h1 l a ih => rw [pl_snoc, rs_snoc, ih, List.length_append, List.length_singleton, Nat.pow_succ]; omega
theorem dropWhile_snoc_all {p : Nat → Bool} : ∀ {l : List Nat} {a : Nat}, l.dropWhile p = [] → (l ++ [a]).dropWhile p = [a].dropWhile p
  | [], _, _ => rfl
  | c :: r, a, h => by
    by_cases hc : p c = true
    · rw [List.dropWhile_cons, if_pos hc] at h
      rw [List.cons_append, List.dropWhile_cons, if_pos hc]
      exact dropWhile_snoc_all h
    · rw [List.dropWhile_cons, if_neg hc] at h; cases h
theorem dropWhile_snoc {p : Nat → Bool} : ∀ {l : List Nat} {a : Nat}, l.dropWhile p ≠ [] → (l ++ [a]).dropWhile p = l.dropWhile p ++ [a]
  | [], _, h => absurd rfl h
  | c :: r, a, h => by
    by_cases hc : p c = true
    · rw [List.dropWhile_cons, if_pos hc] at h
      rw [List.cons_append, List.dropWhile_cons, if_pos hc, List.dropWhile_cons, if_pos hc]
      exact dropWhile_snoc h
    · rw [List.cons_append, List.dropWhile_cons, if_neg hc, List.dropWhile_cons, if_neg hc]; rfl
theorem rs_zero {ds : List Nat} : rs ds = 0 ↔ ds.dropWhile (· == 0) = [] := by
  induction ds using snoc_ind with
  | h0 => simp [rs]
  | h1 l a ih =>
    rw [rs_snoc]
    constructor
    · intro h
      have h1 : rs l = 0 := by omega
      have h2 : a = 0 := by omega
      rw [dropWhile_snoc_all (ih.mp h1), h2]; rfl
    · intro h
      by_cases hl : l.dropWhile (· == 0) = []
      · rw [dropWhile_snoc_all hl] at h
        have h1 := ih.mpr hl
        by_cases ha : a = 0
        · omega
        · have : (a == 0) = false := by simpa using ha
          simp [this] at h
      · rw [dropWhile_snoc hl] at h
        simp at h
theorem ap_rs {ds : List Nat} : Dig ds → ap (rs ds) = (ds.dropWhile (· == 0)).map ltr := by
  induction ds using snoc_ind with
  | h0 => intro _; exact ap_zero
  | h1 l a ih =>
    intro h
    have ha := h a (by simp)
    have ih := ih h.left
    by_cases hz : rs l = 0
    · rw [dropWhile_snoc_all (rs_zero.mp hz), rs_snoc, hz]
      by_cases ha0 : a = 0
      · subst ha0; exact ap_zero
      · have e : (a == 0) = false := by simpa using ha0
        rw [ap_pos (by omega), show (16 * 0 + a) / 16 = 0 by omega, ap_zero, show (16 * 0 + a) % 16 = a by omega]
        simp [e, ltr]
    · rw [dropWhile_snoc (fun h => hz (rs_zero.mpr h)), rs_snoc, ap_pos (by omega), show (16 * rs l + a) / 16 = rs l by omega, show (16 * rs l + a) % 16 = a by omega, ih]
      simp [ltr]
theorem strip_ltr : ∀ {ds : List Nat}, Dig ds → (ds.map ltr).dropWhile (· == 65) = (ds.dropWhile (· == 0)).map ltr
  | [], _ => rfl
  | d :: r, h => by
    have hd := h d (by simp)
    have hr : Dig r := fun e he => h e (by simp [he])
    rw [List.map_cons, List.dropWhile_cons, List.dropWhile_cons]
    by_cases h0 : d = 0
    · subst h0
      have e : (ltr 0 == 65) = true := by decide
      rw [if_pos e, if_pos (by rfl)]
      exact strip_ltr hr
    · have e : (ltr d == 65) = false := by
        have := (ltr_ne hd).2.2
        simp only [beq_eq_false_iff_ne]
        intro h1
        rw [h1] at this
        have e2 : (65 : UInt8).toNat = 65 := rfl
        omega
      have e' : (d == 0) = false := by simpa using h0
      rw [e, e']
      rfl
theorem flat_seg : ∀ ds : List Nat, joinB [] (seg ds) = ds.map ltr
  | [] => rfl
  | [a] => rfl
  | a :: b :: r => by
    have := flat_seg (b :: r)
    show [ltr a] ++ ([] ++ joinB [] (seg (b :: r))) = _
    rw [this]; rfl
theorem pb_split {ds : List Nat} (h : Dig ds) : splitB 47 (pb ds) = [] :: (if ds = [] then [[]] else seg ds) := by
  unfold pb
  rw [splitB, if_pos rfl]
  congr 1
  by_cases e : ds = []
  · subst e; rfl
  · rw [if_neg e]; exact splitB_join (by simpa [seg] using e) (seg_no h)
theorem flat_split {ds : List Nat} (h : Dig ds) : joinB [] (splitB 47 (pb ds)) = ds.map ltr := by
  rw [pb_split h]
  by_cases e : ds = []
  · subst e; rfl
  · rw [if_neg e, ← flat_seg ds]
    cases ds with
    | nil => exact absurd rfl e
    | cons a r => rfl
theorem keep_seg {ds : List Nat} (h : Dig ds) : (seg ds).filter keepC = seg ds := by
  rw [List.filter_eq_self]
  intro b hb
  obtain ⟨d, hd, rfl⟩ := seg_parts h b hb
  simp [keepC, (ltr_ne hd).2.1]
theorem keep_pb {ds : List Nat} (h : Dig ds) : (splitB 47 (pb ds)).filter keepC = seg ds := by
  rw [pb_split h]
  by_cases e : ds = []
  · subst e; rfl
  · rw [if_neg e, List.filter_cons]
    show (if (keepC []) = true then _ else _) = _
    rw [if_neg (by decide), keep_seg h]
theorem cpre_seg : ∀ {a b : List Nat}, Dig a → Dig b → cpre (seg a) (seg b) = seg (cpre a b)
  | [], _, _, _ => by simp [seg, cpre]
  | _ :: _, [], _, _ => by simp [seg, cpre]
  | x :: a, y :: b, ha, hb => by
    have ih := cpre_seg (a := a) (b := b) (fun d hd => ha d (by simp [hd])) fun d hd => hb d (by simp [hd])
    show cpre ([ltr x] :: seg a) ([ltr y] :: seg b) = _
    by_cases e : x = y
    · subst e
      simp only [cpre, if_true, ih]
      rfl
    · have e2 : [ltr x] ≠ [ltr y] := fun h => e (ltr_inj (ha x (by simp)) (hb y (by simp)) (List.cons.inj h).1)
      simp only [cpre, if_neg e, if_neg e2]
      rfl
theorem fold_cpre_seg : ∀ (bs : List (List Nat)) {a : List Nat}, Dig a → (∀ b ∈ bs, Dig b) → (bs.map seg).foldl cpre (seg a) = seg (bs.foldl cpre a) ∧ Dig (bs.foldl cpre a)
  | [], a, ha, _ => ⟨rfl, ha⟩
  | b :: bs, a, ha, hb => by
    rw [List.map_cons, List.foldl_cons, List.foldl_cons, cpre_seg ha (hb b (by simp))]
    exact fold_cpre_seg bs (cpre_dig ha) fun c hc => hb c (by simp [hc])
/-- the path that join makes, behind its first slash -/
def jn (r w : List UInt8) : List UInt8 := if w.head? = some 47 then w.tail else if r = [] ∨ r.getLast? = some 47 then r ++ w else r ++ 47 :: w
theorem jn_length (r w : List UInt8) : (jn r w).length ≤ r.length + w.length + 1 := by
  unfold jn
  split
  · simp; omega
  · split <;> simp; omega
theorem jn_head {r w : List UInt8} (hr : r.head? ≠ some 47) (hw : w.head? ≠ some 47) : (jn r w).head? ≠ some 47 := by
  unfold jn
  rw [if_neg hw]
  cases r with
  | nil => simpa using hw
  | cons c r => split <;> simpa using hr
theorem norm_app (a b : List UInt8) : normC (splitB 47 (a ++ 47 :: b)) = (splitB 47 b).foldl stepC (normC (splitB 47 a)) := by
  rw [splitB_app]; unfold normC; rw [List.foldl_append]
theorem jn_norm {r w : List UInt8} (hw : w.head? ≠ some 47) : normC (splitB 47 (jn r w)) = (splitB 47 w).foldl stepC (normC (splitB 47 r)) := by
  unfold jn
  rw [if_neg hw]
  by_cases h0 : r = []
  · subst h0; rw [if_pos (.inl rfl)]; rfl
  · by_cases h1 : r.getLast? = some 47
    · rw [if_pos (.inr h1)]
      obtain ⟨r', e⟩ : ∃ r', r = r' ++ [47] := ⟨r.dropLast, by
        rcases List.eq_nil_or_concat r with e | ⟨q, y, e⟩
        · exact absurd e h0
        · rw [List.concat_eq_append] at e
          subst e
          simp at h1
          rw [List.dropLast_concat, h1]⟩
      subst e
      have e1 : r' ++ [47] ++ w = r' ++ 47 :: w := by simp
      have e2 : r' ++ [47] = r' ++ 47 :: [] := rfl
      rw [e1, norm_app, e2, norm_app]
      rfl
    · rw [if_neg (by simp [h0, h1]), norm_app]
theorem step_seg {ds : List Nat} (h : Dig ds) : ∀ acc, (seg ds).foldl stepC acc = acc ++ seg ds := by
  induction ds with
  | nil => intro acc; simp [seg]
  | cons d r ih =>
    intro acc
    have hd := ltr_ne (h d (by simp))
    show (seg r).foldl stepC (stepC acc [ltr d]) = _
    rw [stepC_in (by simp) (by simpa using hd.2.1) (by simp), ih fun e he => h e (by simp [he])]
    simp [seg]
theorem step_up : ∀ (i : Nat) (acc : List (List UInt8)), (List.replicate i [46, 46]).foldl stepC acc = acc.take (acc.length - i) := by
  intro i
  induction i with
  | zero => intro acc; simp
  | succ i ih =>
    intro acc
    rw [List.replicate_succ, List.foldl_cons, stepC_up, ih, List.length_dropLast, List.dropLast_eq_take, List.take_take]
    congr 1
    omega
/-- the way's parts -/
def wayL (a b : List Nat) : List (List UInt8) := List.replicate (a.length - (cpre a b).length) [46, 46] ++ seg (b.drop (cpre a b).length)
theorem wayL_no {a b : List Nat} (hb : Dig b) : ∀ x ∈ wayL a b, (47 : UInt8) ∉ x := by
  intro x hx
  rcases List.mem_append.mp hx with hx | hx
  · rw [(List.mem_replicate.mp hx).2]; decide
  · exact seg_no (hb.drop _) x hx
theorem wayL_parts {a b : List Nat} (hb : Dig b) : ∀ x ∈ wayL a b, x ≠ [] ∧ x.length ≤ 2 := by
  intro x hx
  rcases List.mem_append.mp hx with hx | hx
  · rw [(List.mem_replicate.mp hx).2]; simp
  · obtain ⟨d, _, rfl⟩ := seg_parts (hb.drop _) x hx; simp
theorem way_fold {a b : List Nat} (hb : Dig b) : (splitB 47 (joinB [47] (wayL a b))).foldl stepC (seg a) = seg b := by
  have h1 := cpre_left a b
  have h2 := cpre_right a b
  have hl := h1.length_le
  have key : (wayL a b).foldl stepC (seg a) = seg b := by
    unfold wayL
    rw [List.foldl_append, step_up, step_seg (hb.drop _), seg_length, show a.length - (a.length - (cpre a b).length) = (cpre a b).length by omega]
    have e1 : (seg a).take (cpre a b).length = seg (cpre a b) := by
      unfold seg
      rw [← List.map_take, pre_take h1]
    rw [e1, ← seg_app]
    congr 1
    conv => lhs; lhs; rw [← pre_take h2]
    exact List.take_append_drop _ _
  by_cases e : wayL a b = []
  · rw [e] at key ⊢
    exact key
  · rw [splitB_join e (wayL_no hb)]
    exact key
theorem way_head {a b : List Nat} (hb : Dig b) : (joinB [47] (wayL a b)).head? ≠ some 47 := by
  have h1 := wayL_no (a := a) hb
  have h2 := wayL_parts (a := a) hb
  cases hw : wayL a b with
  | nil => simp [joinB]
  | cons x r =>
    rw [hw] at h1 h2
    have hx := (h2 x (by simp)).1
    have hn := h1 x (by simp)
    cases x with
    | nil => exact absurd rfl hx
    | cons c x =>
      have hc : c ≠ 47 := fun e => hn (by simp [e])
      cases r with
      | nil => simpa [joinB] using hc
      | cons y r => simpa [joinB] using hc
theorem way_length {a b : List Nat} (hb : Dig b) (k : Nat) (h1 : a.length ≤ k) (h2 : b.length ≤ k) : (joinB [47] (wayL a b)).length ≤ 2 * k * 3 := by
  have := joinB_length [47] 2 (wayL a b) fun x hx => (wayL_parts hb x hx).2
  have hl : (wayL a b).length ≤ 2 * k := by
    unfold wayL
    rw [List.length_append, List.length_replicate, seg_length, List.length_drop]; omega
  have h3 : (wayL a b).length * (2 + [(47 : UInt8)].length) ≤ 2 * k * 3 := Nat.mul_le_mul_right _ hl
  omega
/-- the step's part leads to the step's end -/
theorem part_fold (n : Int) {ds : List Nat} (hk : sK n ≠ 5) : (splitB 47 (partB n)).foldl stepC (seg ds) = seg (goalD n ds) ∧ (partB n).head? ≠ some 47 := by
  have hd := ltr_ne (sD_lt n)
  have he := ltr_ne (sE_lt n)
  have hD : ∀ acc, stepC acc [ltr (sD n)] = acc ++ [[ltr (sD n)]] := fun acc => stepC_in (by simp) (by simpa using hd.2.1) (by simp)
  have hE : ∀ acc, stepC acc [ltr (sE n)] = acc ++ [[ltr (sE n)]] := fun acc => stepC_in (by simp) (by simpa using he.2.1) (by simp)
  have h0 : ∀ acc, stepC acc [] = acc := fun acc => stepC_skip (.inl rfl)
  have h1 : ∀ acc, stepC acc [46] = acc := fun acc => stepC_skip (.inr rfl)
  have sdl : ∀ l : List Nat, (seg l).dropLast = seg l.dropLast := fun l => by simp [seg]
  unfold partB goalD
  by_cases h2 : sK n = 0
  · rw [if_pos h2, if_pos h2]
    refine ⟨?_, by decide⟩
    show stepC (seg ds) [46, 46] = _
    rw [stepC_up, sdl]
  · rw [if_neg h2, if_neg h2]
    by_cases h3 : sK n = 3
    · rw [if_pos h3, if_pos h3]
      refine ⟨?_, by simpa using hd.1⟩
      have h4 := sB_lt n
      rcases (show sB n = 0 ∨ sB n = 1 ∨ sB n = 2 ∨ sB n = 3 by omega) with h | h | h | h
      · rw [h, if_neg (by decide)]
        have e : splitB 47 ([ltr (sD n)] ++ sepB 0 ++ [ltr (sE n)]) = [[ltr (sD n)], [ltr (sE n)]] := by simp [splitB, sepB, hd.1, he.1]
        rw [e]
        simp only [List.foldl_cons, List.foldl_nil, hD, hE]
        simp [seg]
      · rw [h, if_neg (by decide)]
        have e : splitB 47 ([ltr (sD n)] ++ sepB 1 ++ [ltr (sE n)]) = [[ltr (sD n)], [], [ltr (sE n)]] := by simp [splitB, sepB, hd.1, he.1]
        rw [e]
        simp only [List.foldl_cons, List.foldl_nil, hD, hE, h0]
        simp [seg]
      · rw [h, if_neg (by decide)]
        have e : splitB 47 ([ltr (sD n)] ++ sepB 2 ++ [ltr (sE n)]) = [[ltr (sD n)], [46], [ltr (sE n)]] := by simp [splitB, sepB, hd.1, he.1]
        rw [e]
        simp only [List.foldl_cons, List.foldl_nil, hD, hE, h1]
        simp [seg]
      · rw [h, if_pos rfl]
        have e : splitB 47 ([ltr (sD n)] ++ sepB 3 ++ [ltr (sE n)]) = [[ltr (sD n)], [46, 46], [ltr (sE n)]] := by simp [splitB, sepB, hd.1, he.1]
        rw [e]
        simp only [List.foldl_cons, List.foldl_nil, hD, hE, stepC_up, List.dropLast_concat]
        simp [seg]
    · rw [if_neg h3, if_neg h3]
      by_cases h4 : sK n = 4
      · rw [if_pos h4, if_pos h4]
        refine ⟨?_, by simp⟩
        have e : splitB 47 [46, 46, 47, 46, 46, 47, ltr (sD n)] = [[46, 46], [46, 46], [ltr (sD n)]] := by simp [splitB, hd.1]
        rw [e]
        simp only [List.foldl_cons, List.foldl_nil, hD, stepC_up, sdl]
        simp [seg]
      · rw [if_neg h4, if_neg h4, if_neg hk, if_neg hk]
        refine ⟨?_, by simpa using hd.1⟩
        have e : splitB 47 [ltr (sD n)] = [[ltr (sD n)]] := by simp [splitB, hd.1]
        rw [e]
        simp only [List.foldl_cons, List.foldl_nil, hD]
        simp [seg]
/-- the path behind a step -/
theorem step_path (n : Int) {ds : List Nat} {r : List UInt8} (hr : r.head? ≠ some 47) (h : normC (splitB 47 r) = seg ds) : normC (splitB 47 (jn r (partB n))) = seg (goalD n ds) ∧ (jn r (partB n)).head? ≠ some 47 := by
  by_cases hk : sK n = 5
  · have hd := ltr_ne (sD_lt n)
    have e1 : partB n = [47, ltr (sD n)] := by simp [partB, hk]
    have e2 : goalD n ds = [sD n] := by simp [goalD, hk]
    have e3 : jn r (partB n) = [ltr (sD n)] := by rw [e1]; rfl
    rw [e2, e3]
    refine ⟨?_, by simpa using hd.1⟩
    have e : splitB 47 [ltr (sD n)] = [[ltr (sD n)]] := by simp [splitB, hd.1]
    rw [e]
    show stepC [] [ltr (sD n)] = _
    rw [stepC_in (by simp) (by simpa using hd.2.1) (by simp)]; rfl
  · obtain ⟨p1, p2⟩ := part_fold n (ds := ds) hk
    exact ⟨by rw [jn_norm p2, h, p1], jn_head hr p2⟩
end Mine
end P8Part
section WalkPart
open PySem PySem.W PyProof.Rows
namespace Mine
open BR
theorem lines9 : True := by
  k_with "getMethod bytes" => (k_here; first
      | (with_reducible refine BR.m_startswith ?_) | (with_reducible refine BR.m_endswith ?_) | (with_reducible refine BR.m_rfind ?_) | (with_reducible refine BR.m_lstrip ?_)
      | (with_reducible refine BR.m_rstrip ?_) | (with_reducible refine BR.m_split ?_) | (with_reducible refine BR.m_join ?_))
  k_with "call builtin:bytes.startswith" => (k_here; k_dflt ((show wpAny _ _ (call (Value.builtin "bytes.startswith") [_, _]) _ _ _); (with_reducible refine BR.c_startswith ?_)))
  k_with "call builtin:bytes.endswith" => (k_here; k_dflt ((show wpAny _ _ (call (Value.builtin "bytes.endswith") [_, _]) _ _ _); (with_reducible refine BR.c_endswith ?_)))
  k_with "call builtin:bytes.rfind" => (k_here; k_dflt ((show wpAny _ _ (call (Value.builtin "bytes.rfind") [_, _]) _ _ _); (with_reducible refine BR.c_rfind ?_); intro _ _))
  k_with "call builtin:bytes.lstrip" => (k_here; k_dflt ((show wpAny _ _ (call (Value.builtin "bytes.lstrip") [_, _]) _ _ _); (with_reducible refine BR.c_lstrip ?z ?_); (case z => kby_size); intro _ _))
  k_with "call builtin:bytes.rstrip" => (k_here; k_dflt ((show wpAny _ _ (call (Value.builtin "bytes.rstrip") [_, _]) _ _ _); (with_reducible refine BR.c_rstrip ?z ?_); (case z => kby_size); intro _ _))
  k_with "call builtin:bytes.split" => (k_here; k_dflt ((show wpAny _ _ (call (Value.builtin "bytes.split") [_, _]) _ _ _); (with_reducible refine' BR.c_split ?F ?N ?z ?_); (case F => k_asm); (case N => k_asm); (case z => kby_size); intro vs' l' h' k' hv' F' N' l1; (try k_lt l1); (try k_sweep)))
  k_with "call builtin:bytes.join" => (k_here; k_dflt ((show wpAny _ _ (call (Value.builtin "bytes.join") [_, _]) _ _ _); (with_reducible refine' BR.c_join ?N ?m ?v ?z ?_); (case N => k_asm); (case m => k_mem); (case v => ktr_rel); (case z => kby_size); intro _ _))
  k_with "binaryOp Add bytes bytes" => (k_here; k_dflt ((with_reducible refine BR.o_add ?z ?_); (case z => kby_size); intro _ _))
  k_with "call builtin:len" => (k_here; k_dflt ((with_reducible refine BR.o_len ?z ?_); (case z => kby_size); intro _ _))
  k_with "truthy bytes" => (k_here; k_dflt ((with_reducible refine BR.o_truthy ?z ?_); (case z => kby_size); intro _))
  k_with "compareOp Eq bytes bytes" => (k_here; k_dflt ((with_reducible refine BR.o_eq ?_)))
  k_with "compareOp NotEq bytes bytes" => (k_here; k_dflt ((with_reducible refine BR.o_ne ?_)))
  k_with "subscriptTail" => (k_here; k_dflt ((with_reducible show wpAny _ _ (subscriptTail _ (Expr.Slice _ _ none _) (Value.bytes (List.toArray _) _) (Value.ref _)) _ _ _); (with_reducible rename Fr _ _ _ _ => F'); (with_reducible rename News _ _ _ _ => N'); (refine BR.o_cut (s := ⟨_, _, _, _, _⟩) F' N' (by constructor) (by constructor) (by kby_size) ?_); intro _ _ _ _ _))
  k_with "size9" => first | assumption | omega | ((simp only [List.length_append, List.length_cons, List.length_nil, List.length_reverse, List.length_map, List.length_take, List.length_drop] at *); omega)
  k_with "rel9" => first | assumption | exact AreB.nil | exact AreB.cons (by ktr_rel) | exact AreB.append (by ktr_rel) (by ktr_rel)
  k_with "go9" => repeat' (first
      | (fail_if_success (with_reducible show wpAny _ _ (exec (Stmt.While _ _ _ _) _) _ _ _)
         fail_if_success (with_reducible show wpAny _ _ (exec (Stmt.Assign _ (Expr.ListComp _ _ _ _) _) _) _ _ _)
         fail_if_success (with_reducible show CT.SrcT _ _ _ _ _ _ _ _ _ _ _ _ _ _)
         fail_if_success (with_reducible show LCg.FinA _ _ _ _ _ _ _ _)
         fail_if_success (with_reducible show LCg.CompSrc _ _ _ _ _ _ _ _ _ _ _ _ _ _)
         fail_if_success (with_reducible show LCt.CompSrcT _ _ _ _ _ _ _ _ _ _ _ _ _ _ _)
         fail_if_success (with_reducible show ST.SrcS _ _ _ _ _ _ _ _ _ _ _ _ _ _)
         fail_if_success (with_reducible show wpAny _ _ (assign (Expr.Tuple [Expr.Name _ _] _ _) _ (Value.ref _)) _ _ _)
         fail_if_success (with_reducible show LCg.CompEnd _ _ _ _ _ _ _ _ _ _ _ _ _ _)
         fail_if_success (with_reducible show LCg.FinE _ _ _ _ _ _ _)
         fail_if_success (with_reducible show wpAny _ _ (pyIter _) _ _ _)
         fail_if_success (with_reducible show ForEnd _ _ _ _ _ _ _ _ _ _ _)
         fail_if_success (with_reducible show KswEnd _ _ _ _ _ _ _ _ _ _ _ _)
         fail_if_success (with_reducible show wpAny _ _ (exec (Stmt.For _ _ _ _ _) _) _ _ _)
         fail_if_success (with_reducible show wpAny _ _ (eval (Expr.ListComp _ _ _ _) _) _ _ _)
         fail_if_success (with_reducible show wpAny _ _ (eval (Expr.SetComp _ _ _ _) _) _ _ _)
         fail_if_success (with_reducible show wpAny _ _ (call (Value.builtin "min") _) _ _ _)
         fail_if_success (with_reducible show wpAny _ _ (call (Value.builtin "max") _) _ _ _)
         fail_if_success (with_reducible show wpAny _ _ (call (Value.type "enumerate") _) _ _ _)
         fail_if_success (with_reducible show ItemsRest _ _ _ _ _ _ _ _ _ _ _ _ _ _ _)
         fail_if_success (with_reducible show UnrEndW _ _ _ _ _ _)
         first | (k_unfold; (try dsimp only)) | (k_end; wrow_close) | walk1 | (dsimp only; walk1) | (leave1; walk_say "STEP leave1"; try dsimp only))
      | fail "no step")
  k_with "binaryOp Add ref ref" => (k_here; k_dflt ((with_reducible show wpAny _ _ (binaryOp _ (Value.ref _) (Value.ref _)) _ _ _); (with_reducible refine' BR.o_addL ?F ?N ?a ?b ?z ?_); (case F => k_asm); (case N => k_asm); (case a => k_mem); (case b => k_mem); (case z => kby_size); intro D' h' F' N' l1; (try k_lt l1); (try k_sweep)))
  k_with "call type:type" => (k_here; k_dflt ((with_reducible refine BR.c_type ?_)))
  k_with "call builtin:issubclass" => (k_here; k_dflt ((with_reducible refine' BR.c_issubN ?N ?m ?_); (case N => k_asm); (case m => k_mem); intro _))
  k_with "inplaceOp Add" => (k_here; k_dflt ((with_reducible refine BR.o_iadd ?z ?_); (case z => kby_size); intro _ _))
  k_with "newTuple" => (k_here; k_dflt ((with_reducible refine' newTuple_M ?F ?N ?_ ?z); (case F => k_asm); (case N => k_asm); (case z => first | exact Nat.le_of_ble_eq_true rfl | kby_size); intro x' h' F' N' l1 lx'; (try k_lt l1); (try k_sweep)))
  k_with "ForPost" => (dsimp only [ForPost])
  k_with "truthy ref" => (k_here; k_dflt ((with_reducible refine' BR.o_truthyL ?N ?m ?z ?_); (case N => k_asm); (case m => k_mem); (case z => kby_size); intro _))
  k_with "subscriptTail Name UnaryOp ref int" => (k_here; (with_reducible show wpAny _ _ (subscriptTail _ _ (Value.ref _) (Value.int (-1) _)) _ _ _); k_dflt (refine' BR.o_lastL ?N ?m ?v ?e ?_ ?s; (case N => k_asm); (case m => k_mem); (case v => ktr_rel); (case e => first | assumption | simp_all only [Bool.not_eq_true', Bool.not_eq_false']); (case s => with_unfolding_all rfl)); intro _)
  k_with "call builtin:list.pop" => (k_here; (show wpAny _ _ (call (Value.builtin "list.pop") [Value.ref _]) _ _ _); k_dflt (refine' BR.o_popL ?F ?N ?U ?v ?e ?z ?_; (case F => k_asm); (case N => k_asm); (case U => k_upd); (case v => ktr_rel); (case e => first | assumption | simp_all only [Bool.not_eq_true', Bool.not_eq_false']); (case z => kby_size)); intro h' t' F' N' hv'; (try k_sweep))
  k_with "call builtin:list.append" => (k_here; (show wpAny _ _ (call (Value.builtin "list.append") [Value.ref _, _]) _ _ _); k_dflt (refine' BR.o_appendL ?F ?N ?U ?z ?_; (case F => k_asm); (case N => k_asm); (case U => k_upd); (case z => kby_size)); intro h' F' N'; (try k_sweep))
  k_with "truthy ref" => (k_here; k_dflt ((with_reducible refine' BR.o_truthyT ?N ?m ?z ?_); (case N => k_asm); (case m => k_mem); (case z => kby_size); intro _))
  k_with "subscriptTail Name Constant ref int" => (k_here; (with_reducible show wpAny _ _ (subscriptTail _ _ (Value.ref _) (Value.int 0 _)) _ _ _); k_dflt (refine' BR.o_itemT0 ?N ?m ?_ ?s ?g; (case N => k_asm); (case m => k_mem); (case s => with_unfolding_all rfl); (case g => (intro _; with_unfolding_all rfl)); k_whole))
  trivial
local macro_rules | `(tactic| walk_at $s:str) => `(tactic| k_extra $s)
local macro_rules | `(tactic| kby_size) => `(tactic| k_extra "size9")
local macro_rules | `(tactic| ktr_rel) => `(tactic| k_extra "rel9")
local macro_rules | `(tactic| ktn_open) => `(tactic| k_extra "go9")
section C0Part
theorem c_ap (n : Int) (t : Tok) (h0 : n.natAbs < 16 ^ 20) : SaysP 1 28 [.int n t] (fun t => .bytes (ap n.natAbs).toArray t) := by
  have hap := ap_length 20 _ h0
  (try unfold SaysP); (try unfold SaysT); unfold SaysV
  w_on
  k_fill
  intro w mean mg mb dp un gd cn cs a ccd cl outer A₀ base h₀ L m s Q E B F X T hk hdp hun hPre hret
  k_dflt (refine' code_defE ?k1 ?k2 ?k3 ?k5 ?kA ?kF ?kK ?k6 ?k7 ?k8 ?k9 ?kB ?_ ?c2 ?c3 ?c4 ?c5; (case kA => exact rfl); (case kF => exact rfl); (case kK => assumption); (case k1 => exact B); (case k2 => exact F); (case k3 => exact X); (case k5 => exact T); (case k6 => k_is); (case k7 => k_is); (case k8 => ktr_room); (case k9 => exact BindsTo.of_eq rfl); (case c5 => decide); (case kB => exact locs rfl); (case c2 => exact rfl); (case c3 => exact rfl); (case c4 => exact rfl); k_whole; intro L' h' hL' F' N' B' X' T'; (try dsimp only); (try k_fold))
  ktn_open
  (with_reducible rename Fr _ _ _ _ => lF'); (with_reducible rename News _ _ _ _ => lN')
  refine' ksw_while (σ := Int × Tok × List UInt8 × Tok) (fun _ => []) (fun c => [(Str.ofString "num", Value.int c.1 c.2.1), (Str.ofString "val", Value.bytes c.2.2.1.toArray c.2.2.2)]) (fun _ => True) [Str.ofString "mod"] (fun c => 0 ≤ c.1 ∧ ap c.1.toNat ++ c.2.2.1 = ap n.natAbs) (fun c => c.1.toNat) (_, _, [], _) lF' lN' trivial ?kk ?kp ?_
  case kk => kst_all
  case kp =>
    refine ⟨by dsimp only; split <;> omega, ?_⟩
    dsimp only
    rw [List.append_nil]
    congr 1
    split <;> omega
  clear lF' lN'
  rintro ⟨num, t1, val, t2⟩ kU kH kTk - ⟨i1, i2⟩ kFr kNews
  dsimp only [kstB] at kFr i1 i2
  have hvl : val.length ≤ 20 := by
    have := congrArg List.length i2
    simp only [List.length_append] at this
    omega
  have hcl := cutB_length [65, 66, 67, 68, 69, 70, 71, 72, 73, 74, 75, 76, 77, 78, 79, 80] (some (num.fmod 16)) (some (num.fmod 16 + 1))
  simp only [List.length_cons, List.length_nil] at hcl
  try k_fold
  ktn_open
  · have e1 : num.fdiv 16 = num / 16 := Int.fdiv_eq_ediv_of_nonneg _ (by decide)
    have e2 : num.fmod 16 = num % 16 := Int.fmod_eq_emod_of_nonneg _ (by decide)
    refine' ksw_end (num.fdiv 16, _, cutB [65, 66, 67, 68, 69, 70, 71, 72, 73, 74, 75, 76, 77, 78, 79, 80] (some (num.fmod 16)) (some (num.fmod 16 + 1)) ++ val, _) (by assumption) (by assumption) (by intro p hp; simp [hp]) trivial ?kk ?kr ?kp ?km
    case kk => kst_all
    case kr => ksw_same
    case km => dsimp only; rw [e1]; omega
    case kp =>
      dsimp only
      rw [e1, e2]
      refine ⟨by omega, ?_⟩
      rw [cut_letter _ (by omega) (by omega), ← List.append_assoc, ← i2]
      congr 1
      have hn : num.toNat ≠ 0 := by omega
      rw [ap_pos hn]
      have h1 : (num / 16).toNat = num.toNat / 16 := by omega
      have h2 : (num % 16).toNat = num.toNat % 16 := by omega
      rw [h1, h2]
  · refine finB (s := s) (Q := Q) hret (by assumption) ?_
    have : num = 0 := by assumption
    subst this
    rw [← i2]
    simp [ap_zero]
end C0Part
section C1Part
theorem c_above (n : Int) (t : Tok) : SaysP 1 167 [.int n t] (fun t => .int (above n) t) := by
  (try unfold SaysP); (try unfold SaysT); unfold SaysV
  w_on
  k_fill
  intro w mean mg mb dp un gd cn cs a ccd cl outer A₀ base h₀ L m s Q E B F X T hk hdp hun hPre hret
  k_dflt (refine' code_defE ?k1 ?k2 ?k3 ?k5 ?kA ?kF ?kK ?k6 ?k7 ?k8 ?k9 ?kB ?_ ?c2 ?c3 ?c4 ?c5; (case kA => exact rfl); (case kF => exact rfl); (case kK => assumption); (case k1 => exact B); (case k2 => exact F); (case k3 => exact X); (case k5 => exact T); (case k6 => k_is); (case k7 => k_is); (case k8 => ktr_room); (case k9 => exact BindsTo.of_eq rfl); (case c5 => decide); (case kB => exact locs rfl); (case c2 => exact rfl); (case c3 => exact rfl); (case c4 => exact rfl); k_whole; intro L' h' hL' F' N' B' X' T'; (try dsimp only); (try k_fold))
  ktn_open
  · refine finI (s := s) (Q := Q) hret (by assumption) ?_
    rw [above, if_pos (by assumption)]
  · refine finI (s := s) (Q := Q) hret (by assumption) ?_
    rw [above, if_neg (by assumption), Int.fdiv_eq_ediv_of_nonneg _ (by decide)]
theorem c_letter (d : Int) (t : Tok) (h0 : 0 ≤ d) (h1 : d < 16) : SaysP 1 155 [.int d t] (fun t => .bytes [(65 + d).toNat.toUInt8].toArray t) := by
  (try unfold SaysP); (try unfold SaysT); unfold SaysV
  w_on
  k_fill
  intro w mean mg mb dp un gd cn cs a ccd cl outer A₀ base h₀ L m s Q E B F X T hk hdp hun hPre hret
  k_dflt (refine' code_defE ?k1 ?k2 ?k3 ?k5 ?kA ?kF ?kK ?k6 ?k7 ?k8 ?k9 ?kB ?_ ?c2 ?c3 ?c4 ?c5; (case kA => exact rfl); (case kF => exact rfl); (case kK => assumption); (case k1 => exact B); (case k2 => exact F); (case k3 => exact X); (case k5 => exact T); (case k6 => k_is); (case k7 => k_is); (case k8 => ktr_room); (case k9 => exact BindsTo.of_eq rfl); (case c5 => decide); (case kB => exact locs rfl); (case c2 => exact rfl); (case c3 => exact rfl); (case c4 => exact rfl); k_whole; intro L' h' hL' F' N' B' X' T'; (try dsimp only); (try k_fold))
  ktn_open
  exact finB (s := s) (Q := Q) hret (by assumption) rfl
theorem c_meet (x y : Int) (t t2 : Tok) (h1 : 0 ≤ x) (h2 : 0 ≤ y) : SaysP 1 174 [.int x t, .int y t2] (fun t => .int (meetN x.toNat y.toNat) t) := by
  (try unfold SaysP); (try unfold SaysT); unfold SaysV
  w_on
  k_fill
  intro w mean mg mb dp un gd cn cs a ccd cl outer A₀ base h₀ L m s Q E B F X T hk hdp hun hPre hret
  k_dflt (refine' code_defE ?k1 ?k2 ?k3 ?k5 ?kA ?kF ?kK ?k6 ?k7 ?k8 ?k9 ?kB ?_ ?c2 ?c3 ?c4 ?c5; (case kA => exact rfl); (case kF => exact rfl); (case kK => assumption); (case k1 => exact B); (case k2 => exact F); (case k3 => exact X); (case k5 => exact T); (case k6 => k_is); (case k7 => k_is); (case k8 => ktr_room); (case k9 => exact BindsTo.of_eq rfl); (case c5 => decide); (case kB => exact locs rfl); (case c2 => exact rfl); (case c3 => exact rfl); (case c4 => exact rfl); k_whole; intro L' h' hL' F' N' B' X' T'; (try dsimp only); (try k_fold))
  ktn_open
  (with_reducible rename Fr _ _ _ _ => lF'); (with_reducible rename News _ _ _ _ => lN')
  refine' ksw_while (σ := Int × Tok × Int × Tok) (fun _ => []) (fun c => [(Str.ofString "a", Value.int c.1 c.2.1), (Str.ofString "b", Value.int c.2.2.1 c.2.2.2)]) (fun _ => True) [] (fun c => 0 ≤ c.1 ∧ 0 ≤ c.2.2.1 ∧ meetN c.1.toNat c.2.2.1.toNat = meetN x.toNat y.toNat) (fun c => c.1.toNat + c.2.2.1.toNat) (_, _, _, _) lF' lN' trivial ?kk ?kp ?_
  case kk => kst_all
  case kp => exact ⟨h1, h2, rfl⟩
  clear lF' lN'
  rintro ⟨p, t1, q, t3⟩ kU kH kTk - ⟨i1, i2, i3⟩ kFr kNews
  dsimp only [kstB] at kFr i1 i2 i3
  try k_fold
  ktn_open
  · have hlt : q < p := by assumption
    refine' ksw_end (p.fdiv 16, _, q, _) (by assumption) (by assumption) (fun p hp => hp) trivial ?kk ?kr ?kp ?km
    case kk => kst_all
    case kr => ksw_same
    case km => dsimp only; rw [fdiv16 i1]; omega
    case kp =>
      dsimp only
      refine ⟨fdiv16_nonneg i1, i2, ?_⟩
      rw [fdiv16 i1, ← meetN_gt (by omega), i3]
  · have hne : p ≠ q := by assumption
    have hlt : ¬ q < p := by assumption
    refine' ksw_end (p, _, q.fdiv 16, _) (by assumption) (by assumption) (fun p hp => hp) trivial ?kk ?kr ?kp ?km
    case kk => kst_all
    case kr => ksw_same
    case km => dsimp only; rw [fdiv16 i2]; omega
    case kp =>
      dsimp only
      refine ⟨i1, fdiv16_nonneg i2, ?_⟩
      rw [fdiv16 i2, ← meetN_lt (by omega), i3]
  · have he : p = q := by assumption
    refine finI (s := s) (Q := Q) hret (by assumption) ?_
    rw [← i3, he, meetN_same]
    omega
theorem c_rest (n : Int) (t : Tok) (h1 : 1 ≤ n) (h2 : n < 16 ^ 20) (k : Nat) (hk1 : 16 ^ k ≤ n) (hk2 : n < 16 ^ (k + 1)) : SaysP 1 195 [.int n t] (fun t => .int (n - 16 ^ k) t) := by
  (try unfold SaysP); (try unfold SaysT); unfold SaysV
  w_on
  k_fill
  intro w mean mg mb dp un gd cn cs a ccd cl outer A₀ base h₀ L m s Q E B F X T hk hdp hun hPre hret
  k_dflt (refine' code_defE ?k1 ?k2 ?k3 ?k5 ?kA ?kF ?kK ?k6 ?k7 ?k8 ?k9 ?kB ?_ ?c2 ?c3 ?c4 ?c5; (case kA => exact rfl); (case kF => exact rfl); (case kK => assumption); (case k1 => exact B); (case k2 => exact F); (case k3 => exact X); (case k5 => exact T); (case k6 => k_is); (case k7 => k_is); (case k8 => ktr_room); (case k9 => exact BindsTo.of_eq rfl); (case c5 => decide); (case kB => exact locs rfl); (case c2 => exact rfl); (case c3 => exact rfl); (case c4 => exact rfl); k_whole; intro L' h' hL' F' N' B' X' T'; (try dsimp only); (try k_fold))
  ktn_open
  (with_reducible rename Fr _ _ _ _ => lF'); (with_reducible rename News _ _ _ _ => lN')
  refine' ksw_while (σ := Int × Tok × Nat) (fun _ => []) (fun c => [(Str.ofString "weight", Value.int c.1 c.2.1)]) (fun _ => True) [] (fun c => c.1 = 16 ^ c.2.2 ∧ 1 ≤ c.1 ∧ c.1 ≤ n) (fun c => (n - c.1).toNat) (_, _, 0) lF' lN' trivial ?kk ?kp ?_
  case kk => kst_all
  case kp => exact ⟨rfl, by dsimp only; omega, h1⟩
  clear lF' lN'
  rintro ⟨wt, t1, j⟩ kU kH kTk - ⟨i1, i2, i3⟩ kFr kNews
  dsimp only [kstB] at kFr i1 i2 i3
  try k_fold
  ktn_open
  · have hle : wt * 16 ≤ n := by assumption
    refine' ksw_end (wt * 16, _, j + 1) (by assumption) (by assumption) (fun p hp => hp) trivial ?kk ?kr ?kp ?km
    case kk => kst_all
    case kr => ksw_same
    case km => dsimp only; omega
    case kp => exact ⟨by dsimp only; rw [i1, Int.pow_succ], by dsimp only; omega, hle⟩
  · have hle : ¬ wt * 16 ≤ n := by assumption
    refine finI (s := s) (Q := Q) hret (by assumption) ?_
    have : j = k := pow16_uniq (n := n) (by omega) (by rw [Int.pow_succ]; omega) hk1 hk2
    rw [i1, this]
end C1Part
section C2Part
theorem lineC2x1 : True := by
  k_with "call ref" => (k_here; (with_reducible show wpAny _ _ (call (Value.ref 28) [Value.int _ _]) _ _ _); k_dflt (refine' SaysP.use (c_ap _ _ ?h0) ?k1 ?k2 ?k3 ?k4 ?k5 ?kK ?kd ?ku ?_; (case h0 => first | assumption | omega | l_fact | ktr_rel); (case k1 => k_asm); (case k2 => k_asm); (case k3 => k_asm); (case k4 => k_asm); (case k5 => k_asm); (case kK => first | exact rfl | assumption); (case kd => first | exact room9 hdp rfl | ktr_room); (case ku => first | exact units9 1 hun rfl | exact units9 2 hun rfl | exact units9 3 hun rfl | exact units9 4 hun rfl | ktr_units); k_whole); intro t9 h9 tk9 F9 N9; (try dsimp only); (try k_sweep); (try k_fold))
  trivial
theorem c_place (n : Int) (t : Tok) (h0 : n.natAbs < 16 ^ 20) : SaysP 2 160 [.int n t] (fun t => .bytes (placeB n.natAbs).toArray t) := by
  have hap := ap_length 20 _ h0
  (try unfold SaysP); (try unfold SaysT); unfold SaysV
  w_on
  k_fill
  intro w mean mg mb dp un gd cn cs a ccd cl outer A₀ base h₀ L m s Q E B F X T hk hdp hun hPre hret
  k_dflt (refine' code_defEC ?k1 ?k2 ?k3 ?k5 ?kA ?kF ?kK ?k6 ?k7 ?k8 ?k9 ?kB ?kD ?_ ?c2 ?c3 ?c4; (case kA => exact rfl); (case kF => exact rfl); (case kK => assumption); (case k1 => exact B); (case k2 => exact F); (case k3 => exact X); (case k5 => exact T); (case k6 => k_is); (case k7 => k_is); (case k8 => ktr_room); (case k9 => exact BindsTo.of_eq rfl); (case kB => exact rfl); (case kD => decide +kernel); (case c2 => exact rfl); (case c3 => exact rfl); (case c4 => exact rfl); k_whole; intro L' h' tk' cells' hL' F' N' Y' B' X' T'; k_cells Y'; (try simp only [List.cons_append, List.nil_append] at N'); (try dsimp only); (try k_fold))
  ktn_open
  · refine finB (s := s) (Q := Q) hret (by assumption) ?_
    have hne : (cutB (ap n.natAbs) none (some 1) != [66]) = true := by assumption
    rw [cutB_to_lit] at hne
    exact (placeB_no (by simpa using hne)).symm
  · k_dflt (refine LCg.ListComp_U (F₀ := by k_asm) (by with_unfolding_all rfl) (by decide) (by rfl) (by decide) (by rfl) ?_)
    ktn_open
    refine LCg.CompSrc.range (by rfl) (by k_asm) (by k_asm) (by assumption) (by first | decide | exact small_one (by l_bnd) (by l_bnd) (by l_bnd) (by l_bnd)) (n := (ap n.natAbs).length - 1) (by rw [rangeSize_nat]; omega) (by rw [sizeLine_eq]; omega) ?_
    intro g'
    refine' comp_inv (fun i ys nw => nw = _ ∧ AreB ys ((((ap n.natAbs).drop 1).take i).map fun c => [c])) ⟨rfl, by simp only [List.take_zero, List.map_nil]; exact .nil⟩ ?turn ?fin
    case turn =>
      intro i v ys nw I oI C oC D m₂ h tk E' hi hJ hP hC hx F9 N9 off ne
      obtain ⟨rfl, hy⟩ := hJ
      obtain ⟨t0, rfl⟩ := hP
      simp only [LCg.Off3, and_true] at off
      ktn_open
      have hc : (ap n.natAbs)[1 + i]? = some ((ap n.natAbs)[1 + i]'(by omega)) := List.getElem?_eq_getElem _
      have e1 := cutB_one _ _ _ hc
      rw [show ((1 + i : Nat) : Int) = 1 + (i : Int) by omega] at e1
      rw [e1]
      refine LCg.CompEnd.intro (by assumption) (by assumption) _ (fun p hp => hp) (by simp only [LCg.Off3, and_true]; exact off) trivial ⟨rfl, ?_⟩
      rw [List.take_add_one, List.map_append, List.getElem?_drop, hc]
      exact hy.append (.cons .nil)
    case fin =>
      intro ys nw hJ
      obtain ⟨rfl, hy⟩ := hJ
      intro D h tk F9 N9 off
      rw [List.take_of_length_le (by simp)] at hy
      have hjl := joinB_length [47] 1 (((ap n.natAbs).drop 1).map fun c => [c]) (by intro b hb; obtain ⟨c, _, rfl⟩ := List.mem_map.mp hb; simp)
      simp only [List.length_map, List.length_drop, List.length_cons, List.length_nil] at hjl
      ktn_open
      refine finB (s := s) (Q := Q) hret (by assumption) ?_
      have hne : (cutB (ap n.natAbs) none (some 1) != [66]) = false := by first | assumption | simpa using (by assumption)
      rw [cutB_to_lit] at hne
      rw [placeB_yes (by simpa using hne)]
      rfl
end C2Part
section C3Part
theorem lineC3x1 : True := by
  k_with "call ref" => (k_here; (with_reducible show wpAny _ _ (call (Value.ref 174) [Value.int _ _, Value.int _ _]) _ _ _); k_dflt (refine' SaysP.use (c_meet _ _ _ _ ?h1 ?h2) ?k1 ?k2 ?k3 ?k4 ?k5 ?kK ?kd ?ku ?_; (case h1 => first | assumption | omega | l_fact | ktr_rel); (case h2 => first | assumption | omega | l_fact | ktr_rel); (case k1 => k_asm); (case k2 => k_asm); (case k3 => k_asm); (case k4 => k_asm); (case k5 => k_asm); (case kK => first | exact rfl | assumption); (case kd => first | exact room9 hdp rfl | ktr_room); (case ku => first | exact units9 1 hun rfl | exact units9 2 hun rfl | exact units9 3 hun rfl | exact units9 4 hun rfl | ktr_units); k_whole); intro t9 h9 tk9 F9 N9; (try dsimp only); (try k_sweep); (try k_fold))
  trivial
theorem lineC3x2 : True := by
  k_with "call ref" => (k_here; (with_reducible show wpAny _ _ (call (Value.ref 155) [Value.int _ _]) _ _ _); k_dflt (refine' SaysP.use (c_letter _ _ ?h1 ?h2) ?k1 ?k2 ?k3 ?k4 ?k5 ?kK ?kd ?ku ?_; (case h1 => first | assumption | omega | l_fact | ktr_rel); (case h2 => first | assumption | omega | l_fact | ktr_rel); (case k1 => k_asm); (case k2 => k_asm); (case k3 => k_asm); (case k4 => k_asm); (case k5 => k_asm); (case kK => first | exact rfl | assumption); (case kd => first | exact room9 hdp rfl | ktr_room); (case ku => first | exact units9 1 hun rfl | exact units9 2 hun rfl | exact units9 3 hun rfl | exact units9 4 hun rfl | ktr_units); k_whole); intro t9 h9 tk9 F9 N9; (try dsimp only); (try k_sweep); (try k_fold))
  trivial
theorem c_way (p q : Int) (t t2 : Tok) (h1 : 0 ≤ p) (h2 : 0 ≤ q) (i j : Nat) (hi : p.toNat / 16 ^ i = meetN p.toNat q.toNat) (hi' : ∀ k, k < i → p.toNat / 16 ^ k ≠ meetN p.toNat q.toNat)
    (hj : q.toNat / 16 ^ j = meetN p.toNat q.toNat) (hj' : ∀ k, k < j → q.toNat / 16 ^ k ≠ meetN p.toNat q.toNat) (hi2 : i ≤ 20) (hj2 : j ≤ 20) :
    SaysP 2 181 [.int p t, .int q t2] (fun t => .bytes (joinB [47] (List.replicate i [46, 46] ++ dnB j q.toNat)).toArray t) := by
  (try unfold SaysP); (try unfold SaysT); unfold SaysV
  w_on
  k_fill
  intro w mean mg mb dp un gd cn cs a ccd cl outer A₀ base h₀ L m s Q E B F X T hk hdp hun hPre hret
  k_dflt (refine' code_defE ?k1 ?k2 ?k3 ?k5 ?kA ?kF ?kK ?k6 ?k7 ?k8 ?k9 ?kB ?_ ?c2 ?c3 ?c4 ?c5; (case kA => exact rfl); (case kF => exact rfl); (case kK => assumption); (case k1 => exact B); (case k2 => exact F); (case k3 => exact X); (case k5 => exact T); (case k6 => k_is); (case k7 => k_is); (case k8 => ktr_room); (case k9 => exact BindsTo.of_eq rfl); (case c5 => decide); (case kB => exact locs rfl); (case c2 => exact rfl); (case c3 => exact rfl); (case c4 => exact rfl); k_whole; intro L' h' hL' F' N' B' X' T'; (try dsimp only); (try k_fold))
  ktn_open
  (with_reducible rename Fr _ _ _ _ => lF'); (with_reducible rename News _ _ _ _ => lN')
  refine' ksw_while (σ := Int × Tok × List Value × Nat × Nat) (fun c => [(_, listOf c.2.2.1.toArray c.2.2.2.1)]) (fun c => [(Str.ofString "a", Value.int c.1 c.2.1)]) (fun _ => True) [] (fun c => c.1 = ((p.toNat / 16 ^ c.2.2.2.2 : Nat) : Int) ∧ c.2.2.2.2 ≤ i ∧ AreB c.2.2.1 (List.replicate c.2.2.2.2 [46, 46])) (fun c => i - c.2.2.2.2) (_, _, [], 0, 0) lF' lN' trivial ?kk ?kp ?_
  case kk => kst_all
  case kp => exact ⟨by simp; omega, Nat.zero_le _, .nil⟩
  clear lF' lN'
  rintro ⟨a1, t1, vs, n, k⟩ kU kH kTk - ⟨i1, i2, i3⟩ kFr kNews
  dsimp only [kstB] at kFr i1 i2 i3 kNews
  have hvl := i3.length
  simp only [List.length_replicate] at hvl
  try k_fold
  ktn_open
  · have hne : a1 ≠ (meetN p.toNat q.toNat : Int) := by assumption
    have hki : k < i := by
      rcases Nat.lt_or_ge k i with h | h
      · exact h
      · exfalso; apply hne; rw [i1, show k = i by omega, hi]
    (with_reducible rename News _ _ _ _ => lN')
    simp only [List.push_toArray] at lN'
    refine' ksw_end (a1.fdiv 16, _, vs ++ [_], n + 1, k + 1) (by assumption) lN' (fun p hp => hp) trivial ?kk ?kr ?kp ?km
    case kk => kst_all
    case kr => ksw_same
    case km => dsimp only; omega
    case kp =>
      dsimp only
      refine ⟨?_, hki, ?_⟩
      · rw [Int.fdiv_eq_ediv_of_nonneg _ (by decide), i1, div_succ]; omega
      · rw [List.replicate_succ']
        exact i3.append (.cons .nil)
  · have hae : a1 = (meetN p.toNat q.toNat : Int) := by assumption
    have hki : k = i := by
      rcases Nat.lt_or_ge k i with h | h
      · exfalso; apply hi' k h; rw [hae] at i1; omega
      · omega
    subst hki
    (with_reducible rename Fr _ _ _ _ => lF'); (with_reducible rename News _ _ _ _ => lN')
    refine' ksw_while (σ := Int × Tok × Addr × List Value × Nat × Nat) (fun c => [(c.2.2.1, listOf c.2.2.2.1.toArray c.2.2.2.2.1), (_, listOf vs.toArray n)]) (fun c => [(Str.ofString "b", Value.int c.1 c.2.1), (Str.ofString "downs", Value.ref c.2.2.1)]) (fun _ => True) [] (fun c => c.1 = ((q.toNat / 16 ^ c.2.2.2.2.2 : Nat) : Int) ∧ c.2.2.2.2.2 ≤ j ∧ AreB c.2.2.2.1 (dnB c.2.2.2.2.2 q.toNat)) (fun c => j - c.2.2.2.2.2) (_, _, _, [], 0, 0) lF' lN' trivial ?kk ?kp ?_
    case kk => kst_all
    case kp => exact ⟨by simp; omega, Nat.zero_le _, .nil⟩
    clear lF' lN'
    rintro ⟨b1, t3, d, ws, n2, k2⟩ kU2 kH2 kTk2 - ⟨j1, j2, j3⟩ kFr2 kNews2
    dsimp only [kstB] at kFr2 j1 j2 j3 kNews2
    have hwl := j3.length
    rw [dnB_length] at hwl
    have hm0 : 0 ≤ b1.fmod 16 := by rw [Int.fmod_eq_emod_of_nonneg _ (by decide)]; omega
    have hm1 : b1.fmod 16 < 16 := by rw [Int.fmod_eq_emod_of_nonneg _ (by decide)]; omega
    have hjl := joinB_length [47] 2 (List.replicate k [46, 46] ++ dnB k2 q.toNat) (by
      intro b hb
      rcases List.mem_append.mp hb with hb | hb
      · rw [(List.mem_replicate.mp hb).2]; simp
      · have := dnB_parts _ _ b hb; omega)
    simp only [List.length_append, List.length_replicate, List.length_cons, List.length_nil, dnB_length] at hjl
    try k_fold
    ktn_open
    · have hne : b1 ≠ (meetN p.toNat q.toNat : Int) := by assumption
      have hki : k2 < j := by
        rcases Nat.lt_or_ge k2 j with h | h
        · exact h
        · exfalso; apply hne; rw [j1, show k2 = j by omega, hj]
      (with_reducible rename News _ _ _ _ => lN')
      refine' ksw_end (b1.fdiv 16, _, _, [Value.bytes [(65 + b1.fmod 16).toNat.toUInt8].toArray _] ++ ws, 0, k2 + 1) (by assumption) lN' ?kn trivial ?kk ?kr ?kp ?km
      case kk => kst_all
      case kn => refine List.forall_mem_cons.mpr ⟨?_, List.forall_mem_cons.mpr ⟨by k_mem, fun _ h => nomatch h⟩⟩; with_unfolding_all exact List.Mem.head _
      case kr => ksw_same
      case km => dsimp only; omega
      case kp =>
        dsimp only
        refine ⟨?_, hki, ?_⟩
        · rw [Int.fdiv_eq_ediv_of_nonneg _ (by decide), j1, div_succ]; omega
        · have e : (65 + b1.fmod 16).toNat.toUInt8 = (65 + (q.toNat / 16 ^ k2) % 16).toUInt8 := by
            rw [Int.fmod_eq_emod_of_nonneg _ (by decide), j1]; congr 1
          rw [e]
          exact .cons j3
    · have hbe : b1 = (meetN p.toNat q.toNat : Int) := by assumption
      have hki : k2 = j := by
        rcases Nat.lt_or_ge k2 j with h | h
        · exfalso; apply hj' k2 h; rw [hbe] at j1; omega
        · omega
      subst hki
      exact finB (s := s) (Q := Q) hret (by assumption) rfl
end C3Part
section C4Part
theorem c_getsep (l : List UInt8) (t : Tok) : SaysP 1 115 [.bytes l.toArray t] (fun t => .bytes [47].toArray t) := by
  (try unfold SaysP); (try unfold SaysT); unfold SaysV
  w_on
  k_fill
  intro w mean mg mb dp un gd cn cs a ccd cl outer A₀ base h₀ L m s Q E B F X T hk hdp hun hPre hret
  k_dflt (refine' code_defE ?k1 ?k2 ?k3 ?k5 ?kA ?kF ?kK ?k6 ?k7 ?k8 ?k9 ?kB ?_ ?c2 ?c3 ?c4 ?c5; (case kA => exact rfl); (case kF => exact rfl); (case kK => assumption); (case k1 => exact B); (case k2 => exact F); (case k3 => exact X); (case k5 => exact T); (case k6 => k_is); (case k7 => k_is); (case k8 => ktr_room); (case k9 => exact BindsTo.of_eq rfl); (case c5 => decide); (case kB => exact locs rfl); (case c2 => exact rfl); (case c3 => exact rfl); (case c4 => exact rfl); k_whole; intro L' h' hL' F' N' B' X' T'; (try dsimp only); (try k_fold))
  ktn_open
  exact finB (s := s) (Q := Q) hret (by assumption) rfl
theorem c_fspath (l : List UInt8) (t : Tok) : SaysP 1 101 [.bytes l.toArray t] (fun t => .bytes l.toArray t) := by
  (try unfold SaysP); (try unfold SaysT); unfold SaysV
  w_on
  k_fill
  intro w mean mg mb dp un gd cn cs a ccd cl outer A₀ base h₀ L m s Q E B F X T hk hdp hun hPre hret
  k_dflt (refine' code_defE ?k1 ?k2 ?k3 ?k5 ?kA ?kF ?kK ?k6 ?k7 ?k8 ?k9 ?kB ?_ ?c2 ?c3 ?c4 ?c5; (case kA => exact rfl); (case kF => exact rfl); (case kK => assumption); (case k1 => exact B); (case k2 => exact F); (case k3 => exact X); (case k5 => exact T); (case k6 => k_is); (case k7 => k_is); (case k8 => ktr_room); (case k9 => exact BindsTo.of_eq rfl); (case c5 => decide); (case kB => exact locs rfl); (case c2 => exact rfl); (case c3 => exact rfl); (case c4 => exact rfl); k_whole; intro L' h' hL' F' N' B' X' T'; (try dsimp only); (try k_fold))
  ktn_open
  exact finB (s := s) (Q := Q) hret (by assumption) rfl
end C4Part
section C5Part
theorem lineC5x1 : True := by
  k_with "call ref" => (k_here; (with_reducible show wpAny _ _ (call (Value.ref 101) [Value.bytes _ _]) _ _ _); k_dflt (refine' SaysP.use (c_fspath _ _) ?k1 ?k2 ?k3 ?k4 ?k5 ?kK ?kd ?ku ?_; (case k1 => k_asm); (case k2 => k_asm); (case k3 => k_asm); (case k4 => k_asm); (case k5 => k_asm); (case kK => first | exact rfl | assumption); (case kd => first | exact room9 hdp rfl | ktr_room); (case ku => first | exact units9 1 hun rfl | exact units9 2 hun rfl | exact units9 3 hun rfl | exact units9 4 hun rfl | ktr_units); k_whole); intro t9 h9 tk9 F9 N9; (try dsimp only); (try k_sweep); (try k_fold))
  trivial
theorem lineC5x2 : True := by
  k_with "call ref" => (k_here; (with_reducible show wpAny _ _ (call (Value.ref 115) [Value.bytes _ _]) _ _ _); k_dflt (refine' SaysP.use (c_getsep _ _) ?k1 ?k2 ?k3 ?k4 ?k5 ?kK ?kd ?ku ?_; (case k1 => k_asm); (case k2 => k_asm); (case k3 => k_asm); (case k4 => k_asm); (case k5 => k_asm); (case kK => first | exact rfl | assumption); (case kd => first | exact room9 hdp rfl | ktr_room); (case ku => first | exact units9 1 hun rfl | exact units9 2 hun rfl | exact units9 3 hun rfl | exact units9 4 hun rfl | ktr_units); k_whole); intro t9 h9 tk9 F9 N9; (try dsimp only); (try k_sweep); (try k_fold))
  trivial
/-- join of two -/
def joinP (a b : List UInt8) : List UInt8 := if b.head? == some 47 || a.isEmpty then b else if a.getLast? == some 47 then a ++ b else a ++ (47 :: b)
theorem c_join (l r : List UInt8) (t t2 : Tok) (h1 : l.length ≤ 100000) (h2 : r.length ≤ 100000) : SaysP 2 122 [.bytes l.toArray t, .bytes r.toArray t2] (fun t => .bytes (joinP l r).toArray t) := by
  (try unfold SaysP); (try unfold SaysT); unfold SaysV
  w_on
  k_fill
  intro w mean mg mb dp un gd cn cs a ccd cl outer A₀ base h₀ L m s Q E B F X T hk hdp hun hPre hret
  k_dflt (refine' code_defER (vs := [Value.bytes r.toArray t2]) ?k1 ?k2 ?k3 ?k5 ?kA ?kF ?kK ?k6 ?k7 ?k8 ?kP ?kG ?kB ?_ ?c2 ?c3 ?c4 ?c5; (case kA => exact rfl); (case kF => exact rfl); (case kK => assumption); (case k1 => exact B); (case k2 => exact F); (case k3 => exact X); (case k5 => exact T); (case k6 => k_is); (case k7 => k_is); (case k8 => ktr_room); (case kP => exact rfl); (case kG => exact fun _ => rfl); (case kB => exact fun _ => locs rfl); (case c5 => decide); (case c2 => exact rfl); (case c3 => exact rfl); (case c4 => exact rfl); k_whole; intro D' L' h' hD' hL' F' N' B' X' T'; (try dsimp only); (try k_fold))
  ktn_open
  k_steps
  all_goals refine finB (s := s) (Q := Q) hret (by assumption) ?_
  all_goals clear hret
  · rw [joinP, ‹(r.head? == some 47) = true›]; rfl
  · rw [joinP, ‹(r.head? == some 47) = false›, ‹l.isEmpty = true›]; rfl
  · rw [joinP, ‹(r.head? == some 47) = false›, ‹l.isEmpty = false›, ‹(l.getLast? == some 47) = true›]; rfl
  · rw [joinP, ‹(r.head? == some 47) = false›, ‹l.isEmpty = false›, ‹(l.getLast? == some 47) = false›]; rfl
end C5Part
section C6Part
theorem lineC6x1 : True := by
  k_with "call ref" => (k_here; (with_reducible show wpAny _ _ (call (Value.ref 101) [Value.bytes _ _]) _ _ _); k_dflt (refine' SaysP.use (c_fspath _ _) ?k1 ?k2 ?k3 ?k4 ?k5 ?kK ?kd ?ku ?_; (case k1 => k_asm); (case k2 => k_asm); (case k3 => k_asm); (case k4 => k_asm); (case k5 => k_asm); (case kK => first | exact rfl | assumption); (case kd => first | exact room9 hdp rfl | ktr_room); (case ku => first | exact units9 1 hun rfl | exact units9 2 hun rfl | exact units9 3 hun rfl | exact units9 4 hun rfl | ktr_units); k_whole); intro t9 h9 tk9 F9 N9; (try dsimp only); (try k_sweep); (try k_fold))
  trivial
theorem lineC6x2 : True := by
  k_with "call ref" => (k_here; (with_reducible show wpAny _ _ (call (Value.ref 115) [Value.bytes _ _]) _ _ _); k_dflt (refine' SaysP.use (c_getsep _ _) ?k1 ?k2 ?k3 ?k4 ?k5 ?kK ?kd ?ku ?_; (case k1 => k_asm); (case k2 => k_asm); (case k3 => k_asm); (case k4 => k_asm); (case k5 => k_asm); (case kK => first | exact rfl | assumption); (case kd => first | exact room9 hdp rfl | ktr_room); (case ku => first | exact units9 1 hun rfl | exact units9 2 hun rfl | exact units9 3 hun rfl | exact units9 4 hun rfl | ktr_units); k_whole); intro t9 h9 tk9 F9 N9; (try dsimp only); (try k_sweep); (try k_fold))
  trivial
theorem c_split (l : List UInt8) (t : Tok) (h1 : l.length ≤ 100000) : SaysT 2 129 [.bytes l.toArray t] (fun ws => ∃ t1 t2, ws = [.bytes (splitHd l).toArray t1, .bytes (splitTl l).toArray t2]) := by
  have e1 := cutB_toI l (lastB_ge 47 l)
  have e2 := cutB_fromI l (lastB_ge 47 l)
  have hc1 := cutB_length l none (some (lastB 47 l + 1))
  (try unfold SaysP); (try unfold SaysT); unfold SaysV
  w_on
  k_fill
  intro w mean mg mb dp un gd cn cs a ccd cl outer A₀ base h₀ L m s Q E B F X T hk hdp hun hPre hret
  k_dflt (refine' code_defE ?k1 ?k2 ?k3 ?k5 ?kA ?kF ?kK ?k6 ?k7 ?k8 ?k9 ?kB ?_ ?c2 ?c3 ?c4 ?c5; (case kA => exact rfl); (case kF => exact rfl); (case kK => assumption); (case k1 => exact B); (case k2 => exact F); (case k3 => exact X); (case k5 => exact T); (case k6 => k_is); (case k7 => k_is); (case k8 => ktr_room); (case k9 => exact BindsTo.of_eq rfl); (case c5 => decide); (case kB => exact locs rfl); (case c2 => exact rfl); (case c3 => exact rfl); (case c4 => exact rfl); k_whole; intro L' h' hL' F' N' B' X' T'; (try dsimp only); (try k_fold))
  ktn_open
  · refine finU (s := s) (Q := Q) hret (by assumption) (by assumption) (by assumption) (two_b ?_ e2)
    have h2 := ‹(cutB l none (some (lastB 47 l + 1))).isEmpty = true›
    rw [e1] at h2
    rw [e1, splitHd, if_neg (by rw [h2]; simp)]
  · refine finU (s := s) (Q := Q) hret (by assumption) (by assumption) (by assumption) (two_b ?_ e2)
    have h2 := ‹(cutB l none (some (lastB 47 l + 1))).isEmpty = false›
    have h3 := ‹(cutB l none (some (lastB 47 l + 1)) != (List.replicate ((cutB l none (some (lastB 47 l + 1))).length : Int).toNat [47]).flatten) = true›
    rw [e1] at h2 h3
    rw [e1, splitHd, if_pos ⟨h2, h3⟩]
  · refine finU (s := s) (Q := Q) hret (by assumption) (by assumption) (by assumption) (two_b ?_ e2)
    have h3 := ‹(cutB l none (some (lastB 47 l + 1)) != (List.replicate ((cutB l none (some (lastB 47 l + 1))).length : Int).toNat [47]).flatten) = false›
    rw [e1] at h3
    rw [e1, splitHd, if_neg (by intro h; rw [Int.toNat_natCast] at h3; rw [h3] at h; simp at h)]
end C6Part
section C7Part
theorem lineC7x1 : True := by
  k_with "call ref" => (k_here; (with_reducible show wpAny _ _ (call (Value.ref 101) [Value.bytes _ _]) _ _ _); k_dflt (refine' SaysP.use (c_fspath _ _) ?k1 ?k2 ?k3 ?k4 ?k5 ?kK ?kd ?ku ?_; (case k1 => k_asm); (case k2 => k_asm); (case k3 => k_asm); (case k4 => k_asm); (case k5 => k_asm); (case kK => first | exact rfl | assumption); (case kd => first | exact room9 hdp rfl | ktr_room); (case ku => first | exact units9 1 hun rfl | exact units9 2 hun rfl | exact units9 3 hun rfl | exact units9 4 hun rfl | ktr_units); k_whole); intro t9 h9 tk9 F9 N9; (try dsimp only); (try k_sweep); (try k_fold))
  trivial
/-- a path with one slash ahead -/
theorem c_splitroot (r : List UInt8) (t : Tok) (h1 : r.length ≤ 100000) (h2 : r.head? ≠ some 47) : SaysT 2 136 [.bytes (47 :: r).toArray t] (fun ws => ∃ t1 t2 t3, ws = [.bytes [].toArray t1, .bytes [47].toArray t2, .bytes r.toArray t3]) := by
  have e1 : cutB (47 :: r) none (some 1) = [47] := by rw [cutB_to_lit]; rfl
  have e2 : cutB (47 :: r) (some 1) none = r := by rw [cutB_from_lit]; rfl
  have e3 : cutB (47 :: r) (some 1) (some 2) = r.take 1 := by rw [cutB_mid_lit]; rfl
  have e4 : (r.take 1 != [47]) = true := by
    cases r with
    | nil => rfl
    | cons c r => simp at h2; simpa using h2
  (try unfold SaysP); (try unfold SaysT); unfold SaysV
  w_on
  k_fill
  intro w mean mg mb dp un gd cn cs a ccd cl outer A₀ base h₀ L m s Q E B F X T hk hdp hun hPre hret
  k_dflt (refine' code_defE ?k1 ?k2 ?k3 ?k5 ?kA ?kF ?kK ?k6 ?k7 ?k8 ?k9 ?kB ?_ ?c2 ?c3 ?c4 ?c5; (case kA => exact rfl); (case kF => exact rfl); (case kK => assumption); (case k1 => exact B); (case k2 => exact F); (case k3 => exact X); (case k5 => exact T); (case k6 => k_is); (case k7 => k_is); (case k8 => ktr_room); (case k9 => exact BindsTo.of_eq rfl); (case c5 => decide); (case kB => exact locs rfl); (case c2 => exact rfl); (case c3 => exact rfl); (case c4 => exact rfl); k_whole; intro L' h' hL' F' N' B' X' T'; (try dsimp only); (try k_fold))
  ktn_open
  · have h3 := ‹(cutB (47 :: r) none (some 1) != [47]) = true›
    rw [e1] at h3
    exact absurd h3 (by decide)
  · exact finU (s := s) (Q := Q) hret (by assumption) (by assumption) (by assumption) (three_b rfl rfl e2)
  all_goals
    have h3 := ‹(cutB (47 :: r) (some 1) (some 2) != [47]) = false›
    rw [e3, e4] at h3
    cases h3
end C7Part
section C8Part
theorem lineC8x1 : True := by
  k_with "call ref" => (k_here; (with_reducible show wpAny _ _ (call (Value.ref 101) [Value.bytes _ _]) _ _ _); k_dflt (refine' SaysP.use (c_fspath _ _) ?k1 ?k2 ?k3 ?k4 ?k5 ?kK ?kd ?ku ?_; (case k1 => k_asm); (case k2 => k_asm); (case k3 => k_asm); (case k4 => k_asm); (case k5 => k_asm); (case kK => first | exact rfl | assumption); (case kd => first | exact room9 hdp rfl | ktr_room); (case ku => first | exact units9 1 hun rfl | exact units9 2 hun rfl | exact units9 3 hun rfl | exact units9 4 hun rfl | ktr_units); k_whole); intro t9 h9 tk9 F9 N9; (try dsimp only); (try k_sweep); (try k_fold))
  trivial
theorem lineC8x2 : True := by
  k_with "call ref" => (k_here; (with_reducible show wpAny _ _ (call (Value.ref 136) [Value.bytes (List.toArray (_ :: _)) _]) _ _ _); k_dflt (refine' SaysT.use (c_splitroot _ _ ?h1 ?h2) ?k1 ?k2 ?k3 ?k4 ?k5 ?kK ?kd ?ku ?_; (case h1 => first | assumption | omega | l_fact | ktr_rel); (case h2 => first | assumption | omega | l_fact | ktr_rel); (case k1 => k_asm); (case k2 => k_asm); (case k3 => k_asm); (case k4 => k_asm); (case k5 => k_asm); (case kK => first | exact rfl | assumption); (case kd => first | exact room9 hdp rfl | ktr_room); (case ku => first | exact units9 1 hun rfl | exact units9 2 hun rfl | exact units9 3 hun rfl | exact units9 4 hun rfl | ktr_units); k_whole); intro ws9 x9 h9 tk9 P9 F9 N9 l1; (obtain ⟨_, _, _, e9⟩ := P9); (subst e9); (try k_lt l1); (try dsimp only); (try k_sweep); (try k_fold))
  trivial
theorem c_normpath (r : List UInt8) (t : Tok) (h1 : r.length ≤ 100000) (h2 : r.head? ≠ some 47) : SaysP 3 143 [.bytes (47 :: r).toArray t] (fun t => .bytes (normP r).toArray t) := by
  (try unfold SaysP); (try unfold SaysT); unfold SaysV
  w_on
  k_fill
  intro w mean mg mb dp un gd cn cs a ccd cl outer A₀ base h₀ L m s Q E B F X T hk hdp hun hPre hret
  k_dflt (refine' code_defE ?k1 ?k2 ?k3 ?k5 ?kA ?kF ?kK ?k6 ?k7 ?k8 ?k9 ?kB ?_ ?c2 ?c3 ?c4 ?c5; (case kA => exact rfl); (case kF => exact rfl); (case kK => assumption); (case k1 => exact B); (case k2 => exact F); (case k3 => exact X); (case k5 => exact T); (case k6 => k_is); (case k7 => k_is); (case k8 => ktr_room); (case k9 => exact BindsTo.of_eq rfl); (case c5 => decide); (case kB => exact locs rfl); (case c2 => exact rfl); (case c3 => exact rfl); (case c4 => exact rfl); k_whole; intro L' h' hL' F' N' B' X' T'; (try dsimp only); (try k_fold))
  ktn_open
  · exact absurd ‹(47 :: r).isEmpty = true› (by simp)
  refine For_invV s.heap (by rfl) (by rfl) ?_
  ktn_open
  (with_reducible rename Fr _ _ _ _ => lF'); (with_reducible rename News _ _ _ _ => lN'); (with_reducible rename AreB _ _ => hv)
  refine' for_led (σ := List Value × Nat) (fun c => [(_, listOf c.1.toArray c.2), (_, listOf _ 0), (_, tupOf _)]) (fun c => []) [Str.ofString "comp"] (fun i c => AreB c.1 (((splitB 47 r).take i).foldl stepC []) ∧ ∀ b ∈ ((splitB 47 r).take i).foldl stepC [], b ≠ [46, 46]) ([], 0) rfl lF' lN' (fun c => by k_mem) (fun c => rfl) ?kk ?kj ?turn ?done
  case kk => kst_all
  case kj => exact ⟨.nil, by simp⟩
  case turn =>
    clear lF' lN'
    rintro i v ⟨vs, n⟩ kU kH kTk I oI hi ⟨j1, j2⟩ lI kFr kNews
    dsimp only [kstB] at kFr kNews lI j1
    obtain ⟨b, tb, hb, rfl⟩ := hv.of_get hi
    have hs := foldC_succ hb
    have hbl := splitB_parts 47 r b (List.mem_of_getElem? hb)
    have hvl := j1.length
    have hfl := foldC_length (((splitB 47 r).take i))
    have hsl := splitB_length 47 r
    simp only [List.length_take] at hfl
    have hvz : vs.length ≤ 100001 := by omega
    clear hvl hfl hsl
    replace kFr : Fr s.heap L' kH _ := kFr
    replace kNews : News s.heap L' kH _ := kNews
    k_lt lI
    try k_fold
    ktn_open
    · have e := ‹b.isEmpty = true›
      rw [hs, stepC_skip (.inl (by simpa using e))] at *
      refine' for_end (vs, n) (by assumption) (by assumption) ?hI ?hn ?kk ?kr ⟨j1, j2⟩
      case hI => k_mem
      case hn => exact fun p hp => List.mem_cons_of_mem _ hp
      case kk => kst_all
      case kr => ksw_same
    · have e := ‹(b == [46]) = true›
      rw [hs, stepC_skip (.inr (by simpa using e))] at *
      refine' for_end (vs, n) (by assumption) (by assumption) ?hI ?hn ?kk ?kr ⟨j1, j2⟩
      case hI => k_mem
      case hn => exact fun p hp => List.mem_cons_of_mem _ hp
      case kk => kst_all
      case kr => ksw_same
    · have e1 := ‹b.isEmpty = false›
      have e2 := ‹(b == [46]) = false›
      have e3 := ‹(b != [46, 46]) = true›
      have e3' : b ≠ [46, 46] := by simpa using e3
      rw [hs, stepC_in (by intro h; rw [h] at e1; cases e1) (by simpa using e2) e3'] at *
      refine' for_end (vs ++ [.bytes b.toArray tb], n + 1) (by assumption) (by assumption) ?hI ?hn ?kk ?kr ⟨j1.append (.cons (t := tb) .nil), ?_⟩
      case hI => k_mem
      case hn => exact fun p hp => List.mem_cons_of_mem _ hp
      case kk => kst_all
      case kr => ksw_same
      intro c hc
      rcases List.mem_append.mp hc with hc | hc
      · exact j2 c hc
      · rw [List.mem_singleton.mp hc]; exact e3'
    · have e1 := ‹(b != [46, 46]) = false›
      have e2 := ‹vs.isEmpty = true›
      have e3 : b = [46, 46] := by simpa using e1
      subst e3
      have e4 : vs = [] := by simpa using e2
      subst e4
      have e5 : ((splitB 47 r).take i).foldl stepC [] = [] := List.length_eq_zero_iff.mp j1.length.symm
      rw [hs, stepC_up, e5]
      refine' for_end ([], n) (by assumption) (by assumption) ?hI ?hn ?kk ?kr ⟨.nil, by simp⟩
      case hI => k_mem
      case hn => exact fun p hp => List.mem_cons_of_mem _ hp
      case kk => kst_all
      case kr => ksw_same
    · have e1 := ‹vs.isEmpty = false›
      have e2 := ‹((((splitB 47 r).take i).foldl stepC []).getLastD [] == [46, 46]) = true›
      exfalso
      refine j2 _ (getLastD_mem _ ?_) (by simpa using e2)
      intro h
      have h3 := j1.length
      rw [h] at h3
      rw [List.length_eq_zero_iff.mp h3] at e1
      cases e1
    · have e1 := ‹(b != [46, 46]) = false›
      have e3 : b = [46, 46] := by simpa using e1
      subst e3
      rw [hs, stepC_up]
      refine' for_end (vs.dropLast, n + 1) (by assumption) (by assumption) ?hI ?hn ?kk ?kr ⟨by assumption, ?_⟩
      case hI => k_mem
      case hn => exact fun p hp => List.mem_cons_of_mem _ hp
      case kk => kst_all
      case kr => ksw_same
      exact fun c hc => j2 c ((List.dropLast_sublist _).mem hc)
  case done =>
    clear lF' lN'
    rintro ⟨vs, n⟩ kU kH kTk ⟨j1, -⟩ kFr kNews
    dsimp only [kstB] at kFr kNews j1
    have hvl := hv.length
    rw [hvl, List.take_length] at j1
    replace kFr : Fr s.heap L' kH _ := kFr
    replace kNews : News s.heap L' kH _ := kNews
    have hjl : (joinB [47] ((splitB 47 r).foldl stepC [])).length ≤ r.length + 1 := normP_length r
    have hfl := foldC_length (splitB 47 r)
    have hsl := splitB_length 47 r
    try k_fold
    ktn_open
    · exact absurd ‹([47] ++ joinB [47] ((splitB 47 r).foldl stepC [])).isEmpty = true› (by simp)
    · exact finB (s := s) (Q := Q) hret (by assumption) rfl
end C8Part
section C9Part
namespace MP
section
variable {w : World} {mean : ExcName → Option Value} {mg mb : Str → Option Value} {dp un : Nat} {gd : Option (List Code)} {cn : Str} {cs : Scope} {a : Addr} {ccd : Value} {cl : List (Str × Addr)} {outer : List Env} {A₀ : Around} {base h₀ : Heap} {L : Addr} {m : Str → Option Value}
/-- the state of map(fspath, l) -/
def MapSt (h₀ : Heap) (L : Addr) (m : Str → Option Value) (z T it l : Addr) (vs : List Value) (i : Nat) (h : Heap) : Prop := IsMap h z T (.ref 101) ∧ IsOne h T (.ref it) ∧ h.IsListIter it l i ∧ h.IsList l vs.toArray ∧ Fr h₀ L h m
theorem map_walks {z T it l : Addr} {vs : List Value} {bs : List (List UInt8)} (hv : AreB vs bs) (B : Below A₀ base outer h₀) (X : (hd.heap_39 w.params).In h₀) (Tp : Top hd.view_39 (looseW hd.view_39 []) mean mg mb h₀) (hk : cs.kind = .function) (hdp : dp + 1 < recursionLimit) (hun : un + 21 < cLine)
    (hTi : T ≠ it) (hzi : z ≠ it) (hli : l ≠ it) (hLi : L ≠ it) (hi0 : h₀.get? it = none) :
    Walks PySem.Challenge.rw_pd0075_01.row.prog w (ktrTop dp un gd cn cs L a ccd cl outer) z ([z, T, it, l, L] ++ List.range h₀.objs.size) [it] vs.length (fun i v => ∃ b t, bs[i]? = some b ∧ v = .bytes b.toArray t) (MapSt h₀ L m z T it l vs) where
  sub := fun b hb => by rw [List.mem_singleton.mp hb]; simp
  frame := fun i h h' st hk' => by
    obtain ⟨s1, s2, s3, s4, s5⟩ := st
    exact ⟨hk' z (by simp) _ s1, hk' T (by simp) _ s2, s3.at fun o e => hk' it (by simp) o e, s4.at fun o e => hk' l (by simp) o e,
      ⟨s5.ns.at' fun o e => hk' L (by simp) o e, fun b o e => hk' b (List.mem_append.mpr (.inr (List.mem_range.mpr (Heap.lt_size e)))) o (s5.keep b o e), s5.above⟩⟩
  item := fun i s Q E hi st hQ => by
    obtain ⟨s1, s2, s3, s4, s5⟩ := st
    obtain ⟨b, t, hb, hx⟩ := hv.of_get (List.getElem?_eq_getElem hi)
    refine pyNext_item s1 s2 s3 s4 (x := vs[i]) (by simp [hi]) hTi hzi fun h' h1 hs => ?_
    rw [hx]
    have F' : Fr h₀ L h' m := ⟨s5.ns.at' fun o e => hs.extBut _ _ hLi e, fun b o e => hs.extBut _ _ (fun q => by rw [q, hi0] at e; cases e) (s5.keep b o e), s5.above⟩
    refine c_fspath b t w mean mg mb dp (un + 1) gd cn cs a ccd cl outer A₀ base h₀ L m _ _ _ B F' X Tp hk hdp (by omega) trivial fun v h'' tk' hkeep hv' => ?_
    obtain ⟨t', rfl⟩ := hv'
    refine hQ _ h'' tk' ⟨b, t', hb, rfl⟩ ⟨hkeep _ _ (hs.extBut _ _ hzi s1), hkeep _ _ (hs.extBut _ _ hTi s2), h1.at fun o e => hkeep _ o e, s4.at fun o e => hkeep _ o (hs.extBut _ _ hli e), F'.keeps hkeep⟩ fun c o hc e => hkeep _ _ (hs.extBut _ _ (fun q => hc (by simp [q])) e)
  done := fun s Q E st hQ => by
    obtain ⟨s1, s2, s3, s4, s5⟩ := st
    exact pyNext_end rfl s1 s2 s3 s4 (by simp) fun h' hk' => hQ h' s.toks fun c o hc e => hk' _ _ (fun q => hc (by simp [q])) e
  self := fun i s Q E st hQ => iter_map st.1 hQ
end
end MP
namespace MP
theorem areB_of {bs : List (List UInt8)} : ∀ {vs : List Value}, vs.length = bs.length → (∀ (i : Nat) (v : Value), vs[i]? = some v → ∃ b t, bs[i]? = some b ∧ v = Value.bytes b.toArray t) → AreB vs bs := by
  induction bs with
  | nil => intro vs hl _; rw [List.length_eq_zero_iff.mp hl]; exact .nil
  | cons b bs ih =>
    intro vs hl h
    cases vs with
    | nil => simp at hl
    | cons v vs =>
      obtain ⟨b', t, hb, hv⟩ := h 0 v rfl
      simp at hb
      subst hb; subst hv
      exact .cons (ih (by simpa using hl) fun i v hi => by simpa using h (i + 1) v (by simpa using hi))
section
variable {w : World} {mean : ExcName → Option Value} {mg mb : Str → Option Value} {dp un : Nat} {gd : Option (List Code)} {cn : Str} {cs : Scope} {a : Addr} {ccd : Value} {cl : List (Str × Addr)} {outer : List Env} {A₀ : Around} {base h₀ : Heap} {L : Addr} {m : Str → Option Value} {s : Shared} {Q E : Value → Shared → Prop} {news : List (Addr × Obj)}
abbrev mapObj (T : Addr) : Obj := { cls := .type "map", dict := none, data := .fields #[.ref T, .ref 101], slots := #[] }
theorem o_map {A : Around} {l : Addr} {vs : List Value} (F : Fr h₀ L s.heap m) (N : News h₀ L s.heap news) (hl : h₀.IsList l vs.toArray)
    (h : ∀ z T it oI h', oI.cls = .type "list_iterator" → oI.data = .fields #[.ref l, rawInt 0] → T ≠ it → z ≠ it → Fr h₀ L h' m → News h₀ L h' ((z, mapObj T) :: (T, tupOf [.ref it]) :: (it, oI) :: news) → (∀ p ∈ news, p.1 < it) → Q (.ref z) { s with heap := h' }) :
    wpAny (model PySem.Challenge.rw_pd0075_01.row.prog w) A (call (.type "map") [.ref 101, .ref l]) Q E s := by
  have hls : s.heap.IsList l vs.toArray := hl.at fun o e => F.keep l o e
  refine call_map hls fun h' hz hT hi hsz hk => ?_
  obtain ⟨oI, hoI, hc, hd⟩ := hi
  have new : ∀ b, s.heap.objs.size ≤ b → b ≠ L ∧ h₀.get? b = none := fun b hb => by
    refine ⟨Ne.symm (Nat.ne_of_lt (Nat.lt_of_lt_of_le F.ns.lt hb)), ?_⟩
    cases q : h₀.get? b with
    | none => rfl
    | some o => exact absurd (Heap.lt_size (F.keep _ _ q)) (Nat.not_lt.mpr hb)
  refine h _ _ _ oI h' hc hd (Nat.ne_of_gt (Nat.lt_succ_self _)) (Nat.ne_of_gt (Nat.lt_add_of_pos_right (by decide))) (F.keeps hk) (fun p hp => ?_) fun p hp => Heap.lt_size (N p hp).1
  rcases List.mem_cons.mp hp with rfl | hp
  · exact ⟨hz, new _ (Nat.le_add_right _ _)⟩
  rcases List.mem_cons.mp hp with rfl | hp
  · exact ⟨hT, new _ (Nat.le_succ _)⟩
  rcases List.mem_cons.mp hp with rfl | hp
  · exact ⟨hoI, new _ (Nat.le_refl _)⟩
  · exact ⟨hk _ _ (N p hp).1, (N p hp).2⟩
theorem o_tupmap {z T it l : Addr} {oI : Obj} {vs : List Value} {bs : List (List UInt8)} (B : Below A₀ base outer h₀) (F : Fr h₀ L s.heap m) (X : (hd.heap_39 w.params).In h₀) (N : News h₀ L s.heap ((z, mapObj T) :: (T, tupOf [.ref it]) :: (it, oI) :: news))
    (Tp : Top hd.view_39 (looseW hd.view_39 []) mean mg mb h₀) (hk : cs.kind = .function) (hdp : dp + 1 < recursionLimit) (hun : un + 24 < cLine)
    (hl : h₀.IsList l vs.toArray) (hv : AreB vs bs) (hz : vs.length ≤ 1000000) (hc : oI.cls = .type "list_iterator") (hd : oI.data = .fields #[.ref l, rawInt 0]) (hTi : T ≠ it) (hzi : z ≠ it) (hoff : ∀ p ∈ news, p.1 ≠ it)
    (h : ∀ ws D h' tk, AreB ws bs → Fr h₀ L h' m → News h₀ L h' ((D, tupOf ws) :: news) → (∀ p ∈ news, p.1 < D) → Q (.ref D) { s with heap := h', toks := tk }) :
    wpAny (model PySem.Challenge.rw_pd0075_01.row.prog w) (ktrTop dp un gd cn cs L a ccd cl outer) (call (.type "tuple") [.ref z]) Q E s := by
  have hls : s.heap.IsList l vs.toArray := hl.at fun o e => F.keep l o e
  have nz := N (z, mapObj T) (by simp)
  have nT := N (T, tupOf [.ref it]) (by simp)
  have ni := N (it, oI) (by simp)
  have hli : l ≠ it := by
    rintro rfl
    obtain ⟨o, e, _⟩ := hl
    rw [ni.2.2] at e; cases e
  have W := map_walks (m := m) (mean := mean) (mg := mg) (mb := mb) (gd := gd) (cn := cn) (cs := cs) (a := a) (ccd := ccd) (cl := cl) (un := un + 3) hv B X Tp hk hdp (by omega) hTi hzi hli (Ne.symm ni.2.1) ni.2.2
  refine call_tuple (A := ktrTop dp un gd cn cs L a ccd cl outer) W.toS (fun i s st => ⟨_, st.1, rfl⟩) ⟨nz.1, nT.1, ⟨oI, ni.1, hc, hd⟩, hls, F⟩ (fun b hb => ?_) (by simp) (fun s' acc hm hacc => ?_) (by rw [sizeLine_eq]; omega)
  · rcases List.mem_append.mp hb with hb | hb
    · simp at hb
      rcases hb with rfl | rfl | rfl | rfl | rfl
      · exact Heap.lt_size nz.1
      · exact Heap.lt_size nT.1
      · exact Heap.lt_size ni.1
      · obtain ⟨o, e, _⟩ := hls; exact Heap.lt_size e
      · exact F.ns.lt
    · have := List.mem_range.mp hb
      exact Nat.lt_of_lt_of_le this (Nat.le_of_lt (Nat.lt_of_le_of_lt F.above F.ns.lt))
  · obtain ⟨hkeep, hg, hdr, hos, _⟩ := hm
    have es : s' = { s with heap := s'.heap, toks := s'.toks } := by
      obtain ⟨h1, g1, d1, t1, o1⟩ := s'
      simp only at hg hdr hos
      subst hg; subst hdr; subst hos
      first | done | rfl
    have hk' : ∀ b o, b ≠ it → s.heap.get? b = some o → s'.heap.get? b = some o := fun b o hb e => hkeep b o (by simpa using hb) e
    have F' : Fr h₀ L s'.heap m := ⟨F.ns.at' fun o e => hk' _ _ (Ne.symm ni.2.1) e, fun b o e => hk' _ _ (fun q => by rw [q, ni.2.2] at e; cases e) (F.keep b o e), F.above⟩
    have N' : News h₀ L s'.heap news := fun p hp => ⟨hk' _ _ (hoff p hp) (N p (by simp [hp])).1, (N p (by simp [hp])).2⟩
    have hA : AreB acc.toList bs := areB_of (by rw [Array.length_toList, hacc.1, hv.length]) fun i v hi => hacc.2 i v (by simpa using hi)
    have := h acc.toList s'.heap.objs.size (s'.heap.push (tupOf acc.toList)) s'.toks hA (F'.push _) (N'.push F' _) fun p hp => Heap.lt_size (N' p hp).1
    have e2 : ({ s' with heap := s'.heap.push { cls := .type "tuple", data := .seq acc } } : Shared) = { s with heap := s'.heap.push (tupOf acc.toList), toks := s'.toks } := by
      first | (rw [es]; done) | (rw [es]; simp)
    rw [e2]
    exact this
end
end MP
end C9Part
section C10Part
/-- the names of a path -/
def segB (b : List UInt8) : List (List UInt8) := (splitB 47 b).filter keepC
theorem lineC10x2 : True := by
  k_with "k_mem9" => first | (with_reducible assumption) | (with_reducible exact List.Mem.head _) | ((with_reducible refine List.mem_cons_of_mem _ ?_); k_mem)
  trivial
local macro_rules | `(tactic| k_mem) => `(tactic| k_extra "k_mem9")
theorem BR.o_truthyTc {prog : Program} {w : World} {A : Around} {E : Value → Shared → Prop} {s : Shared} {h₀ : Heap} {L D : Addr} {news : List (Addr × Obj)} {vs : List Value} {n : Nat} {x : Value} {Q : Bool → Shared → Prop} (N : News h₀ L s.heap news) (hm : (D, ({ cls := .type "tuple", data := .seq (x :: vs).toArray n } : Obj)) ∈ news) (hz : (x :: vs).length ≤ 1000000) (h : ∀ k, Q true { s with toks := k }) : wpAny (model prog w) A (truthy (.ref D)) Q E s :=
  BR.o_truthyT N hm hz h
theorem lineC10x3 : True := by
  k_with "truthy ref" => (k_here; k_dflt ((with_reducible refine' BR.o_truthyTc ?N ?m ?z ?_); (case N => k_asm); (case m => k_mem); (case z => (simp only [List.length_cons]; omega)); intro _))
  trivial
theorem lineC10x1 : True := by
  k_with "call ref" => (k_here; (with_reducible show wpAny _ _ (call (Value.ref 101) [Value.bytes _ _]) _ _ _); k_dflt (refine' SaysP.use (c_fspath _ _) ?k1 ?k2 ?k3 ?k4 ?k5 ?kK ?kd ?ku ?_; (case k1 => k_asm); (case k2 => k_asm); (case k3 => k_asm); (case k4 => k_asm); (case k5 => k_asm); (case kK => first | exact rfl | assumption); (case kd => first | exact room9 hdp rfl | ktr_room); (case ku => first | exact units9 1 hun rfl | exact units9 2 hun rfl | exact units9 3 hun rfl | exact units9 4 hun rfl | ktr_units); k_whole); intro t9 h9 tk9 F9 N9; (try dsimp only); (try k_sweep); (try k_fold))
  trivial
theorem lineC10x4 : True := by
  k_with "call type:map" => (k_here; k_dflt ((with_reducible refine' MP.o_map ?F ?N ?l ?_); (case F => k_asm); (case N => k_asm); (case l => k_asm); intro z' T' it' oI' h' hc' hd' hTi' hzi' F' N' l1; (try k_lt l1); (try k_sweep)))
  trivial
theorem lineC10x5 : True := by
  k_with "call type:tuple" => (k_here; k_dflt (refine' MP.o_tupmap ?k1 ?k2 ?k3 ?k4 ?k5 ?kK ?kd ?ku ?l ?v ?z ?c ?d ?n1 ?n2 ?o ?_; (case k1 => k_asm); (case k2 => k_asm); (case k3 => k_asm); (case k4 => k_asm); (case k5 => k_asm); (case kK => first | exact rfl | assumption); (case kd => first | exact room9 hdp rfl | ktr_room); (case ku => first | exact units9 1 hun rfl | exact units9 2 hun rfl | exact units9 3 hun rfl | exact units9 4 hun rfl | ktr_units); (case l => k_asm); (case v => assumption); (case z => kby_size); (case c => assumption); (case d => assumption); (case n1 => assumption); (case n2 => assumption); (case o => first | k_all | exact fun _ hp => nomatch hp)); intro ws' D' h' tk' hv' F' N' l1; (try k_lt l1); (have hl9 := AreB.length hv'); (have hv9 := hv'); (cases hv'); (simp only [List.length_cons] at hl9); (try k_sweep))
  trivial
theorem lineC10x6 : True := by
  k_with "subscriptTail Name Name ref int" => (k_here; (with_reducible show wpAny _ _ (subscriptTail _ _ (Value.ref _) (Value.int _ _)) _ _ _); k_dflt (refine' BR.o_itemL ?N ?m ?v ?b ?z ?_ ?s ?g; (case N => k_asm); (case m => k_mem); (case v => assumption); (case b => assumption); (case z => omega); (case s => with_unfolding_all rfl); (case g => (intro _; with_unfolding_all rfl)); k_whole); intro t9)
  trivial
theorem lineC10x7 : True := by
  k_with "subscriptTail Name Slice ref ref" => (k_here; (with_reducible show wpAny _ _ (subscriptTail _ (Expr.Slice none _ none _) (Value.ref _) (Value.ref _)) _ _ _); k_dflt (refine' BR.o_takeL (s := ⟨_, _, _, _, _⟩) ?F ?N ?m ?k ?z ?_ ?s ?t; (case F => k_asm); (case N => k_asm); (case m => k_mem); (case k => omega); (case z => omega); (case s => with_unfolding_all rfl); (case t => (intro _; with_unfolding_all rfl)); k_whole); intro x9 h9 F' N' l9; (try k_lt l9); (try k_sweep))
  trivial
theorem c_common (l : Addr) (vs : List Value) (b0 : List UInt8) (bs : List (List UInt8)) (hv : AreB vs (b0 :: bs)) (h47 : ∀ b ∈ b0 :: bs, b.head? = some 47) (hbl : ∀ b ∈ b0 :: bs, b.length ≤ 1000) (hn : bs.length ≤ 100) :
    SaysV 3 148 [.ref l] (fun h => h.IsList l vs.toArray) (fun _ _ v => ∃ t, v = .bytes (47 :: joinB [47] ((bs.map segB).foldl cpre (segB b0))).toArray t) := by
  have hvl := hv.length
  simp only [List.length_cons] at hvl
  (try unfold SaysP); (try unfold SaysT); unfold SaysV
  w_on
  k_fill
  intro w mean mg mb dp un gd cn cs a ccd cl outer A₀ base h₀ L m s Q E B F X T hk hdp hun hPre hret
  k_dflt (refine' code_defEC ?k1 ?k2 ?k3 ?k5 ?kA ?kF ?kK ?k6 ?k7 ?k8 ?k9 ?kB ?kD ?_ ?c2 ?c3 ?c4; (case kA => exact rfl); (case kF => exact rfl); (case kK => assumption); (case k1 => exact B); (case k2 => exact F); (case k3 => exact X); (case k5 => exact T); (case k6 => k_is); (case k7 => k_is); (case k8 => ktr_room); (case k9 => exact BindsTo.of_eq rfl); (case kB => exact rfl); (case kD => decide +kernel); (case c2 => exact rfl); (case c3 => exact rfl); (case c4 => exact rfl); k_whole; intro L' h' tk' cells' hL' F' N' Y' B' X' T'; k_cells Y'; (try simp only [List.cons_append, List.nil_append] at N'); (try dsimp only); (try k_fold))
  ktn_open
  k_dflt (refine CT.Assign_ListComp_T (F₀ := by k_asm) (by rfl) (by with_unfolding_all rfl) (by with_unfolding_all rfl) (by decide) (by rfl) (by decide) (by rfl) (by rfl) (by rfl) ?_)
  ktn_open
  have hva := ‹AreB (Value.bytes b0.toArray _ :: _) (b0 :: bs)›
  k_dflt (refine CT.SrcT.ledger (by rfl) (by k_asm) (by k_asm) (by k_mem) (by rw [sizeLine_eq]; simp; omega) ?_)
  intro g'
  refine' comp_inv (fun i ys nw => (_, CT.tupN _ _) ∈ nw ∧ (_, _) ∈ nw ∧ (_, _) ∈ nw ∧ ListsB nw ys (((b0 :: bs).take i).map (splitB 47))) ⟨List.Mem.head _, List.Mem.tail _ (List.Mem.head _), List.Mem.tail _ (List.Mem.tail _ (List.Mem.head _)), .nil⟩ ?turn ?fin
  case turn =>
    intro i v ys nw I oI C oC D m₂ h tk E' hi hJ hP hC hx F9 N9 off ne
    obtain ⟨j1, j2, j3, j4⟩ := hJ
    obtain ⟨b, tb, hb, rfl⟩ := hva.of_get (show _ = some v by simpa using hP)
    have hbl' := hbl b (List.mem_of_getElem? hb)
    ktn_open
    refine LCg.CompEnd.intro (by assumption) (by assumption) ((l', W.listOf vs'.toArray 0) :: nw) ?_ ?_ (List.mem_cons_of_mem _ j1) ⟨List.mem_cons_of_mem _ j1, List.mem_cons_of_mem _ j2, List.mem_cons_of_mem _ j3, ?_⟩
    · intro p hp
      simp only [List.mem_cons] at hp ⊢
      grind
    · exact ⟨⟨Nat.ne_of_gt l1.1, Nat.ne_of_gt l1.2.1, Nat.ne_of_gt l1.2.2.1⟩, off⟩
    · rw [List.take_add_one, hb, List.map_append]
      exact (j4.mono fun p hp => List.mem_cons_of_mem _ hp).snoc (.head _) hv'
  intro ys nw hJ
  obtain ⟨j1, j2, j3, j4⟩ := hJ
  rw [List.take_of_length_le (by simp; omega)] at j4
  intro D h tk F9 N9 off
  ktn_open
  k_dflt (refine ST.eval_Set (F₀ := by k_asm) (by rfl) (by with_unfolding_all rfl) (by decide) (by rfl) (by decide) (by rfl) ?_)
  ktn_open
  k_dflt (refine ST.SrcS.ledger (by rfl) (by k_asm) (by k_asm) (by k_mem) (by simp) ?turn ?_)
  case turn =>
    intro i v I oI C oC D' oD m₂ h tk E' hP hC hx F9 N9 off' ne
    obtain ⟨b, tb, hb, rfl⟩ := hva.of_get (show _ = some v by simpa using hP)
    have hbl' := hbl b (List.mem_of_getElem? hb)
    ktn_open
    rw [h47 b (List.mem_of_getElem? hb)]
    exact LCg.CompEnd.intro F9 N9 _ (fun p hp => hp) off' rfl rfl
  intro D' h' tk' F9' N9' off'
  ktn_open
  k_dflt (refine ST.assign_isone (by rfl) (by rfl) F9' N9' (List.Mem.head _) (by rfl) (by rfl) ?_)
  clear F9' N9' F9 N9
  intro h' tk' F9 N9
  ktn_open
  k_dflt (refine LCg.Assign_ListComp_U (F₀ := by k_asm) (by rfl) (by with_unfolding_all rfl) (by with_unfolding_all rfl) (by decide) (by rfl) (by decide) (by rfl) (by rfl) (by rfl) ?_)
  ktn_open
  k_dflt (refine LCg.CompSrc.ledger (by rfl) (by k_asm) (by k_asm) (by k_mem) (by rw [sizeLine_eq]; simp [j4.length]; omega) ?_)
  intro g'
  clear off' off F9 N9
  refine' comp_inv (fun i zs nw' => (D, LCg.lst ys) ∈ nw' ∧ (L' + 1 + 1, _) ∈ nw' ∧ (L' + 1, _) ∈ nw' ∧ ListsB nw' ys (List.map (splitB 47) (b0 :: bs)) ∧ ListsB nw' zs (((b0 :: bs).take i).map (fun b => (splitB 47 b).filter keepC))) ⟨List.Mem.tail _ (List.Mem.head _), List.Mem.tail _ (List.Mem.tail _ j2), List.Mem.tail _ (List.Mem.tail _ j3), j4.mono fun p hp => List.Mem.tail _ (List.Mem.tail _ hp), .nil⟩ ?turn2 ?fin2
  case turn2 =>
    clear j1 j2 j3 j4 nw
    intro i v zs nw I oI C oC D' m₂ h tk E' hi hJ hP hC hx F9 N9 off ne
    obtain ⟨j0, j2, j3, j4, j5⟩ := hJ
    obtain ⟨a, vs9, n9, bs9, rfl, ja, jb, jc⟩ := j4.of_get (show ys[i]? = some v by simpa using hP)
    obtain ⟨b, hb, rfl⟩ : ∃ b, (b0 :: bs)[i]? = some b ∧ splitB 47 b = bs9 := by
      rw [List.getElem?_map] at jc
      exact Option.map_eq_some_iff.mp jc
    have hb1 := hbl b (List.mem_of_getElem? hb)
    have hb2 := splitB_length 47 b
    have hb3 := jb.length
    ktn_open
    k_dflt (refine LCt.ListComp_T (F₀ := by k_asm) (by with_unfolding_all rfl) (by decide) (by rfl) (by decide) (by rfl) ?_)
    ktn_open
    k_dflt (refine LCt.CompSrcT.ledger (by rfl) (by k_asm) (by k_asm) (by k_mem) (by rw [sizeLine_eq]; simp; omega) ?_)
    intro g'
    refine comp_invT (fun i ws nw' => nw' = (I, oI) :: (C, oC) :: (D', LCg.lst zs) :: nw ∧ AreB ws (((splitB 47 b).take i).filter keepC)) ⟨rfl, .nil⟩ ?turn3 ?fin3
    case turn3 =>
      intro i3 v3 ws nw3 I3 oI3 C3 oC3 D3 m3 h3 tk3 E3 hi3 hJ3 hP3 hC3 hx3 F93 N93 off3 ne3
      obtain ⟨rfl, k1⟩ := hJ3
      obtain ⟨c, tc, hc, rfl⟩ := jb.of_get (show _ = some v3 by simpa using hP3)
      have hcl := splitB_parts 47 b c (List.mem_of_getElem? hc)
      clear F9 N9
      ktn_open
      · refine LCg.CompEnd.intro F93 N93 _ (fun p hp => hp) off3 (.inr ⟨_, by k_mem, rfl, _, rfl⟩) ⟨rfl, ?_⟩
        rw [keep_e hc (by assumption)]; exact k1
      · refine LCg.CompEnd.intro F93 N93 _ (fun p hp => hp) off3 (.inr ⟨_, by k_mem, rfl, _, rfl⟩) ⟨rfl, ?_⟩
        rw [keep_t hc (by assumption) (by assumption)]; exact k1.append (.cons .nil)
      · refine LCg.CompEnd.intro F93 N93 _ (fun p hp => hp) off3 (.inr ⟨_, by k_mem, rfl, _, rfl⟩) ⟨rfl, ?_⟩
        rw [keep_d hc (by assumption)]; exact k1
    intro ws nw3 hJ
    obtain ⟨rfl, k1⟩ := hJ
    rw [List.take_of_length_le (by simp; omega)] at k1
    clear F9 N9
    intro D3 h3 tk3 F9 N9 off3
    refine LCg.CompEnd.intro F9 N9 ((D3, LCg.lst ws) :: nw) ?_ ?_ (.inr ⟨_, List.mem_cons_of_mem _ j0, rfl, _, rfl⟩) ⟨List.mem_cons_of_mem _ j0, List.mem_cons_of_mem _ j2, List.mem_cons_of_mem _ j3, j4.mono fun p hp => List.mem_cons_of_mem _ hp, ?_⟩
    · intro p hp
      simp only [List.mem_cons] at hp ⊢
      grind
    · exact ⟨⟨Ne.symm off3.1, Ne.symm off3.2.1, Ne.symm off3.2.2.1⟩, off⟩
    · rw [List.take_add_one, hb, List.map_append]
      exact (j5.mono fun p hp => List.mem_cons_of_mem _ hp).snoc (.head _) k1
  clear j1 j2 j3 j4 nw
  intro zs nw hJ
  obtain ⟨j0, j2, j3, j4, j5⟩ := hJ
  rw [List.take_of_length_le (by simp [j4.length])] at j5
  intro D2 h tk F9 N9 off
  clear j0 j2 j4
  ktn_open
  k_here
  (show wpAny _ _ (call (Value.builtin "min") [_]) _ _ _)
  k_dflt (refine' MM.call_min (ys := zs) ?hh ?hu F9 N9 (List.Mem.head _) (j5.mono fun p hp => List.mem_cons_of_mem _ hp) ?_; (case hh => exact rfl); (case hu => ktr_units); k_whole)
  clear F9 N9
  intro a1 vs1 n1 h tk m1 v1 F9 N9
  ktn_open
  rename_i Fa Na
  k_here
  (show wpAny _ _ (call (Value.builtin "max") [_]) _ _ _)
  k_dflt (refine' MM.call_max (ys := zs) ?hh ?hu Fa Na (List.Mem.head _) (j5.mono fun p hp => List.mem_cons_of_mem _ hp) ?_; (case hh => exact rfl); (case hu => ktr_units); k_whole)
  clear Fa Na
  intro a2 vs2 n2 h tk m2 v2 F9 N9
  ktn_open
  rename_i Fa Na
  k_here
  k_dflt (refine' For_turns Fa ?_; k_whole)
  ktn_open
  have hX1 := best_lt (bs.map segB) (segB b0)
  have hX2 := cpre_best (segB b0) (bs.map segB)
  have hX3 := fun k => best_le (segB b0) (bs.map segB) (k := k)
  have hY1 := (best_gt (bs.map segB) (segB b0)).1
  have hXl : ∀ X ∈ segB b0 :: bs.map segB, X.length ≤ 1001 ∧ ∀ c ∈ X, c.length ≤ 1000 := by
    intro X hX
    obtain ⟨b, hb, rfl⟩ : ∃ b ∈ b0 :: bs, segB b = X := by
      rcases List.mem_cons.mp hX with rfl | hX
      · exact ⟨b0, by simp, rfl⟩
      · obtain ⟨b, hb, e⟩ := List.mem_map.mp hX
        exact ⟨b, by simp [hb], e⟩
    have q1 := hbl b hb
    have q2 := splitB_length 47 b
    have q3 : (segB b).length ≤ (splitB 47 b).length := List.length_filter_le _ _
    refine ⟨by omega, fun c hc => ?_⟩
    have := splitB_parts 47 b c (List.mem_filter.mp hc).1
    omega
  change AreB vs1 (bestL .lt (segB b0) (bs.map segB)) at v1
  change AreB vs2 (bestL .gt (segB b0) (bs.map segB)) at v2
  replace hX1 := hX1.1
  rw [← hX2] at hret
  clear hX2
  generalize bestL .lt (segB b0) (bs.map segB) = X at v1 hX1 hX3 hret
  generalize bestL .gt (segB b0) (bs.map segB) = Y at v2 hY1 hX3 hret
  have hXs := hXl X hX1
  have hYs := hXl Y hY1
  have hlX := v1.length
  have hjX : ∀ Z : List (List UInt8), Z.Sublist X → (joinB [47] Z).length ≤ 1100000 := by
    intro Z hZ
    have q1 := joinB_length [47] 1000 Z (fun c hc => hXs.2 c (hZ.subset hc))
    have q2 := hZ.length_le
    have q3 : Z.length * (1000 + [(47 : UInt8)].length) ≤ 1001 * 1001 := Nat.mul_le_mul (by omega) (by simp)
    omega
  k_here
  k_dflt (refine' ktu_enum (vs := vs1) (lo := W.listOf vs1.toArray n1) (n := n1) ?hh Fa Na ?hm rfl rfl rfl ?rest; (case hh => exact rfl); (case hm => exact m1); k_whole)
  intro I hI
  refine enum_rest v1 (Str.ofString "i") (Str.ofString "c") (fun k => k ≤ X.length ∧ X.take k = Y.take k) ⟨m1, trivial⟩ ⟨Nat.zero_le _, rfl⟩ ?turn4 ?done4
  case turn4 =>
    intro k b t tb T u1 u2 h tk hb ⟨j1, j2⟩ hT F9
    have hkX := (List.getElem?_eq_some_iff.mp hb).1
    have hkY := hX3 k j2 hkX
    have hc := List.getElem?_eq_getElem hkY
    ktu_objs
    clear Fa Na
    rename_i Nb
    replace F9 : Fr s.heap L' h _ := F9
    replace Nb : News s.heap L' h _ := Nb
    dsimp only [mk2] at F9
    have hvk := BR.AreB.take v1 k
    have hjk := hjX (X.take k) (List.take_sublist _ _)
    ktn_open
    · refine finB (s := s) (Q := Q) hret (by assumption) ?_
      rw [cpre_diff j2 hb hc (by have := ‹(b != Y[k]) = true›; simpa using this)]
      rfl
    · have e := ‹(b != Y[k]) = false›
      have e' : b = Y[k] := by simpa using e
      (with_reducible rename Fr _ _ _ _ => lF'); (with_reducible rename News _ _ _ _ => lN')
      refine ⟨_, _, _, _, rfl, lF', lN', ?off, rfl, ⟨some (.int (k : Int) t), some (.bytes b.toArray tb), ?fn⟩, by omega, ?tk⟩
      case off =>
        intro p hp q hq
        have h1 := hI p hp
        rcases List.mem_cons.mp hq with rfl | hq
        · exact Nat.ne_of_lt (Nat.lt_succ_of_lt h1)
        · rw [List.mem_singleton.mp hq]; exact Nat.ne_of_lt h1
      case fn =>
        funext y
        unfold mk2
        by_cases h1 : y = Str.ofString "c"
        · simp only [if_pos h1]
        · by_cases h2 : y = Str.ofString "i"
          · simp only [if_neg h1, if_pos h2]
          · simp only [if_neg h1, if_neg h2]
      case tk =>
        rw [List.take_add_one, List.take_add_one, j2, hb, hc, e']
  case done4 =>
    intro u1 u2 h tk ⟨j1, j2⟩ F9 Nb
    clear Fa Na
    replace F9 : Fr s.heap L' h _ := F9
    replace Nb : News s.heap L' h _ := Nb
    dsimp only [mk2] at F9
    have hjk := hjX X (List.Sublist.refl _)
    ktn_open
    refine finB (s := s) (Q := Q) hret (by assumption) ?_
    rw [cpre_whole j2]
    rfl
end C10Part
section C11Part
theorem lineC11x1 : True := by
  k_with "call ref" => (k_here; (with_reducible show wpAny _ _ (call (Value.ref 129) [Value.bytes _ _]) _ _ _); k_dflt (refine' SaysT.use (c_split _ _ ?h1) ?k1 ?k2 ?k3 ?k4 ?k5 ?kK ?kd ?ku ?_; (case h1 => first | assumption | omega | l_fact | ktr_rel); (case k1 => k_asm); (case k2 => k_asm); (case k3 => k_asm); (case k4 => k_asm); (case k5 => k_asm); (case kK => first | exact rfl | assumption); (case kd => first | exact room9 hdp rfl | ktr_room); (case ku => first | exact units9 1 hun rfl | exact units9 2 hun rfl | exact units9 3 hun rfl | exact units9 4 hun rfl | ktr_units); k_whole); intro ws9 x9 h9 tk9 P9 F9 N9 l1; (obtain ⟨_, _, e9⟩ := P9); (subst e9); (try k_lt l1); (try dsimp only); (try k_sweep); (try k_fold))
  trivial
theorem c_read (ds : List Nat) (t : Tok) (hd : Dig ds) (hl : ds.length ≤ 20) : SaysP 3 188 [.bytes (pb ds).toArray t] (fun t => .int (pl ds) t) := by
  have hpl := pb_length (ds := ds)
  (try unfold SaysP); (try unfold SaysT); unfold SaysV
  w_on
  k_fill
  intro w mean mg mb dp un gd cn cs a ccd cl outer A₀ base h₀ L m s Q E B F X T hk hdp hun hPre hret
  k_dflt (refine' code_defE ?k1 ?k2 ?k3 ?k5 ?kA ?kF ?kK ?k6 ?k7 ?k8 ?k9 ?kB ?_ ?c2 ?c3 ?c4 ?c5; (case kA => exact rfl); (case kF => exact rfl); (case kK => assumption); (case k1 => exact B); (case k2 => exact F); (case k3 => exact X); (case k5 => exact T); (case k6 => k_is); (case k7 => k_is); (case k8 => ktr_room); (case k9 => exact BindsTo.of_eq rfl); (case c5 => decide); (case kB => exact locs rfl); (case c2 => exact rfl); (case c3 => exact rfl); (case c4 => exact rfl); k_whole; intro L' h' hL' F' N' B' X' T'; (try dsimp only); (try k_fold))
  ktn_open
  (with_reducible rename Fr _ _ _ _ => lF'); (with_reducible rename News _ _ _ _ => lN')
  refine' ksw_while (σ := List Nat × Int × Tok × Int × Tok × Tok × Tok) (fun _ => []) (fun c => [(Str.ofString "value", Value.int c.2.1 c.2.2.1), (Str.ofString "weight", Value.int c.2.2.2.1 c.2.2.2.2.1), (Str.ofString "head", Value.bytes (splitHd (pb c.1)).toArray c.2.2.2.2.2.1), (Str.ofString "name", Value.bytes (splitTl (pb c.1)).toArray c.2.2.2.2.2.2)]) (fun _ => True) [] (fun c => Dig c.1 ∧ ∃ i : Nat, i + c.1.length = ds.length ∧ c.2.2.2.1 = 16 ^ i ∧ 0 ≤ c.2.1 ∧ c.2.2.2.1 * pl c.1 + c.2.1 = pl ds) (fun c => c.1.length) (ds, _, _, _, _, _, _) lF' (News.nil) trivial ?kk ?kp ?_
  case kk => kst_all
  case kp => exact ⟨hd, 0, by simp, rfl, by simp, by simp⟩
  clear lF' lN'
  rintro ⟨es, v, t1, wt, t2, t3, t4⟩ kU kH kTk - ⟨i1, i, i2, i3, i4, i5⟩ kFr kNews
  dsimp only [kstB] at kFr i1 i2 i3 i4 i5
  rcases List.eq_nil_or_concat es with e | ⟨es', d, e⟩
  · subst e
    rw [pb_split_nil.1, pb_split_nil.2] at kFr
    try k_fold
    ktn_open
    refine finI (s := s) (Q := Q) hret (by assumption) ?_
    rw [← i5, pl_nil]
    simp
  · rw [List.concat_eq_append] at e
    subst e
    have hdd := i1 d (by simp)
    rw [pb_split_tl _ hdd, pb_split_hd i1.left hdd] at kFr
    have hx : ((([ltr d].getD (Int.toNat 0) 0).toNat : Nat) : Int) = 65 + d := by
      have := (ltr_ne hdd).2.2
      show (((ltr d).toNat : Nat) : Int) = 65 + d
      omega
    have hpe := pb_length (ds := es')
    simp only [List.length_append, List.length_cons, List.length_nil] at i2
    try k_fold
    ktn_open
    · refine' ksw_end (es', _, _, _, _, _, _) (by assumption) (by assumption) (fun p hp => nomatch hp) trivial ?kk ?kr ?kp ?km
      case kk => kst_all
      case kr => ksw_same
      case km => dsimp only; simp
      case kp =>
        refine ⟨i1.left, i + 1, by dsimp only; omega, ?_, ?_, ?_⟩
        · dsimp only; rw [i3, Int.pow_succ]
        · dsimp only
          try rw [hx]
          have : (0 : Int) ≤ wt := by rw [i3]; exact Int.pow_nonneg (by decide)
          have := Int.mul_nonneg this (show (0 : Int) ≤ 65 + d - 65 by omega)
          omega
        · dsimp only
          try rw [hx]
          rw [← i5, pl_snoc]
          rw [show (65 + (d : Int) - 65) = d by omega]
          push_cast
          rw [Int.mul_add, Int.mul_assoc]
          omega
    · exact absurd ‹([ltr d] != []) = false› (by simp)
end C11Part
section C12Part
theorem lineC12x1 : True := by
  k_with "call ref" => (k_here; (with_reducible show wpAny _ _ (call (Value.ref 167) [Value.int _ _]) _ _ _); k_dflt (refine' SaysP.use (c_above _ _) ?k1 ?k2 ?k3 ?k4 ?k5 ?kK ?kd ?ku ?_; (case k1 => k_asm); (case k2 => k_asm); (case k3 => k_asm); (case k4 => k_asm); (case k5 => k_asm); (case kK => first | exact rfl | assumption); (case kd => first | exact room9 hdp rfl | ktr_room); (case ku => first | exact units9 1 hun rfl | exact units9 2 hun rfl | exact units9 3 hun rfl | exact units9 4 hun rfl | ktr_units); k_whole); intro t9 h9 tk9 F9 N9; (try dsimp only); (try k_sweep); (try k_fold))
  trivial
theorem lineC12x2 : True := by
  k_with "call ref" => (k_here; (with_reducible show wpAny _ _ (call (Value.ref 155) [Value.int _ _]) _ _ _); k_dflt (refine' SaysP.use (c_letter _ _ ?h1 ?h2) ?k1 ?k2 ?k3 ?k4 ?k5 ?kK ?kd ?ku ?_; (case h1 => first | assumption | omega | l_fact | ktr_rel); (case h2 => first | assumption | omega | l_fact | ktr_rel); (case k1 => k_asm); (case k2 => k_asm); (case k3 => k_asm); (case k4 => k_asm); (case k5 => k_asm); (case kK => first | exact rfl | assumption); (case kd => first | exact room9 hdp rfl | ktr_room); (case ku => first | exact units9 1 hun rfl | exact units9 2 hun rfl | exact units9 3 hun rfl | exact units9 4 hun rfl | ktr_units); k_whole); intro t9 h9 tk9 F9 N9; (try dsimp only); (try k_sweep); (try k_fold))
  trivial
theorem c_step (n : Int) (t t2 : Tok) (ds : List Nat) (hd : Dig ds) (hl : ds.length ≤ 20) : SaysT 2 202 [.int n t, .int (pl ds) t2] (fun ws => ∃ t1 t2, ws = [.bytes (partB n).toArray t1, .int (pl (goalD n ds)) t2]) := by
  have hb4 := sB_lt n
  (try unfold SaysP); (try unfold SaysT); unfold SaysV
  w_on
  k_fill
  intro w mean mg mb dp un gd cn cs a ccd cl outer A₀ base h₀ L m s Q E B F X T hk hdp hun hPre hret
  k_dflt (refine' code_defE ?k1 ?k2 ?k3 ?k5 ?kA ?kF ?kK ?k6 ?k7 ?k8 ?k9 ?kB ?_ ?c2 ?c3 ?c4 ?c5; (case kA => exact rfl); (case kF => exact rfl); (case kK => assumption); (case k1 => exact B); (case k2 => exact F); (case k3 => exact X); (case k5 => exact T); (case k6 => k_is); (case k7 => k_is); (case k8 => ktr_room); (case k9 => exact BindsTo.of_eq rfl); (case c5 => decide); (case kB => exact locs rfl); (case c2 => exact rfl); (case c3 => exact rfl); (case c4 => exact rfl); k_whole; intro L' h' hL' F' N' B' X' T'; (try dsimp only); (try k_fold))
  ktn_open
  all_goals simp only [stepK, stepD, stepE, stepB] at *
  all_goals first
    | (exfalso; omega)
    | skip
  all_goals (refine finU (s := s) (Q := Q) hret (by assumption) (by assumption) (by assumption) (bi_b ?_ ?_))
  all_goals (try rw [ltr_of]); (try rw [ltr_of])
  all_goals clear hret
  all_goals first
    | (have h : sK n = 0 := by omega
       simp only [partB, goalD, h, if_true] <;> first | rfl | exact above_pl hd)
    | (have h : sK n = 3 := by omega
       first
       | (have h2 : sB n = 0 := by omega
          simp only [partB, goalD, h, h2, sepB] <;> first | rfl | (simp [pl_two]; done))
       | (have h2 : sB n = 1 := by omega
          simp only [partB, goalD, h, h2, sepB] <;> first | rfl | (simp [pl_two]; done))
       | (have h2 : sB n = 2 := by omega
          simp only [partB, goalD, h, h2, sepB] <;> first | rfl | (simp [pl_two]; done))
       | (have h2 : sB n = 3 := by omega
          simp only [partB, goalD, h, h2, sepB] <;> first | rfl | (simp [pl_snoc]; done)))
    | (have h : sK n = 4 := by omega
       simp only [partB, goalD, h] <;> first | rfl | (rw [above_pl hd, above_pl hd.dropLast]; simp [pl_snoc]; done))
    | (have h : sK n = 5 := by omega
       simp only [partB, goalD, h] <;> first | rfl | (simp [pl]; done))
    | (have h1 : sK n ≠ 0 := by omega
       have h2 : sK n ≠ 3 := by omega
       have h3 : sK n ≠ 4 := by omega
       have h4 : sK n ≠ 5 := by omega
       simp only [partB, goalD, h1, h2, h3, h4, if_false] <;> first | rfl | (simp [pl_snoc]; done))
end C12Part
section C13Part
theorem pl_20 {ds : List Nat} (h : Dig ds) (hl : ds.length ≤ 19) : pl ds < 16 ^ 20 := by
  have h1 := pl_lt h
  have h2 := Nat.pow_le_pow_right (n := 16) (by decide) (show ds.length + 1 ≤ 20 by omega)
  rw [Nat.pow_succ] at h2
  omega
theorem c_placeD (ds : List Nat) (t : Tok) (hd : Dig ds) (hl : ds.length ≤ 19) : SaysP 2 160 [.int (pl ds) t] (fun t => .bytes (pb ds).toArray t) := by
  have := c_place (pl ds) t (by rw [Int.natAbs_natCast]; exact pl_20 hd hl)
  rwa [Int.natAbs_natCast, placeB_pl hd] at this
theorem c_placeN (ds : List Nat) (t : Tok) (hd : Dig ds) (hl : ds.length ≤ 19) : SaysP 2 160 [.int (-(pl ds : Int)) t] (fun t => .bytes (pb ds).toArray t) := by
  have := c_place (-(pl ds : Int)) t (by rw [Int.natAbs_neg, Int.natAbs_natCast]; exact pl_20 hd hl)
  rwa [Int.natAbs_neg, Int.natAbs_natCast, placeB_pl hd] at this
theorem c_meetD (a b : List Nat) (t t2 : Tok) (ha : Dig a) (hb : Dig b) : SaysP 1 174 [.int (pl a) t, .int (pl b) t2] (fun t => .int (pl (cpre a b)) t) := by
  have := c_meet (pl a) (pl b) t t2 (by omega) (by omega)
  rwa [Int.toNat_natCast, Int.toNat_natCast, meet_pl _ (Nat.le_refl _) ha hb] at this
theorem c_restD (ds : List Nat) (t : Tok) (hd : Dig ds) (hl : ds.length ≤ 19) : SaysP 1 195 [.int (pl ds) t] (fun t => .int (rs ds) t) := by
  have h1 := pl_lt hd
  have h2 := pl_pos ds
  have h3 := pl_20 hd hl
  have h4 := pl_one ds
  have := c_rest (pl ds) t (by omega) (by exact_mod_cast h3) ds.length (by exact_mod_cast h2) (by rw [Int.pow_succ]; have : ((pl ds : Nat) : Int) < 2 * 16 ^ ds.length := by exact_mod_cast h1
                                                                                                  omega)
  have e : ((pl ds : Nat) : Int) - 16 ^ ds.length = (rs ds : Int) := by
    rw [pl_rs ds]; push_cast; omega
  rwa [e] at this
theorem c_apD (ds : List Nat) (t : Tok) (hd : Dig ds) (hl : ds.length ≤ 19) : SaysP 1 28 [.int (rs ds) t] (fun t => .bytes ((ds.map ltr).dropWhile (· == 65)).toArray t) := by
  have h3 := pl_20 hd hl
  rw [pl_rs] at h3
  have := c_ap (rs ds) t (by rw [Int.natAbs_natCast]; exact Nat.lt_of_le_of_lt (Nat.le_add_left _ _) h3)
  rwa [Int.natAbs_natCast, ap_rs hd, ← strip_ltr hd] at this
theorem c_wayD (a b : List Nat) (t t2 : Tok) (ha : Dig a) (hb : Dig b) (h1 : a.length ≤ 19) (h2 : b.length ≤ 19) : SaysP 2 181 [.int (pl a) t, .int (pl b) t2] (fun t => .bytes (joinB [47] (wayL a b)).toArray t) := by
  have hc := cpre_dig (b := b) ha
  have l1 := cpre_left a b
  have l2 := cpre_right a b
  have q1 := l1.length_le
  have q2 := l2.length_le
  have hm := meet_pl _ (Nat.le_refl _) ha hb
  have := c_way (pl a) (pl b) t t2 (by omega) (by omega) (a.length - (cpre a b).length) (b.length - (cpre a b).length)
    (by rw [Int.toNat_natCast, Int.toNat_natCast, hm, pl_take ha _ (by omega), show a.length - (a.length - (cpre a b).length) = (cpre a b).length by omega, pre_take l1])
    (by
      intro k hk e
      rw [Int.toNat_natCast, Int.toNat_natCast, hm, pl_take ha _ (by omega)] at e
      have := pl_len (ha.take _) hc e
      rw [List.length_take] at this
      omega)
    (by rw [Int.toNat_natCast, Int.toNat_natCast, hm, pl_take hb _ (by omega), show b.length - (b.length - (cpre a b).length) = (cpre a b).length by omega, pre_take l2])
    (by
      intro k hk e
      rw [Int.toNat_natCast, Int.toNat_natCast, hm, pl_take hb _ (by omega)] at e
      have := pl_len (hb.take _) hc e
      rw [List.length_take] at this
      omega)
    (by omega) (by omega)
  rwa [Int.toNat_natCast, dnB_pl hb _ (by omega), show b.length - (b.length - (cpre a b).length) = (cpre a b).length by omega] at this
theorem joinP_jn (r w : List UInt8) : joinP (47 :: r) w = 47 :: jn r w := by
  unfold joinP jn
  by_cases h1 : w.head? = some 47
  · rw [if_pos h1, if_pos (by simp [h1])]
    cases w with
    | nil => simp at h1
    | cons c w => simp at h1; subst h1; rfl
  · rw [if_neg h1, if_neg (by simp [h1])]
    by_cases h2 : r = []
    · subst h2; simp
    · have : (47 :: r).getLast? = r.getLast? := by
        cases r with
        | nil => exact absurd rfl h2
        | cons c r => rfl
      rw [this]
      by_cases h3 : r.getLast? = some 47
      · rw [if_pos (by simp [h3]), if_pos (.inr h3)]; rfl
      · rw [if_neg (by simp [h3]), if_neg (by simp [h2, h3])]; rfl
theorem c_joinJ (r w : List UInt8) (t t2 : Tok) (h1 : r.length ≤ 99999) (h2 : w.length ≤ 100000) : SaysP 2 122 [.bytes (47 :: r).toArray t, .bytes w.toArray t2] (fun t => .bytes (47 :: jn r w).toArray t) := by
  have := c_join (47 :: r) w t t2 (by simp; omega) h2
  rwa [joinP_jn] at this
def SaysL (k : Nat) (f : Addr) (l : Addr) (vs : List Value) (R : Tok → Value) : Prop := SaysV k f [.ref l] (fun h => h.IsList l vs.toArray) (fun _ _ v => ∃ t, v = R t)
theorem SaysL.use {k n : Nat} {f l : Addr} {vs : List Value} {R : Tok → Value} (C : SaysL k f l vs R) {w : World} {mean : ExcName → Option Value} {mg mb : Str → Option Value} {news : List (Addr × Obj)} {dp un : Nat} {gd : Option (List Code)} {cn : Str} {cs : Scope} {a : Addr} {ccd : Value} {cl : List (Str × Addr)} {outer : List Env} {A₀ : Around} {base h₀ : Heap} {L : Addr} {m : Str → Option Value} {s : Shared} {Q E : Value → Shared → Prop}
    (B : Below A₀ base outer h₀) (F : Fr h₀ L s.heap m) (X : (hd.heap_39 w.params).In h₀) (N : News h₀ L s.heap news) (T : Top hd.view_39 (looseW hd.view_39 []) mean mg mb h₀) (hk : cs.kind = .function)
    (hd : dp + k < recursionLimit) (hu : un + 20 * k < cLine) (hm : (l, W.listOf vs.toArray n) ∈ news)
    (hret : ∀ (t : Tok) (h' : Heap) (tk' : Nat), Fr h₀ L h' m → News h₀ L h' news → Q (R t) { s with heap := h', toks := tk' }) :
    wpAny (model PySem.Challenge.rw_pd0075_01.row.prog w) (ktrTop dp un gd cn cs L a ccd cl outer) (call (.ref f) [.ref l]) Q E s :=
  C w mean mg mb dp un gd cn cs a ccd cl outer A₀ base h₀ L m s Q E B F X T hk hd hu ⟨_, (N _ hm).1, rfl, _, rfl⟩ fun v h' tk' hkeep hv => by
    obtain ⟨t, rfl⟩ := hv
    exact hret t h' tk' (F.keeps hkeep) fun p hp => ⟨hkeep _ _ (N p hp).1, (N p hp).2⟩
theorem segB_pb {ds : List Nat} (h : Dig ds) : segB (pb ds) = seg ds := keep_pb h
theorem c_commonD (l : Addr) (vs : List Value) (a : List Nat) (as : List (List Nat)) (hv : AreB vs (pb a :: as.map pb)) (ha : Dig a) (has : ∀ b ∈ as, Dig b) (hl : ∀ b ∈ a :: as, b.length ≤ 400) (hn : as.length ≤ 100) :
    SaysL 3 148 l vs (fun t => .bytes (pb (as.foldl cpre a)).toArray t) := by
  have := c_common l vs (pb a) (as.map pb) hv (by
      intro b hb
      rcases List.mem_cons.mp hb with rfl | hb
      · rfl
      · obtain ⟨c, _, rfl⟩ := List.mem_map.mp hb; rfl)
    (by
      intro b hb
      rcases List.mem_cons.mp hb with rfl | hb
      · have := pb_length (ds := a); have := hl a (by simp); omega
      · obtain ⟨c, hc, rfl⟩ := List.mem_map.mp hb
        have := pb_length (ds := c); have := hl c (by simp [hc]); omega) (by simpa using hn)
  have e : (as.map pb).map segB = as.map seg := by
    rw [List.map_map]
    exact List.map_congr_left fun b hb => segB_pb (has b hb)
  rw [segB_pb ha, e, (fold_cpre_seg as ha has).1] at this
  exact this
theorem c_commonTwo (l : Addr) (vs : List Value) (a b : List Nat) (hv : AreB vs [pb a, pb b]) (ha : Dig a) (hb : Dig b) (h1 : a.length ≤ 400) (h2 : b.length ≤ 400) : SaysL 3 148 l vs (fun t => .bytes (pb (cpre a b)).toArray t) :=
  c_commonD l vs a [b] hv ha (fun c hc => by rw [List.mem_singleton.mp hc]; exact hb) (fun c hc => by simp at hc; rcases hc with rfl | rfl <;> assumption) (by simp)
end C13Part
section C14Part
theorem lineC14x1 : True := by
  k_with "call ref" => (k_here; (with_reducible show wpAny _ _ (call (Value.ref 143) [Value.bytes (List.toArray (_ :: _)) _]) _ _ _); k_dflt (refine' SaysP.use (c_normpath _ _ ?h1 ?h2) ?k1 ?k2 ?k3 ?k4 ?k5 ?kK ?kd ?ku ?_; (case h1 => first | assumption | omega | l_fact | ktr_rel); (case h2 => first | assumption | omega | l_fact | ktr_rel); (case k1 => k_asm); (case k2 => k_asm); (case k3 => k_asm); (case k4 => k_asm); (case k5 => k_asm); (case kK => first | exact rfl | assumption); (case kd => first | exact room9 hdp rfl | ktr_room); (case ku => first | exact units9 1 hun rfl | exact units9 2 hun rfl | exact units9 3 hun rfl | exact units9 4 hun rfl | ktr_units); k_whole); intro t9 h9 tk9 F9 N9; (try dsimp only); (try k_sweep); (try k_fold))
  trivial
theorem lineC14x2 : True := by
  k_with "call ref" => (k_here; (with_reducible show wpAny _ _ (call (Value.ref 188) [Value.bytes (List.toArray (pb _)) _]) _ _ _); k_dflt (refine' SaysP.use (c_read _ _ ?h1 ?h2) ?k1 ?k2 ?k3 ?k4 ?k5 ?kK ?kd ?ku ?_; (case h1 => first | assumption | omega | l_fact | ktr_rel); (case h2 => first | assumption | omega | l_fact | ktr_rel); (case k1 => k_asm); (case k2 => k_asm); (case k3 => k_asm); (case k4 => k_asm); (case k5 => k_asm); (case kK => first | exact rfl | assumption); (case kd => first | exact room9 hdp rfl | ktr_room); (case ku => first | exact units9 1 hun rfl | exact units9 2 hun rfl | exact units9 3 hun rfl | exact units9 4 hun rfl | ktr_units); k_whole); intro t9 h9 tk9 F9 N9; (try dsimp only); (try k_sweep); (try k_fold))
  trivial
theorem lineC14x3 : True := by
  k_with "call ref" => (k_here; (with_reducible show wpAny _ _ (call (Value.ref 195) [Value.int _ _]) _ _ _); k_dflt (refine' SaysP.use (c_restD _ _ ?h1 ?h2) ?k1 ?k2 ?k3 ?k4 ?k5 ?kK ?kd ?ku ?_; (case h1 => first | assumption | omega | l_fact | ktr_rel); (case h2 => first | assumption | omega | l_fact | ktr_rel); (case k1 => k_asm); (case k2 => k_asm); (case k3 => k_asm); (case k4 => k_asm); (case k5 => k_asm); (case kK => first | exact rfl | assumption); (case kd => first | exact room9 hdp rfl | ktr_room); (case ku => first | exact units9 1 hun rfl | exact units9 2 hun rfl | exact units9 3 hun rfl | exact units9 4 hun rfl | ktr_units); k_whole); intro t9 h9 tk9 F9 N9; (try dsimp only); (try k_sweep); (try k_fold))
  trivial
theorem lineC14x4 : True := by
  k_with "call ref" => (k_here; (with_reducible show wpAny _ _ (call (Value.ref 28) [Value.int _ _]) _ _ _); k_dflt (refine' SaysP.use (c_apD _ _ ?h1 ?h2) ?k1 ?k2 ?k3 ?k4 ?k5 ?kK ?kd ?ku ?_; (case h1 => first | assumption | omega | l_fact | ktr_rel); (case h2 => first | assumption | omega | l_fact | ktr_rel); (case k1 => k_asm); (case k2 => k_asm); (case k3 => k_asm); (case k4 => k_asm); (case k5 => k_asm); (case kK => first | exact rfl | assumption); (case kd => first | exact room9 hdp rfl | ktr_room); (case ku => first | exact units9 1 hun rfl | exact units9 2 hun rfl | exact units9 3 hun rfl | exact units9 4 hun rfl | ktr_units); k_whole); intro t9 h9 tk9 F9 N9; (try dsimp only); (try k_sweep); (try k_fold))
  trivial
theorem lineC14x5 : True := by
  k_with "call ref" => (k_here; (with_reducible show wpAny _ _ (call (Value.ref 174) [Value.int _ _, Value.int _ _]) _ _ _); k_dflt (refine' SaysP.use (c_meetD _ _ _ _ ?h1 ?h2) ?k1 ?k2 ?k3 ?k4 ?k5 ?kK ?kd ?ku ?_; (case h1 => first | assumption | omega | l_fact | ktr_rel); (case h2 => first | assumption | omega | l_fact | ktr_rel); (case k1 => k_asm); (case k2 => k_asm); (case k3 => k_asm); (case k4 => k_asm); (case k5 => k_asm); (case kK => first | exact rfl | assumption); (case kd => first | exact room9 hdp rfl | ktr_room); (case ku => first | exact units9 1 hun rfl | exact units9 2 hun rfl | exact units9 3 hun rfl | exact units9 4 hun rfl | ktr_units); k_whole); intro t9 h9 tk9 F9 N9; (try dsimp only); (try k_sweep); (try k_fold))
  trivial
theorem lineC14x6 : True := by
  k_with "call ref" => (k_here; (with_reducible show wpAny _ _ (call (Value.ref 160) [Value.int _ _]) _ _ _); k_dflt (refine' SaysP.use (c_placeN _ _ ?h1 ?h2) ?k1 ?k2 ?k3 ?k4 ?k5 ?kK ?kd ?ku ?_; (case h1 => first | assumption | omega | l_fact | ktr_rel); (case h2 => first | assumption | omega | l_fact | ktr_rel); (case k1 => k_asm); (case k2 => k_asm); (case k3 => k_asm); (case k4 => k_asm); (case k5 => k_asm); (case kK => first | exact rfl | assumption); (case kd => first | exact room9 hdp rfl | ktr_room); (case ku => first | exact units9 1 hun rfl | exact units9 2 hun rfl | exact units9 3 hun rfl | exact units9 4 hun rfl | ktr_units); k_whole); intro t9 h9 tk9 F9 N9; (try dsimp only); (try k_sweep); (try k_fold))
  trivial
theorem lineC14x7 : True := by
  k_with "call ref" => (k_here; (with_reducible show wpAny _ _ (call (Value.ref 181) [Value.int _ _, Value.int _ _]) _ _ _); k_dflt (refine' SaysP.use (c_wayD _ _ _ _ ?h1 ?h2 ?h3 ?h4) ?k1 ?k2 ?k3 ?k4 ?k5 ?kK ?kd ?ku ?_; (case h1 => first | assumption | omega | l_fact | ktr_rel); (case h2 => first | assumption | omega | l_fact | ktr_rel); (case h3 => first | assumption | omega | l_fact | ktr_rel); (case h4 => first | assumption | omega | l_fact | ktr_rel); (case k1 => k_asm); (case k2 => k_asm); (case k3 => k_asm); (case k4 => k_asm); (case k5 => k_asm); (case kK => first | exact rfl | assumption); (case kd => first | exact room9 hdp rfl | ktr_room); (case ku => first | exact units9 1 hun rfl | exact units9 2 hun rfl | exact units9 3 hun rfl | exact units9 4 hun rfl | ktr_units); k_whole); intro t9 h9 tk9 F9 N9; (try dsimp only); (try k_sweep); (try k_fold))
  trivial
theorem lineC14x8 : True := by
  k_with "call ref" => (k_here; (with_reducible show wpAny _ _ (call (Value.ref 122) [Value.bytes (List.toArray (_ :: _)) _, Value.bytes _ _]) _ _ _); k_dflt (refine' SaysP.use (c_joinJ _ _ _ _ ?h1 ?h2) ?k1 ?k2 ?k3 ?k4 ?k5 ?kK ?kd ?ku ?_; (case h1 => first | assumption | omega | l_fact | ktr_rel); (case h2 => first | assumption | omega | l_fact | ktr_rel); (case k1 => k_asm); (case k2 => k_asm); (case k3 => k_asm); (case k4 => k_asm); (case k5 => k_asm); (case kK => first | exact rfl | assumption); (case kd => first | exact room9 hdp rfl | ktr_room); (case ku => first | exact units9 1 hun rfl | exact units9 2 hun rfl | exact units9 3 hun rfl | exact units9 4 hun rfl | ktr_units); k_whole); intro t9 h9 tk9 F9 N9; (try dsimp only); (try k_sweep); (try k_fold))
  trivial
theorem lineC14x9 : True := by
  k_with "call ref" => (k_here; (with_reducible show wpAny _ _ (call (Value.ref 148) [Value.ref _]) _ _ _); k_dflt (refine' SaysL.use (c_commonTwo _ _ _ _ ?v ?h1 ?h2 ?h3 ?h4) ?k1 ?k2 ?k3 ?k4 ?k5 ?kK ?kd ?ku ?k9 ?_; (case k4 => k_asm); (case k9 => k_mem); (case v => exact BR.AreB.cons (BR.AreB.cons BR.AreB.nil)); (case h1 => assumption); (case h2 => assumption); (case h3 => omega); (case h4 => omega); (case k1 => k_asm); (case k2 => k_asm); (case k3 => k_asm); (case k5 => k_asm); (case kK => first | exact rfl | assumption); (case kd => first | exact room9 hdp rfl | ktr_room); (case ku => first | exact units9 1 hun rfl | exact units9 2 hun rfl | exact units9 3 hun rfl | exact units9 4 hun rfl | ktr_units); k_whole); intro t9 h9 tk9 F9 N9; (try dsimp only); (try k_sweep); (try k_fold))
  trivial
theorem c_right (r1 r2 : List UInt8) (x y : List Nat) (t1 t2 t3 t4 t5 t6 : Tok) (ha : Dig x) (hb : Dig y) (hla : x.length ≤ 19) (hlb : y.length ≤ 19) (h1 : r1.length ≤ 1000) (h2 : r2.length ≤ 1000) (g1 : r1.head? ≠ some 47) (g2 : r2.head? ≠ some 47)
    (e1 : normC (splitB 47 r1) = seg x) (e2 : normC (splitB 47 r2) = seg y) :
    SaysP 4 209 [.bytes (47 :: r1).toArray t1, .int (pl x) t2, .bytes (pb x).toArray t3, .bytes (47 :: r2).toArray t4, .int (pl y) t5, .bytes (pb y).toArray t6] (fun _ => .bool true) := by
  have n2 : normP r2 = pb y := by unfold normP pb; rw [e2]
  have m1 : normP (jn r1 (joinB [47] (wayL x y))) = pb y := by unfold normP pb; rw [jn_norm (way_head hb), e1, way_fold hb]
  have m2 : normP (jn r2 (joinB [47] (wayL y x))) = pb x := by unfold normP pb; rw [jn_norm (way_head ha), e2, way_fold ha]
  have hf := flat_split hb
  have hfl : (joinB [] (splitB 47 (pb y))).length ≤ 19 := by rw [hf]; simpa using hlb
  have hlB := pb_length (ds := y)
  have hcp := cpre_dig (b := y) ha
  have hcl := (cpre_left x y).length_le
  have w1 := way_length (a := x) hb 19 hla hlb
  have w2 := way_length (a := y) ha 19 hlb hla
  have p1 := jn_head g1 (way_head (a := x) hb)
  have p2 := jn_head g2 (way_head (a := y) ha)
  have l1 := jn_length r1 (joinB [47] (wayL x y))
  have l2 := jn_length r2 (joinB [47] (wayL y x))
  (try unfold SaysP); (try unfold SaysT); unfold SaysV
  w_on
  k_fill
  intro w mean mg mb dp un gd cn cs a ccd cl outer A₀ base h₀ L m s Q E B F X T hk hdp hun hPre hret
  k_dflt (refine' code_defE ?k1 ?k2 ?k3 ?k5 ?kA ?kF ?kK ?k6 ?k7 ?k8 ?k9 ?kB ?_ ?c2 ?c3 ?c4 ?c5; (case kA => exact rfl); (case kF => exact rfl); (case kK => assumption); (case k1 => exact B); (case k2 => exact F); (case k3 => exact X); (case k5 => exact T); (case k6 => k_is); (case k7 => k_is); (case k8 => ktr_room); (case k9 => exact BindsTo.of_eq rfl); (case c5 => decide); (case kB => exact locs rfl); (case c2 => exact rfl); (case c3 => exact rfl); (case c4 => exact rfl); k_whole; intro L' h' hL' F' N' B' X' T'; (try dsimp only); (try k_fold))
  ktn_open
  · exact absurd ‹(normP r2 != pb y) = true› (by simp [n2])
  · exact absurd rfl ‹(pl y : Int) ≠ (pl y : Int)›
  · have h := ‹(List.dropWhile (fun x => x == 65) (joinB [] (splitB 47 (pb y))) != List.dropWhile (fun x => x == 65) (List.map ltr y)) = true›
    rw [hf] at h
    exact absurd h (by simp)
  · have h := ‹(pb (cpre y x) != pb (cpre x y)) = true›
    rw [cpre_comm y x] at h
    exact absurd h (by simp)
  · have h := ‹(normP (jn r1 (joinB [47] (wayL x y))) != pb y) = true›
    rw [m1] at h
    exact absurd h (by simp)
  · refine finT (s := s) (Q := Q) hret (by assumption) ?_
    rw [m2]
    simp
end C14Part
section C15Part
theorem lineC15x6 : True := by
  k_with "call ref" => (k_here; (with_reducible show wpAny _ _ (call (Value.ref 202) [Value.int _ _, Value.int _ _]) _ _ _); k_dflt (refine' SaysT.use (c_step _ _ _ _ ?h1 ?h2) ?k1 ?k2 ?k3 ?k4 ?k5 ?kK ?kd ?ku ?_; (case h1 => first | assumption | omega | l_fact | ktr_rel); (case h2 => first | assumption | omega | l_fact | ktr_rel); (case k1 => k_asm); (case k2 => k_asm); (case k3 => k_asm); (case k4 => k_asm); (case k5 => k_asm); (case kK => first | exact rfl | assumption); (case kd => first | exact room9 hdp rfl | ktr_room); (case ku => first | exact units9 1 hun rfl | exact units9 2 hun rfl | exact units9 3 hun rfl | exact units9 4 hun rfl | ktr_units); k_whole); intro ws9 x9 h9 tk9 P9 F9 N9 l1; (obtain ⟨_, _, e9⟩ := P9); (subst e9); (try k_lt l1); (try dsimp only); (try k_sweep); (try k_fold))
  trivial
theorem lineC15x1 : True := by
  k_with "call ref" => (k_here; (with_reducible show wpAny _ _ (call (Value.ref 122) [Value.bytes (List.toArray (_ :: _)) _, Value.bytes _ _]) _ _ _); k_dflt (refine' SaysP.use (c_joinJ _ _ _ _ ?h1 ?h2) ?k1 ?k2 ?k3 ?k4 ?k5 ?kK ?kd ?ku ?_; (case h1 => first | assumption | omega | l_fact | ktr_rel); (case h2 => first | assumption | omega | l_fact | ktr_rel); (case k1 => k_asm); (case k2 => k_asm); (case k3 => k_asm); (case k4 => k_asm); (case k5 => k_asm); (case kK => first | exact rfl | assumption); (case kd => first | exact room9 hdp rfl | ktr_room); (case ku => first | exact units9 1 hun rfl | exact units9 2 hun rfl | exact units9 3 hun rfl | exact units9 4 hun rfl | ktr_units); k_whole); intro t9 h9 tk9 F9 N9; (try dsimp only); (try k_sweep); (try k_fold))
  trivial
theorem lineC15x2 : True := by
  k_with "call ref" => (k_here; (with_reducible show wpAny _ _ (call (Value.ref 160) [Value.int _ _]) _ _ _); k_dflt (refine' SaysP.use (c_placeD _ _ ?h1 ?h2) ?k1 ?k2 ?k3 ?k4 ?k5 ?kK ?kd ?ku ?_; (case h1 => first | assumption | omega | l_fact | ktr_rel); (case h2 => first | assumption | omega | l_fact | ktr_rel); (case k1 => k_asm); (case k2 => k_asm); (case k3 => k_asm); (case k4 => k_asm); (case k5 => k_asm); (case kK => first | exact rfl | assumption); (case kd => first | exact room9 hdp rfl | ktr_room); (case ku => first | exact units9 1 hun rfl | exact units9 2 hun rfl | exact units9 3 hun rfl | exact units9 4 hun rfl | ktr_units); k_whole); intro t9 h9 tk9 F9 N9; (try dsimp only); (try k_sweep); (try k_fold))
  trivial
theorem c_placeOne (t : Tok) : SaysP 2 160 [.int 1 t] (fun t => .bytes (pb []).toArray t) := c_placeD [] t (fun _ h => nomatch h) (by decide)
theorem lineC15x3 : True := by
  k_with "call ref" => (k_here; (with_reducible show wpAny _ _ (call (Value.ref 160) [Value.int 1 _]) _ _ _); k_dflt (refine' SaysP.use (c_placeOne _) ?k1 ?k2 ?k3 ?k4 ?k5 ?kK ?kd ?ku ?_; (case k1 => k_asm); (case k2 => k_asm); (case k3 => k_asm); (case k4 => k_asm); (case k5 => k_asm); (case kK => first | exact rfl | assumption); (case kd => first | exact room9 hdp rfl | ktr_room); (case ku => first | exact units9 1 hun rfl | exact units9 2 hun rfl | exact units9 3 hun rfl | exact units9 4 hun rfl | ktr_units); k_whole); intro t9 h9 tk9 F9 N9; (try dsimp only); (try k_sweep); (try k_fold))
  trivial
theorem lineC15x4 : True := by
  k_with "call ref" => (k_here; (with_reducible show wpAny _ _ (call (Value.ref 209) [Value.bytes (List.toArray (_ :: _)) _, Value.int _ _, Value.bytes _ _, Value.bytes (List.toArray (_ :: _)) _, Value.int _ _, Value.bytes _ _]) _ _ _); k_dflt (refine' SaysP.use (c_right _ _ _ _ _ _ _ _ _ _ ?h1 ?h2 ?h3 ?h4 ?h5 ?h6 ?h7 ?h8 ?h9 ?h0) ?k1 ?k2 ?k3 ?k4 ?k5 ?kK ?kd ?ku ?_; (case h1 => first | assumption | omega | l_fact | ktr_rel); (case h2 => first | assumption | omega | l_fact | ktr_rel); (case h3 => first | assumption | omega | l_fact | ktr_rel); (case h4 => first | assumption | omega | l_fact | ktr_rel); (case h5 => first | assumption | omega | l_fact | ktr_rel); (case h6 => first | assumption | omega | l_fact | ktr_rel); (case h7 => first | assumption | omega | l_fact | ktr_rel); (case h8 => first | assumption | omega | l_fact | ktr_rel); (case h9 => first | assumption | omega | l_fact | ktr_rel); (case h0 => first | assumption | omega | l_fact | ktr_rel); (case k1 => k_asm); (case k2 => k_asm); (case k3 => k_asm); (case k4 => k_asm); (case k5 => k_asm); (case kK => first | exact rfl | assumption); (case kd => first | exact room9 hdp rfl | ktr_room); (case ku => first | exact units9 1 hun rfl | exact units9 2 hun rfl | exact units9 3 hun rfl | exact units9 4 hun rfl | ktr_units); k_whole); intro t9 h9 tk9 F9 N9; (try dsimp only); (try k_sweep); (try k_fold))
  trivial
theorem lineC15x5 : True := by
  k_with "call ref" => (k_here; (with_reducible show wpAny _ _ (call (Value.ref 174) [Value.int _ _, Value.int _ _]) _ _ _); k_dflt (refine' SaysP.use (c_meet _ _ _ _ ?h1 ?h2) ?k1 ?k2 ?k3 ?k4 ?k5 ?kK ?kd ?ku ?_; (case h1 => first | assumption | omega | l_fact | ktr_rel); (case h2 => first | assumption | omega | l_fact | ktr_rel); (case k1 => k_asm); (case k2 => k_asm); (case k3 => k_asm); (case k4 => k_asm); (case k5 => k_asm); (case kK => first | exact rfl | assumption); (case kd => first | exact room9 hdp rfl | ktr_room); (case ku => first | exact units9 1 hun rfl | exact units9 2 hun rfl | exact units9 3 hun rfl | exact units9 4 hun rfl | ktr_units); k_whole); intro t9 h9 tk9 F9 N9; (try dsimp only); (try k_sweep); (try k_fold))
  trivial
theorem lineC15x7 : True := by
  k_with "call ref" => (k_here; (with_reducible show wpAny _ _ (call (Value.ref 148) [Value.ref _]) _ _ _); k_dflt (refine' SaysL.use (c_commonD _ _ _ _ ?v ?h1 ?h2 ?h3 ?h4) ?k1 ?k2 ?k3 ?k4 ?k5 ?kK ?kd ?ku ?k9 ?_; (case k4 => k_asm); (case k9 => k_mem); (case v => assumption); (case h1 => assumption); (case h2 => assumption); (case h3 => assumption); (case h4 => assumption); (case k1 => k_asm); (case k2 => k_asm); (case k3 => k_asm); (case k5 => k_asm); (case kK => first | exact rfl | assumption); (case kd => first | exact room9 hdp rfl | ktr_room); (case ku => first | exact units9 1 hun rfl | exact units9 2 hun rfl | exact units9 3 hun rfl | exact units9 4 hun rfl | ktr_units); k_whole); intro t9 h9 tk9 F9 N9; (try dsimp only); (try k_sweep); (try k_fold))
  trivial
/-- the meeting place of all -/
def topS : List (List Nat) → Int
  | [] => 0
  | g :: r => (pl (r.foldl cpre g) : Int)
theorem topS_nonneg : ∀ gs, 0 ≤ topS gs
  | [] => Int.le_refl _
  | _ :: _ => Int.natCast_nonneg _
theorem topS_snoc (gs : List (List Nat)) (x : List Nat) (h : ∀ g ∈ gs, Dig g) (hx : Dig x) (hne : gs ≠ []) : ((meetN (topS gs).toNat ((pl x : Nat) : Int).toNat : Nat) : Int) = topS (gs ++ [x]) := by
  cases gs with
  | nil => exact absurd rfl hne
  | cons g gs =>
    have hd := (fold_cpre_seg gs (h g (by simp)) fun b hb => h b (by simp [hb])).2
    show ((meetN ((pl (gs.foldl cpre g) : Nat) : Int).toNat _ : Nat) : Int) = ((pl ((gs ++ [x]).foldl cpre g) : Nat) : Int)
    rw [Int.toNat_natCast, Int.toNat_natCast, meet_pl _ (Nat.le_refl _) hd hx, List.foldl_append]
    rfl
structure Inv (i : Nat) (r : List UInt8) (ds : List Nat) (gs : List (List Nat)) (vs : List Value) : Prop where
  dig : Dig ds
  len : ds.length ≤ 2 * i
  head : r.head? ≠ some 47
  norm : normC (splitB 47 r) = seg ds
  rlen : r.length ≤ 8 * i
  glen : gs.length = i
  are : AreB vs (gs.map pb)
  all : ∀ g ∈ gs, Dig g ∧ g.length ≤ 16
theorem c_walk (l : Addr) (vs : List Value) (ns : List Int) (hi : IntsAre vs ns) (hn : ns.length ≤ 8) (h0 : ns ≠ []) : SaysL 5 216 l vs (fun _ => .bool true) := by
  have hvl := hi.length
  unfold SaysL
  (try unfold SaysP); (try unfold SaysT); unfold SaysV
  w_on
  k_fill
  intro w mean mg mb dp un gd cn cs a ccd cl outer A₀ base h₀ L m s Q E B F X T hk hdp hun hPre hret
  k_dflt (refine' code_defE ?k1 ?k2 ?k3 ?k5 ?kA ?kF ?kK ?k6 ?k7 ?k8 ?k9 ?kB ?_ ?c2 ?c3 ?c4 ?c5; (case kA => exact rfl); (case kF => exact rfl); (case kK => assumption); (case k1 => exact B); (case k2 => exact F); (case k3 => exact X); (case k5 => exact T); (case k6 => k_is); (case k7 => k_is); (case k8 => ktr_room); (case k9 => exact BindsTo.of_eq rfl); (case c5 => decide); (case kB => exact locs rfl); (case c2 => exact rfl); (case c3 => exact rfl); (case c4 => exact rfl); k_whole; intro L' h' hL' F' N' B' X' T'; (try dsimp only); (try k_fold))
  ktn_open
  refine For_invV s.heap (by rfl) (by rfl) ?_
  ktn_open
  (with_reducible rename Fr _ _ _ _ => lF'); (with_reducible rename News _ _ _ _ => lN')
  refine' for_ledH (σ := List UInt8 × List Nat × List (List Nat) × List Value × Nat × Tok × Tok × Tok × Tok) (fun c => [(_, W.listOf c.2.2.2.1.toArray c.2.2.2.2.1)]) (fun c => [(Str.ofString "path", Value.bytes (47 :: c.1).toArray c.2.2.2.2.2.1), (Str.ofString "place", Value.int (pl c.2.1) c.2.2.2.2.2.2.1), (Str.ofString "start", Value.bytes (pb c.2.1).toArray c.2.2.2.2.2.2.2.1), (Str.ofString "top", Value.int (topS c.2.2.1) c.2.2.2.2.2.2.2.2)]) [Str.ofString "n", Str.ofString "part", Str.ofString "goal", Str.ofString "after", Str.ofString "end"] (fun i c => Inv i c.1 c.2.1 c.2.2.1 c.2.2.2.1) ([], [], [], [], 0, _, _, _, _) rfl lF' lN' hPre (fun c => rfl) ?kk ?kj ?turn ?done
  case kk => kst_all
  case kj => exact { dig := (fun _ h => nomatch h), len := Nat.le_refl _, head := (fun h => nomatch h), norm := rfl, rlen := Nat.le_refl _, glen := rfl, are := BR.AreB.nil, all := (fun _ h => nomatch h) }
  case turn =>
    clear lF' lN'
    rintro i v ⟨r, ds, gs, vs2, n2, u1, u2, u3, u4⟩ kU kH kTk I oI hv ⟨j1, j2, j3, j4, j5, j6, j7, j8⟩ lI kFr kNews
    dsimp only [kstB] at kFr kNews lI j1 j2 j3 j4 j5 j6 j7 j8
    obtain ⟨n, tn, rfl, hni⟩ := hi.at i v hv
    have hi8 : i < 8 := by
      have := (List.getElem?_eq_some_iff.mp hni).1
      omega
    have q1 := goalD_dig n j1
    have q2 := goalD_length n ds
    have q3 := partB_length n
    obtain ⟨q4, q5⟩ := step_path n j3 j4
    have q6 := jn_length r (partB n)
    have q7 := j7.length
    simp only [List.length_map] at q7
    replace kFr : Fr s.heap L' kH _ := kFr
    replace kNews : News s.heap L' kH _ := kNews
    k_lt lI
    have hnew : ∀ t, Inv (i + 1) (jn r (partB n)) (goalD n ds) (gs ++ [goalD n ds]) (vs2 ++ [.bytes (pb (goalD n ds)).toArray t]) := fun t =>
      { dig := q1, len := by omega, head := q5, norm := q4, rlen := by omega, glen := by simp [j6], are := by rw [List.map_append]; exact j7.append (.cons .nil),
        all := fun g hg => by
          rcases List.mem_append.mp hg with hg | hg
          · exact j8 g hg
          · rw [List.mem_singleton.mp hg]; exact ⟨q1, by omega⟩ }
    have s1 : ds.length ≤ 20 := by omega
    have s2 : r.length ≤ 99999 := by omega
    have s3 : (partB n).length ≤ 100000 := Nat.le_trans q3 (by decide)
    have s4 : (goalD n ds).length ≤ 19 := by omega
    have s5 : ds.length ≤ 19 := by omega
    have s6 : r.length ≤ 1000 := by omega
    have s7 : (jn r (partB n)).length ≤ 1000 := by omega
    have s8 : vs2.length ≤ 1000000 := by omega
    have s9 : 0 ≤ topS gs := topS_nonneg gs
    have s10 : (0 : Int) ≤ (pl (goalD n ds) : Int) := Int.natCast_nonneg _
    have eT := topS_snoc gs (goalD n ds) (fun g hg => (j8 g hg).1) q1
    clear q2 q3 q6 hi8
    try k_fold
    ktn_open
    · have h := ‹vs2.isEmpty = true›
      have e0 : gs = [] := by
        rw [List.isEmpty_iff.mp h] at q7
        exact List.length_eq_zero_iff.mp q7.symm
      subst e0
      (with_reducible rename Fr _ _ _ _ => lF'); (with_reducible rename News _ _ _ _ => lN')
      refine' for_end (jn r (partB n), goalD n ds, [] ++ [goalD n ds], vs2 ++ [.bytes (pb (goalD n ds)).toArray _], n2 + 1, _, _, _, _) lF' lN' ?hI ?hn ?kk ?kr ?hj
      case hI => k_mem
      case hn => exact List.forall_mem_cons.mpr ⟨by k_mem, fun _ h => nomatch h⟩
      case kk => kst_all
      case kr => ksw_same
      case hj => exact hnew _
    · have h := ‹vs2.isEmpty = false›
      have e0 : gs ≠ [] := by
        intro e
        rw [e] at q7
        rw [List.length_eq_zero_iff.mp q7] at h
        cases h
      (with_reducible rename Fr _ _ _ _ => lF'); (with_reducible rename News _ _ _ _ => lN')
      rw [eT e0] at lF'
      refine' for_end (jn r (partB n), goalD n ds, gs ++ [goalD n ds], vs2 ++ [.bytes (pb (goalD n ds)).toArray _], n2 + 1, _, _, _, _) lF' lN' ?hI ?hn ?kk ?kr ?hj
      case hI => k_mem
      case hn => exact List.forall_mem_cons.mpr ⟨by k_mem, fun _ h => nomatch h⟩
      case kk => kst_all
      case kr => ksw_same
      case hj => exact hnew _
  case done =>
    clear lF' lN'
    rintro ⟨r, ds, gs, vs2, n2, u1, u2, u3, u4⟩ kU kH kTk ⟨j1, j2, j3, j4, j5, j6, j7, j8⟩ kFr kNews
    dsimp only [kstB] at kFr kNews j1 j2 j3 j4 j5 j6 j7 j8
    replace kFr : Fr s.heap L' kH _ := kFr
    replace kNews : News s.heap L' kH _ := kNews
    cases gs with
    | nil => exact absurd (List.length_eq_zero_iff.mp (by rw [← hvl]; exact j6.symm)) h0
    | cons g gs =>
      dsimp only [topS] at kFr
      have hg := j8 g (by simp)
      have j7' : AreB vs2 (pb g :: gs.map pb) := j7
      have has : ∀ b ∈ gs, Dig b := fun b hb => (j8 b (by simp [hb])).1
      have hls : ∀ b ∈ g :: gs, b.length ≤ 400 := fun b hb => Nat.le_trans (j8 b hb).2 (by decide)
      have hgl : gs.length ≤ 100 := by simp only [List.length_cons] at j6; omega
      have hgd := hg.1
      have hfd := (fold_cpre_seg gs hg.1 has).2
      have hfl := ((fold_cpre gs g).1 g (by simp)).length_le
      have hgl2 := hg.2
      have hfl2 : (gs.foldl cpre g).length ≤ 19 := by omega
      clear hfl
      try k_fold
      ktn_open
      refine finT (s := s) (Q := Q) hret (by assumption) ?_
      simp
end C15Part
section C16Part
theorem lineC16x1 : True := by
  k_with "call ref" => (k_here; (with_reducible show wpAny _ _ (call (Value.ref 216) [Value.ref _]) _ _ _); k_dflt (refine' SaysL.use (c_walk _ _ _ ?i ?h1 ?h2) ?k1 ?k2 ?k3 ?k4 ?k5 ?kK ?kd ?ku ?k9 ?_; (case k4 => k_asm); (case k9 => k_mem); (case i => assumption); (case h1 => (simp only [List.length_append, List.length_cons, List.length_nil, List.length_take]; omega)); (case h2 => (intro h9; cases h9)); (case k1 => k_asm); (case k2 => k_asm); (case k3 => k_asm); (case k5 => k_asm); (case kK => first | exact rfl | assumption); (case kd => first | exact room9 hdp rfl | ktr_room); (case ku => first | exact units9 1 hun rfl | exact units9 2 hun rfl | exact units9 3 hun rfl | exact units9 4 hun rfl | ktr_units); k_whole); intro t9 h9 tk9 F9 N9; (try dsimp only); (try k_sweep); (try k_fold))
  trivial
theorem c_law : PySem.Challenge.rw_pd0075_01.Holds := by
  refine hd.2 left9 ?_
  dsimp only [hd]
  k_go0
  (all_goals try k_fold)
  ktn_open
end C16Part
end Mine
end WalkPart
theorem PySem.Challenge.cw_pd0075_01_holds : PySem.Challenge.rw_pd0075_01.Holds := by
  exact Mine.c_law
