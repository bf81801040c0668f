import JvmDerived
import JvmDerived.Pilot.@@N@@Statement
import JvmDerived.Pilot.@@N@@Code
set_option linter.unusedVariables false
set_option linter.unusedSimpArgs false
namespace Jvm.Pilot.@@N@@
open Jvm Jvm.ClassFile Sem Op Lib Jvm.Free Jvm.Stand Jvm.LawKit Jvm.RoadKit Bundle Jvm.Pilot.@@N@@.Jvm.D

/-! a segment of plain instructions, run by evaluation -/
abbrev PI := Nat × Instr × Nat × Int32
def getK {ρ : Type} : List Slot → Nat → (Slot → Option ρ) → Option ρ
  | [], _, _ => none
  | a :: _, 0, κ => κ a
  | _ :: l, i + 1, κ => getK l i κ
def setK {ρ : Type} : List Slot → Nat → Slot → (List Slot → Option ρ) → Option ρ
  | [], _, _, _ => none
  | _ :: l, 0, x, κ => κ (x :: l)
  | a :: l, i + 1, x, κ => setK l i x (fun l' => κ (a :: l'))
def stK {ρ : Type} (l : List Slot) (i : Nat) (v : Value) (κ : List Slot → Option ρ) : Option ρ :=
  getK l i fun
    | .unset => setK l i (.val v) κ
    | .val (.int _) => setK l i (.val v) κ
    | .val .null => setK l i (.val v) κ
    | .val (.ref _) => setK l i (.val v) κ
    | .val (.long _) => setK l (i + 1) .unset fun l' => setK l' i (.val v) κ
    | _ => none
def stKL {ρ : Type} (l : List Slot) (i : Nat) (v : Int64) (κ : List Slot → Option ρ) : Option ρ :=
  getK l i fun
    | .unset => getK l (i + 1) fun
      | .unset => setK l i (.val (.long v)) fun l' => setK l' (i + 1) .second κ
      | .val (.int _) => setK l i (.val (.long v)) fun l' => setK l' (i + 1) .second κ
      | .val .null => setK l i (.val (.long v)) fun l' => setK l' (i + 1) .second κ
      | .val (.ref _) => setK l i (.val (.long v)) fun l' => setK l' (i + 1) .second κ
      | _ => none
    | .val (.int _) => getK l (i + 1) fun
      | .unset => setK l i (.val (.long v)) fun l' => setK l' (i + 1) .second κ
      | .val (.int _) => setK l i (.val (.long v)) fun l' => setK l' (i + 1) .second κ
      | .val .null => setK l i (.val (.long v)) fun l' => setK l' (i + 1) .second κ
      | .val (.ref _) => setK l i (.val (.long v)) fun l' => setK l' (i + 1) .second κ
      | _ => none
    | .val (.ref _) => getK l (i + 1) fun
      | .unset => setK l i (.val (.long v)) fun l' => setK l' (i + 1) .second κ
      | .val (.int _) => setK l i (.val (.long v)) fun l' => setK l' (i + 1) .second κ
      | .val .null => setK l i (.val (.long v)) fun l' => setK l' (i + 1) .second κ
      | .val (.ref _) => setK l i (.val (.long v)) fun l' => setK l' (i + 1) .second κ
      | _ => none
    | .val (.long _) => getK l (i + 1) fun
      | .second => setK l i (.val (.long v)) κ
      | _ => none
    | _ => none
def pst {ρ : Type} (i : Instr) (v : Int32) (ls : List Slot) (st : List Value) (κ : List Slot → List Value → Option ρ) : Option ρ :=
  match i with
  | .aload_n k => getK ls k.val fun
    | .val (.ref a) => κ ls (.ref a :: st)
    | .val .null => κ ls (.null :: st)
    | _ => none
  | .aload k => getK ls k fun
    | .val (.ref a) => κ ls (.ref a :: st)
    | .val .null => κ ls (.null :: st)
    | _ => none
  | .iload_n k => getK ls k.val fun
    | .val (.int x) => κ ls (.int x :: st)
    | _ => none
  | .iload k => getK ls k fun
    | .val (.int x) => κ ls (.int x :: st)
    | _ => none
  | .lload_n k => getK ls k.val fun
    | .val (.long x) => κ ls (.long x :: st)
    | _ => none
  | .lload k => getK ls k fun
    | .val (.long x) => κ ls (.long x :: st)
    | _ => none
  | .iconst c => κ ls (.int v :: st)
  | .bipush c => κ ls (.int v :: st)
  | .sipush c => κ ls (.int v :: st)
  | .lconst c => κ ls (.long (Int64.ofNat c.val) :: st)
  | .aconst_null => κ ls (.null :: st)
  | .iadd => match st with
    | .int y :: .int x :: r => κ ls (.int (x + y) :: r)
    | _ => none
  | .isub => match st with
    | .int y :: .int x :: r => κ ls (.int (x - y) :: r)
    | _ => none
  | .imul => match st with
    | .int y :: .int x :: r => κ ls (.int (x * y) :: r)
    | _ => none
  | .iand => match st with
    | .int y :: .int x :: r => κ ls (.int (x &&& y) :: r)
    | _ => none
  | .ior => match st with
    | .int y :: .int x :: r => κ ls (.int (x ||| y) :: r)
    | _ => none
  | .ixor => match st with
    | .int y :: .int x :: r => κ ls (.int (x ^^^ y) :: r)
    | _ => none
  | .ishl => match st with
    | .int y :: .int x :: r => κ ls (.int (x <<< (y &&& 31)) :: r)
    | _ => none
  | .ishr => match st with
    | .int y :: .int x :: r => κ ls (.int (x >>> (y &&& 31)) :: r)
    | _ => none
  | .iushr => match st with
    | .int y :: .int x :: r => κ ls (.int (XT.ushr x y) :: r)
    | _ => none
  | .ladd => match st with
    | .long y :: .long x :: r => κ ls (.long (x + y) :: r)
    | _ => none
  | .lsub => match st with
    | .long y :: .long x :: r => κ ls (.long (x - y) :: r)
    | _ => none
  | .lmul => match st with
    | .long y :: .long x :: r => κ ls (.long (x * y) :: r)
    | _ => none
  | .land => match st with
    | .long y :: .long x :: r => κ ls (.long (x &&& y) :: r)
    | _ => none
  | .lor => match st with
    | .long y :: .long x :: r => κ ls (.long (x ||| y) :: r)
    | _ => none
  | .lxor => match st with
    | .long y :: .long x :: r => κ ls (.long (x ^^^ y) :: r)
    | _ => none
  | .lshl => match st with
    | .int y :: .long x :: r => κ ls (.long (x <<< (y.toInt64 &&& 63)) :: r)
    | _ => none
  | .lshr => match st with
    | .int y :: .long x :: r => κ ls (.long (x >>> (y.toInt64 &&& 63)) :: r)
    | _ => none
  | .lushr => match st with
    | .int y :: .long x :: r => κ ls (.long (XT.ushrL x y) :: r)
    | _ => none
  | .ineg => match st with
    | .int x :: r => κ ls (.int (-x) :: r)
    | _ => none
  | .lneg => match st with
    | .long x :: r => κ ls (.long (-x) :: r)
    | _ => none
  | .i2l => match st with
    | .int x :: r => κ ls (.long (x.toInt64) :: r)
    | _ => none
  | .l2i => match st with
    | .long x :: r => κ ls (.int (x.toInt32) :: r)
    | _ => none
  | .i2b => match st with
    | .int x :: r => κ ls (.int (x.toInt8.toInt32) :: r)
    | _ => none
  | .i2c => match st with
    | .int x :: r => κ ls (.int (x.toUInt32.toUInt16.toUInt32.toInt32) :: r)
    | _ => none
  | .i2s => match st with
    | .int x :: r => κ ls (.int (x.toInt16.toInt32) :: r)
    | _ => none
  | .lcmp => match st with
    | .long y :: .long x :: r => κ ls (.int (XT.cmpL x y) :: r)
    | _ => none
  | .pop => match st with
    | .int x :: r => κ ls (r)
    | .ref x :: r => κ ls (r)
    | .null :: r => κ ls (r)
    | _ => none
  | .dup => match st with
    | .int x :: r => κ ls (.int x :: .int x :: r)
    | .ref x :: r => κ ls (.ref x :: .ref x :: r)
    | .null :: r => κ ls (.null :: .null :: r)
    | _ => none
  | .dup_x1 => match st with
    | .int x :: .int y :: r => κ ls (.int x :: .int y :: .int x :: r)
    | .int x :: .ref y :: r => κ ls (.int x :: .ref y :: .int x :: r)
    | .int x :: .null :: r => κ ls (.int x :: .null :: .int x :: r)
    | .ref x :: .int y :: r => κ ls (.ref x :: .int y :: .ref x :: r)
    | .ref x :: .ref y :: r => κ ls (.ref x :: .ref y :: .ref x :: r)
    | .ref x :: .null :: r => κ ls (.ref x :: .null :: .ref x :: r)
    | .null :: .int y :: r => κ ls (.null :: .int y :: .null :: r)
    | .null :: .ref y :: r => κ ls (.null :: .ref y :: .null :: r)
    | .null :: .null :: r => κ ls (.null :: .null :: .null :: r)
    | _ => none
  | .dup2 => match st with
    | .long x :: r => κ ls (.long x :: .long x :: r)
    | .int x :: .int y :: r => κ ls (.int x :: .int y :: .int x :: .int y :: r)
    | .int x :: .ref y :: r => κ ls (.int x :: .ref y :: .int x :: .ref y :: r)
    | .ref x :: .int y :: r => κ ls (.ref x :: .int y :: .ref x :: .int y :: r)
    | .ref x :: .ref y :: r => κ ls (.ref x :: .ref y :: .ref x :: .ref y :: r)
    | _ => none
  | .istore_n k => match st with
    | .int x :: r => stK ls k.val (.int x) fun ls' => κ ls' r
    | _ => none
  | .istore k => match st with
    | .int x :: r => stK ls k (.int x) fun ls' => κ ls' r
    | _ => none
  | .astore_n k => match st with
    | .ref x :: r => stK ls k.val (.ref x) fun ls' => κ ls' r
    | .null :: r => stK ls k.val .null fun ls' => κ ls' r
    | _ => none
  | .astore k => match st with
    | .ref x :: r => stK ls k (.ref x) fun ls' => κ ls' r
    | .null :: r => stK ls k .null fun ls' => κ ls' r
    | _ => none
  | .lstore_n k => match st with
    | .long x :: r => stKL ls k.val x fun ls' => κ ls' r
    | _ => none
  | .lstore k => match st with
    | .long x :: r => stKL ls k x fun ls' => κ ls' r
    | _ => none
  | .iinc k c => getK ls k fun
    | .val (.int x) => stK ls k (.int (x + v)) fun ls' => κ ls' st
    | _ => none
  | .goto _ => κ ls st
  | _ => none
def ilen : Instr → Nat
  | .aload _ => 2
  | .iload _ => 2
  | .lload _ => 2
  | .astore _ => 2
  | .istore _ => 2
  | .lstore _ => 2
  | .bipush _ => 2
  | .iinc _ _ => 3
  | .sipush _ => 3
  | .goto _ => 3
  | _ => 1
def ival (v : Int32) : Instr → Prop
  | .iconst c => Int32.ofInt c = v
  | .bipush c => (Int8.ofInt c).toInt32 = v
  | .sipush c => (Int16.ofInt c).toInt32 = v
  | .iinc _ c => Int32.ofInt c = v
  | _ => True
instance {v : Int32} {i : Instr} : Decidable (ival v i) := by unfold ival; split <;> infer_instance
def inxt (pc nx : Nat) : Instr → Prop
  | .goto o => 0 ≤ (pc : Int) + o ∧ ((pc : Int) + o).toNat = nx
  | i => pc + ilen i = nx
instance {pc nx : Nat} {i : Instr} : Decidable (inxt pc nx i) := by unfold inxt; split <;> infer_instance
def segOk (code : ByteArray) : Nat → List PI → Nat → Bool
  | pc, [], pe => decide (pc = pe)
  | pc, (q, i, nx, v) :: r, pe => decide (q = pc) && decide (decode code pc = .ok (i, ilen i)) && decide (ival v i) && decide (inxt pc nx i) && segOk code nx r pe
def prun : List PI → List Slot → List Value → Option (List Slot × List Value)
  | [], ls, st => some (ls, st)
  | (_, i, _, v) :: r, ls, st => pst i v ls st fun ls' st' => prun r ls' st'
theorem getK_some {ρ : Type} {κ : Slot → Option ρ} {r : ρ} : ∀ {l : List Slot} {i : Nat}, getK l i κ = some r → ∃ a, l[i]? = some a ∧ κ a = some r
  | [], _, h => by cases h
  | a :: _, 0, h => ⟨a, rfl, h⟩
  | _ :: l, i + 1, h => by obtain ⟨a, h1, h2⟩ := getK_some (l := l) h; exact ⟨a, by simpa using h1, h2⟩
theorem setK_some {ρ : Type} {x : Slot} {r : ρ} : ∀ {l : List Slot} {i : Nat} {κ : List Slot → Option ρ}, setK l i x κ = some r → i < l.length ∧ κ (l.set i x) = some r
  | [], _, _, h => by cases h
  | a :: _, 0, _, h => ⟨by simp, h⟩
  | _ :: l, i + 1, _, h => by obtain ⟨h1, h2⟩ := setK_some (l := l) h; exact ⟨by simpa using h1, by simpa using h2⟩
theorem setAt_list {l : List Slot} {i : Nat} {x : Slot} (h : i < l.length) : setAt l.toArray i x = some (l.set i x).toArray := by simp [setAt, h]
theorem cat_i (x : Int32) : (Value.int x).category = 1 := rfl
theorem cat_l (x : Int64) : (Value.long x).category = 2 := rfl
theorem cat_r (x : Addr) : (Value.ref x).category = 1 := rfl
theorem cat_n : Value.null.category = 1 := rfl
theorem stK_some {ρ : Type} {r : ρ} {v : Value} (hv : v.category = 1) {l : List Slot} {i : Nat} {κ : List Slot → Option ρ} (h : stK l i v κ = some r) : ∃ l', storeLocals l.toArray i v = some l'.toArray ∧ l'.length = l.length ∧ κ l' = some r := by
  obtain ⟨a, h1, h2⟩ := getK_some h
  have e : l.toArray[i]? = some a := by simpa using h1
  split at h2
  all_goals first
    | (cases h2; done)
    | (obtain ⟨h3, h4⟩ := setK_some h2; exact ⟨l.set i (.val v), by simp [storeLocals, storeSelf, e, h1, setAt_list h3, hv, cat_i, cat_l, cat_r, cat_n], by simp, h4⟩)
    | (obtain ⟨h3, h4⟩ := setK_some h2; obtain ⟨h5, h6⟩ := setK_some h4; exact ⟨(l.set (i + 1) .unset).set i (.val v), by simp [storeLocals, storeSelf, e, h1, setAt_list h3, setAt_list h5, hv, cat_i, cat_l, cat_r, cat_n], by simp, h6⟩)
theorem stKL_one {ρ : Type} {r : ρ} {v : Int64} {l : List Slot} {i : Nat} {κ : List Slot → Option ρ} {a : Slot} (h1 : l[i]? = some a) (ha : a = .unset ∨ ∃ w, a = .val w ∧ w.category = 1)
    (h2 : (getK l (i + 1) fun
      | .unset => setK l i (.val (.long v)) fun l' => setK l' (i + 1) .second κ
      | .val (.int _) => setK l i (.val (.long v)) fun l' => setK l' (i + 1) .second κ
      | .val .null => setK l i (.val (.long v)) fun l' => setK l' (i + 1) .second κ
      | .val (.ref _) => setK l i (.val (.long v)) fun l' => setK l' (i + 1) .second κ
      | _ => none) = some r) : ∃ l', storeLocals l.toArray i (.long v) = some l'.toArray ∧ l'.length = l.length ∧ κ l' = some r := by
  obtain ⟨b, h3, h4⟩ := getK_some h2
  have e : l.toArray[i]? = some a := by simpa using h1
  have e' : (l.set i (.val (.long v))).toArray[i + 1]? = some b := by simpa [List.getElem?_set] using h3
  have hs : storeSelf l.toArray i (.long v) = storeLocals l.toArray i (.long v) := by
    rcases ha with rfl | ⟨w, rfl, hw⟩ <;> simp [storeLocals, h1, *]
  rw [← hs]
  split at h4
  all_goals first
    | (cases h4; done)
    | (obtain ⟨h5, h6⟩ := setK_some h4; obtain ⟨h7, h8⟩ := setK_some h6
       refine ⟨(l.set i (.val (.long v))).set (i + 1) .second, ?_, by simp, h8⟩
       simp only [storeSelf, setAt_list h5, setAt_list h7, e', cat_i, cat_l, cat_r, cat_n, Option.bind_eq_bind, Option.bind_some, if_true, if_false, reduceIte, Nat.reduceEqDiff])
theorem stKL_some {ρ : Type} {r : ρ} {v : Int64} {l : List Slot} {i : Nat} {κ : List Slot → Option ρ} (h : stKL l i v κ = some r) : ∃ l', storeLocals l.toArray i (.long v) = some l'.toArray ∧ l'.length = l.length ∧ κ l' = some r := by
  obtain ⟨a, h1, h2⟩ := getK_some h
  have e : l.toArray[i]? = some a := by simpa using h1
  split at h2
  · exact stKL_one h1 (Or.inl rfl) h2
  · exact stKL_one h1 (Or.inr ⟨_, rfl, rfl⟩) h2
  · exact stKL_one h1 (Or.inr ⟨_, rfl, rfl⟩) h2
  · obtain ⟨b, h3, h4⟩ := getK_some h2
    split at h4
    · obtain ⟨h5, h6⟩ := setK_some h4
      have h7 : i + 1 < l.length := (List.getElem?_eq_some_iff.mp h3).1
      have q : ((l.set (i + 1) .unset).set i (.val (.long v))).set (i + 1) .second = l.set i (.val (.long v)) := by
        apply List.ext_getElem?; intro j
        simp only [List.getElem?_set, List.length_set]
        by_cases e1 : i + 1 = j
        · subst e1; obtain ⟨_, h8⟩ := List.getElem?_eq_some_iff.mp h3; simp [h7, h8]
        · simp [e1]
      refine ⟨l.set i (.val (.long v)), ?_, by simp, h6⟩
      rw [← q]
      have a1 : setAt l.toArray (i + 1) .unset = some (l.set (i + 1) .unset).toArray := setAt_list h7
      have a2 : setAt (l.set (i + 1) .unset).toArray i (.val (.long v)) = some ((l.set (i + 1) .unset).set i (.val (.long v))).toArray := setAt_list (by simpa using h5)
      have a3 : setAt ((l.set (i + 1) .unset).set i (.val (.long v))).toArray (i + 1) .second = some (((l.set (i + 1) .unset).set i (.val (.long v))).set (i + 1) .second).toArray := setAt_list (by simpa using h7)
      have a4 : ((l.set (i + 1) .unset).set i (.val (.long v))).toArray[i + 1]? = some .unset := by simp [List.getElem?_set, h7]
      simp only [storeLocals, storeSelf, e, a1, a2, a3, a4, cat_l, Option.bind_eq_bind, Option.bind_some, if_true]
    · cases h4
  · cases h2

theorem pst_sound {ρ : Type} {r : ρ} {tb : Tables} [Ours tb] {e : Env} {below : List Frame} {T : State} {m : MethodId} {c : Code} {code : ByteArray} (hA : At T m c below) (hx : tb.exec = Jvm.exec) (hc : c.code = code) {i : Instr} {v : Int32} {pc nx : Nat} {ls : List Slot} {st : List Value} {κ : List Slot → List Value → Option ρ}
    (hd : decode code pc = .ok (i, ilen i)) (hv : ival v i) (hn : inxt pc nx i) (h : pst i v ls st κ = some r) :
    ∃ ls' st', ls'.length = ls.length ∧ κ ls' st' = some r ∧ ∀ t, Steps tb e below (T.setTop (mkF m nx ls'.toArray st')) t → Steps tb e below (T.setTop (mkF m pc ls.toArray st)) t := by
  cases i
  case goto o => exact ⟨_, _, rfl, h, fun t hr => XS.goto hA hx rfl rfl (hb hc hd) hn.1 hn.2 hr⟩
  all_goals first
    | exact nomatch (show none = some _ from h)
    | (change _ = nx at hn; subst hn)
  case aload_n k => 
    obtain ⟨a, h1, h2⟩ := getK_some h
    split at h2
    · exact ⟨_, _, rfl, h2, fun t hr => XS.aloadN hA hx rfl (hb hc hd) (by simpa using h1) rfl hr⟩
    · exact ⟨_, _, rfl, h2, fun t hr => XS.aloadN hA hx rfl (hb hc hd) (by simpa using h1) rfl hr⟩
    · cases h2
  case aload k => 
    obtain ⟨a, h1, h2⟩ := getK_some h
    split at h2
    · exact ⟨_, _, rfl, h2, fun t hr => XS.aload hA hx rfl (hb hc hd) (by simpa using h1) rfl hr⟩
    · exact ⟨_, _, rfl, h2, fun t hr => XS.aload hA hx rfl (hb hc hd) (by simpa using h1) rfl hr⟩
    · cases h2
  case iload_n k => 
    obtain ⟨a, h1, h2⟩ := getK_some h
    split at h2
    · exact ⟨_, _, rfl, h2, fun t hr => XS.iloadN hA hx rfl (hb hc hd) (by simpa using h1) hr⟩
    · cases h2
  case iload k => 
    obtain ⟨a, h1, h2⟩ := getK_some h
    split at h2
    · exact ⟨_, _, rfl, h2, fun t hr => XS.iload hA hx rfl (hb hc hd) (by simpa using h1) hr⟩
    · cases h2
  case lload_n k => 
    obtain ⟨a, h1, h2⟩ := getK_some h
    split at h2
    · exact ⟨_, _, rfl, h2, fun t hr => XT.lloadN hA hx rfl (hb hc hd) (by simpa using h1) hr⟩
    · cases h2
  case lload k => 
    obtain ⟨a, h1, h2⟩ := getK_some h
    split at h2
    · exact ⟨_, _, rfl, h2, fun t hr => XT.lload hA hx rfl (hb hc hd) (by simpa using h1) hr⟩
    · cases h2
  case iconst c => exact ⟨_, _, rfl, h, fun t hr => XS.iconst hA hx rfl (hb hc hd) (by rw [hv]; exact hr)⟩
  case bipush c => exact ⟨_, _, rfl, h, fun t hr => XS.bipush hA hx rfl (hb hc hd) (by rw [hv]; exact hr)⟩
  case sipush c => exact ⟨_, _, rfl, h, fun t hr => XS.sipush hA hx rfl (hb hc hd) (by rw [hv]; exact hr)⟩
  case lconst c => exact ⟨_, _, rfl, h, fun t hr => XT.lconst hA hx rfl (hb hc hd) hr⟩
  case aconst_null => exact ⟨_, _, rfl, h, fun t hr => XS.aconstNull hA hx rfl (hb hc hd) hr⟩
  case iadd => 
    simp only [pst] at h
    split at h
    · exact ⟨_, _, rfl, h, fun t hr => XS.iadd hA hx rfl (hb hc hd) rfl hr⟩
    · cases h
  case isub => 
    simp only [pst] at h
    split at h
    · exact ⟨_, _, rfl, h, fun t hr => XS.isub hA hx rfl (hb hc hd) rfl hr⟩
    · cases h
  case imul => 
    simp only [pst] at h
    split at h
    · exact ⟨_, _, rfl, h, fun t hr => XS.imul hA hx rfl (hb hc hd) rfl hr⟩
    · cases h
  case iand => 
    simp only [pst] at h
    split at h
    · exact ⟨_, _, rfl, h, fun t hr => XS.iand hA hx rfl (hb hc hd) rfl hr⟩
    · cases h
  case ior => 
    simp only [pst] at h
    split at h
    · exact ⟨_, _, rfl, h, fun t hr => XT.ior hA hx rfl (hb hc hd) rfl hr⟩
    · cases h
  case ixor => 
    simp only [pst] at h
    split at h
    · exact ⟨_, _, rfl, h, fun t hr => XT.ixor hA hx rfl (hb hc hd) rfl hr⟩
    · cases h
  case ishl => 
    simp only [pst] at h
    split at h
    · exact ⟨_, _, rfl, h, fun t hr => XT.ishl hA hx rfl (hb hc hd) rfl hr⟩
    · cases h
  case ishr => 
    simp only [pst] at h
    split at h
    · exact ⟨_, _, rfl, h, fun t hr => XT.ishr hA hx rfl (hb hc hd) rfl hr⟩
    · cases h
  case iushr => 
    simp only [pst] at h
    split at h
    · exact ⟨_, _, rfl, h, fun t hr => XT.iushr hA hx rfl (hb hc hd) rfl hr⟩
    · cases h
  case ladd => 
    simp only [pst] at h
    split at h
    · exact ⟨_, _, rfl, h, fun t hr => XT.ladd hA hx rfl (hb hc hd) rfl hr⟩
    · cases h
  case lsub => 
    simp only [pst] at h
    split at h
    · exact ⟨_, _, rfl, h, fun t hr => XT.lsub hA hx rfl (hb hc hd) rfl hr⟩
    · cases h
  case lmul => 
    simp only [pst] at h
    split at h
    · exact ⟨_, _, rfl, h, fun t hr => XT.lmul hA hx rfl (hb hc hd) rfl hr⟩
    · cases h
  case land => 
    simp only [pst] at h
    split at h
    · exact ⟨_, _, rfl, h, fun t hr => XT.land hA hx rfl (hb hc hd) rfl hr⟩
    · cases h
  case lor => 
    simp only [pst] at h
    split at h
    · exact ⟨_, _, rfl, h, fun t hr => XT.lor hA hx rfl (hb hc hd) rfl hr⟩
    · cases h
  case lxor => 
    simp only [pst] at h
    split at h
    · exact ⟨_, _, rfl, h, fun t hr => XT.lxor hA hx rfl (hb hc hd) rfl hr⟩
    · cases h
  case lshl => 
    simp only [pst] at h
    split at h
    · exact ⟨_, _, rfl, h, fun t hr => XT.lshl hA hx rfl (hb hc hd) rfl hr⟩
    · cases h
  case lshr => 
    simp only [pst] at h
    split at h
    · exact ⟨_, _, rfl, h, fun t hr => XT.lshr hA hx rfl (hb hc hd) rfl hr⟩
    · cases h
  case lushr => 
    simp only [pst] at h
    split at h
    · exact ⟨_, _, rfl, h, fun t hr => XT.lushr hA hx rfl (hb hc hd) rfl hr⟩
    · cases h
  case ineg => 
    simp only [pst] at h
    split at h
    · exact ⟨_, _, rfl, h, fun t hr => XS.ineg hA hx rfl (hb hc hd) rfl hr⟩
    · cases h
  case lneg => 
    simp only [pst] at h
    split at h
    · exact ⟨_, _, rfl, h, fun t hr => XT.lneg hA hx rfl (hb hc hd) rfl hr⟩
    · cases h
  case i2l => 
    simp only [pst] at h
    split at h
    · exact ⟨_, _, rfl, h, fun t hr => XT.i2l hA hx rfl (hb hc hd) rfl hr⟩
    · cases h
  case l2i => 
    simp only [pst] at h
    split at h
    · exact ⟨_, _, rfl, h, fun t hr => XT.l2i hA hx rfl (hb hc hd) rfl hr⟩
    · cases h
  case i2b => 
    simp only [pst] at h
    split at h
    · exact ⟨_, _, rfl, h, fun t hr => XT.i2b hA hx rfl (hb hc hd) rfl hr⟩
    · cases h
  case i2c => 
    simp only [pst] at h
    split at h
    · exact ⟨_, _, rfl, h, fun t hr => XT.i2c hA hx rfl (hb hc hd) rfl hr⟩
    · cases h
  case i2s => 
    simp only [pst] at h
    split at h
    · exact ⟨_, _, rfl, h, fun t hr => XT.i2s hA hx rfl (hb hc hd) rfl hr⟩
    · cases h
  case lcmp => 
    simp only [pst] at h
    split at h
    · exact ⟨_, _, rfl, h, fun t hr => XT.lcmp hA hx rfl (hb hc hd) rfl hr⟩
    · cases h
  case pop => 
    simp only [pst] at h
    split at h
    · exact ⟨_, _, rfl, h, fun t hr => XT.pop hA hx rfl (hb hc hd) rfl rfl hr⟩
    · exact ⟨_, _, rfl, h, fun t hr => XT.pop hA hx rfl (hb hc hd) rfl rfl hr⟩
    · exact ⟨_, _, rfl, h, fun t hr => XT.pop hA hx rfl (hb hc hd) rfl rfl hr⟩
    · cases h
  case dup => 
    simp only [pst] at h
    split at h
    · exact ⟨_, _, rfl, h, fun t hr => XS.dup hA hx rfl (hb hc hd) rfl rfl hr⟩
    · exact ⟨_, _, rfl, h, fun t hr => XS.dup hA hx rfl (hb hc hd) rfl rfl hr⟩
    · exact ⟨_, _, rfl, h, fun t hr => XS.dup hA hx rfl (hb hc hd) rfl rfl hr⟩
    · cases h
  case dup_x1 => 
    simp only [pst] at h
    split at h
    · exact ⟨_, _, rfl, h, fun t hr => XT.dupX1 hA hx rfl (hb hc hd) rfl rfl rfl hr⟩
    · exact ⟨_, _, rfl, h, fun t hr => XT.dupX1 hA hx rfl (hb hc hd) rfl rfl rfl hr⟩
    · exact ⟨_, _, rfl, h, fun t hr => XT.dupX1 hA hx rfl (hb hc hd) rfl rfl rfl hr⟩
    · exact ⟨_, _, rfl, h, fun t hr => XT.dupX1 hA hx rfl (hb hc hd) rfl rfl rfl hr⟩
    · exact ⟨_, _, rfl, h, fun t hr => XT.dupX1 hA hx rfl (hb hc hd) rfl rfl rfl hr⟩
    · exact ⟨_, _, rfl, h, fun t hr => XT.dupX1 hA hx rfl (hb hc hd) rfl rfl rfl hr⟩
    · exact ⟨_, _, rfl, h, fun t hr => XT.dupX1 hA hx rfl (hb hc hd) rfl rfl rfl hr⟩
    · exact ⟨_, _, rfl, h, fun t hr => XT.dupX1 hA hx rfl (hb hc hd) rfl rfl rfl hr⟩
    · exact ⟨_, _, rfl, h, fun t hr => XT.dupX1 hA hx rfl (hb hc hd) rfl rfl rfl hr⟩
    · cases h
  case dup2 => 
    simp only [pst] at h
    split at h
    · exact ⟨_, _, rfl, h, fun t hr => XT.dup2L hA hx rfl (hb hc hd) rfl hr⟩
    · exact ⟨_, _, rfl, h, fun t hr => XT.dup2 hA hx rfl (hb hc hd) rfl rfl rfl hr⟩
    · exact ⟨_, _, rfl, h, fun t hr => XT.dup2 hA hx rfl (hb hc hd) rfl rfl rfl hr⟩
    · exact ⟨_, _, rfl, h, fun t hr => XT.dup2 hA hx rfl (hb hc hd) rfl rfl rfl hr⟩
    · exact ⟨_, _, rfl, h, fun t hr => XT.dup2 hA hx rfl (hb hc hd) rfl rfl rfl hr⟩
    · cases h
  case istore_n k => 
    simp only [pst] at h
    split at h
    · obtain ⟨l', h1, h2, h3⟩ := stK_some rfl h
      exact ⟨_, _, h2, h3, fun t hr => XS.istoreN hA hx rfl (hb hc hd) rfl h1 hr⟩
    · cases h
  case istore k => 
    simp only [pst] at h
    split at h
    · obtain ⟨l', h1, h2, h3⟩ := stK_some rfl h
      exact ⟨_, _, h2, h3, fun t hr => XS.istore hA hx rfl (hb hc hd) rfl h1 hr⟩
    · cases h
  case astore_n k => 
    simp only [pst] at h
    split at h
    · obtain ⟨l', h1, h2, h3⟩ := stK_some rfl h
      exact ⟨_, _, h2, h3, fun t hr => XS.astoreN hA hx rfl (hb hc hd) rfl rfl h1 hr⟩
    · obtain ⟨l', h1, h2, h3⟩ := stK_some rfl h
      exact ⟨_, _, h2, h3, fun t hr => XS.astoreN hA hx rfl (hb hc hd) rfl rfl h1 hr⟩
    · cases h
  case astore k => 
    simp only [pst] at h
    split at h
    · obtain ⟨l', h1, h2, h3⟩ := stK_some rfl h
      exact ⟨_, _, h2, h3, fun t hr => XS.astore hA hx rfl (hb hc hd) rfl rfl h1 hr⟩
    · obtain ⟨l', h1, h2, h3⟩ := stK_some rfl h
      exact ⟨_, _, h2, h3, fun t hr => XS.astore hA hx rfl (hb hc hd) rfl rfl h1 hr⟩
    · cases h
  case lstore_n k => 
    simp only [pst] at h
    split at h
    · obtain ⟨l', h1, h2, h3⟩ := stKL_some h
      exact ⟨_, _, h2, h3, fun t hr => XT.lstoreN hA hx rfl (hb hc hd) rfl h1 hr⟩
    · cases h
  case lstore k => 
    simp only [pst] at h
    split at h
    · obtain ⟨l', h1, h2, h3⟩ := stKL_some h
      exact ⟨_, _, h2, h3, fun t hr => XT.lstore hA hx rfl (hb hc hd) rfl h1 hr⟩
    · cases h
  case iinc k c => 
    obtain ⟨a, h1, h2⟩ := getK_some h
    split at h2
    · obtain ⟨l', h3, h4, h5⟩ := stK_some rfl h2
      exact ⟨_, _, h4, h5, fun t hr => XS.iinc hA hx rfl (hb hc hd) (by simpa using h1) (by rw [hv]; exact h3) hr⟩
    · cases h2
theorem prun_sound {tb : Tables} [Ours tb] {e : Env} {below : List Frame} {T : State} {m : MethodId} {c : Code} {code : ByteArray} (hA : At T m c below) (hx : tb.exec = Jvm.exec) (hc : c.code = code) : ∀ (seg : List PI) {pc pe : Nat} {ls ls' : List Slot} {st st' : List Value}, segOk code pc seg pe = true → prun seg ls st = some (ls', st') →
    ls'.length = ls.length ∧ ∀ t, Steps tb e below (T.setTop (mkF m pe ls'.toArray st')) t → Steps tb e below (T.setTop (mkF m pc ls.toArray st)) t
  | [], pc, pe, ls, ls', st, st', h1, h2 => by
    have e1 : pc = pe := by simpa [segOk] using h1
    have e2 : (ls, st) = (ls', st') := Option.some.inj h2
    cases e1; cases e2
    exact ⟨rfl, fun t hr => hr⟩
  | (q, i, nx, v) :: r, pc, pe, ls, ls', st, st', h1, h2 => by
    simp only [segOk, Bool.and_eq_true, decide_eq_true_eq] at h1
    obtain ⟨⟨⟨⟨rfl, hd⟩, hv⟩, hn⟩, hr⟩ := h1
    obtain ⟨l1, s1, e1, h3, k1⟩ := pst_sound (κ := fun ls' st' => prun r ls' st') hA hx hc hd hv hn h2
    obtain ⟨e2, k2⟩ := prun_sound hA hx hc r hr h3
    exact ⟨e2.trans e1, fun t ht => k1 _ (k2 _ ht)⟩

abbrev HP := Heap × (Addr → Prop)
abbrev Dyn := Program × Env × State × MethodId × Array Value × List Frame × Method × Code × State × HP
def GI (Z : State) (EL : List (String × Nat)) (vm : Vm) (H : HP) : Prop :=
  Ext Z.heap H.1 ∧ (∀ y, H.2 y → Z.heap.size ≤ y ∧ y < H.1.size) ∧ CHv Z EL vm H.1 ∧ ∀ y, Bk Z EL vm H.1 y → ¬ H.2 y
def Kp (H H' : HP) (ws : List Addr) : Prop := Keep H.1 H'.1 ws ∧ ∀ x, H.2 x → H'.2 x
def Wk (l : Launch) (Z : State) (a0 : Array Value) (EL : List (String × Nat)) (own : String) (code : ByteArray) (ml : Nat) (nm : String) (rt : Option FieldType) (R : Room) (D : Dyn) (pc : Nat) (ls : List Slot) (st : List Value) (H : HP) (k n : Nat) : Prop :=
  D.1.tables.exec = Jvm.exec ∧ D.2.2.1.vm.findClass own = some D.2.2.2.1.cls ∧ D.2.2.2.2.2.2.2.1.code = code ∧ D.2.2.2.2.2.2.2.1.maxLocals = ml ∧ D.2.2.2.2.2.2.1.name = nm ∧ D.2.2.2.2.2.2.1.sig.returnType = rt ∧ D.2.2.2.2.2.2.1.locks = false ∧ EW Z a0 EL ∧ (∀ a ∈ Bundle.stringAtoms, a.before a0 Z = true) ∧ ls.length = ml ∧
  ∃ T L vm0 k0, Stand D.1 l D.2.1 R (D.2.2.1.setVm vm0) D.2.2.2.1 D.2.2.2.2.1 D.2.2.2.2.2.1 D.2.2.2.2.2.2.1 D.2.2.2.2.2.2.2.1 T L k n ∧ T.heap = H.1 ∧ D.2.2.1.Since vm0 k0 ∧ k0 ≤ H.1.size ∧ Z.Warmed39 vm0 ∧ GI Z EL vm0 H ∧ Fr Z.heap.size L ∧
    ((∀ x, D.2.2.2.2.2.2.2.2.2.2 x → H.2 x) ∧ D.2.2.2.2.2.2.2.2.2.1.size ≤ H.1.size) ∧ Steps D.1.tables D.2.1 D.2.2.2.2.2.1 D.2.2.2.2.2.2.2.2.1 (T.setTop (mkF D.2.2.2.1 pc ls.toArray st))
/-- the method has returned v -/
def Rt (Z : State) (EL : List (String × Nat)) (D : Dyn) (v : Option Value) (H : HP) (k n : Nat) : Prop :=
  ∃ s₂ L, Steps D.1.tables D.2.1 D.2.2.2.2.2.1 D.2.2.2.2.2.2.2.2.1 s₂ ∧ s₂.status = .running ∧ Ended s₂ D.2.2.2.2.2.1 (.returned v) ∧ s₂.heap = H.1 ∧ ((∀ x, D.2.2.2.2.2.2.2.2.2.2 x → H.2 x) ∧ D.2.2.2.2.2.2.2.2.2.1.size ≤ H.1.size) ∧ GI Z EL s₂.vm H ∧ Fr Z.heap.size L ∧ ReturnedEndW D.2.2.1 (.returned v) s₂ L k n
/-- a contract: y, called with as in the heap H, comes back with Q -/
def Ct (l : Launch) (Z : State) (EL : List (String × Nat)) (y : MethodName) (bytes : ByteArray) (ml : Nat) (ret : Option FieldType) (rm : Room) (ws : List Jvm.Cond) (as : List Value) (H : HP) (Q : Option Value → HP → Prop) : Prop :=
  MetFree l y (head1 (Jvm.Cond.code y bytes ml ret :: ws) rm) (fun a U => a = as.toArray ∧ Z.Warmed39 U.vm ∧ U.heap = H.1 ∧ GI Z EL U.vm H) (fun _ _ _ _ _ => True)
    (fun _ U o U' => ∃ v L O, o = .returned v ∧ Q v (U'.heap, O) ∧ ((∀ x, H.2 x → O x) ∧ H.1.size ≤ U'.heap.size) ∧ GI Z EL U'.vm (U'.heap, O) ∧ Fr Z.heap.size L ∧ ReturnedEndW U o U' L rm.cells rm.slots)
def locsOf : List Value → Nat → List Slot
  | [], n => List.replicate n .unset
  | v :: r, n => match v with
    | .long x => .val (.long x) :: .second :: locsOf r (n - 2)
    | .double x => .val (.double x) :: .second :: locsOf r (n - 2)
    | .int x => .val (.int x) :: locsOf r (n - 1)
    | .float x => .val (.float x) :: locsOf r (n - 1)
    | .null => .val .null :: locsOf r (n - 1)
    | .ref x => .val (.ref x) :: locsOf r (n - 1)
    | .retAddr x => .val (.retAddr x) :: locsOf r (n - 1)
def slotsOf : List Value → List Slot
  | [] => []
  | v :: r => if v.category = 2 then .val v :: .second :: slotsOf r else .val v :: slotsOf r
theorem locsOf_eq : ∀ (as : List Value) (n : Nat), locsOf as n = slotsOf as ++ List.replicate (n - (slotsOf as).length) .unset
  | [], n => by simp [locsOf, slotsOf]
  | v :: r, n => by
    have e1 : n - 1 - (slotsOf r).length = n - ((slotsOf r).length + 1) := by omega
    have e2 : n - 2 - (slotsOf r).length = n - ((slotsOf r).length + 1 + 1) := by omega
    cases v <;> simp [locsOf, slotsOf, Value.category, locsOf_eq r, e1, e2]
theorem fold_slots : ∀ (as : List Value) (acc : Array Slot), as.foldl (fun acc v => if v.category = 2 then (acc.push (.val v)).push .second else acc.push (.val v)) acc = acc ++ (slotsOf as).toArray
  | [], acc => by simp [slotsOf]
  | v :: r, acc => by
    rw [List.foldl_cons, fold_slots r]
    by_cases h : v.category = 2
    · simp only [h, if_true, slotsOf]; apply Array.ext'; simp
    · simp only [h, if_false, slotsOf]; apply Array.ext'; simp
theorem entry_locs (m : MethodId) (as : List Value) (ml : Nat) : entryFrame m as.toArray ml = mkF m 0 (locsOf as ml).toArray [] := by
  have q : argsToLocals as.toArray ml = (locsOf as ml).toArray := by
    unfold argsToLocals
    simp only [List.foldl_toArray, fold_slots]
    rw [locsOf_eq]
    apply Array.ext'; simp
  simp only [entryFrame, q]
theorem retV {p : Program} {l : Launch} {e : Env} {R : Room} {s : State} {m : MethodId} {args : Array Value} {below : List Frame} {meth : Method} {c : Code} {T : State} {locs : List Loc} {cells slots : Nat} (X : Stand p l e R s m args below meth c T locs cells slots) (hx : p.tables.exec = Jvm.exec) {pc : Nat} {Ls : Array Slot} {st : List Value} (hret : meth.sig.returnType = none) (hd : decode c.code pc = .ok (.return_, 1)) {fs : List Frame}
    (hl : ∀ (f : JFrame) (acts : List Action), f.method = m → f.locked = none → f.entered = [] → (doReturn e (T.setTop f) acts none).1 = T.setFrames fs) : Steps p.tables e below (T.setTop (mkF m pc Ls st)) (T.setFrames fs) := by
  have hm' : T.vm.method? m = some meth := X.method'
  show Steps p.tables e below (T.setTop { method := m, pc := pc, locals := Ls, stack := st, locked := none }) _
  jvm_step X.here [X.here.top, hx, hd, hm', hret]
  first | (intro acts; rw [hl _ acts rfl rfl rfl]) | rw [hl _ _ rfl rfl rfl]
  exact Steps.refl _
section Laws
variable {l : Launch} {Z : State} {a0 : Array Value} {EL : List (String × Nat)} {own : String} {code : ByteArray} {ml : Nat} {nm : String} {rt : Option FieldType} {R : Room} {D : Dyn} {pc : Nat} {ls : List Slot} {st : List Value} {H H' : HP} {k n : Nat} {vm vm0 : Vm} {ws ws' : List Addr} {a b : Addr} {C nn d : String} {v w : Value} {sl : Nat} {ty : FieldType} {vs : List Value}
theorem Kp.refl (H : HP) : Kp H H [] := ⟨Keep.refl _ _, fun _ h => h⟩
theorem Kp.size (K : Kp H H' ws) : H.1.size ≤ H'.1.size := K.1.1
theorem Kp.trans {H2 : HP} (K : Kp H H' ws) (K' : Kp H' H2 ws') (q : ∀ x ∈ ws', x ∈ ws ∨ H.1.size ≤ x) : Kp H H2 ws := ⟨K.1.trans K'.1 q, fun x h => K'.2 x (K.2 x h)⟩
theorem Kp.tr {H2 : HP} (K : Kp H H' []) (K' : Kp H' H2 []) : Kp H H2 [] := K.trans K' (fun x h => nomatch h)
theorem Kp.wide (K : Kp H H' ws) (q : ∀ x ∈ ws, x ∈ ws' ∨ H.1.size ≤ x) : Kp H H' ws' := Kp.trans (H' := H) ⟨Keep.refl _ _, fun _ h => h⟩ K q
/-- all that was written is new since H: so H stands whole -/
theorem Kp.new (K : Kp H H' ws) (q : ∀ x ∈ ws, H.1.size ≤ x) : Kp H H' [] := K.wide fun x h => Or.inr (q x h)
end Laws
end Jvm.Pilot.@@N@@
namespace Jvm.RoadKit
open Jvm.Pilot.@@N@@
theorem Fld.ky {Z : State} {H H' : HP} {ws : List Addr} {a : Addr} {C nn d : String} {v : Value} (F : Fld Z H.1 a C nn d v) (K : Jvm.Pilot.@@N@@.Kp H H' ws) (q : a ∉ ws := by exact List.not_mem_nil) : Fld Z H'.1 a C nn d v := F.keep K.1 q
theorem Exa.ky {Z : State} {H H' : HP} {ws : List Addr} {a : Addr} {C : String} (F : Exa Z H.1 a C) (K : Jvm.Pilot.@@N@@.Kp H H' ws) : Exa Z H'.1 a C := F.keep K.1
end Jvm.RoadKit
namespace Jvm.Pilot.@@N@@
open Jvm Jvm.ClassFile Sem Op Lib Jvm.Free Jvm.Stand Jvm.LawKit Jvm.RoadKit Bundle Jvm.Pilot.@@N@@.Jvm.D
section Laws
variable {l : Launch} {Z : State} {a0 : Array Value} {EL : List (String × Nat)} {own : String} {code : ByteArray} {ml : Nat} {nm : String} {rt : Option FieldType} {R : Room} {D : Dyn} {pc : Nat} {ls : List Slot} {st : List Value} {H H' : HP} {k n : Nat} {vm vm0 : Vm} {ws ws' : List Addr} {a b : Addr} {C nn d : String} {v w : Value} {sl : Nat} {ty : FieldType} {vs : List Value}
def Ar (Z : State) (H : HP) (a : Addr) (ty : FieldType) (vs : List Value) : Prop := ∃ c : Cell, Arr Z H.1 a c ty ∧ c.slots = vs.toArray ∧ vs.length < 2 ^ 31 ∧ ∀ v ∈ vs, fits ty v = true
theorem Ar.ky (F : Ar Z H a ty vs) (K : Kp H H' ws) (q : a ∉ ws := by exact List.not_mem_nil) : Ar Z H' a ty vs := by
  obtain ⟨c, A, r⟩ := F; exact ⟨c, ⟨K.1.2.1 a c A.1 q, A.2⟩, r⟩
theorem Ar.lt (F : Ar Z H a ty vs) : a < H.1.size := by obtain ⟨c, A, -⟩ := F; exact A.lt
theorem Ar.len (F : Ar Z H a ty vs) : vs.length < 2 ^ 31 := by obtain ⟨c, A, -, h, -⟩ := F; exact h
theorem Ar.fits (F : Ar Z H a ty vs) : ∀ v ∈ vs, fits ty v = true := by obtain ⟨c, A, -, -, h⟩ := F; exact h
theorem clamp_nat {i : Nat} (h : i < 2 ^ 31) : i.toInt32.toNatClampNeg = i := by
  have h1 : (i.toInt32).toInt = i := by simp [Nat.toInt32, Int32.toInt_ofNat_of_lt h]
  simp [Int32.toNatClampNeg, h1]
theorem nonneg_nat {i : Nat} (h : i < 2 ^ 31) : ¬ i.toInt32 < 0 := by
  have h1 : (i.toInt32).toInt = i := by simp [Nat.toInt32, Int32.toInt_ofNat_of_lt h]
  rw [Int32.lt_iff_toInt_lt, h1]; simp
theorem Ar.arv (F : Ar Z H a ty vs) (dv : Value) : ∃ kc, Arv Z H.1 a kc ty vs.length.toInt32 vs dv := by
  obtain ⟨c, A, e, h, g⟩ := F
  have hs : c.slots.size = vs.length := by rw [e]; simp
  refine ⟨c.cls, c, A, rfl, by rw [hs, clamp_nat h], nonneg_nat h, fun k hk => ?_, fun i hi => ?_⟩
  · rw [hs] at hk; rw [e]; simp [hk]
  · rw [hs] at hi
    have : vs.getD i dv = vs[i] := by simp [hi]
    rw [this]; exact g _ (List.getElem_mem hi)
theorem Ar.of_arv {kc : ClassId} {z : Int32} {dv : Value} (F : Arv Z H.1 a kc ty z vs dv) (hl : z.toNatClampNeg = vs.length) : Ar Z H a ty vs := by
  obtain ⟨c, A, -, S, M, Hs, G⟩ := F
  have hs : c.slots.size = vs.length := by rw [S, hl]
  have hb : vs.length < 2 ^ 31 := by rw [← hl]; exact (back32 M).2
  refine ⟨c, A, ?_, hb, fun v hv => ?_⟩
  · apply Array.ext_getElem?; intro i
    by_cases hi : i < c.slots.size
    · rw [Hs i hi]; have hi' := hi; rw [hs] at hi'; simp [hi']
    · rw [Array.getElem?_eq_none (Nat.le_of_not_lt hi)]; rw [hs] at hi; simp; omega
  · obtain ⟨i, hi, rfl⟩ := List.getElem_of_mem hv
    have := G i (by rw [hs]; exact hi)
    rw [show vs.getD i dv = vs[i] by simp [hi]] at this
    exact this
theorem GI.wr (G : GI Z EL vm H) {h' : Heap} (W : Wr H.1 h' a sl v) (o : H.2 a) : GI Z EL vm (h', H.2) := by
  obtain ⟨g1, g2, g3, g4⟩ := G
  have S : Safe Z EL vm H.1 a := fun B => g4 a B o
  refine ⟨?_, fun y hy => ?_, g3.wr W S, fun y B => g4 y ((g3.wrStep W S).2 y B)⟩
  · obtain ⟨cell, h1, h2, h3, e⟩ := W
    refine ⟨by rw [show (h', H.2).1 = h' from rfl, e]; simpa using g1.1, fun x cx q => ?_⟩
    have hx := (Array.getElem?_eq_some_iff.mp q).1
    have hne : a ≠ x := fun e1 => by subst e1; have := (g2 a o).1; omega
    show h'[x]? = _
    rw [e, Array.getElem?_setIfInBounds_ne hne]; exact g1.2 x cx q
  · have := g2 y hy; exact ⟨this.1, by rw [show (h', H.2).1 = h' from rfl, W.size]; exact this.2⟩
theorem GI.ext (G : GI Z EL vm H) {h' : Heap} (E : Ext H.1 h') (hlt : H.1.size < h'.size) : GI Z EL vm (h', fun y => H.2 y ∨ y = H.1.size) := by
  obtain ⟨g1, g2, g3, g4⟩ := G
  refine ⟨⟨Nat.le_trans g1.1 E.1, fun x cx q => E.2 x cx (g1.2 x cx q)⟩, fun y hy => ?_, g3.ext E, fun y B hy => ?_⟩
  · rcases hy with hy | rfl
    · have := g2 y hy; exact ⟨this.1, Nat.lt_of_lt_of_le this.2 E.1⟩
    · exact ⟨g1.1, hlt⟩
  · have B' := (g3.step fun _ _ _ q => E.2 _ _ q).2 y B
    rcases hy with hy | rfl
    · exact g4 y B' hy
    · obtain ⟨cell, q⟩ := B'.there
      exact absurd (Array.getElem?_eq_some_iff.mp q).1 (Nat.lt_irrefl _)
theorem GI.keep (G : GI Z EL vm H) {h' : Heap} (K : Keep H.1 h' ws) (o : ∀ x ∈ ws, H.2 x) : GI Z EL vm (h', H.2) := by
  obtain ⟨g1, g2, g3, g4⟩ := G
  have S : ∀ x ∈ ws, Safe Z EL vm H.1 x := fun x hx B => g4 x B (o x hx)
  refine ⟨⟨Nat.le_trans g1.1 K.1, fun x cx q => K.2.1 x cx (g1.2 x cx q) fun hx => ?_⟩, fun y hy => ?_, g3.keep K S, fun y B => g4 y ((g3.keepStep K S).2 y B)⟩
  · have := (g2 x (o x hx)).1; have := (Array.getElem?_eq_some_iff.mp q).1; omega
  · have := g2 y hy; exact ⟨this.1, Nat.lt_of_lt_of_le this.2 K.1⟩
theorem GI.go {vm1 : Vm} {h' : Heap} (G : GI Z EL vm H) (A : CHr Z EL vm H.1 vm1 h') (E : Ext H.1 h') : GI Z EL vm1 (h', H.2) := by
  obtain ⟨g1, g2, g3, g4⟩ := G
  refine ⟨⟨Nat.le_trans g1.1 E.1, fun x cx q => E.2 x cx (g1.2 x cx q)⟩, fun y hy => ?_, A.1, fun y B hy => ?_⟩
  · have := g2 y hy; exact ⟨this.1, Nat.lt_of_lt_of_le this.2 E.1⟩
  · rcases A.2.2 y B with q | q
    · exact g4 y q hy
    · exact absurd (g2 y hy).2 (Nat.not_lt.mpr q)
theorem ext_refl (h : Heap) : Ext h h := ⟨Nat.le_refl _, fun _ _ q => q⟩
theorem GI.at {p : Program} {e : Env} {s : State} {m : MethodId} {args : Array Value} {below : List Frame} {meth : Method} {c : Code} {T : State} {L : List Loc} (G : GI Z EL vm0 H) (X : Stand p l e R (s.setVm vm0) m args below meth c T L k n) (hZ : Z.Warmed39 vm0) (hEL : EW Z a0 EL) : GI Z EL T.vm H :=
  G.go (CHv.at X hZ hEL G.2.2.1) (ext_refl _)
theorem notFace_cls {args : Array Value} {s : State} {C : String} {y y2 : MethodName} (h : (Jvm.Cond.selects C y2 y2).before args s = true) (e : y2.cls = y.cls) : NotFace s y := fun r0 h0 => by
  obtain ⟨c2, r2, m2, -, -, q3, -, kP, hkP, hkPi⟩ := Cond.selects_spec h
  have a := findClass_of_methodNamed h0
  have b := findClass_of_methodNamed q3
  rw [e, a] at b
  exact ⟨kP, by rw [Option.some.inj b]; exact hkP, hkPi⟩
theorem decl_of {y : MethodName} {bytes : ByteArray} {cml : Nat} {ret : Option FieldType} (w : (Jvm.Cond.instanceMethod y).before a0 Z = true) (wc : (Jvm.Cond.code y bytes cml ret).before a0 Z = true) : (Jvm.Cond.declares y).before a0 Z = true := by
  obtain ⟨m, meth, h1, h2, h3, h4⟩ := Cond.instanceMethod_spec w
  obtain ⟨m2, c, q1, -, -, -, -, -, -, q8⟩ := Cond.code_spec h1 wc
  cases h2.symm.trans q1
  simp [Cond.before, Cond.holds, Cond.value, h1, h2, h3, q8]
theorem same_of {C : String} {y y2 : MethodName} (w : (Jvm.Cond.declares y).before a0 Z = true) (h : (Jvm.Cond.selects C y2 y2).before a0 Z = true) (e : y2.cls = y.cls) (hy : y.cls ≠ "java/lang/invoke/MethodHandle" ∧ y.cls ≠ "java/lang/invoke/VarHandle") : (Jvm.Cond.sameMethod y.cls y.cls y.name y.desc).before a0 Z = true := by
  obtain ⟨m, meth, h1, h2, h3, h4⟩ := Cond.declares_spec w
  obtain ⟨c2, r2, m2, -, -, q3, -, kP, hkP, hkPi⟩ := Cond.selects_spec h
  have f1 := findClass_of_methodNamed h1
  have f2 := findClass_of_methodNamed q3
  rw [e, f1] at f2
  have hm := Option.some.inj f2
  simp only [Cond.before, Cond.holds, Cond.value, f1, State.methodFound?_of_named h1 hy]
  rw [show ({ cls := y.cls, name := y.name, desc := y.desc } : MethodName) = y from rfl, h1]
  simp [hm, hkP, hkPi]
theorem range_take {vs : List Value} {i q : Nat} {d : Value} (h : i + q ≤ vs.length) : ((List.range q).map fun t => vs.getD (i + t) d) = (vs.drop i).take q := by
  apply List.ext_getElem
  · simp; omega
  · intro t h1 h2
    simp at h1
    simp [List.getD_eq_getElem?_getD, show i + t < vs.length by omega]
theorem Wk.run (A : Wk l Z a0 EL own code ml nm rt R D pc ls st H k n) (seg : List PI) {pe : Nat} (hok : segOk code pc seg pe = true) {ls' : List Slot} {st' : List Value} (hr : prun seg ls st = some (ls', st')) :
    Wk l Z a0 EL own code ml nm rt R D pe ls' st' H k n := by
  obtain ⟨p, e, s, m, args, below, meth, c, s0, H0⟩ := D
  obtain ⟨hx, hown, hc, hml, hnm, hrt, hlk, hEL, hSA, hls, T, L, vm0, k0, X, eT, hS, hk, hZ, hG, hF, hMo, hst⟩ := A
  dsimp only at hx hown hc hml hnm hrt hlk X hS hMo hst
  have hown' : (s.setVm vm0).vm.findClass own = some m.cls := (hS.1.alike.findClass _ _).trans hown
  have hZ' : Z.Warmed39 (s.setVm vm0).vm := hZ
  obtain ⟨h1, h2⟩ := prun_sound (e := e) X.here hx hc seg hok hr
  exact ⟨hx, hown, hc, hml, hnm, hrt, hlk, hEL, hSA, (h1.trans hls), T, L, vm0, k0, X, eT, hS, hk, hZ, hG, hF, hMo, hst.trans (h2 _ (Steps.refl _))⟩
theorem Wk.idiv {x y : Int32} (A : Wk l Z a0 EL own code ml nm rt R D pc ls (.int y :: .int x :: st) H k n) (hd : decode code pc = .ok (.idiv, 1)) (hy : y ≠ 0) :
    Wk l Z a0 EL own code ml nm rt R D (pc + 1) ls (.int (x / y) :: st) H k n := by
  obtain ⟨p, e, s, m, args, below, meth, c, s0, H0⟩ := D
  obtain ⟨hx, hown, hc, hml, hnm, hrt, hlk, hEL, hSA, hls, T, L, vm0, k0, X, eT, hS, hk, hZ, hG, hF, hMo, hst⟩ := A
  dsimp only at hx hown hc hml hnm hrt hlk X hS hMo hst
  have hown' : (s.setVm vm0).vm.findClass own = some m.cls := (hS.1.alike.findClass _ _).trans hown
  have hZ' : Z.Warmed39 (s.setVm vm0).vm := hZ
  exact ⟨hx, hown, hc, hml, hnm, hrt, hlk, hEL, hSA, hls, T, L, vm0, k0, X, eT, hS, hk, hZ, hG, hF, hMo, hst.trans (XS.idiv X.here hx rfl (hb hc hd) rfl hy (Steps.refl _))⟩
theorem Wk.irem {x y : Int32} (A : Wk l Z a0 EL own code ml nm rt R D pc ls (.int y :: .int x :: st) H k n) (hd : decode code pc = .ok (.irem, 1)) (hy : y ≠ 0) :
    Wk l Z a0 EL own code ml nm rt R D (pc + 1) ls (.int (x % y) :: st) H k n := by
  obtain ⟨p, e, s, m, args, below, meth, c, s0, H0⟩ := D
  obtain ⟨hx, hown, hc, hml, hnm, hrt, hlk, hEL, hSA, hls, T, L, vm0, k0, X, eT, hS, hk, hZ, hG, hF, hMo, hst⟩ := A
  dsimp only at hx hown hc hml hnm hrt hlk X hS hMo hst
  have hown' : (s.setVm vm0).vm.findClass own = some m.cls := (hS.1.alike.findClass _ _).trans hown
  have hZ' : Z.Warmed39 (s.setVm vm0).vm := hZ
  exact ⟨hx, hown, hc, hml, hnm, hrt, hlk, hEL, hSA, hls, T, L, vm0, k0, X, eT, hS, hk, hZ, hG, hF, hMo, hst.trans (iremM X hx rfl (hb hc hd) rfl hy (Steps.refl _))⟩
theorem Wk.ldiv {x y : Int64} (A : Wk l Z a0 EL own code ml nm rt R D pc ls (.long y :: .long x :: st) H k n) (hd : decode code pc = .ok (.ldiv, 1)) (hy : y ≠ 0) :
    Wk l Z a0 EL own code ml nm rt R D (pc + 1) ls (.long (x / y) :: st) H k n := by
  obtain ⟨p, e, s, m, args, below, meth, c, s0, H0⟩ := D
  obtain ⟨hx, hown, hc, hml, hnm, hrt, hlk, hEL, hSA, hls, T, L, vm0, k0, X, eT, hS, hk, hZ, hG, hF, hMo, hst⟩ := A
  dsimp only at hx hown hc hml hnm hrt hlk X hS hMo hst
  have hown' : (s.setVm vm0).vm.findClass own = some m.cls := (hS.1.alike.findClass _ _).trans hown
  have hZ' : Z.Warmed39 (s.setVm vm0).vm := hZ
  exact ⟨hx, hown, hc, hml, hnm, hrt, hlk, hEL, hSA, hls, T, L, vm0, k0, X, eT, hS, hk, hZ, hG, hF, hMo, hst.trans (XT.ldiv X.here hx rfl (hb hc hd) rfl hy (Steps.refl _))⟩
theorem Wk.lrem {x y : Int64} (A : Wk l Z a0 EL own code ml nm rt R D pc ls (.long y :: .long x :: st) H k n) (hd : decode code pc = .ok (.lrem, 1)) (hy : y ≠ 0) :
    Wk l Z a0 EL own code ml nm rt R D (pc + 1) ls (.long (x % y) :: st) H k n := by
  obtain ⟨p, e, s, m, args, below, meth, c, s0, H0⟩ := D
  obtain ⟨hx, hown, hc, hml, hnm, hrt, hlk, hEL, hSA, hls, T, L, vm0, k0, X, eT, hS, hk, hZ, hG, hF, hMo, hst⟩ := A
  dsimp only at hx hown hc hml hnm hrt hlk X hS hMo hst
  have hown' : (s.setVm vm0).vm.findClass own = some m.cls := (hS.1.alike.findClass _ _).trans hown
  have hZ' : Z.Warmed39 (s.setVm vm0).vm := hZ
  exact ⟨hx, hown, hc, hml, hnm, hrt, hlk, hEL, hSA, hls, T, L, vm0, k0, X, eT, hS, hk, hZ, hG, hF, hMo, hst.trans (XT.lrem X.here hx rfl (hb hc hd) rfl hy (by rw [lrem_mod]; exact Steps.refl _))⟩
/-- the condition of a comparison -/
def cP : ClassFile.Cond → Int32 → Int32 → Prop
  | .eq, x, y => x = y
  | .ne, x, y => ¬ x = y
  | .lt, x, y => x < y
  | .ge, x, y => ¬ x < y
  | .gt, x, y => y < x
  | .le, x, y => ¬ y < x
theorem cP_t {cd : ClassFile.Cond} {x y : Int32} (h : cP cd x y) : if_icmp.holds cd x y = true := by
  cases cd
  · exact (teq h).1
  · exact (feq h).2
  · exact (tlt h).1
  · exact (flt h).2.1
  · exact (tlt h).2.2.1
  · exact (flt h).2.2.2
theorem cP_f {cd : ClassFile.Cond} {x y : Int32} (h : ¬ cP cd x y) : if_icmp.holds cd x y = false := by
  cases cd
  · exact (feq h).1
  · exact (teq (Decidable.not_not.mp h)).2
  · exact (flt h).1
  · exact (tlt (Decidable.not_not.mp h)).2.1
  · exact (flt h).2.2.1
  · exact (tlt (Decidable.not_not.mp h)).2.2.2
theorem Wk.ifT {cd : ClassFile.Cond} {x : Int32} {o : Int} (A : Wk l Z a0 EL own code ml nm rt R D pc ls (.int x :: st) H k n) (hd : decode code pc = .ok (.ifCond cd o, 3)) (h : cP cd x 0) {pe : Nat} (hp : 0 ≤ (pc : Int) + o ∧ ((pc : Int) + o).toNat = pe) :
    Wk l Z a0 EL own code ml nm rt R D pe ls st H k n := by
  obtain ⟨p, e, s, m, args, below, meth, c, s0, H0⟩ := D
  obtain ⟨hx, hown, hc, hml, hnm, hrt, hlk, hEL, hSA, hls, T, L, vm0, k0, X, eT, hS, hk, hZ, hG, hF, hMo, hst⟩ := A
  dsimp only at hx hown hc hml hnm hrt hlk X hS hMo hst
  have hown' : (s.setVm vm0).vm.findClass own = some m.cls := (hS.1.alike.findClass _ _).trans hown
  have hZ' : Z.Warmed39 (s.setVm vm0).vm := hZ
  exact ⟨hx, hown, hc, hml, hnm, hrt, hlk, hEL, hSA, hls, T, L, vm0, k0, X, eT, hS, hk, hZ, hG, hF, hMo, hst.trans (XS.ifYes X.here hx rfl rfl (hb hc hd) rfl (by rw [if0]; exact cP_t h) hp.1 hp.2 (Steps.refl _))⟩
theorem Wk.ifF {cd : ClassFile.Cond} {x : Int32} {o : Int} (A : Wk l Z a0 EL own code ml nm rt R D pc ls (.int x :: st) H k n) (hd : decode code pc = .ok (.ifCond cd o, 3)) (h : ¬ cP cd x 0) :
    Wk l Z a0 EL own code ml nm rt R D (pc + 3) ls st H k n := by
  obtain ⟨p, e, s, m, args, below, meth, c, s0, H0⟩ := D
  obtain ⟨hx, hown, hc, hml, hnm, hrt, hlk, hEL, hSA, hls, T, L, vm0, k0, X, eT, hS, hk, hZ, hG, hF, hMo, hst⟩ := A
  dsimp only at hx hown hc hml hnm hrt hlk X hS hMo hst
  have hown' : (s.setVm vm0).vm.findClass own = some m.cls := (hS.1.alike.findClass _ _).trans hown
  have hZ' : Z.Warmed39 (s.setVm vm0).vm := hZ
  exact ⟨hx, hown, hc, hml, hnm, hrt, hlk, hEL, hSA, hls, T, L, vm0, k0, X, eT, hS, hk, hZ, hG, hF, hMo, hst.trans (XS.ifNo X.here hx rfl (hb hc hd) rfl (by rw [if0]; exact cP_f h) (Steps.refl _))⟩
theorem Wk.icT {cd : ClassFile.Cond} {x y : Int32} {o : Int} (A : Wk l Z a0 EL own code ml nm rt R D pc ls (.int y :: .int x :: st) H k n) (hd : decode code pc = .ok (.if_icmp cd o, 3)) (h : cP cd x y) {pe : Nat} (hp : 0 ≤ (pc : Int) + o ∧ ((pc : Int) + o).toNat = pe) :
    Wk l Z a0 EL own code ml nm rt R D pe ls st H k n := by
  obtain ⟨p, e, s, m, args, below, meth, c, s0, H0⟩ := D
  obtain ⟨hx, hown, hc, hml, hnm, hrt, hlk, hEL, hSA, hls, T, L, vm0, k0, X, eT, hS, hk, hZ, hG, hF, hMo, hst⟩ := A
  dsimp only at hx hown hc hml hnm hrt hlk X hS hMo hst
  have hown' : (s.setVm vm0).vm.findClass own = some m.cls := (hS.1.alike.findClass _ _).trans hown
  have hZ' : Z.Warmed39 (s.setVm vm0).vm := hZ
  exact ⟨hx, hown, hc, hml, hnm, hrt, hlk, hEL, hSA, hls, T, L, vm0, k0, X, eT, hS, hk, hZ, hG, hF, hMo, hst.trans (XS.icmpYes X.here hx rfl rfl (hb hc hd) rfl (cP_t h) hp.1 hp.2 (Steps.refl _))⟩
theorem Wk.icF {cd : ClassFile.Cond} {x y : Int32} {o : Int} (A : Wk l Z a0 EL own code ml nm rt R D pc ls (.int y :: .int x :: st) H k n) (hd : decode code pc = .ok (.if_icmp cd o, 3)) (h : ¬ cP cd x y) :
    Wk l Z a0 EL own code ml nm rt R D (pc + 3) ls st H k n := by
  obtain ⟨p, e, s, m, args, below, meth, c, s0, H0⟩ := D
  obtain ⟨hx, hown, hc, hml, hnm, hrt, hlk, hEL, hSA, hls, T, L, vm0, k0, X, eT, hS, hk, hZ, hG, hF, hMo, hst⟩ := A
  dsimp only at hx hown hc hml hnm hrt hlk X hS hMo hst
  have hown' : (s.setVm vm0).vm.findClass own = some m.cls := (hS.1.alike.findClass _ _).trans hown
  have hZ' : Z.Warmed39 (s.setVm vm0).vm := hZ
  exact ⟨hx, hown, hc, hml, hnm, hrt, hlk, hEL, hSA, hls, T, L, vm0, k0, X, eT, hS, hk, hZ, hG, hF, hMo, hst.trans (XS.icmpNo X.here hx rfl (hb hc hd) rfl (cP_f h) (Steps.refl _))⟩
theorem Wk.nullT {o : Int} (A : Wk l Z a0 EL own code ml nm rt R D pc ls (.null :: st) H k n) (hd : decode code pc = .ok (.ifnull o, 3)) {pe : Nat} (hp : 0 ≤ (pc : Int) + o ∧ ((pc : Int) + o).toNat = pe) :
    Wk l Z a0 EL own code ml nm rt R D pe ls st H k n := by
  obtain ⟨p, e, s, m, args, below, meth, c, s0, H0⟩ := D
  obtain ⟨hx, hown, hc, hml, hnm, hrt, hlk, hEL, hSA, hls, T, L, vm0, k0, X, eT, hS, hk, hZ, hG, hF, hMo, hst⟩ := A
  dsimp only at hx hown hc hml hnm hrt hlk X hS hMo hst
  have hown' : (s.setVm vm0).vm.findClass own = some m.cls := (hS.1.alike.findClass _ _).trans hown
  have hZ' : Z.Warmed39 (s.setVm vm0).vm := hZ
  exact ⟨hx, hown, hc, hml, hnm, hrt, hlk, hEL, hSA, hls, T, L, vm0, k0, X, eT, hS, hk, hZ, hG, hF, hMo, hst.trans (XS.ifnullYes X.here hx rfl rfl (hb hc hd) rfl hp.1 hp.2 (Steps.refl _))⟩
theorem Wk.nullF {o : Int} (A : Wk l Z a0 EL own code ml nm rt R D pc ls (.ref a :: st) H k n) (hd : decode code pc = .ok (.ifnull o, 3)) :
    Wk l Z a0 EL own code ml nm rt R D (pc + 3) ls st H k n := by
  obtain ⟨p, e, s, m, args, below, meth, c, s0, H0⟩ := D
  obtain ⟨hx, hown, hc, hml, hnm, hrt, hlk, hEL, hSA, hls, T, L, vm0, k0, X, eT, hS, hk, hZ, hG, hF, hMo, hst⟩ := A
  dsimp only at hx hown hc hml hnm hrt hlk X hS hMo hst
  have hown' : (s.setVm vm0).vm.findClass own = some m.cls := (hS.1.alike.findClass _ _).trans hown
  have hZ' : Z.Warmed39 (s.setVm vm0).vm := hZ
  exact ⟨hx, hown, hc, hml, hnm, hrt, hlk, hEL, hSA, hls, T, L, vm0, k0, X, eT, hS, hk, hZ, hG, hF, hMo, hst.trans (XS.ifnullNo X.here hx rfl (hb hc hd) rfl (Steps.refl _))⟩
theorem Wk.nnullT {o : Int} (A : Wk l Z a0 EL own code ml nm rt R D pc ls (.ref a :: st) H k n) (hd : decode code pc = .ok (.ifnonnull o, 3)) {pe : Nat} (hp : 0 ≤ (pc : Int) + o ∧ ((pc : Int) + o).toNat = pe) :
    Wk l Z a0 EL own code ml nm rt R D pe ls st H k n := by
  obtain ⟨p, e, s, m, args, below, meth, c, s0, H0⟩ := D
  obtain ⟨hx, hown, hc, hml, hnm, hrt, hlk, hEL, hSA, hls, T, L, vm0, k0, X, eT, hS, hk, hZ, hG, hF, hMo, hst⟩ := A
  dsimp only at hx hown hc hml hnm hrt hlk X hS hMo hst
  have hown' : (s.setVm vm0).vm.findClass own = some m.cls := (hS.1.alike.findClass _ _).trans hown
  have hZ' : Z.Warmed39 (s.setVm vm0).vm := hZ
  exact ⟨hx, hown, hc, hml, hnm, hrt, hlk, hEL, hSA, hls, T, L, vm0, k0, X, eT, hS, hk, hZ, hG, hF, hMo, hst.trans (XT.ifnonnullYes X.here hx rfl rfl (hb hc hd) rfl hp.1 hp.2 (Steps.refl _))⟩
theorem Wk.nnullF {o : Int} (A : Wk l Z a0 EL own code ml nm rt R D pc ls (.null :: st) H k n) (hd : decode code pc = .ok (.ifnonnull o, 3)) :
    Wk l Z a0 EL own code ml nm rt R D (pc + 3) ls st H k n := by
  obtain ⟨p, e, s, m, args, below, meth, c, s0, H0⟩ := D
  obtain ⟨hx, hown, hc, hml, hnm, hrt, hlk, hEL, hSA, hls, T, L, vm0, k0, X, eT, hS, hk, hZ, hG, hF, hMo, hst⟩ := A
  dsimp only at hx hown hc hml hnm hrt hlk X hS hMo hst
  have hown' : (s.setVm vm0).vm.findClass own = some m.cls := (hS.1.alike.findClass _ _).trans hown
  have hZ' : Z.Warmed39 (s.setVm vm0).vm := hZ
  exact ⟨hx, hown, hc, hml, hnm, hrt, hlk, hEL, hSA, hls, T, L, vm0, k0, X, eT, hS, hk, hZ, hG, hF, hMo, hst.trans (XT.ifnonnullNo X.here hx rfl (hb hc hd) rfl (Steps.refl _))⟩
theorem Wk.acmp (A : Wk l Z a0 EL own code ml nm rt R D pc ls (w :: v :: st) H k n) {cd : ClassFile.ACond} {o : Int} (hd : decode code pc = .ok (.if_acmp cd o, 3)) (h1 : v.isRef = true) (h2 : w.isRef = true) {same : Bool} (hq : decide (v = w) = same) {pe : Nat} (ho : 0 ≤ (pc : Int) + o) (hp : pe = if acV cd same = true then ((pc : Int) + o).toNat else pc + 3) :
    Wk l Z a0 EL own code ml nm rt R D pe ls st H k n := by
  obtain ⟨p, e, s, m, args, below, meth, c, s0, H0⟩ := D
  obtain ⟨hx, hown, hc, hml, hnm, hrt, hlk, hEL, hSA, hls, T, L, vm0, k0, X, eT, hS, hk, hZ, hG, hF, hMo, hst⟩ := A
  dsimp only at hx hown hc hml hnm hrt hlk X hS hMo hst
  have hown' : (s.setVm vm0).vm.findClass own = some m.cls := (hS.1.alike.findClass _ _).trans hown
  have hZ' : Z.Warmed39 (s.setVm vm0).vm := hZ
  exact ⟨hx, hown, hc, hml, hnm, hrt, hlk, hEL, hSA, hls, T, L, vm0, k0, X, eT, hS, hk, hZ, hG, hF, hMo, hst.trans (acmp X hx rfl h1 h2 rfl (hb hc hd) rfl hq ho hp (Steps.refl _))⟩
theorem Wk.tsw {x : Int32} (A : Wk l Z a0 EL own code ml nm rt R D pc ls (.int x :: st) H k n) :
    Wk l Z a0 EL own code ml nm rt R D pc ls (.int x :: st) H k n := by
  obtain ⟨p, e, s, m, args, below, meth, c, s0, H0⟩ := D
  obtain ⟨hx, hown, hc, hml, hnm, hrt, hlk, hEL, hSA, hls, T, L, vm0, k0, X, eT, hS, hk, hZ, hG, hF, hMo, hst⟩ := A
  dsimp only at hx hown hc hml hnm hrt hlk X hS hMo hst
  have hown' : (s.setVm vm0).vm.findClass own = some m.cls := (hS.1.alike.findClass _ _).trans hown
  have hZ' : Z.Warmed39 (s.setVm vm0).vm := hZ
  exact ⟨hx, hown, hc, hml, hnm, hrt, hlk, hEL, hSA, hls, T, L, vm0, k0, X, eT, hS, hk, hZ, hG, hF, hMo, hst⟩
theorem Wk.getF {R0 O : String} {index : Nat} (A : Wk l Z a0 EL own code ml nm rt R D pc ls (.ref a :: st) H k n) (w : (Jvm.Cond.fieldLink own index R0 nn d).before a0 Z = true) (F : Fld Z H.1 a O nn d v) (hd : decode code pc = .ok (.getfield index, 3)) (via : Via Z R0 O nn d := by exact Via.refl) :
    Wk l Z a0 EL own code ml nm rt R D (pc + 3) ls (v :: st) H k n := by
  obtain ⟨p, e, s, m, args, below, meth, c, s0, H0⟩ := D
  obtain ⟨hx, hown, hc, hml, hnm, hrt, hlk, hEL, hSA, hls, T, L, vm0, k0, X, eT, hS, hk, hZ, hG, hF, hMo, hst⟩ := A
  dsimp only at hx hown hc hml hnm hrt hlk X hS hMo hst
  have hown' : (s.setVm vm0).vm.findClass own = some m.cls := (hS.1.alike.findClass _ _).trans hown
  have hZ' : Z.Warmed39 (s.setVm vm0).vm := hZ
  obtain ⟨T', X', e', st'⟩ := RoadKit.getF (host := "") X hx hZ' hown' (Or.inl w) via eT F (g := mkF m pc ls.toArray (.ref a :: st)) rfl rfl (hb hc hd)
  exact ⟨hx, hown, hc, hml, hnm, hrt, hlk, hEL, hSA, hls, T', L, vm0, k0, X', e', hS, hk, hZ, hG, hF, hMo, hst.trans (st' _ (Steps.refl _))⟩
theorem Wk.getFN {R0 O host : String} {index : Nat} (A : Wk l Z a0 EL own code ml nm rt R D pc ls (.ref a :: st) H k n) (w : (Jvm.Cond.fieldLinkNest own index R0 nn d host).before a0 Z = true) (F : Fld Z H.1 a O nn d v) (hd : decode code pc = .ok (.getfield index, 3)) (via : Via Z R0 O nn d := by exact Via.refl) :
    Wk l Z a0 EL own code ml nm rt R D (pc + 3) ls (v :: st) H k n := by
  obtain ⟨p, e, s, m, args, below, meth, c, s0, H0⟩ := D
  obtain ⟨hx, hown, hc, hml, hnm, hrt, hlk, hEL, hSA, hls, T, L, vm0, k0, X, eT, hS, hk, hZ, hG, hF, hMo, hst⟩ := A
  dsimp only at hx hown hc hml hnm hrt hlk X hS hMo hst
  have hown' : (s.setVm vm0).vm.findClass own = some m.cls := (hS.1.alike.findClass _ _).trans hown
  have hZ' : Z.Warmed39 (s.setVm vm0).vm := hZ
  obtain ⟨T', X', e', st'⟩ := RoadKit.getF X hx hZ' hown' (Or.inr w) via eT F (g := mkF m pc ls.toArray (.ref a :: st)) rfl rfl (hb hc hd)
  exact ⟨hx, hown, hc, hml, hnm, hrt, hlk, hEL, hSA, hls, T', L, vm0, k0, X', e', hS, hk, hZ, hG, hF, hMo, hst.trans (st' _ (Steps.refl _))⟩
theorem Wk.getS {R0 O : String} {index : Nat} (A : Wk l Z a0 EL own code ml nm rt R D pc ls st H k n) (w : (Jvm.Cond.fieldLink own index R0 nn d).before a0 Z = true) (F : Sta Z Z.heap O nn d v) (hd : decode code pc = .ok (.getstatic index, 3)) (via : Via Z R0 O nn d := by exact Via.refl) :
    Wk l Z a0 EL own code ml nm rt R D (pc + 3) ls (v :: st) H k n := by
  obtain ⟨p, e, s, m, args, below, meth, c, s0, H0⟩ := D
  obtain ⟨hx, hown, hc, hml, hnm, hrt, hlk, hEL, hSA, hls, T, L, vm0, k0, X, eT, hS, hk, hZ, hG, hF, hMo, hst⟩ := A
  dsimp only at hx hown hc hml hnm hrt hlk X hS hMo hst
  have hown' : (s.setVm vm0).vm.findClass own = some m.cls := (hS.1.alike.findClass _ _).trans hown
  have hZ' : Z.Warmed39 (s.setVm vm0).vm := hZ
  obtain ⟨T', X', e', st'⟩ := RoadKit.getS (host := "") X hx hZ' hown' w via eT (F.ext hG.1) (g := mkF m pc ls.toArray st) rfl (hb hc hd)
  exact ⟨hx, hown, hc, hml, hnm, hrt, hlk, hEL, hSA, hls, T', L, vm0, k0, X', e', hS, hk, hZ, hG, hF, hMo, hst.trans (st' _ (Steps.refl _))⟩
theorem Wk.putF {R0 O : String} {index kk : Nat} {old : Value} (A : Wk l Z a0 EL own code ml nm rt R D pc ls (v :: .ref a :: st) H k n) (w : (Jvm.Cond.fieldLink own index R0 nn d).before a0 Z = true) (F : Fld Z H.1 a O nn d old) (E : Exa Z H.1 a C) (wl : (Jvm.Cond.lays C O nn d).before a0 Z = true) (wi : (Jvm.Cond.instantiable C kk).before a0 Z = true) (o : H.2 a) (hd : decode code pc = .ok (.putfield index, 3)) (hty : parseFieldDescriptor d = some ty) (hn : narrow ty v = v) (hf : fits ty v = true) (via : Via Z R0 O nn d := by exact Via.refl) :
    ∃ H' : HP, Wk l Z a0 EL own code ml nm rt R D (pc + 3) ls st H' k n ∧ Kp H H' [a] ∧ Wr H.1 H'.1 a (Jvm.RoadKit.slotOf Z O nn d) v := by
  obtain ⟨p, e, s, m, args, below, meth, c, s0, H0⟩ := D
  obtain ⟨hx, hown, hc, hml, hnm, hrt, hlk, hEL, hSA, hls, T, L, vm0, k0, X, eT, hS, hk, hZ, hG, hF, hMo, hst⟩ := A
  dsimp only at hx hown hc hml hnm hrt hlk X hS hMo hst
  have hown' : (s.setVm vm0).vm.findClass own = some m.cls := (hS.1.alike.findClass _ _).trans hown
  have hZ' : Z.Warmed39 (s.setVm vm0).vm := hZ
  obtain ⟨T', h', X', e', Wr1, st'⟩ := RoadKit.putF (host := "") X hx hZ' hown' (Or.inl w) via eT F E (Or.inl wl) wi hty hn hf (g := mkF m pc ls.toArray (v :: .ref a :: st)) rfl rfl (hb hc hd)
  have o2 := hG.2.1 a o
  refine ⟨(h', H.2), ⟨hx, hown, hc, hml, hnm, hrt, hlk, hEL, hSA, hls, T', (L ++ [_]), vm0, k0, X', e', hS, (by show _ ≤ h'.size; rw [Wr1.size]; exact hk), hZ, (hG.wr Wr1 o), (hF.app fun y hy => by cases List.mem_singleton.mp hy; exact o2.1), ⟨hMo.1, by show _ ≤ h'.size; rw [Wr1.size]; exact hMo.2⟩, hst.trans (st' _ (Steps.refl _))⟩, ⟨Keep.of_wr Wr1, fun _ q => q⟩, Wr1⟩
theorem Wk.putFin {R0 O : String} {index kk : Nat} {old : Value} (A : Wk l Z a0 EL own code ml nm rt R D pc ls (v :: .ref a :: st) H k n) (w : (Jvm.Cond.fieldLink own index R0 nn d).before a0 Z = true) (F : Fld Z H.1 a O nn d old) (E : Exa Z H.1 a C) (wl : (Jvm.Cond.laysFinal C O nn d).before a0 Z = true) (ho : own = O) (hi : nm = "<init>") (wi : (Jvm.Cond.instantiable C kk).before a0 Z = true) (o : H.2 a) (hd : decode code pc = .ok (.putfield index, 3)) (hty : parseFieldDescriptor d = some ty) (hn : narrow ty v = v) (hf : fits ty v = true) (via : Via Z R0 O nn d := by exact Via.refl) :
    ∃ H' : HP, Wk l Z a0 EL own code ml nm rt R D (pc + 3) ls st H' k n ∧ Kp H H' [a] ∧ Wr H.1 H'.1 a (Jvm.RoadKit.slotOf Z O nn d) v := by
  obtain ⟨p, e, s, m, args, below, meth, c, s0, H0⟩ := D
  obtain ⟨hx, hown, hc, hml, hnm, hrt, hlk, hEL, hSA, hls, T, L, vm0, k0, X, eT, hS, hk, hZ, hG, hF, hMo, hst⟩ := A
  dsimp only at hx hown hc hml hnm hrt hlk X hS hMo hst
  have hown' : (s.setVm vm0).vm.findClass own = some m.cls := (hS.1.alike.findClass _ _).trans hown
  have hZ' : Z.Warmed39 (s.setVm vm0).vm := hZ
  obtain ⟨T', h', X', e', Wr1, st'⟩ := RoadKit.putF (host := "") X hx hZ' hown' (Or.inl w) via eT F E (Or.inr ⟨wl, ho, hnm.trans hi⟩) wi hty hn hf (g := mkF m pc ls.toArray (v :: .ref a :: st)) rfl rfl (hb hc hd)
  have o2 := hG.2.1 a o
  refine ⟨(h', H.2), ⟨hx, hown, hc, hml, hnm, hrt, hlk, hEL, hSA, hls, T', (L ++ [_]), vm0, k0, X', e', hS, (by show _ ≤ h'.size; rw [Wr1.size]; exact hk), hZ, (hG.wr Wr1 o), (hF.app fun y hy => by cases List.mem_singleton.mp hy; exact o2.1), ⟨hMo.1, by show _ ≤ h'.size; rw [Wr1.size]; exact hMo.2⟩, hst.trans (st' _ (Steps.refl _))⟩, ⟨Keep.of_wr Wr1, fun _ q => q⟩, Wr1⟩
theorem Wk.newO {index q : Nat} (A : Wk l Z a0 EL own code ml nm rt R D pc ls st H k n) (w : (Jvm.Cond.classLink own index C).before a0 Z = true) (wi : (Jvm.Cond.instantiable C q).before a0 Z = true) (wz : (Jvm.Cond.initialized C).before a0 Z = true) (hd : decode code pc = .ok (.new index, 3)) (hcl : k + 1 ≤ R.cells) (hsl : n + q ≤ R.slots) :
    ∃ (a : Addr) (H' : HP), Wk l Z a0 EL own code ml nm rt R D (pc + 3) ls (.ref a :: st) H' (k + 1) (n + q) ∧ H.1.size ≤ a ∧ Kp H H' [] ∧ Exa Z H'.1 a C ∧ H'.2 a ∧ ∀ {O fn fd : String} {t : FieldType}, Laid Z a0 C O fn fd → parseFieldDescriptor fd = some t → Fld Z H'.1 a O fn fd (defaultValue t) := by
  obtain ⟨p, e, s, m, args, below, meth, c, s0, H0⟩ := D
  obtain ⟨hx, hown, hc, hml, hnm, hrt, hlk, hEL, hSA, hls, T, L, vm0, k0, X, eT, hS, hk, hZ, hG, hF, hMo, hst⟩ := A
  dsimp only at hx hown hc hml hnm hrt hlk X hS hMo hst
  have hown' : (s.setVm vm0).vm.findClass own = some m.cls := (hS.1.alike.findClass _ _).trans hown
  have hZ' : Z.Warmed39 (s.setVm vm0).vm := hZ
  obtain ⟨T', h', X', e', E, Ex, Fl, -, st'⟩ := RoadKit.newO X hx hZ' hown' w wi wz eT (g := mkF m pc ls.toArray st) rfl (hb hc hd) hcl hsl
  exact ⟨H.1.size, (h', fun y => H.2 y ∨ y = H.1.size), ⟨hx, hown, hc, hml, hnm, hrt, hlk, hEL, hSA, hls, T', L, vm0, k0, X', e', hS, (Nat.le_trans hk E.1), hZ, (hG.ext E Ex.lt), hF, ⟨fun x q => Or.inl (hMo.1 x q), Nat.le_trans hMo.2 E.1⟩, hst.trans (st' _ (Steps.refl _))⟩, Nat.le_refl _, ⟨(Keep.refl _ _).ext E, fun _ q => Or.inl q⟩, Ex, Or.inr rfl, Fl⟩
theorem Wk.newA {aty : ArrayType} {z : Int32} (A : Wk l Z a0 EL own code ml nm rt R D pc ls (.int z :: st) H k n) (w : (Jvm.Cond.arrayClass (newarray.typeOf aty)).before a0 Z = true) (hd : decode code pc = .ok (.newarray aty, 2)) {N : Nat} (hN : N.toInt32 = z) {cap : Nat} (hcap : N ≤ cap) (hbg : cap * 8 ≤ 536870912) (hcl : k + 1 ≤ R.cells) (hsl : n + cap ≤ R.slots) :
    ∃ (a : Addr) (H' : HP), Wk l Z a0 EL own code ml nm rt R D (pc + 2) ls (.ref a :: st) H' (k + 1) (n + cap) ∧ H.1.size ≤ a ∧ Kp H H' [] ∧ Ar Z H' a (newarray.typeOf aty) (List.replicate N (defaultValue (newarray.typeOf aty))) ∧ H'.2 a := by
  obtain ⟨p, e, s, m, args, below, meth, c, s0, H0⟩ := D
  obtain ⟨hx, hown, hc, hml, hnm, hrt, hlk, hEL, hSA, hls, T, L, vm0, k0, X, eT, hS, hk, hZ, hG, hF, hMo, hst⟩ := A
  dsimp only at hx hown hc hml hnm hrt hlk X hS hMo hst
  have hown' : (s.setVm vm0).vm.findClass own = some m.cls := (hS.1.alike.findClass _ _).trans hown
  have hZ' : Z.Warmed39 (s.setVm vm0).vm := hZ
  subst hN
  have hN2 : N < 2 ^ 31 := by omega
  obtain ⟨T', h', cA, X', e', E, Ex, st'⟩ := RoadKit.newP X hx hZ' w eT (g := mkF m pc ls.toArray (.int N.toInt32 :: st)) rfl (hb hc hd) rfl (nonneg_nat hN2) (cap := cap) (by rw [clamp_nat hN2]; exact hcap) hbg hcl hsl
  refine ⟨H.1.size, (h', fun y => H.2 y ∨ y = H.1.size), ⟨hx, hown, hc, hml, hnm, hrt, hlk, hEL, hSA, hls, T', L, vm0, k0, X', e', hS, (Nat.le_trans hk E.1), hZ, (hG.ext E Ex.lt), hF, ⟨fun x q => Or.inl (hMo.1 x q), Nat.le_trans hMo.2 E.1⟩, hst.trans (st' _ (Steps.refl _))⟩, Nat.le_refl _, ⟨(Keep.refl _ _).ext E, fun _ q => Or.inl q⟩, ⟨_, Ex, by simp [newA, clamp_nat hN2], by simpa using hN2, fun v hv => ?_⟩, Or.inr rfl⟩
  obtain ⟨-, rfl⟩ := List.mem_replicate.mp hv
  cases aty <;> rfl
theorem Wk.alen (A : Wk l Z a0 EL own code ml nm rt R D pc ls (.ref a :: st) H k n) (F : Ar Z H a ty vs) (hd : decode code pc = .ok (.arraylength, 1)) {z : Int32} (hz : vs.length.toInt32 = z) :
    Wk l Z a0 EL own code ml nm rt R D (pc + 1) ls (.int z :: st) H k n := by
  obtain ⟨p, e, s, m, args, below, meth, c, s0, H0⟩ := D
  obtain ⟨hx, hown, hc, hml, hnm, hrt, hlk, hEL, hSA, hls, T, L, vm0, k0, X, eT, hS, hk, hZ, hG, hF, hMo, hst⟩ := A
  dsimp only at hx hown hc hml hnm hrt hlk X hS hMo hst
  have hown' : (s.setVm vm0).vm.findClass own = some m.cls := (hS.1.alike.findClass _ _).trans hown
  have hZ' : Z.Warmed39 (s.setVm vm0).vm := hZ
  obtain ⟨cl, Aq, hsl, -, -⟩ := F
  have hsz : cl.slots.size = vs.length := by rw [hsl]; simp
  exact ⟨hx, hown, hc, hml, hnm, hrt, hlk, hEL, hSA, hls, T, L, vm0, k0, X, eT, hS, hk, hZ, hG, hF, hMo, hst.trans (X.arraylength hx (by rw [eT]; exact Aq.1) (State.isArrayOf_alike hZ'.alike Aq.2.1) (g := mkF m pc ls.toArray (.ref a :: st)) rfl rfl (hb hc hd) _ (by rw [hsz, hz]; exact Steps.refl _))⟩
theorem Wk.caload {i : Nat} {j : Int32} (A : Wk l Z a0 EL own code ml nm rt R D pc ls (.int j :: .ref a :: st) H k n) (F : Ar Z H a .char vs) (hd : decode code pc = .ok (.caload, 1)) (hj : i.toInt32 = j) (hv : vs[i]? = some v) :
    Wk l Z a0 EL own code ml nm rt R D (pc + 1) ls (v :: st) H k n := by
  obtain ⟨p, e, s, m, args, below, meth, c, s0, H0⟩ := D
  obtain ⟨hx, hown, hc, hml, hnm, hrt, hlk, hEL, hSA, hls, T, L, vm0, k0, X, eT, hS, hk, hZ, hG, hF, hMo, hst⟩ := A
  dsimp only at hx hown hc hml hnm hrt hlk X hS hMo hst
  have hown' : (s.setVm vm0).vm.findClass own = some m.cls := (hS.1.alike.findClass _ _).trans hown
  have hZ' : Z.Warmed39 (s.setVm vm0).vm := hZ
  subst hj
  obtain ⟨cl, Aq, hsl, hlen, -⟩ := F
  have hi : i < vs.length := (List.getElem?_eq_some_iff.mp hv).1
  have hsz : cl.slots.size = vs.length := by rw [hsl]; simp
  exact ⟨hx, hown, hc, hml, hnm, hrt, hlk, hEL, hSA, hls, T, L, vm0, k0, X, eT, hS, hk, hZ, hG, hF, hMo, hst.trans (X.caload hx (by rw [eT]; exact Aq.1) (State.isArrayOf_alike hZ'.alike Aq.2.1) Aq.2.2 (by rw [hsz]; exact idx_in hi hlen) (by rw [clamp_nat (Nat.lt_trans hi hlen), hsl]; simpa using hv) (g := mkF m pc ls.toArray (.int i.toInt32 :: .ref a :: st)) rfl rfl (hb hc hd) _ (Steps.refl _))⟩
theorem Wk.baload {i : Nat} {j : Int32} (A : Wk l Z a0 EL own code ml nm rt R D pc ls (.int j :: .ref a :: st) H k n) (F : Ar Z H a .byte vs) (hd : decode code pc = .ok (.baload, 1)) (hj : i.toInt32 = j) (hv : vs[i]? = some v) :
    Wk l Z a0 EL own code ml nm rt R D (pc + 1) ls (v :: st) H k n := by
  obtain ⟨p, e, s, m, args, below, meth, c, s0, H0⟩ := D
  obtain ⟨hx, hown, hc, hml, hnm, hrt, hlk, hEL, hSA, hls, T, L, vm0, k0, X, eT, hS, hk, hZ, hG, hF, hMo, hst⟩ := A
  dsimp only at hx hown hc hml hnm hrt hlk X hS hMo hst
  have hown' : (s.setVm vm0).vm.findClass own = some m.cls := (hS.1.alike.findClass _ _).trans hown
  have hZ' : Z.Warmed39 (s.setVm vm0).vm := hZ
  subst hj
  obtain ⟨cl, Aq, hsl, hlen, -⟩ := F
  have hi : i < vs.length := (List.getElem?_eq_some_iff.mp hv).1
  have hsz : cl.slots.size = vs.length := by rw [hsl]; simp
  exact ⟨hx, hown, hc, hml, hnm, hrt, hlk, hEL, hSA, hls, T, L, vm0, k0, X, eT, hS, hk, hZ, hG, hF, hMo, hst.trans (X.baloadBytes hx (by rw [eT]; exact Aq.1) (State.isArrayOf_alike hZ'.alike Aq.2.1) Aq.2.2 (by rw [hsz]; exact idx_in hi hlen) (by rw [clamp_nat (Nat.lt_trans hi hlen), hsl]; simpa using hv) (g := mkF m pc ls.toArray (.int i.toInt32 :: .ref a :: st)) rfl rfl (hb hc hd) _ (Steps.refl _))⟩
theorem Wk.zaload {i : Nat} {j : Int32} (A : Wk l Z a0 EL own code ml nm rt R D pc ls (.int j :: .ref a :: st) H k n) (F : Ar Z H a .boolean vs) (hd : decode code pc = .ok (.baload, 1)) (hj : i.toInt32 = j) (hv : vs[i]? = some v) :
    Wk l Z a0 EL own code ml nm rt R D (pc + 1) ls (v :: st) H k n := by
  obtain ⟨p, e, s, m, args, below, meth, c, s0, H0⟩ := D
  obtain ⟨hx, hown, hc, hml, hnm, hrt, hlk, hEL, hSA, hls, T, L, vm0, k0, X, eT, hS, hk, hZ, hG, hF, hMo, hst⟩ := A
  dsimp only at hx hown hc hml hnm hrt hlk X hS hMo hst
  have hown' : (s.setVm vm0).vm.findClass own = some m.cls := (hS.1.alike.findClass _ _).trans hown
  have hZ' : Z.Warmed39 (s.setVm vm0).vm := hZ
  subst hj
  obtain ⟨cl, Aq, hsl, hlen, -⟩ := F
  have hi : i < vs.length := (List.getElem?_eq_some_iff.mp hv).1
  have hsz : cl.slots.size = vs.length := by rw [hsl]; simp
  exact ⟨hx, hown, hc, hml, hnm, hrt, hlk, hEL, hSA, hls, T, L, vm0, k0, X, eT, hS, hk, hZ, hG, hF, hMo, hst.trans (X.baloadBooleans hx (by rw [eT]; exact Aq.1) (State.isArrayOf_alike hZ'.alike Aq.2.1) Aq.2.2 (by rw [hsz]; exact idx_in hi hlen) (by rw [clamp_nat (Nat.lt_trans hi hlen), hsl]; simpa using hv) (g := mkF m pc ls.toArray (.int i.toInt32 :: .ref a :: st)) rfl rfl (hb hc hd) _ (Steps.refl _))⟩
theorem Wk.iaload {i : Nat} {j : Int32} (A : Wk l Z a0 EL own code ml nm rt R D pc ls (.int j :: .ref a :: st) H k n) (F : Ar Z H a .int vs) (hd : decode code pc = .ok (.iaload, 1)) (hj : i.toInt32 = j) (hv : vs[i]? = some v) :
    Wk l Z a0 EL own code ml nm rt R D (pc + 1) ls (v :: st) H k n := by
  obtain ⟨p, e, s, m, args, below, meth, c, s0, H0⟩ := D
  obtain ⟨hx, hown, hc, hml, hnm, hrt, hlk, hEL, hSA, hls, T, L, vm0, k0, X, eT, hS, hk, hZ, hG, hF, hMo, hst⟩ := A
  dsimp only at hx hown hc hml hnm hrt hlk X hS hMo hst
  have hown' : (s.setVm vm0).vm.findClass own = some m.cls := (hS.1.alike.findClass _ _).trans hown
  have hZ' : Z.Warmed39 (s.setVm vm0).vm := hZ
  subst hj
  obtain ⟨cl, Aq, hsl, hlen, -⟩ := F
  have hi : i < vs.length := (List.getElem?_eq_some_iff.mp hv).1
  have hsz : cl.slots.size = vs.length := by rw [hsl]; simp
  exact ⟨hx, hown, hc, hml, hnm, hrt, hlk, hEL, hSA, hls, T, L, vm0, k0, X, eT, hS, hk, hZ, hG, hF, hMo, hst.trans (X.iaload hx (by rw [eT]; exact Aq.1) (State.isArrayOf_alike hZ'.alike Aq.2.1) Aq.2.2 (by rw [hsz]; exact idx_in hi hlen) (by rw [clamp_nat (Nat.lt_trans hi hlen), hsl]; simpa using hv) (g := mkF m pc ls.toArray (.int i.toInt32 :: .ref a :: st)) rfl rfl (hb hc hd) _ (Steps.refl _))⟩
theorem Wk.laload {i : Nat} {j : Int32} (A : Wk l Z a0 EL own code ml nm rt R D pc ls (.int j :: .ref a :: st) H k n) (F : Ar Z H a .long vs) (hd : decode code pc = .ok (.laload, 1)) (hj : i.toInt32 = j) (hv : vs[i]? = some v) :
    Wk l Z a0 EL own code ml nm rt R D (pc + 1) ls (v :: st) H k n := by
  obtain ⟨p, e, s, m, args, below, meth, c, s0, H0⟩ := D
  obtain ⟨hx, hown, hc, hml, hnm, hrt, hlk, hEL, hSA, hls, T, L, vm0, k0, X, eT, hS, hk, hZ, hG, hF, hMo, hst⟩ := A
  dsimp only at hx hown hc hml hnm hrt hlk X hS hMo hst
  have hown' : (s.setVm vm0).vm.findClass own = some m.cls := (hS.1.alike.findClass _ _).trans hown
  have hZ' : Z.Warmed39 (s.setVm vm0).vm := hZ
  subst hj
  obtain ⟨cl, Aq, hsl, hlen, -⟩ := F
  have hi : i < vs.length := (List.getElem?_eq_some_iff.mp hv).1
  have hsz : cl.slots.size = vs.length := by rw [hsl]; simp
  exact ⟨hx, hown, hc, hml, hnm, hrt, hlk, hEL, hSA, hls, T, L, vm0, k0, X, eT, hS, hk, hZ, hG, hF, hMo, hst.trans (X.laload hx (by rw [eT]; exact Aq.1) (State.isArrayOf_alike hZ'.alike Aq.2.1) Aq.2.2 (by rw [hsz]; exact idx_in hi hlen) (by rw [clamp_nat (Nat.lt_trans hi hlen), hsl]; simpa using hv) (g := mkF m pc ls.toArray (.int i.toInt32 :: .ref a :: st)) rfl rfl (hb hc hd) _ (Steps.refl _))⟩
theorem Wk.aaload {i : Nat} {j : Int32} (A : Wk l Z a0 EL own code ml nm rt R D pc ls (.int j :: .ref a :: st) H k n) (F : Ar Z H a ty vs) (hd : decode code pc = .ok (.aaload, 1)) (hj : i.toInt32 = j) (hv : vs[i]? = some v) (hty : ty.isReference = true) :
    Wk l Z a0 EL own code ml nm rt R D (pc + 1) ls (v :: st) H k n := by
  obtain ⟨p, e, s, m, args, below, meth, c, s0, H0⟩ := D
  obtain ⟨hx, hown, hc, hml, hnm, hrt, hlk, hEL, hSA, hls, T, L, vm0, k0, X, eT, hS, hk, hZ, hG, hF, hMo, hst⟩ := A
  dsimp only at hx hown hc hml hnm hrt hlk X hS hMo hst
  have hown' : (s.setVm vm0).vm.findClass own = some m.cls := (hS.1.alike.findClass _ _).trans hown
  have hZ' : Z.Warmed39 (s.setVm vm0).vm := hZ
  subst hj
  obtain ⟨cl, Aq, hsl, hlen, -⟩ := F
  have hi : i < vs.length := (List.getElem?_eq_some_iff.mp hv).1
  have hsz : cl.slots.size = vs.length := by rw [hsl]; simp
  exact ⟨hx, hown, hc, hml, hnm, hrt, hlk, hEL, hSA, hls, T, L, vm0, k0, X, eT, hS, hk, hZ, hG, hF, hMo, hst.trans (X.aaload hx (by rw [eT]; exact Aq.1) (State.isArrayOf_alike hZ'.alike Aq.2.1) hty Aq.2.2 (by rw [hsz]; exact idx_in hi hlen) (by rw [clamp_nat (Nat.lt_trans hi hlen), hsl]; simpa using hv) (g := mkF m pc ls.toArray (.int i.toInt32 :: .ref a :: st)) rfl rfl (hb hc hd) _ (Steps.refl _))⟩
theorem Wk.castore {i : Nat} {j : Int32} {x x2 : Int32} (A : Wk l Z a0 EL own code ml nm rt R D pc ls (.int x :: .int j :: .ref a :: st) H k n) (F : Ar Z H a .char vs) (o : H.2 a) (hd : decode code pc = .ok (.castore, 1)) (hj : i.toInt32 = j) (hi : i < vs.length) (hx2 : nar .char x = x2) :
    ∃ H' : HP, Wk l Z a0 EL own code ml nm rt R D (pc + 1) ls st H' k n ∧ Kp H H' [a] ∧ Ar Z H' a .char (vs.set i (.int x2)) := by
  obtain ⟨p, e, s, m, args, below, meth, c, s0, H0⟩ := D
  obtain ⟨hx, hown, hc, hml, hnm, hrt, hlk, hEL, hSA, hls, T, L, vm0, k0, X, eT, hS, hk, hZ, hG, hF, hMo, hst⟩ := A
  dsimp only at hx hown hc hml hnm hrt hlk X hS hMo hst
  have hown' : (s.setVm vm0).vm.findClass own = some m.cls := (hS.1.alike.findClass _ _).trans hown
  have hZ' : Z.Warmed39 (s.setVm vm0).vm := hZ
  subst hj
  obtain ⟨cl, Aq, hsl, hlen, hft⟩ := F
  have hsz : cl.slots.size = vs.length := by rw [hsl]; simp
  have hi2 : i < 2 ^ 31 := Nat.lt_trans hi hlen
  obtain ⟨T', h', X', e', Wr1, st'⟩ := stC X hx hZ' eT Aq (by rw [hsz]; exact idx_in hi hlen) (g := mkF m pc ls.toArray (.int x :: .int i.toInt32 :: .ref a :: st)) rfl rfl (hb hc hd)
  have o2 := hG.2.1 a o
  refine ⟨(h', H.2), ⟨hx, hown, hc, hml, hnm, hrt, hlk, hEL, hSA, hls, T', (L ++ [_]), vm0, k0, X', e', hS, (by show _ ≤ h'.size; rw [Wr1.size]; exact hk), hZ, (hG.wr Wr1 o), (hF.app fun y hy => by cases List.mem_singleton.mp hy; exact o2.1), ⟨hMo.1, by show _ ≤ h'.size; rw [Wr1.size]; exact hMo.2⟩, hst.trans (st' _ (Steps.refl _))⟩, ⟨Keep.of_wr Wr1, fun _ q => q⟩, ⟨_, Aq.same Wr1, ?_, by simpa using hlen, fun v hv => ?_⟩⟩
  · rw [clamp_nat hi2]; show cl.slots.setIfInBounds i _ = _; rw [hsl]; subst hx2; simp
  · rcases List.mem_or_eq_of_mem_set hv with q | rfl
    · exact hft v q
    · rw [← hx2]; exact fits_nar_char x
theorem Wk.bastore {i : Nat} {j : Int32} {x x2 : Int32} (A : Wk l Z a0 EL own code ml nm rt R D pc ls (.int x :: .int j :: .ref a :: st) H k n) (F : Ar Z H a .byte vs) (o : H.2 a) (hd : decode code pc = .ok (.bastore, 1)) (hj : i.toInt32 = j) (hi : i < vs.length) (hx2 : nar .byte x = x2) :
    ∃ H' : HP, Wk l Z a0 EL own code ml nm rt R D (pc + 1) ls st H' k n ∧ Kp H H' [a] ∧ Ar Z H' a .byte (vs.set i (.int x2)) := by
  obtain ⟨p, e, s, m, args, below, meth, c, s0, H0⟩ := D
  obtain ⟨hx, hown, hc, hml, hnm, hrt, hlk, hEL, hSA, hls, T, L, vm0, k0, X, eT, hS, hk, hZ, hG, hF, hMo, hst⟩ := A
  dsimp only at hx hown hc hml hnm hrt hlk X hS hMo hst
  have hown' : (s.setVm vm0).vm.findClass own = some m.cls := (hS.1.alike.findClass _ _).trans hown
  have hZ' : Z.Warmed39 (s.setVm vm0).vm := hZ
  subst hj
  obtain ⟨cl, Aq, hsl, hlen, hft⟩ := F
  have hsz : cl.slots.size = vs.length := by rw [hsl]; simp
  have hi2 : i < 2 ^ 31 := Nat.lt_trans hi hlen
  obtain ⟨T', h', X', e', Wr1, st'⟩ := stB X hx hZ' eT Aq (by rw [hsz]; exact idx_in hi hlen) (g := mkF m pc ls.toArray (.int x :: .int i.toInt32 :: .ref a :: st)) rfl rfl (hb hc hd)
  have o2 := hG.2.1 a o
  refine ⟨(h', H.2), ⟨hx, hown, hc, hml, hnm, hrt, hlk, hEL, hSA, hls, T', (L ++ [_]), vm0, k0, X', e', hS, (by show _ ≤ h'.size; rw [Wr1.size]; exact hk), hZ, (hG.wr Wr1 o), (hF.app fun y hy => by cases List.mem_singleton.mp hy; exact o2.1), ⟨hMo.1, by show _ ≤ h'.size; rw [Wr1.size]; exact hMo.2⟩, hst.trans (st' _ (Steps.refl _))⟩, ⟨Keep.of_wr Wr1, fun _ q => q⟩, ⟨_, Aq.same Wr1, ?_, by simpa using hlen, fun v hv => ?_⟩⟩
  · rw [clamp_nat hi2]; show cl.slots.setIfInBounds i _ = _; rw [hsl]; subst hx2; simp
  · rcases List.mem_or_eq_of_mem_set hv with q | rfl
    · exact hft v q
    · rw [← hx2]; exact fits_nar_byte x
theorem Wk.zastore {i : Nat} {j : Int32} {x x2 : Int32} (A : Wk l Z a0 EL own code ml nm rt R D pc ls (.int x :: .int j :: .ref a :: st) H k n) (F : Ar Z H a .boolean vs) (o : H.2 a) (hd : decode code pc = .ok (.bastore, 1)) (hj : i.toInt32 = j) (hi : i < vs.length) (hx2 : nar .boolean x = x2) :
    ∃ H' : HP, Wk l Z a0 EL own code ml nm rt R D (pc + 1) ls st H' k n ∧ Kp H H' [a] ∧ Ar Z H' a .boolean (vs.set i (.int x2)) := by
  obtain ⟨p, e, s, m, args, below, meth, c, s0, H0⟩ := D
  obtain ⟨hx, hown, hc, hml, hnm, hrt, hlk, hEL, hSA, hls, T, L, vm0, k0, X, eT, hS, hk, hZ, hG, hF, hMo, hst⟩ := A
  dsimp only at hx hown hc hml hnm hrt hlk X hS hMo hst
  have hown' : (s.setVm vm0).vm.findClass own = some m.cls := (hS.1.alike.findClass _ _).trans hown
  have hZ' : Z.Warmed39 (s.setVm vm0).vm := hZ
  subst hj
  obtain ⟨cl, Aq, hsl, hlen, hft⟩ := F
  have hsz : cl.slots.size = vs.length := by rw [hsl]; simp
  have hi2 : i < 2 ^ 31 := Nat.lt_trans hi hlen
  obtain ⟨T', h', X', e', Wr1, st'⟩ := stZ X hx hZ' eT Aq (by rw [hsz]; exact idx_in hi hlen) (g := mkF m pc ls.toArray (.int x :: .int i.toInt32 :: .ref a :: st)) rfl rfl (hb hc hd)
  have o2 := hG.2.1 a o
  refine ⟨(h', H.2), ⟨hx, hown, hc, hml, hnm, hrt, hlk, hEL, hSA, hls, T', (L ++ [_]), vm0, k0, X', e', hS, (by show _ ≤ h'.size; rw [Wr1.size]; exact hk), hZ, (hG.wr Wr1 o), (hF.app fun y hy => by cases List.mem_singleton.mp hy; exact o2.1), ⟨hMo.1, by show _ ≤ h'.size; rw [Wr1.size]; exact hMo.2⟩, hst.trans (st' _ (Steps.refl _))⟩, ⟨Keep.of_wr Wr1, fun _ q => q⟩, ⟨_, Aq.same Wr1, ?_, by simpa using hlen, fun v hv => ?_⟩⟩
  · rw [clamp_nat hi2]; show cl.slots.setIfInBounds i _ = _; rw [hsl]; subst hx2; simp
  · rcases List.mem_or_eq_of_mem_set hv with q | rfl
    · exact hft v q
    · rw [← hx2]; exact fits_nar_bool x
theorem Wk.iastore {i : Nat} {j : Int32} {x : Int32} (A : Wk l Z a0 EL own code ml nm rt R D pc ls (.int x :: .int j :: .ref a :: st) H k n) (F : Ar Z H a .int vs) (o : H.2 a) (hd : decode code pc = .ok (.iastore, 1)) (hj : i.toInt32 = j) (hi : i < vs.length) :
    ∃ H' : HP, Wk l Z a0 EL own code ml nm rt R D (pc + 1) ls st H' k n ∧ Kp H H' [a] ∧ Ar Z H' a .int (vs.set i (.int x)) := by
  obtain ⟨p, e, s, m, args, below, meth, c, s0, H0⟩ := D
  obtain ⟨hx, hown, hc, hml, hnm, hrt, hlk, hEL, hSA, hls, T, L, vm0, k0, X, eT, hS, hk, hZ, hG, hF, hMo, hst⟩ := A
  dsimp only at hx hown hc hml hnm hrt hlk X hS hMo hst
  have hown' : (s.setVm vm0).vm.findClass own = some m.cls := (hS.1.alike.findClass _ _).trans hown
  have hZ' : Z.Warmed39 (s.setVm vm0).vm := hZ
  subst hj
  obtain ⟨cl, Aq, hsl, hlen, hft⟩ := F
  have hsz : cl.slots.size = vs.length := by rw [hsl]; simp
  have hi2 : i < 2 ^ 31 := Nat.lt_trans hi hlen
  obtain ⟨T', h', X', e', Wr1, st'⟩ := stI X hx hZ' eT Aq (by rw [hsz]; exact idx_in hi hlen) (g := mkF m pc ls.toArray (.int x :: .int i.toInt32 :: .ref a :: st)) rfl rfl (hb hc hd)
  have o2 := hG.2.1 a o
  refine ⟨(h', H.2), ⟨hx, hown, hc, hml, hnm, hrt, hlk, hEL, hSA, hls, T', (L ++ [_]), vm0, k0, X', e', hS, (by show _ ≤ h'.size; rw [Wr1.size]; exact hk), hZ, (hG.wr Wr1 o), (hF.app fun y hy => by cases List.mem_singleton.mp hy; exact o2.1), ⟨hMo.1, by show _ ≤ h'.size; rw [Wr1.size]; exact hMo.2⟩, hst.trans (st' _ (Steps.refl _))⟩, ⟨Keep.of_wr Wr1, fun _ q => q⟩, ⟨_, Aq.same Wr1, ?_, by simpa using hlen, fun v hv => ?_⟩⟩
  · rw [clamp_nat hi2]; show cl.slots.setIfInBounds i _ = _; rw [hsl]; simp
  · rcases List.mem_or_eq_of_mem_set hv with q | rfl
    · exact hft v q
    · rfl
theorem Wk.lastore {i : Nat} {j : Int32} {x : Int64} (A : Wk l Z a0 EL own code ml nm rt R D pc ls (.long x :: .int j :: .ref a :: st) H k n) (F : Ar Z H a .long vs) (o : H.2 a) (hd : decode code pc = .ok (.lastore, 1)) (hj : i.toInt32 = j) (hi : i < vs.length) :
    ∃ H' : HP, Wk l Z a0 EL own code ml nm rt R D (pc + 1) ls st H' k n ∧ Kp H H' [a] ∧ Ar Z H' a .long (vs.set i (.long x)) := by
  obtain ⟨p, e, s, m, args, below, meth, c, s0, H0⟩ := D
  obtain ⟨hx, hown, hc, hml, hnm, hrt, hlk, hEL, hSA, hls, T, L, vm0, k0, X, eT, hS, hk, hZ, hG, hF, hMo, hst⟩ := A
  dsimp only at hx hown hc hml hnm hrt hlk X hS hMo hst
  have hown' : (s.setVm vm0).vm.findClass own = some m.cls := (hS.1.alike.findClass _ _).trans hown
  have hZ' : Z.Warmed39 (s.setVm vm0).vm := hZ
  subst hj
  obtain ⟨cl, Aq, hsl, hlen, hft⟩ := F
  have hsz : cl.slots.size = vs.length := by rw [hsl]; simp
  have hi2 : i < 2 ^ 31 := Nat.lt_trans hi hlen
  obtain ⟨T', h', X', e', Wr1, st'⟩ := stJ X hx hZ' eT Aq (by rw [hsz]; exact idx_in hi hlen) (g := mkF m pc ls.toArray (.long x :: .int i.toInt32 :: .ref a :: st)) rfl rfl (hb hc hd)
  have o2 := hG.2.1 a o
  refine ⟨(h', H.2), ⟨hx, hown, hc, hml, hnm, hrt, hlk, hEL, hSA, hls, T', (L ++ [_]), vm0, k0, X', e', hS, (by show _ ≤ h'.size; rw [Wr1.size]; exact hk), hZ, (hG.wr Wr1 o), (hF.app fun y hy => by cases List.mem_singleton.mp hy; exact o2.1), ⟨hMo.1, by show _ ≤ h'.size; rw [Wr1.size]; exact hMo.2⟩, hst.trans (st' _ (Steps.refl _))⟩, ⟨Keep.of_wr Wr1, fun _ q => q⟩, ⟨_, Aq.same Wr1, ?_, by simpa using hlen, fun v hv => ?_⟩⟩
  · rw [clamp_nat hi2]; show cl.slots.setIfInBounds i _ = _; rw [hsl]; simp
  · rcases List.mem_or_eq_of_mem_set hv with q | rfl
    · exact hft v q
    · rfl
theorem Wk.initO {idx Wd : Nat} (A : Wk l Z a0 EL own code ml nm rt R D pc ls (.ref a :: st) H k n) (w1 : (Jvm.Cond.methodLink own idx Lib.objectInit).before a0 Z = true) (w2 : (Jvm.Cond.instanceMethod Lib.objectInit).before a0 Z = true) (w3 : (Jvm.Cond.code Lib.objectInit ⟨#[0xb1]⟩ 1 none).before a0 Z = true) (hd : decode code pc = .ok (.invokespecial idx, 3)) (hf : 1 ≤ R.frames) (hW : (st.map fun v => v.category).sum ≤ Wd) (hlo : Wd + 12 ≤ R.locals) :
    Wk l Z a0 EL own code ml nm rt R D (pc + 3) ls st H k n := by
  obtain ⟨p, e, s, m, args, below, meth, c, s0, H0⟩ := D
  obtain ⟨hx, hown, hc, hml, hnm, hrt, hlk, hEL, hSA, hls, T, L, vm0, k0, X, eT, hS, hk, hZ, hG, hF, hMo, hst⟩ := A
  dsimp only at hx hown hc hml hnm hrt hlk X hS hMo hst
  have hown' : (s.setVm vm0).vm.findClass own = some m.cls := (hS.1.alike.findClass _ _).trans hown
  have hZ' : Z.Warmed39 (s.setVm vm0).vm := hZ
  obtain ⟨T', X', e', st'⟩ := RoadKit.initO X hx hZ' hown' w1 w2 w3 eT (g := mkF m pc ls.toArray (.ref a :: st)) rfl (by simp [hls, hml]) rfl (hb hc hd) hf (W := Wd) (by simpa using hW) hlo
  exact ⟨hx, hown, hc, hml, hnm, hrt, hlk, hEL, hSA, hls, T', L, vm0, k0, X', e', hS, hk, hZ, hG, hF, hMo, hst.trans (st' _ (Steps.refl _))⟩
theorem Wk.instY {K : String} {index : Nat} (A : Wk l Z a0 EL own code ml nm rt R D pc ls (.ref a :: st) H k n) (w : (Jvm.Cond.classLink own index K).before a0 Z = true) (F : Ins Z H.1 a K true) (hd : decode code pc = .ok (.instanceof index, 3)) :
    Wk l Z a0 EL own code ml nm rt R D (pc + 3) ls (.int 1 :: st) H k n := by
  obtain ⟨p, e, s, m, args, below, meth, c, s0, H0⟩ := D
  obtain ⟨hx, hown, hc, hml, hnm, hrt, hlk, hEL, hSA, hls, T, L, vm0, k0, X, eT, hS, hk, hZ, hG, hF, hMo, hst⟩ := A
  dsimp only at hx hown hc hml hnm hrt hlk X hS hMo hst
  have hown' : (s.setVm vm0).vm.findClass own = some m.cls := (hS.1.alike.findClass _ _).trans hown
  have hZ' : Z.Warmed39 (s.setVm vm0).vm := hZ
  obtain ⟨T', X', e', st'⟩ := RoadKit.instY X hx hZ' hown' w eT F (g := mkF m pc ls.toArray (.ref a :: st)) rfl rfl (hb hc hd)
  exact ⟨hx, hown, hc, hml, hnm, hrt, hlk, hEL, hSA, hls, T', L, vm0, k0, X', e', hS, hk, hZ, hG, hF, hMo, hst.trans (st' _ (Steps.refl _))⟩
theorem Wk.instN {K : String} {index : Nat} (A : Wk l Z a0 EL own code ml nm rt R D pc ls (.ref a :: st) H k n) (w : (Jvm.Cond.classLink own index K).before a0 Z = true) (E : Exa Z H.1 a C) (F : ∃ c t, Z.vm.findClass C = some c ∧ Z.vm.findClass K = some t ∧ Z.vm.assignable c t = false) (hd : decode code pc = .ok (.instanceof index, 3)) :
    Wk l Z a0 EL own code ml nm rt R D (pc + 3) ls (.int 0 :: st) H k n := by
  obtain ⟨p, e, s, m, args, below, meth, c, s0, H0⟩ := D
  obtain ⟨hx, hown, hc, hml, hnm, hrt, hlk, hEL, hSA, hls, T, L, vm0, k0, X, eT, hS, hk, hZ, hG, hF, hMo, hst⟩ := A
  dsimp only at hx hown hc hml hnm hrt hlk X hS hMo hst
  have hown' : (s.setVm vm0).vm.findClass own = some m.cls := (hS.1.alike.findClass _ _).trans hown
  have hZ' : Z.Warmed39 (s.setVm vm0).vm := hZ
  obtain ⟨T', X', e', st'⟩ := RoadKit.instNo X hx hZ' hown' w eT E F (g := mkF m pc ls.toArray (.ref a :: st)) rfl rfl (hb hc hd)
  exact ⟨hx, hown, hc, hml, hnm, hrt, hlk, hEL, hSA, hls, T', L, vm0, k0, X', e', hS, hk, hZ, hG, hF, hMo, hst.trans (st' _ (Steps.refl _))⟩
theorem Wk.castY {K : String} {index : Nat} (A : Wk l Z a0 EL own code ml nm rt R D pc ls (.ref a :: st) H k n) (w : (Jvm.Cond.classLink own index K).before a0 Z = true) (F : Ins Z H.1 a K true) (hd : decode code pc = .ok (.checkcast index, 3)) :
    Wk l Z a0 EL own code ml nm rt R D (pc + 3) ls (.ref a :: st) H k n := by
  obtain ⟨p, e, s, m, args, below, meth, c, s0, H0⟩ := D
  obtain ⟨hx, hown, hc, hml, hnm, hrt, hlk, hEL, hSA, hls, T, L, vm0, k0, X, eT, hS, hk, hZ, hG, hF, hMo, hst⟩ := A
  dsimp only at hx hown hc hml hnm hrt hlk X hS hMo hst
  have hown' : (s.setVm vm0).vm.findClass own = some m.cls := (hS.1.alike.findClass _ _).trans hown
  have hZ' : Z.Warmed39 (s.setVm vm0).vm := hZ
  obtain ⟨T', X', e', st'⟩ := RoadKit.castY X hx hZ' hown' w eT F (g := mkF m pc ls.toArray (.ref a :: st)) rfl rfl (hb hc hd)
  exact ⟨hx, hown, hc, hml, hnm, hrt, hlk, hEL, hSA, hls, T', L, vm0, k0, X', e', hS, hk, hZ, hG, hF, hMo, hst.trans (st' _ (Steps.refl _))⟩
theorem Wk.instNull {index : Nat} (A : Wk l Z a0 EL own code ml nm rt R D pc ls (.null :: st) H k n) (hd : decode code pc = .ok (.instanceof index, 3)) :
    Wk l Z a0 EL own code ml nm rt R D (pc + 3) ls (.int 0 :: st) H k n := by
  obtain ⟨p, e, s, m, args, below, meth, c, s0, H0⟩ := D
  obtain ⟨hx, hown, hc, hml, hnm, hrt, hlk, hEL, hSA, hls, T, L, vm0, k0, X, eT, hS, hk, hZ, hG, hF, hMo, hst⟩ := A
  dsimp only at hx hown hc hml hnm hrt hlk X hS hMo hst
  have hown' : (s.setVm vm0).vm.findClass own = some m.cls := (hS.1.alike.findClass _ _).trans hown
  have hZ' : Z.Warmed39 (s.setVm vm0).vm := hZ
  exact ⟨hx, hown, hc, hml, hnm, hrt, hlk, hEL, hSA, hls, T, L, vm0, k0, X, eT, hS, hk, hZ, hG, hF, hMo, hst.trans (X.instanceofNull hx (g := mkF m pc ls.toArray (.null :: st)) rfl rfl (hb hc hd) _ (Steps.refl _))⟩
theorem Wk.castNull {index : Nat} (A : Wk l Z a0 EL own code ml nm rt R D pc ls (.null :: st) H k n) (hd : decode code pc = .ok (.checkcast index, 3)) :
    Wk l Z a0 EL own code ml nm rt R D (pc + 3) ls (.null :: st) H k n := by
  obtain ⟨p, e, s, m, args, below, meth, c, s0, H0⟩ := D
  obtain ⟨hx, hown, hc, hml, hnm, hrt, hlk, hEL, hSA, hls, T, L, vm0, k0, X, eT, hS, hk, hZ, hG, hF, hMo, hst⟩ := A
  dsimp only at hx hown hc hml hnm hrt hlk X hS hMo hst
  have hown' : (s.setVm vm0).vm.findClass own = some m.cls := (hS.1.alike.findClass _ _).trans hown
  have hZ' : Z.Warmed39 (s.setVm vm0).vm := hZ
  exact ⟨hx, hown, hc, hml, hnm, hrt, hlk, hEL, hSA, hls, T, L, vm0, k0, X, eT, hS, hk, hZ, hG, hF, hMo, hst.trans (X.checkcastNull hx (g := mkF m pc ls.toArray (.null :: st)) rfl rfl (hb hc hd) _ (Steps.refl _))⟩
theorem no_asg {K : String} {q : Nat} (w : (Jvm.Cond.superclass C "java/lang/Object").before a0 Z = true) (w2 : (Jvm.Cond.noSuperclass "java/lang/Object").before a0 Z = true) (wi : (Jvm.Cond.instantiable K q).before a0 Z = true) (h1 : C ≠ K) (h2 : "java/lang/Object" ≠ K) : ∃ c t, Z.vm.findClass C = some c ∧ Z.vm.findClass K = some t ∧ Z.vm.assignable c t = false := by
  obtain ⟨co, ko, o1, o2, o3, -, -⟩ := Cond.noSuperclass_spec w2
  obtain ⟨t, kt, g0, g2, g5, g7, -⟩ := Cond.instantiable_spec wi
  obtain ⟨c, h0⟩ := found_sup w
  obtain ⟨p, k, kp, p1, p2, p3, p4, p5, -, -⟩ := Cond.superclass_spec h0 w
  cases o1.symm.trans p1
  have ne := ids_ne h0 g0 h1
  have ne2 := ids_ne o1 g0 h2
  have g8 : kt.isInterface = false := by cases hq : kt.isInterface <;> simp [hq] at g7 ⊢
  have n3 : ∀ fuel, Z.vm.isSubclassAux fuel co t = false := fun fuel => by
    cases fuel with
    | zero => rfl
    | succ f => simp [Vm.isSubclassAux, ne2, o2, o3]
  have n4 : ∀ fuel, Z.vm.isSubclassAux fuel c t = false := fun fuel => by
    cases fuel with
    | zero => rfl
    | succ f => simp [Vm.isSubclassAux, ne, p2, p4, n3]
  refine ⟨c, t, h0, g0, ?_⟩
  show Z.vm.assignableAux (255 + 1) c t = false
  simp [Vm.assignableAux, ne, p2, g2, p5, g5, g8, Vm.isSubclass, n4]
theorem Wk.ldcI {index : Nat} {x : Int32} (A : Wk l Z a0 EL own code ml nm rt R D pc ls st H k n) (w : (Jvm.Cond.constant own index x).before a0 Z = true) (hd : decode code pc = .ok (.ldc index, 2)) :
    Wk l Z a0 EL own code ml nm rt R D (pc + 2) ls (.int x :: st) H k n := by
  obtain ⟨p, e, s, m, args, below, meth, c, s0, H0⟩ := D
  obtain ⟨hx, hown, hc, hml, hnm, hrt, hlk, hEL, hSA, hls, T, L, vm0, k0, X, eT, hS, hk, hZ, hG, hF, hMo, hst⟩ := A
  dsimp only at hx hown hc hml hnm hrt hlk X hS hMo hst
  have hown' : (s.setVm vm0).vm.findClass own = some m.cls := (hS.1.alike.findClass _ _).trans hown
  have hZ' : Z.Warmed39 (s.setVm vm0).vm := hZ
  exact ⟨hx, hown, hc, hml, hnm, hrt, hlk, hEL, hSA, hls, T, L, vm0, k0, X, eT, hS, hk, hZ, hG, hF, hMo, hst.trans (X.ldcI hx hown' (mvT hZ' w) (g := mkF m pc ls.toArray st) rfl (hb hc hd) (Steps.refl _))⟩
theorem Wk.ldcJ {index : Nat} {x : Int64} (A : Wk l Z a0 EL own code ml nm rt R D pc ls st H k n) (w : (Jvm.Cond.constantLong own index x).before a0 Z = true) (hd : decode code pc = .ok (.ldc2_w index, 3)) :
    Wk l Z a0 EL own code ml nm rt R D (pc + 3) ls (.long x :: st) H k n := by
  obtain ⟨p, e, s, m, args, below, meth, c, s0, H0⟩ := D
  obtain ⟨hx, hown, hc, hml, hnm, hrt, hlk, hEL, hSA, hls, T, L, vm0, k0, X, eT, hS, hk, hZ, hG, hF, hMo, hst⟩ := A
  dsimp only at hx hown hc hml hnm hrt hlk X hS hMo hst
  have hown' : (s.setVm vm0).vm.findClass own = some m.cls := (hS.1.alike.findClass _ _).trans hown
  have hZ' : Z.Warmed39 (s.setVm vm0).vm := hZ
  exact ⟨hx, hown, hc, hml, hnm, hrt, hlk, hEL, hSA, hls, T, L, vm0, k0, X, eT, hS, hk, hZ, hG, hF, hMo, hst.trans (X.ldc2J hx hown' (mvT hZ' w) (g := mkF m pc ls.toArray st) rfl (hb hc hd) (Steps.refl _))⟩
theorem Wk.ldcS {index : Nat} {text : String} (A : Wk l Z a0 EL own code ml nm rt R D pc ls st H k n) (w : (Jvm.Cond.stringLink own index text).before a0 Z = true) (hmem : (own, index) ∈ EL) (ht : (∀ c ∈ text.toList, c.toNat < 256) ∧ text.toList.map (fun c => Value.int (Jvm.Lit.byteI c.toNat.toUInt16)) = vs) (hd : decode code pc = .ok (.ldc index, 2)) {z : Int32} (hz : ¬ z < 0) (hl : z.toNatClampNeg = vs.length) {q : Nat} (hq : 4 * text.toList.length ≤ q) (hbg : q ≤ 536870912) (hcl : k + 2 ≤ R.cells) (hsl : n + (q + 4) ≤ R.slots) :
    ∃ (a b : Addr) (H' : HP), Wk l Z a0 EL own code ml nm rt R D (pc + 2) ls (.ref a :: st) H' (k + 2) (n + (q + 4)) ∧ Kp H H' [] ∧ Exa Z H'.1 a "java/lang/String" ∧ Fld Z H'.1 a "java/lang/String" "coder" "B" (.int 0) ∧ Fld Z H'.1 a "java/lang/String" "value" "[B" (.ref b) ∧ Ar Z H' b .byte vs ∧ ∀ x, H'.2 x → x ≠ a ∧ x ≠ b := by
  obtain ⟨p, e, s, m, args, below, meth, c, s0, H0⟩ := D
  obtain ⟨hx, hown, hc, hml, hnm, hrt, hlk, hEL, hSA, hls, T, L, vm0, k0, X, eT, hS, hk, hZ, hG, hF, hMo, hst⟩ := A
  dsimp only at hx hown hc hml hnm hrt hlk X hS hMo hst
  have hown' : (s.setVm vm0).vm.findClass own = some m.cls := (hS.1.alike.findClass _ _).trans hown
  have hZ' : Z.Warmed39 (s.setVm vm0).vm := hZ
  obtain ⟨a, T', h', k1, b, kb, X', e', E, hS', hk', hZ2, hown2, F1, F2, F3, F4, -, -, hC, -, hne, st'⟩ := ldcCH X hx hZ hown' w hSA eT hS hk hEL hmem hG.2.2.1 ht hz hl (g := mkF m pc ls.toArray st) rfl (hb hc hd) hq hbg hcl hsl
  have hG' := hG.go hC E
  exact ⟨a, b, (h', H.2), ⟨hx, hown, hc, hml, hnm, hrt, hlk, hEL, hSA, hls, T', L, T'.vm, k1, X', e', hS', hk', hZ2, hG', hF, ⟨hMo.1, Nat.le_trans hMo.2 E.1⟩, hst.trans (st' _ (Steps.refl _))⟩, ⟨(Keep.refl _ _).ext E, fun _ q => q⟩, F1, F2, F3, Ar.of_arv (H := (h', H.2)) F4 hl, fun x hx' => hne x fun B => hG'.2.2.2 x B hx'⟩
theorem Wk.ldcSo {index : Nat} {text : String} (A : Wk l Z a0 EL own code ml nm rt R D pc ls st H k n) (w : (Jvm.Cond.stringLink own index text).before a0 Z = true) (hd : decode code pc = .ok (.ldc index, 2)) {q : Nat} (hq : 4 * text.toList.length ≤ q) (hbg : q ≤ 536870912) (hcl : k + 2 ≤ R.cells) (hsl : n + (q + 4) ≤ R.slots) :
    ∃ (a : Addr) (H' : HP), Wk l Z a0 EL own code ml nm rt R D (pc + 2) ls (.ref a :: st) H' (k + 2) (n + (q + 4)) ∧ Kp H H' [] := by
  obtain ⟨p, e, s, m, args, below, meth, c, s0, H0⟩ := D
  obtain ⟨hx, hown, hc, hml, hnm, hrt, hlk, hEL, hSA, hls, T, L, vm0, k0, X, eT, hS, hk, hZ, hG, hF, hMo, hst⟩ := A
  dsimp only at hx hown hc hml hnm hrt hlk X hS hMo hst
  have hown' : (s.setVm vm0).vm.findClass own = some m.cls := (hS.1.alike.findClass _ _).trans hown
  have hZ' : Z.Warmed39 (s.setVm vm0).vm := hZ
  obtain ⟨a, T', h', k1, X', e', E, hS', hk', hZ2, hown2, hC, -, st'⟩ := ldcOH X hx hZ hown' w hSA eT hS hk hEL hG.2.2.1 (g := mkF m pc ls.toArray st) rfl (hb hc hd) hq hbg hcl hsl
  exact ⟨a, (h', H.2), ⟨hx, hown, hc, hml, hnm, hrt, hlk, hEL, hSA, hls, T', L, T'.vm, k1, X', e', hS', hk', hZ2, (hG.go hC E), hF, ⟨hMo.1, Nat.le_trans hMo.2 E.1⟩, hst.trans (st' _ (Steps.refl _))⟩, ⟨(Keep.refl _ _).ext E, fun _ q => q⟩⟩
theorem Wk.more (A : Wk l Z a0 EL own code ml nm rt R D pc ls st H k n) {k' n' : Nat} (h1 : k ≤ k') (h2 : n ≤ n') :
    Wk l Z a0 EL own code ml nm rt R D pc ls st H k' n' := by
  obtain ⟨p, e, s, m, args, below, meth, c, s0, H0⟩ := D
  obtain ⟨hx, hown, hc, hml, hnm, hrt, hlk, hEL, hSA, hls, T, L, vm0, k0, X, eT, hS, hk, hZ, hG, hF, hMo, hst⟩ := A
  dsimp only at hx hown hc hml hnm hrt hlk X hS hMo hst
  have hown' : (s.setVm vm0).vm.findClass own = some m.cls := (hS.1.alike.findClass _ _).trans hown
  have hZ' : Z.Warmed39 (s.setVm vm0).vm := hZ
  exact ⟨hx, hown, hc, hml, hnm, hrt, hlk, hEL, hSA, hls, T, L, vm0, k0, (X.more h1 h2), eT, hS, hk, hZ, hG, hF, hMo, hst⟩
theorem Wk.ret  (A : Wk l Z a0 EL own code ml nm none R D pc ls st H k n) (hd : decode code pc = .ok (.return_, 1)) :
    Rt Z EL D none H k n := by
  obtain ⟨p, e, s, m, args, below, meth, c, s0, H0⟩ := D
  obtain ⟨hx, hown, hc, hml, hnm, hrt, hlk, hEL, hSA, hls, T, L, vm0, k0, X, eT, hS, hk, hZ, hG, hF, hMo, hst⟩ := A
  dsimp only at hx hown hc hml hnm hrt hlk X hS hMo hst
  have hown' : (s.setVm vm0).vm.findClass own = some m.cls := (hS.1.alike.findClass _ _).trans hown
  have hZ' : Z.Warmed39 (s.setVm vm0).vm := hZ
  obtain ⟨fs, hr, hrun, hended, hE⟩ := X.leaveW hS (by rw [eT]; exact hk) (v := none) (fun _ => rfl) hlk
  exact ⟨_, L, hst.trans (retV X hx hrt (hb hc hd) hr), hrun, hended, eT, hMo, (show GI Z EL T.vm H from hG.at X hZ hEL), hF, hE⟩
theorem Wk.retZ {x x2 : Int32} (A : Wk l Z a0 EL own code ml nm (some .boolean) R D pc ls (.int x :: st) H k n) (hd : decode code pc = .ok (.ireturn, 1)) (hx2 : nar .boolean x = x2) :
    Rt Z EL D (some (.int x2)) H k n := by
  obtain ⟨p, e, s, m, args, below, meth, c, s0, H0⟩ := D
  obtain ⟨hx, hown, hc, hml, hnm, hrt, hlk, hEL, hSA, hls, T, L, vm0, k0, X, eT, hS, hk, hZ, hG, hF, hMo, hst⟩ := A
  dsimp only at hx hown hc hml hnm hrt hlk X hS hMo hst
  have hown' : (s.setVm vm0).vm.findClass own = some m.cls := (hS.1.alike.findClass _ _).trans hown
  have hZ' : Z.Warmed39 (s.setVm vm0).vm := hZ
  subst hx2
  obtain ⟨fs, hr, hrun, hended, hE⟩ := X.leaveW hS (by rw [eT]; exact hk) (v := some (.int (nar .boolean x))) (fun h => by rw [hrt] at h; cases h) hlk
  exact ⟨_, L, hst.trans (retN X hx (t := .boolean) hrt (by simp) (hb hc hd) hr), hrun, hended, eT, hMo, (show GI Z EL T.vm H from hG.at X hZ hEL), hF, hE⟩
theorem Wk.retB {x x2 : Int32} (A : Wk l Z a0 EL own code ml nm (some .byte) R D pc ls (.int x :: st) H k n) (hd : decode code pc = .ok (.ireturn, 1)) (hx2 : nar .byte x = x2) :
    Rt Z EL D (some (.int x2)) H k n := by
  obtain ⟨p, e, s, m, args, below, meth, c, s0, H0⟩ := D
  obtain ⟨hx, hown, hc, hml, hnm, hrt, hlk, hEL, hSA, hls, T, L, vm0, k0, X, eT, hS, hk, hZ, hG, hF, hMo, hst⟩ := A
  dsimp only at hx hown hc hml hnm hrt hlk X hS hMo hst
  have hown' : (s.setVm vm0).vm.findClass own = some m.cls := (hS.1.alike.findClass _ _).trans hown
  have hZ' : Z.Warmed39 (s.setVm vm0).vm := hZ
  subst hx2
  obtain ⟨fs, hr, hrun, hended, hE⟩ := X.leaveW hS (by rw [eT]; exact hk) (v := some (.int (nar .byte x))) (fun h => by rw [hrt] at h; cases h) hlk
  exact ⟨_, L, hst.trans (retN X hx (t := .byte) hrt (by simp) (hb hc hd) hr), hrun, hended, eT, hMo, (show GI Z EL T.vm H from hG.at X hZ hEL), hF, hE⟩
theorem Wk.retC {x x2 : Int32} (A : Wk l Z a0 EL own code ml nm (some .char) R D pc ls (.int x :: st) H k n) (hd : decode code pc = .ok (.ireturn, 1)) (hx2 : nar .char x = x2) :
    Rt Z EL D (some (.int x2)) H k n := by
  obtain ⟨p, e, s, m, args, below, meth, c, s0, H0⟩ := D
  obtain ⟨hx, hown, hc, hml, hnm, hrt, hlk, hEL, hSA, hls, T, L, vm0, k0, X, eT, hS, hk, hZ, hG, hF, hMo, hst⟩ := A
  dsimp only at hx hown hc hml hnm hrt hlk X hS hMo hst
  have hown' : (s.setVm vm0).vm.findClass own = some m.cls := (hS.1.alike.findClass _ _).trans hown
  have hZ' : Z.Warmed39 (s.setVm vm0).vm := hZ
  subst hx2
  obtain ⟨fs, hr, hrun, hended, hE⟩ := X.leaveW hS (by rw [eT]; exact hk) (v := some (.int (nar .char x))) (fun h => by rw [hrt] at h; cases h) hlk
  exact ⟨_, L, hst.trans (retN X hx (t := .char) hrt (by simp) (hb hc hd) hr), hrun, hended, eT, hMo, (show GI Z EL T.vm H from hG.at X hZ hEL), hF, hE⟩
theorem Wk.retS {x x2 : Int32} (A : Wk l Z a0 EL own code ml nm (some .short) R D pc ls (.int x :: st) H k n) (hd : decode code pc = .ok (.ireturn, 1)) (hx2 : nar .short x = x2) :
    Rt Z EL D (some (.int x2)) H k n := by
  obtain ⟨p, e, s, m, args, below, meth, c, s0, H0⟩ := D
  obtain ⟨hx, hown, hc, hml, hnm, hrt, hlk, hEL, hSA, hls, T, L, vm0, k0, X, eT, hS, hk, hZ, hG, hF, hMo, hst⟩ := A
  dsimp only at hx hown hc hml hnm hrt hlk X hS hMo hst
  have hown' : (s.setVm vm0).vm.findClass own = some m.cls := (hS.1.alike.findClass _ _).trans hown
  have hZ' : Z.Warmed39 (s.setVm vm0).vm := hZ
  subst hx2
  obtain ⟨fs, hr, hrun, hended, hE⟩ := X.leaveW hS (by rw [eT]; exact hk) (v := some (.int (nar .short x))) (fun h => by rw [hrt] at h; cases h) hlk
  exact ⟨_, L, hst.trans (retN X hx (t := .short) hrt (by simp) (hb hc hd) hr), hrun, hended, eT, hMo, (show GI Z EL T.vm H from hG.at X hZ hEL), hF, hE⟩
theorem Wk.retI {x : Int32} (A : Wk l Z a0 EL own code ml nm (some .int) R D pc ls (.int x :: st) H k n) (hd : decode code pc = .ok (.ireturn, 1)) :
    Rt Z EL D (some (.int x)) H k n := by
  obtain ⟨p, e, s, m, args, below, meth, c, s0, H0⟩ := D
  obtain ⟨hx, hown, hc, hml, hnm, hrt, hlk, hEL, hSA, hls, T, L, vm0, k0, X, eT, hS, hk, hZ, hG, hF, hMo, hst⟩ := A
  dsimp only at hx hown hc hml hnm hrt hlk X hS hMo hst
  have hown' : (s.setVm vm0).vm.findClass own = some m.cls := (hS.1.alike.findClass _ _).trans hown
  have hZ' : Z.Warmed39 (s.setVm vm0).vm := hZ
  obtain ⟨fs, hr, hrun, hended, hE⟩ := X.leaveW hS (by rw [eT]; exact hk) (v := (some (.int x))) (fun h => by rw [hrt] at h; cases h) hlk
  exact ⟨_, L, hst.trans (retOut X hx hrt rfl (Or.inl ⟨rfl, Or.inl rfl, x, rfl⟩) (hb hc hd) hr), hrun, hended, eT, hMo, (show GI Z EL T.vm H from hG.at X hZ hEL), hF, hE⟩
theorem Wk.retJ {x : Int64} (A : Wk l Z a0 EL own code ml nm (some .long) R D pc ls (.long x :: st) H k n) (hd : decode code pc = .ok (.lreturn, 1)) :
    Rt Z EL D (some (.long x)) H k n := by
  obtain ⟨p, e, s, m, args, below, meth, c, s0, H0⟩ := D
  obtain ⟨hx, hown, hc, hml, hnm, hrt, hlk, hEL, hSA, hls, T, L, vm0, k0, X, eT, hS, hk, hZ, hG, hF, hMo, hst⟩ := A
  dsimp only at hx hown hc hml hnm hrt hlk X hS hMo hst
  have hown' : (s.setVm vm0).vm.findClass own = some m.cls := (hS.1.alike.findClass _ _).trans hown
  have hZ' : Z.Warmed39 (s.setVm vm0).vm := hZ
  obtain ⟨fs, hr, hrun, hended, hE⟩ := X.leaveW hS (by rw [eT]; exact hk) (v := (some (.long x))) (fun h => by rw [hrt] at h; cases h) hlk
  exact ⟨_, L, hst.trans (retOut X hx hrt rfl (Or.inr (Or.inl ⟨rfl, rfl, x, rfl⟩)) (hb hc hd) hr), hrun, hended, eT, hMo, (show GI Z EL T.vm H from hG.at X hZ hEL), hF, hE⟩
theorem Wk.retA {t : FieldType} (A : Wk l Z a0 EL own code ml nm (some t) R D pc ls (v :: st) H k n) (hd : decode code pc = .ok (.areturn, 1)) (ht : t.isReference = true) (hv : v.isRef = true) :
    Rt Z EL D (some v) H k n := by
  obtain ⟨p, e, s, m, args, below, meth, c, s0, H0⟩ := D
  obtain ⟨hx, hown, hc, hml, hnm, hrt, hlk, hEL, hSA, hls, T, L, vm0, k0, X, eT, hS, hk, hZ, hG, hF, hMo, hst⟩ := A
  dsimp only at hx hown hc hml hnm hrt hlk X hS hMo hst
  have hown' : (s.setVm vm0).vm.findClass own = some m.cls := (hS.1.alike.findClass _ _).trans hown
  have hZ' : Z.Warmed39 (s.setVm vm0).vm := hZ
  obtain ⟨fs, hr, hrun, hended, hE⟩ := X.leaveW hS (by rw [eT]; exact hk) (v := some v) (fun h => by rw [hrt] at h; cases h) hlk
  have hn : narrow t v = v := by rcases ref_cases hv with rfl | ⟨z, rfl⟩ <;> cases t <;> first | rfl | cases ht
  exact ⟨_, L, hst.trans (retOut X hx hrt hn (Or.inr (Or.inr (Or.inr (Or.inr ⟨rfl, ht, hv⟩)))) (hb hc hd) hr), hrun, hended, eT, hMo, (show GI Z EL T.vm H from hG.at X hZ hEL), hF, hE⟩
theorem Ct.intro {y : MethodName} {bytes : ByteArray} {ret : Option FieldType} {rm : Room} {wz : List Jvm.Cond} {as : List Value} {Q : Option Value → HP → Prop} (hpl : plainFor y = true) (hEL : EW Z a0 EL) (hSA : ∀ a ∈ Bundle.stringAtoms, a.before a0 Z = true) (hls : locsOf as ml = ls) (hlen : ls.length = ml)
    (body : ∀ D, Wk l Z a0 EL y.cls bytes ml y.name ret rm D 0 ls [] H 0 0 → ∃ v H' k n, Rt Z EL D v H' k n ∧ Q v H' ∧ k ≤ rm.cells ∧ n ≤ rm.slots) : Ct l Z EL y bytes ml ret rm wz as H Q := by
  refine MetFree.of_bodySF hpl hisR ?_
  intro p e s m args below meth c s₁ Bd hml0 hP hK
  obtain ⟨rfl, hZ, hh, hG⟩ := hP
  have hx := Bd.exec
  have hown : s.vm.findClass y.cls = some m.cls := findClass_of_methodNamed Bd.named
  have hnm := (name_of_methodNamed Bd.named Bd.method).1
  have X0 : Stand p l e rm s m as.toArray below meth c s₁ [] 0 0 := Stand.of_body Bd
  have e0 : s₁.heap = H.1 := by rw [← hh, Bd.state]; rfl
  have hst : Steps p.tables e below (s₁.setTop (entryFrame m as.toArray ml)) (s₁.setTop (mkF m 0 ls.toArray [])) := by rw [entry_locs, hls]; exact Steps.refl _
  obtain ⟨v, H', k, n, ⟨s₂, L, h1, h2, h3, h4, h5, h6, h7, h8⟩, hQ, hk, hn⟩ := body (p, e, s, m, as.toArray, below, meth, c, s₁.setTop (entryFrame m as.toArray ml), H) ⟨hx, hown, Bd.bytes, hml0, hnm, Bd.returns, Bd.notSynchronized, hEL, hSA, hlen, s₁, [], s.vm, H.1.size, X0, e0, (State.WarmedH.refl s).since _, Nat.le_refl _, hZ, hG, Fr.nil _, ⟨fun _ q => q, Nat.le_refl _⟩, hst⟩
  obtain ⟨hp, O⟩ := H'
  have h4 : s₂.heap = hp := h4
  subst h4
  obtain ⟨g1, g2, g3, g4⟩ := h8
  exact ⟨s₂, _, h1, h2, h3, v, L, O, rfl, hQ, h5, h6, h7, g1, g2, g3, g4.mono hk hn⟩
theorem Ct.mono {y : MethodName} {bytes : ByteArray} {ret : Option FieldType} {rm : Room} {wz : List Jvm.Cond} {as : List Value} {Q Q' : Option Value → HP → Prop} (h : Ct l Z EL y bytes ml ret rm wz as H Q) (q : ∀ v H', Q v H' → Q' v H') : Ct l Z EL y bytes ml ret rm wz as H Q' :=
  MetFree.mono h (fun _ _ h => h) (fun _ _ _ _ _ h => h) fun _ _ _ _ _ ⟨v, L, O, h1, h2, h3⟩ => ⟨v, L, O, h1, q _ _ h2, h3⟩
theorem ctBack {p : Program} {e : Env} {s : State} {args : Array Value} {below : List Frame} {y : MethodName} {bytes : ByteArray} {ret : Option FieldType} {rm : Room} {as : List Value} {Q : Option Value → HP → Prop} {len Wd : Nat}
    (hM : Ct l Z EL y bytes ml ret rm [] as H Q) (hZ : Z.Warmed39 vm0) (wc : (Jvm.Cond.code y bytes ml ret).before a0 Z = true) (wz : (Jvm.Cond.initialized y.cls).before a0 Z = true) (hf : rm.frames + 1 ≤ R.frames) (hl : Wd + (ml + 11) + rm.locals ≤ R.locals) (hEL : EW Z a0 EL) (hG : GI Z EL vm0 H) :
    BackS l R p e below (s.setVm vm0) args y len Wd (fun A a => a = as.toArray ∧ A.U.heap = H.1 ∧ A.cells + rm.cells ≤ R.cells ∧ A.slots + rm.slots ≤ R.slots)
      (fun A _ v B => ∃ L O, Q v (B.U.heap, O) ∧ ((∀ x, H.2 x → O x) ∧ H.1.size ≤ B.U.heap.size) ∧ GI Z EL B.U.vm (B.U.heap, O) ∧ Fr Z.heap.size L ∧ B.locs = A.locs ++ L ∧ B.cells = A.cells + rm.cells ∧ B.slots = A.slots + rm.slots) :=
  BackS.of_freeW (bytes := bytes) (maxL := ml) (ret := ret) (E := fun _ first o t L k n => k = rm.cells ∧ n = rm.slots ∧ ∃ v O, o = .returned v ∧ Q v (t.heap, O) ∧ ((∀ x, H.2 x → O x) ∧ H.1.size ≤ t.heap.size) ∧ GI Z EL t.vm (t.heap, O) ∧ Fr Z.heap.size L) hM hf hl
    (fun m meth c A a Y hp => have hU : Z.Warmed39 A.U.vm := wtrans (s := (s.setVm vm0)) hZ Y.warmed
      ⟨by show (Jvm.Cond.and _ .tt).before a A.U = true; rw [Cond.before_and, mv hU wc]; rfl, mv hU wc, mv hU wz, hp.2.2.1, hp.2.2.2⟩)
    (fun m meth c A a g mk Y hp => ⟨hp.1, wtrans (s := (s.setVm vm0)) hZ Y.warmed, hp.2.1, (show GI Z EL A.U.vm H from hG.at Y hZ hEL)⟩) (fun _ _ _ _ _ _ _ _ _ => trivial)
    (fun _ _ _ _ ⟨v, L, O, h1, h2, h3, h4, h5, h6⟩ => ⟨L, _, _, h6, rfl, rfl, v, O, h1, h2, h3, h4, h5⟩)
    (fun m meth c A a g mk v t L k n Y hp _ _ ⟨e1, e2, v', O, e3, e4, e5, e6, e7⟩ => by cases e3; subst e1 e2; exact ⟨L, O, e4, e5, e6, e7, rfl, rfl, rfl⟩)
theorem Wk.callS {y : MethodName} {bytes : ByteArray} {ret : Option FieldType} {cml : Nat} {rm : Room} {Q : Option Value → HP → Prop} {argsL : List Value} {index Wd : Nat} (A : Wk l Z a0 EL own code ml nm rt R D pc ls (argsL.reverse ++ st) H k n) (w1 : (Jvm.Cond.methodLink own index y).before a0 Z = true) (w2 : (Jvm.Cond.static y).before a0 Z = true) (wz : (Jvm.Cond.initialized y.cls).before a0 Z = true) (wc : (Jvm.Cond.code y bytes cml ret).before a0 Z = true) (hM : Ct l Z EL y bytes cml ret rm [] argsL H Q) (hy : y.cls ≠ "java/lang/invoke/MethodHandle" ∧ y.cls ≠ "java/lang/invoke/VarHandle") (hlen : ∃ ps r, parseMethodDescriptor y.desc = some ⟨ps, r⟩ ∧ argsL.length = ps.length) (hd : decode code pc = .ok (.invokestatic index, 3)) (hf : rm.frames + 1 ≤ R.frames) (hW : (st.map fun v => v.category).sum ≤ Wd) (hlo : Wd + (cml + 11) + rm.locals ≤ R.locals) (hcl : k + rm.cells ≤ R.cells) (hsl : n + rm.slots ≤ R.slots) :
    ∃ (v : Option Value) (H' : HP), Q v H' ∧ Wk l Z a0 EL own code ml nm rt R D (pc + 3) ls (v.toList ++ st) H' (k + rm.cells) (n + rm.slots) ∧ (∀ x, H.2 x → H'.2 x) ∧ H.1.size ≤ H'.1.size := by
  obtain ⟨p, e, s, m, args, below, meth, c, s0, H0⟩ := D
  obtain ⟨hx, hown, hc, hml, hnm, hrt, hlk, hEL, hSA, hls, T, L, vm0, k0, X, eT, hS, hk, hZ, hG, hF, hMo, hst⟩ := A
  dsimp only at hx hown hc hml hnm hrt hlk X hS hMo hst
  have hown' : (s.setVm vm0).vm.findClass own = some m.cls := (hS.1.alike.findClass _ _).trans hown
  have hZ' : Z.Warmed39 (s.setVm vm0).vm := hZ
  obtain ⟨v, vm1, ⟨T', L', c', n'⟩, -, X', hS2, hgr, ⟨Lc, O, hQ, hmo, hG', hFc, l1, l2, l3⟩, st'⟩ := RoadKit.callSS X hx hown' (mvT hZ' w1) (mvT hZ' w2) (mvT hZ' wz) (mvT hZ' wc) hy (ctBack hM hZ wc wz hf hlo hEL hG) (g := mkF m pc ls.toArray (argsL.reverse ++ st)) rfl (by simp [hls, hml]) (by obtain ⟨ps, r, q1, q2⟩ := hlen; exact lenOf q1 q2) rfl (by simpa using hW) (hb hc hd) (fun _ _ => ⟨rfl, eT, hcl, hsl⟩)
  dsimp only [Pt.U, Pt.locs, Pt.cells, Pt.slots] at X' hS2 hgr hQ hmo hG' l1 l2 l3 st'
  subst l1 l2 l3
  have hS' := hS.trans hS2 (by rw [eT] at hgr; exact Nat.le_trans hk hgr)
  exact ⟨v, (T'.heap, O), hQ, ⟨hx, hown, hc, hml, hnm, hrt, hlk, hEL, hSA, hls, T', _, T'.vm, T'.heap.size, X', rfl, hS', (Nat.le_refl _), (State.Warmed39.trans (t := s.setVm vm0) hZ hS2.1), hG', (hF.app hFc), ⟨fun x q => hmo.1 x (hMo.1 x q), Nat.le_trans hMo.2 hmo.2⟩, hst.trans st'⟩, hmo.1, hmo.2⟩
theorem Wk.callI {y : MethodName} {bytes : ByteArray} {cml : Nat} {rm : Room} {Q : Option Value → HP → Prop} {argsL : List Value} {index Wd : Nat} (A : Wk l Z a0 EL own code ml nm rt R D pc ls (argsL.reverse ++ .ref a :: st) H k n) (hy1 : y.name = "<init>") (w1 : (Jvm.Cond.methodLink own index y).before a0 Z = true) (w2 : (Jvm.Cond.instanceMethod y).before a0 Z = true) (wz : (Jvm.Cond.initialized y.cls).before a0 Z = true) (wc : (Jvm.Cond.code y bytes cml none).before a0 Z = true) (hM : Ct l Z EL y bytes cml none rm [] (.ref a :: argsL) H Q) (hy : y.cls ≠ "java/lang/invoke/MethodHandle" ∧ y.cls ≠ "java/lang/invoke/VarHandle") (hlen : ∃ ps r, parseMethodDescriptor y.desc = some ⟨ps, r⟩ ∧ argsL.length = ps.length) (hd : decode code pc = .ok (.invokespecial index, 3)) (hf : rm.frames + 1 ≤ R.frames) (hW : (st.map fun v => v.category).sum ≤ Wd) (hlo : Wd + (cml + 11) + rm.locals ≤ R.locals) (hcl : k + rm.cells ≤ R.cells) (hsl : n + rm.slots ≤ R.slots) :
    ∃ (v : Option Value) (H' : HP), Q v H' ∧ Wk l Z a0 EL own code ml nm rt R D (pc + 3) ls (v.toList ++ st) H' (k + rm.cells) (n + rm.slots) ∧ (∀ x, H.2 x → H'.2 x) ∧ H.1.size ≤ H'.1.size := by
  obtain ⟨p, e, s, m, args, below, meth, c, s0, H0⟩ := D
  obtain ⟨hx, hown, hc, hml, hnm, hrt, hlk, hEL, hSA, hls, T, L, vm0, k0, X, eT, hS, hk, hZ, hG, hF, hMo, hst⟩ := A
  dsimp only at hx hown hc hml hnm hrt hlk X hS hMo hst
  have hown' : (s.setVm vm0).vm.findClass own = some m.cls := (hS.1.alike.findClass _ _).trans hown
  have hZ' : Z.Warmed39 (s.setVm vm0).vm := hZ
  obtain ⟨v, vm1, ⟨T', L', c', n'⟩, -, X', hS2, hgr, ⟨Lc, O, hQ, hmo, hG', hFc, l1, l2, l3⟩, st'⟩ := X.specialBackS hx hy1 hown' (mvT hZ' w1) (mvT hZ' w2) (mvT hZ' wc) hy (ctBack hM hZ wc wz hf hlo hEL hG) (g := mkF m pc ls.toArray (argsL.reverse ++ .ref a :: st)) rfl (by simp [hls, hml]) (Steps.refl _) (by obtain ⟨ps, r, q1, q2⟩ := hlen; exact lenOf q1 q2) rfl (by simpa using hW) (hb hc hd) (fun _ _ => ⟨rfl, eT, hcl, hsl⟩)
  dsimp only [Pt.U, Pt.locs, Pt.cells, Pt.slots] at X' hS2 hgr hQ hmo hG' l1 l2 l3 st'
  subst l1 l2 l3
  have hS' := hS.trans hS2 (by rw [eT] at hgr; exact Nat.le_trans hk hgr)
  exact ⟨v, (T'.heap, O), hQ, ⟨hx, hown, hc, hml, hnm, hrt, hlk, hEL, hSA, hls, T', _, T'.vm, T'.heap.size, X', rfl, hS', (Nat.le_refl _), (State.Warmed39.trans (t := s.setVm vm0) hZ hS2.1), hG', (hF.app hFc), ⟨fun x q => hmo.1 x (hMo.1 x q), Nat.le_trans hMo.2 hmo.2⟩, hst.trans st'⟩, hmo.1, hmo.2⟩
theorem Wk.callV {y z : MethodName} {bytes : ByteArray} {ret : Option FieldType} {cml : Nat} {rm : Room} {Q : Option Value → HP → Prop} {argsL : List Value} {index Wd : Nat} (A : Wk l Z a0 EL own code ml nm rt R D pc ls (argsL.reverse ++ .ref a :: st) H k n) (w1 : (Jvm.Cond.methodLink own index y).before a0 Z = true) (w2 : (Jvm.Cond.declares y).before a0 Z = true) {C' : String} {y2 : MethodName} (w3 : (Jvm.Cond.selects C' y2 y2).before a0 Z = true) (hc2 : y2.cls = y.cls) (w4 : (Jvm.Cond.selects C y z).before a0 Z = true) (w5 : (Jvm.Cond.instanceMethod z).before a0 Z = true) (wz : (Jvm.Cond.initialized z.cls).before a0 Z = true) (wc : (Jvm.Cond.code z bytes cml ret).before a0 Z = true) (E : Exa Z H.1 a C) (hM : Ct l Z EL z bytes cml ret rm [] (.ref a :: argsL) H Q) (hy : y.cls ≠ "java/lang/invoke/MethodHandle" ∧ y.cls ≠ "java/lang/invoke/VarHandle") (hlen : ∃ ps r, parseMethodDescriptor y.desc = some ⟨ps, r⟩ ∧ argsL.length = ps.length) (hd : decode code pc = .ok (.invokevirtual index, 3)) (hf : rm.frames + 1 ≤ R.frames) (hW : (st.map fun v => v.category).sum ≤ Wd) (hlo : Wd + (cml + 11) + rm.locals ≤ R.locals) (hcl : k + rm.cells ≤ R.cells) (hsl : n + rm.slots ≤ R.slots) :
    ∃ (v : Option Value) (H' : HP), Q v H' ∧ Wk l Z a0 EL own code ml nm rt R D (pc + 3) ls (v.toList ++ st) H' (k + rm.cells) (n + rm.slots) ∧ (∀ x, H.2 x → H'.2 x) ∧ H.1.size ≤ H'.1.size := by
  obtain ⟨p, e, s, m, args, below, meth, c, s0, H0⟩ := D
  obtain ⟨hx, hown, hc, hml, hnm, hrt, hlk, hEL, hSA, hls, T, L, vm0, k0, X, eT, hS, hk, hZ, hG, hF, hMo, hst⟩ := A
  dsimp only at hx hown hc hml hnm hrt hlk X hS hMo hst
  have hown' : (s.setVm vm0).vm.findClass own = some m.cls := (hS.1.alike.findClass _ _).trans hown
  have hZ' : Z.Warmed39 (s.setVm vm0).vm := hZ
  obtain ⟨cB, kB, i1, i2, i3⟩ := isOf (s := (s.setVm vm0)) hZ' eT E
  obtain ⟨v, vm1, ⟨T', L', c', n'⟩, -, X', hS2, hgr, ⟨Lc, O, hQ, hmo, hG', hFc, l1, l2, l3⟩, st'⟩ := X.virtualBackS hx hown' (mvT hZ' w1) (mvT hZ' w2) (notFace_cls (mvT hZ' (args := #[]) w3) hc2) (mvT hZ' w4) (mvT hZ' w5) hy (ctBack hM hZ wc wz hf hlo hEL hG) i1 i3 (g := mkF m pc ls.toArray (argsL.reverse ++ .ref a :: st)) rfl (by simp [hls, hml]) (Steps.refl _) (by obtain ⟨ps, r, q1, q2⟩ := hlen; exact lenOf q1 q2) rfl (by simpa using hW) (hb hc hd) (fun _ _ => ⟨rfl, eT, hcl, hsl⟩)
  dsimp only [Pt.U, Pt.locs, Pt.cells, Pt.slots] at X' hS2 hgr hQ hmo hG' l1 l2 l3 st'
  subst l1 l2 l3
  have hS' := hS.trans hS2 (by rw [eT] at hgr; exact Nat.le_trans hk hgr)
  exact ⟨v, (T'.heap, O), hQ, ⟨hx, hown, hc, hml, hnm, hrt, hlk, hEL, hSA, hls, T', _, T'.vm, T'.heap.size, X', rfl, hS', (Nat.le_refl _), (State.Warmed39.trans (t := s.setVm vm0) hZ hS2.1), hG', (hF.app hFc), ⟨fun x q => hmo.1 x (hMo.1 x q), Nat.le_trans hMo.2 hmo.2⟩, hst.trans st'⟩, hmo.1, hmo.2⟩
theorem Wk.callF {xi y : MethodName} {bytes : ByteArray} {ret : Option FieldType} {cml : Nat} {rm : Room} {Q : Option Value → HP → Prop} {argsL : List Value} {index Wd : Nat} {count : Nat} (A : Wk l Z a0 EL own code ml nm rt R D pc ls (argsL.reverse ++ .ref a :: st) H k n) (w1 : (Jvm.Cond.methodLink own index xi).before a0 Z = true) (w2 : (Jvm.Cond.declares xi).before a0 Z = true) (w3 : (Jvm.Cond.interfaceMethod xi.cls xi.cls xi.name xi.desc).before a0 Z = true) (w4 : (Jvm.Cond.selects C xi y).before a0 Z = true) (w5 : (Jvm.Cond.instanceMethod y).before a0 Z = true) (w6 : (Jvm.Cond.publicMethod y).before a0 Z = true) (w7 : (Jvm.Cond.unhidden C xi.name xi.desc).before a0 Z = true) (w8 : (Jvm.Cond.castable C xi.cls).before a0 Z = true) (wz : (Jvm.Cond.initialized y.cls).before a0 Z = true) (wc : (Jvm.Cond.code y bytes cml ret).before a0 Z = true) (E : Exa Z H.1 a C) (hM : Ct l Z EL y bytes cml ret rm [] (.ref a :: argsL) H Q) (hy : xi.cls ≠ "java/lang/invoke/MethodHandle" ∧ xi.cls ≠ "java/lang/invoke/VarHandle") (hlen : ∃ ps r, parseMethodDescriptor xi.desc = some ⟨ps, r⟩ ∧ argsL.length = ps.length) (hd : decode code pc = .ok (.invokeinterface index count, 5)) (hf : rm.frames + 1 ≤ R.frames) (hW : (st.map fun v => v.category).sum ≤ Wd) (hlo : Wd + (cml + 11) + rm.locals ≤ R.locals) (hcl : k + rm.cells ≤ R.cells) (hsl : n + rm.slots ≤ R.slots) :
    ∃ (v : Option Value) (H' : HP), Q v H' ∧ Wk l Z a0 EL own code ml nm rt R D (pc + 5) ls (v.toList ++ st) H' (k + rm.cells) (n + rm.slots) ∧ (∀ x, H.2 x → H'.2 x) ∧ H.1.size ≤ H'.1.size := by
  obtain ⟨p, e, s, m, args, below, meth, c, s0, H0⟩ := D
  obtain ⟨hx, hown, hc, hml, hnm, hrt, hlk, hEL, hSA, hls, T, L, vm0, k0, X, eT, hS, hk, hZ, hG, hF, hMo, hst⟩ := A
  dsimp only at hx hown hc hml hnm hrt hlk X hS hMo hst
  have hown' : (s.setVm vm0).vm.findClass own = some m.cls := (hS.1.alike.findClass _ _).trans hown
  have hZ' : Z.Warmed39 (s.setVm vm0).vm := hZ
  obtain ⟨cB, kB, i1, i2, i3⟩ := isOf (s := (s.setVm vm0)) hZ' eT E
  obtain ⟨v, vm1, ⟨T', L', c', n'⟩, -, X', hS2, hgr, ⟨Lc, O, hQ, hmo, hG', hFc, l1, l2, l3⟩, st'⟩ := X.interfaceBackS hx hown' (mvT hZ' w1) (mvT hZ' w2) (mvT hZ' w3 (by simp [Cond.onTables, Cond.keepsFace, Cond.keeps, Cond.steady, Cond.faceAtom, hy.1, hy.2])) (mvT hZ' w4) (mvT hZ' w5) (mvT hZ' w6) (mvT hZ' w7) (mvT hZ' w8) hy (ctBack hM hZ wc wz hf hlo hEL hG) i1 i2 i3 (g := mkF m pc ls.toArray (argsL.reverse ++ .ref a :: st)) rfl (by simp [hls, hml]) (Steps.refl _) (by obtain ⟨ps, r, q1, q2⟩ := hlen; exact lenOf q1 q2) rfl (by simpa using hW) (hb hc hd) (fun _ _ => ⟨rfl, eT, hcl, hsl⟩)
  dsimp only [Pt.U, Pt.locs, Pt.cells, Pt.slots] at X' hS2 hgr hQ hmo hG' l1 l2 l3 st'
  subst l1 l2 l3
  have hS' := hS.trans hS2 (by rw [eT] at hgr; exact Nat.le_trans hk hgr)
  exact ⟨v, (T'.heap, O), hQ, ⟨hx, hown, hc, hml, hnm, hrt, hlk, hEL, hSA, hls, T', _, T'.vm, T'.heap.size, X', rfl, hS', (Nat.le_refl _), (State.Warmed39.trans (t := s.setVm vm0) hZ hS2.1), hG', (hF.app hFc), ⟨fun x q => hmo.1 x (hMo.1 x q), Nat.le_trans hMo.2 hmo.2⟩, hst.trans st'⟩, hmo.1, hmo.2⟩
theorem Wk.copy {sp dp z : Int32} {i j q index Wd : Nat} {vd : List Value} (A : Wk l Z a0 EL own code ml nm rt R D pc ls (.int z :: .int dp :: .ref b :: .int sp :: .ref a :: st) H k n) (w1 : (Jvm.Cond.methodLink own index Jvm.Stand.acN).before a0 Z = true) (w2 : (Jvm.Cond.native Jvm.Stand.acN).before a0 Z = true) (w3 : (Jvm.Cond.static Jvm.Stand.acN).before a0 Z = true) (w4 : (Jvm.Cond.initialized "java/lang/System").before a0 Z = true) (Fa : Ar Z H a ty vs) (Fb : Ar Z H b ty vd) (hty : refKind ty = false) (o : H.2 b) (hi : i.toInt32 = sp) (hj : j.toInt32 = dp) (hq : q.toInt32 = z) (h4 : i + q ≤ vs.length) (h5 : j + q ≤ vd.length) (hd : decode code pc = .ok (.invokestatic index, 3)) (hf : 1 ≤ R.frames) (hW : (st.map fun v => v.category).sum ≤ Wd) (hlo : Wd + 18 ≤ R.locals) :
    ∃ H' : HP, Wk l Z a0 EL own code ml nm rt R D (pc + 3) ls st H' k n ∧ Kp H H' [b] ∧ Ar Z H' b ty (vd.take j ++ (vs.drop i).take q ++ vd.drop (j + q)) := by
  obtain ⟨p, e, s, m, args, below, meth, c, s0, H0⟩ := D
  obtain ⟨hx, hown, hc, hml, hnm, hrt, hlk, hEL, hSA, hls, T, L, vm0, k0, X, eT, hS, hk, hZ, hG, hF, hMo, hst⟩ := A
  dsimp only at hx hown hc hml hnm hrt hlk X hS hMo hst
  have hown' : (s.setVm vm0).vm.findClass own = some m.cls := (hS.1.alike.findClass _ _).trans hown
  have hZ' : Z.Warmed39 (s.setVm vm0).vm := hZ
  subst hi hj hq
  have la := Fa.len
  have lb := Fb.len
  obtain ⟨ka, Aa⟩ := Fa.arv (.int 0)
  obtain ⟨kb, Ab⟩ := Fb.arv (.int 0)
  have o2 := hG.2.1 b o
  have ci := clamp_nat (i := i) (by omega)
  have cj := clamp_nat (i := j) (by omega)
  have cq := clamp_nat (i := q) (by omega)
  obtain ⟨T', h', L', X', e', F', K', A', st'⟩ := RoadKit.cpA X hx hZ' hown' w1 w2 w3 w4 eT Aa Ab (us := (List.range q).map fun t => vs.getD (i + t) (.int 0)) (Or.inl ⟨rfl, hty⟩) (nonneg_nat (by omega)) (nonneg_nat (by omega)) (nonneg_nat (by omega)) (by rw [ci, cq, clamp_nat la]; exact h4) (by rw [cj, cq, clamp_nat lb]; exact h5) (by rw [ci, cq]) (by rw [cj, cq]; exact h5) hF o2.1 (g := mkF m pc ls.toArray (.int q.toInt32 :: .int j.toInt32 :: .ref b :: .int i.toInt32 :: .ref a :: st)) rfl (by simp [hls, hml]) rfl (hb hc hd) hf (by simpa using hW) hlo
  rw [cj, cq, range_take h4] at A'
  exact ⟨(h', H.2), ⟨hx, hown, hc, hml, hnm, hrt, hlk, hEL, hSA, hls, T', L', vm0, k0, X', e', hS, (Nat.le_trans hk K'.1), hZ, (hG.keep K' (fun x hx => by cases List.mem_singleton.mp hx; exact o)), F', ⟨hMo.1, Nat.le_trans hMo.2 K'.1⟩, hst.trans (st' _ (Steps.refl _))⟩, ⟨K', fun _ q => q⟩, Ar.of_arv (H := (h', H.2)) A' (by rw [clamp_nat lb]; simp; omega)⟩
theorem Wk.callU {y : MethodName} {bytes : ByteArray} {ret : Option FieldType} {cml : Nat} {rm : Room} {Q : Option Value → HP → Prop} {argsL : List Value} {index Wd : Nat} (A : Wk l Z a0 EL own code ml nm rt R D pc ls (argsL.reverse ++ .ref a :: st) H k n) (w1 : (Jvm.Cond.methodLink own index y).before a0 Z = true) (w2 : (Jvm.Cond.declares y).before a0 Z = true) {C' : String} {y2 : MethodName} (w3 : (Jvm.Cond.selects C' y2 y2).before a0 Z = true) (hc2 : y2.cls = y.cls) (w4 : (Jvm.Cond.superclass own y.cls).before a0 Z = true) (w5 : (Jvm.Cond.instanceMethod y).before a0 Z = true) (hni : y.name ≠ "<init>") (wz : (Jvm.Cond.initialized y.cls).before a0 Z = true) (wc : (Jvm.Cond.code y bytes cml ret).before a0 Z = true) (E : Exa Z H.1 a C) (hM : Ct l Z EL y bytes cml ret rm [] (.ref a :: argsL) H Q) (hy : y.cls ≠ "java/lang/invoke/MethodHandle" ∧ y.cls ≠ "java/lang/invoke/VarHandle") (hlen : ∃ ps r, parseMethodDescriptor y.desc = some ⟨ps, r⟩ ∧ argsL.length = ps.length) (hd : decode code pc = .ok (.invokespecial index, 3)) (hf : rm.frames + 1 ≤ R.frames) (hW : (st.map fun v => v.category).sum ≤ Wd) (hlo : Wd + (cml + 11) + rm.locals ≤ R.locals) (hcl : k + rm.cells ≤ R.cells) (hsl : n + rm.slots ≤ R.slots) :
    ∃ (v : Option Value) (H' : HP), Q v H' ∧ Wk l Z a0 EL own code ml nm rt R D (pc + 3) ls (v.toList ++ st) H' (k + rm.cells) (n + rm.slots) ∧ (∀ x, H.2 x → H'.2 x) ∧ H.1.size ≤ H'.1.size := by
  obtain ⟨p, e, s, m, args, below, meth, c, s0, H0⟩ := D
  obtain ⟨hx, hown, hc, hml, hnm, hrt, hlk, hEL, hSA, hls, T, L, vm0, k0, X, eT, hS, hk, hZ, hG, hF, hMo, hst⟩ := A
  dsimp only at hx hown hc hml hnm hrt hlk X hS hMo hst
  have hown' : (s.setVm vm0).vm.findClass own = some m.cls := (hS.1.alike.findClass _ _).trans hown
  have hZ' : Z.Warmed39 (s.setVm vm0).vm := hZ
  obtain ⟨v, vm1, ⟨T', L', c', n'⟩, -, X', hS2, hgr, ⟨Lc, O, hQ, hmo, hG', hFc, l1, l2, l3⟩, st'⟩ := RoadKit.superBackS X hx hZ' hown' w1 (same_of w2 w3 hc2 hy) w5 w4 hni (ctBack hM hZ wc wz hf hlo hEL hG) eT (Ins.self E) (g := mkF m pc ls.toArray (argsL.reverse ++ .ref a :: st)) rfl (by simp [hls, hml]) wc (by obtain ⟨ps, r, q1, q2⟩ := hlen; exact lenOf q1 q2) rfl (by simpa using hW) (hb hc hd) (fun _ _ => ⟨rfl, eT, hcl, hsl⟩)
  dsimp only [Pt.U, Pt.locs, Pt.cells, Pt.slots] at X' hS2 hgr hQ hmo hG' l1 l2 l3 st'
  subst l1 l2 l3
  have hS' := hS.trans hS2 (by rw [eT] at hgr; exact Nat.le_trans hk hgr)
  exact ⟨v, (T'.heap, O), hQ, ⟨hx, hown, hc, hml, hnm, hrt, hlk, hEL, hSA, hls, T', _, T'.vm, T'.heap.size, X', rfl, hS', (Nat.le_refl _), (State.Warmed39.trans (t := s.setVm vm0) hZ hS2.1), hG', (hF.app hFc), ⟨fun x q => hmo.1 x (hMo.1 x q), Nat.le_trans hMo.2 hmo.2⟩, hst.trans st'⟩, hmo.1, hmo.2⟩
theorem Wk.getSN {R0 O host : String} {index : Nat} (A : Wk l Z a0 EL own code ml nm rt R D pc ls st H k n) (w : (Jvm.Cond.fieldLinkNest own index R0 nn d host).before a0 Z = true) (F : Sta Z Z.heap O nn d v) (hd : decode code pc = .ok (.getstatic index, 3)) (via : Via Z R0 O nn d := by exact Via.refl) :
    Wk l Z a0 EL own code ml nm rt R D (pc + 3) ls (v :: st) H k n := by
  obtain ⟨p, e, s, m, args, below, meth, c, s0, H0⟩ := D
  obtain ⟨hx, hown, hc, hml, hnm, hrt, hlk, hEL, hSA, hls, T, L, vm0, k0, X, eT, hS, hk, hZ, hG, hF, hMo, hst⟩ := A
  dsimp only at hx hown hc hml hnm hrt hlk X hS hMo hst
  have hown' : (s.setVm vm0).vm.findClass own = some m.cls := (hS.1.alike.findClass _ _).trans hown
  have hZ' : Z.Warmed39 (s.setVm vm0).vm := hZ
  obtain ⟨T', X', e', st'⟩ := RoadKit.getS2 X hx hZ' hown' (Or.inr w) via eT (F.ext hG.1) (g := mkF m pc ls.toArray st) rfl (hb hc hd)
  exact ⟨hx, hown, hc, hml, hnm, hrt, hlk, hEL, hSA, hls, T', L, vm0, k0, X', e', hS, hk, hZ, hG, hF, hMo, hst.trans (st' _ (Steps.refl _))⟩
theorem privS {p : Program} {e : Env} {R : Room} {s : State} {m : MethodId} {args : Array Value} {below : List Frame} {meth : Method} {c : Code} {T : State} {locs : List Loc} {cells slots : Nat} (X : Stand p l e R s m args below meth c T locs cells slots) (hexec : p.tables.exec = Jvm.exec) {own : String} {index : Nat} {y : MethodName} {bytes : ByteArray} {maxL : Nat} {ret : Option FieldType}
    (hown : s.vm.findClass own = some m.cls) (hlink : (Jvm.Cond.methodLink own index y).before args s = true) (hinst : (Jvm.Cond.instanceMethod y).before args s = true) (hnf : NotFace s y) (hpriv : s.PrivateAt y) (hcode : (Jvm.Cond.code y bytes maxL ret).before args s = true) (hy : y.cls ≠ "java/lang/invoke/MethodHandle" ∧ y.cls ≠ "java/lang/invoke/VarHandle")
    {W : Nat} {Pre : Pt → Array Value → Prop} {Post : Pt → Array Value → Option Value → Pt → Prop} (hK : BackS l R p e below s args y 3 W Pre Post) {b : Addr} {cB : ClassId} (hrecv : IsOf cB T b)
    {g : JFrame} (hg : g.method = m) (hsize : g.locals.size = c.maxLocals) {argsL rest : List Value} (hlen : ∀ sig, parseMethodDescriptor y.desc = some sig → argsL.length = sig.parameters.length) (hstack : g.stack = argsL.reverse ++ .ref b :: rest) (hW : 2 * g.monitorRoom + (rest.map fun v => v.category).sum ≤ W) (hdg : decode c.code g.pc = .ok (.invokevirtual index, 3))
    (hpre : ∀ vm₁, s.WarmedH vm₁ → Pre ⟨T.setVm vm₁, locs, cells, slots⟩ (.ref b :: argsL).toArray) :
    ∃ (v : Option Value) (vm₁ : Vm) (B : Pt), s.WarmedH vm₁ ∧ Stand p l e R (s.setVm B.U.vm) m args below meth c B.U B.locs B.cells B.slots ∧ s.Since B.U.vm B.U.heap.size ∧ T.heap.size ≤ B.U.heap.size ∧ Post ⟨T.setVm vm₁, locs, cells, slots⟩ (.ref b :: argsL).toArray v B ∧ Steps p.tables e below (T.setTop g) (B.U.setTop { g with pc := g.pc + 3, stack := v.toList ++ rest }) := by
  obtain ⟨cl, h1, h2, h3⟩ := hrecv
  obtain ⟨mk, mm, n1, n2, n3, n4⟩ := Cond.instanceMethod_spec hinst
  obtain ⟨mm', cM, q1, -, -, -, -, -, -, hsig⟩ := Cond.code_spec n1 hcode
  cases n2.symm.trans q1
  obtain ⟨kr, k1, k2⟩ := hnf mk n1
  obtain ⟨vm₁, X₁, go⟩ := X.invokevirtual hexec hown hlink n1 n2 n3 k1 k2 hy (a := b) (cell := cl) h1 (fun z h => by rw [h] at h3; cases h3) (selectMethod_private n2 (hpriv mk mm n1 n2)) n2 n4 k1 k2 (g := g) hg (argsL := argsL) (rest := rest) (hlen _ hsig) hstack hdg
  obtain ⟨v, B, X', hS, hgr, hpost, hst⟩ := hK m meth c ⟨T.setVm vm₁, locs, cells, slots⟩ { g with stack := rest } (.invokevirtual index) mk (.ref b :: argsL).toArray X₁ hg hsize hdg hW (X₁.named n1) (hpre vm₁ X₁.warmed)
  exact ⟨v, vm₁, B, X₁.warmed, X', hS, hgr, hpost, (go _ fun acts => by rw [doInvoke_state]; exact Steps.refl _).trans hst⟩
theorem Wk.callP {y : MethodName} {bytes : ByteArray} {ret : Option FieldType} {cml : Nat} {rm : Room} {Q : Option Value → HP → Prop} {argsL : List Value} {index Wd : Nat} (A : Wk l Z a0 EL own code ml nm rt R D pc ls (argsL.reverse ++ .ref a :: st) H k n) (w1 : (Jvm.Cond.methodLink own index y).before a0 Z = true) {C' : String} {y2 : MethodName} (w3 : (Jvm.Cond.selects C' y2 y2).before a0 Z = true) (hc2 : y2.cls = y.cls) (w4 : (Jvm.Cond.privateMethod y).before a0 Z = true) (w5 : (Jvm.Cond.instanceMethod y).before a0 Z = true) (wz : (Jvm.Cond.initialized y.cls).before a0 Z = true) (wc : (Jvm.Cond.code y bytes cml ret).before a0 Z = true) (E : Exa Z H.1 a C) (hM : Ct l Z EL y bytes cml ret rm [] (.ref a :: argsL) H Q) (hy : y.cls ≠ "java/lang/invoke/MethodHandle" ∧ y.cls ≠ "java/lang/invoke/VarHandle") (hlen : ∃ ps r, parseMethodDescriptor y.desc = some ⟨ps, r⟩ ∧ argsL.length = ps.length) (hd : decode code pc = .ok (.invokevirtual index, 3)) (hf : rm.frames + 1 ≤ R.frames) (hW : (st.map fun v => v.category).sum ≤ Wd) (hlo : Wd + (cml + 11) + rm.locals ≤ R.locals) (hcl : k + rm.cells ≤ R.cells) (hsl : n + rm.slots ≤ R.slots) :
    ∃ (v : Option Value) (H' : HP), Q v H' ∧ Wk l Z a0 EL own code ml nm rt R D (pc + 3) ls (v.toList ++ st) H' (k + rm.cells) (n + rm.slots) ∧ (∀ x, H.2 x → H'.2 x) ∧ H.1.size ≤ H'.1.size := by
  obtain ⟨p, e, s, m, args, below, meth, c, s0, H0⟩ := D
  obtain ⟨hx, hown, hc, hml, hnm, hrt, hlk, hEL, hSA, hls, T, L, vm0, k0, X, eT, hS, hk, hZ, hG, hF, hMo, hst⟩ := A
  dsimp only at hx hown hc hml hnm hrt hlk X hS hMo hst
  have hown' : (s.setVm vm0).vm.findClass own = some m.cls := (hS.1.alike.findClass _ _).trans hown
  have hZ' : Z.Warmed39 (s.setVm vm0).vm := hZ
  obtain ⟨cB, kB, i1, i2, i3⟩ := isOf (s := (s.setVm vm0)) hZ' eT E
  obtain ⟨v, vm1, ⟨T', L', c', n'⟩, -, X', hS2, hgr, ⟨Lc, O, hQ, hmo, hG', hFc, l1, l2, l3⟩, st'⟩ := privS X hx hown' (mvT hZ' w1) (mvT hZ' w5) (notFace_cls (mvT hZ' (args := #[]) w3) hc2) (Cond.privateMethod_at (mvT hZ' (args := #[]) w4)) (mvT hZ' wc) hy (ctBack hM hZ wc wz hf hlo hEL hG) i3 (g := mkF m pc ls.toArray (argsL.reverse ++ .ref a :: st)) rfl (by simp [hls, hml]) (by obtain ⟨ps, r, q1, q2⟩ := hlen; exact lenOf q1 q2) rfl (by simpa using hW) (hb hc hd) (fun _ _ => ⟨rfl, eT, hcl, hsl⟩)
  dsimp only [Pt.U, Pt.locs, Pt.cells, Pt.slots] at X' hS2 hgr hQ hmo hG' l1 l2 l3 st'
  subst l1 l2 l3
  have hS' := hS.trans hS2 (by rw [eT] at hgr; exact Nat.le_trans hk hgr)
  exact ⟨v, (T'.heap, O), hQ, ⟨hx, hown, hc, hml, hnm, hrt, hlk, hEL, hSA, hls, T', _, T'.vm, T'.heap.size, X', rfl, hS', (Nat.le_refl _), (State.Warmed39.trans (t := s.setVm vm0) hZ hS2.1), hG', (hF.app hFc), ⟨fun x q => hmo.1 x (hMo.1 x q), Nat.le_trans hMo.2 hmo.2⟩, hst.trans st'⟩, hmo.1, hmo.2⟩
theorem Wk.newAE {aty : ArrayType} {z : Int32} (A : Wk l Z a0 EL own code ml nm rt R D pc ls (.int z :: st) H k n) (w : (Jvm.Cond.arrayClass (newarray.typeOf aty)).before a0 Z = true) (hd : decode code pc = .ok (.newarray aty, 2)) {N : Nat} (hN : N.toInt32 = z) {cap : Nat} (hcap : N ≤ cap) (hbg : cap * 8 ≤ 536870912) (hcl : k + 1 ≤ R.cells) (hsl : n + cap ≤ R.slots) {ad : String} (had : "[" ++ (newarray.typeOf aty).toString = ad) :
    ∃ (a : Addr) (H' : HP), Wk l Z a0 EL own code ml nm rt R D (pc + 2) ls (.ref a :: st) H' (k + 1) (n + cap) ∧ H.1.size ≤ a ∧ Kp H H' [] ∧ Ar Z H' a (newarray.typeOf aty) (List.replicate N (defaultValue (newarray.typeOf aty))) ∧ H'.2 a ∧ Exa Z H'.1 a ad := by
  obtain ⟨p, e, s, m, args, below, meth, c, s0, H0⟩ := D
  obtain ⟨hx, hown, hc, hml, hnm, hrt, hlk, hEL, hSA, hls, T, L, vm0, k0, X, eT, hS, hk, hZ, hG, hF, hMo, hst⟩ := A
  dsimp only at hx hown hc hml hnm hrt hlk X hS hMo hst
  have hown' : (s.setVm vm0).vm.findClass own = some m.cls := (hS.1.alike.findClass _ _).trans hown
  have hZ' : Z.Warmed39 (s.setVm vm0).vm := hZ
  subst hN
  have hN2 : N < 2 ^ 31 := by omega
  obtain ⟨T', h', cA, X', e', E, Ex, Ea, st'⟩ := RoadKit.newPE X hx hZ' w eT (g := mkF m pc ls.toArray (.int N.toInt32 :: st)) rfl (hb hc hd) rfl (nonneg_nat hN2) (cap := cap) (by rw [clamp_nat hN2]; exact hcap) hbg hcl hsl had
  refine ⟨H.1.size, (h', fun y => H.2 y ∨ y = H.1.size), ⟨hx, hown, hc, hml, hnm, hrt, hlk, hEL, hSA, hls, T', L, vm0, k0, X', e', hS, (Nat.le_trans hk E.1), hZ, (hG.ext E Ex.lt), hF, ⟨fun x q => Or.inl (hMo.1 x q), Nat.le_trans hMo.2 E.1⟩, hst.trans (st' _ (Steps.refl _))⟩, Nat.le_refl _, ⟨(Keep.refl _ _).ext E, fun _ q => Or.inl q⟩, ⟨_, Ex, by simp [Jvm.RoadKit.newA, clamp_nat hN2], by simpa using hN2, fun v hv => ?_⟩, Or.inr rfl, Ea⟩
  obtain ⟨-, rfl⟩ := List.mem_replicate.mp hv
  cases aty <;> rfl
theorem Wk.clone {ad : String} {index Wd : Nat} (A : Wk l Z a0 EL own code ml nm rt R D pc ls (.ref a :: st) H k n) (w1 : (Jvm.Cond.methodLink own index ⟨ad, "clone", "()Ljava/lang/Object;"⟩).before a0 Z = true) (w2 : (Jvm.Cond.sameMethod ad "java/lang/Object" "clone" "()Ljava/lang/Object;").before a0 Z = true) (w3 : (Jvm.Cond.native ⟨"java/lang/Object", "clone", "()Ljava/lang/Object;"⟩).before a0 Z = true) (w4 : (Jvm.Cond.instanceMethod ⟨"java/lang/Object", "clone", "()Ljava/lang/Object;"⟩).before a0 Z = true) (w5 : (Jvm.Cond.selects ad ⟨ad, "clone", "()Ljava/lang/Object;"⟩ ⟨"java/lang/Object", "clone", "()Ljava/lang/Object;"⟩).before a0 Z = true) (w6 : (Jvm.Cond.castable ad "java/lang/Cloneable").before a0 Z = true) (F : Ar Z H a ty vs) (E : Exa Z H.1 a ad) (hd : decode code pc = .ok (.invokevirtual index, 3)) (hf : 1 ≤ R.frames) (hW : (st.map fun v => v.category).sum ≤ Wd) (hlo : Wd + 14 ≤ R.locals) {cap : Nat} (hcap : vs.length ≤ cap) (hcl : k + 1 ≤ R.cells) (hsl : n + cap ≤ R.slots) :
    ∃ (b : Addr) (H' : HP), Wk l Z a0 EL own code ml nm rt R D (pc + 3) ls (.ref b :: st) H' (k + 1) (n + cap) ∧ H.1.size ≤ b ∧ Kp H H' [] ∧ Ar Z H' b ty vs ∧ H'.2 b ∧ Exa Z H'.1 b ad := by
  obtain ⟨p, e, s, m, args, below, meth, c, s0, H0⟩ := D
  obtain ⟨hx, hown, hc, hml, hnm, hrt, hlk, hEL, hSA, hls, T, L, vm0, k0, X, eT, hS, hk, hZ, hG, hF, hMo, hst⟩ := A
  dsimp only at hx hown hc hml hnm hrt hlk X hS hMo hst
  have hown' : (s.setVm vm0).vm.findClass own = some m.cls := (hS.1.alike.findClass _ _).trans hown
  have hZ' : Z.Warmed39 (s.setVm vm0).vm := hZ
  obtain ⟨cl, A0, q1, q2, q3⟩ := F
  obtain ⟨T', h', X', e', Ex, A', E', st'⟩ := RoadKit.cloneA X hx hZ' hown' w1 w2 w3 w4 w5 w6 eT A0 E (RoadKit.fitC_of A0 fun i hi v hv => q3 v (by rw [q1] at hv; simp at hv; exact List.mem_of_getElem? hv)) (g := mkF m pc ls.toArray (.ref a :: st)) rfl (by simp [hls, hml]) rfl (hb hc hd) hf (by simpa using hW) hlo (cap := cap) (by rw [q1]; simpa using hcap) hcl hsl
  exact ⟨H.1.size, (h', fun y => H.2 y ∨ y = H.1.size), ⟨hx, hown, hc, hml, hnm, hrt, hlk, hEL, hSA, hls, T', L, vm0, k0, X', e', hS, (Nat.le_trans hk Ex.1), hZ, (hG.ext Ex A'.lt), hF, ⟨fun x q => Or.inl (hMo.1 x q), Nat.le_trans hMo.2 Ex.1⟩, hst.trans (st' _ (Steps.refl _))⟩, Nat.le_refl _, ⟨(Keep.refl _ _).ext Ex, fun _ q => Or.inl q⟩, ⟨_, A', q1, q2, q3⟩, Or.inr rfl, E'⟩
end Laws

abbrev EL0 : List (String × Nat) := consts_1
def Glb (Z : State) (a0 : Array Value) : Prop := (∀ d ∈ tables_1, d.before a0 Z = true) ∧ (∀ d ∈ jdkStatics_1, d.before a0 Z = true) ∧ Fit Z ∧ narrow_1.value a0 Z none Z [] = some true
def txtAt (k : Nat) : String := match tables_1[k]? with
  | some (.stringLink _ _ t) => t
  | _ => ""
theorem wd_0 {Z : State} {a0 : Array Value} (G : Glb Z a0) : (Jvm.Cond.constant "com/example/onepass/onepass/model/FieldsGetPinLaw" (7 : Nat) (2147483647 : Int32)).before a0 Z = true := G.1 _ (List.mem_of_getElem? (i := 0) rfl)
theorem wd_1 {Z : State} {a0 : Array Value} (G : Glb Z a0) : (Jvm.Cond.arrayClass Jvm.ClassFile.FieldType.char).before a0 Z = true := G.1 _ (List.mem_of_getElem? (i := 1) rfl)
theorem wd_2 {Z : State} {a0 : Array Value} (G : Glb Z a0) : (Jvm.Cond.methodLink "com/example/onepass/onepass/model/FieldsGetPinLaw" (8 : Nat) ({ cls := "com/example/onepass/onepass/model/FieldsGetPinLaw", name := "cell", desc := "(IIIICCJI)C" } : Jvm.MethodName)).before a0 Z = true := G.1 _ (List.mem_of_getElem? (i := 2) rfl)
theorem wd_3 {Z : State} {a0 : Array Value} (G : Glb Z a0) : (Jvm.Cond.static ({ cls := "com/example/onepass/onepass/model/FieldsGetPinLaw", name := "cell", desc := "(IIIICCJI)C" } : Jvm.MethodName)).before a0 Z = true := G.1 _ (List.mem_of_getElem? (i := 3) rfl)
theorem wd_4 {Z : State} {a0 : Array Value} (G : Glb Z a0) : (Jvm.Cond.initialized "com/example/onepass/onepass/model/FieldsGetPinLaw").before a0 Z = true := G.1 _ (List.mem_of_getElem? (i := 4) rfl)
theorem wd_5 {Z : State} {a0 : Array Value} (G : Glb Z a0) : (Jvm.Cond.code ({ cls := "com/example/onepass/onepass/model/FieldsGetPinLaw", name := "cell", desc := "(IIIICCJI)C" } : Jvm.MethodName) method_5_code (11 : Nat) (Option.some Jvm.ClassFile.FieldType.char)).before a0 Z = true := G.1 _ (List.mem_of_getElem? (i := 5) rfl)
theorem wd_6 {Z : State} {a0 : Array Value} (G : Glb Z a0) : (Jvm.Cond.constantLong "com/example/onepass/onepass/model/FieldsGetPinLaw" (48 : Nat) (255 : Int64)).before a0 Z = true := G.1 _ (List.mem_of_getElem? (i := 6) rfl)
theorem wd_7 {Z : State} {a0 : Array Value} (G : Glb Z a0) : (Jvm.Cond.methodLink "com/example/onepass/onepass/model/FieldsGetPinLaw" (50 : Nat) ({ cls := "com/example/onepass/onepass/model/FieldsGetPinLaw", name := "pick", desc := "(ICC)C" } : Jvm.MethodName)).before a0 Z = true := G.1 _ (List.mem_of_getElem? (i := 7) rfl)
theorem wd_8 {Z : State} {a0 : Array Value} (G : Glb Z a0) : (Jvm.Cond.static ({ cls := "com/example/onepass/onepass/model/FieldsGetPinLaw", name := "pick", desc := "(ICC)C" } : Jvm.MethodName)).before a0 Z = true := G.1 _ (List.mem_of_getElem? (i := 8) rfl)
theorem wd_9 {Z : State} {a0 : Array Value} (G : Glb Z a0) : (Jvm.Cond.code ({ cls := "com/example/onepass/onepass/model/FieldsGetPinLaw", name := "pick", desc := "(ICC)C" } : Jvm.MethodName) method_4_code (4 : Nat) (Option.some Jvm.ClassFile.FieldType.char)).before a0 Z = true := G.1 _ (List.mem_of_getElem? (i := 9) rfl)
theorem wd_10 {Z : State} {a0 : Array Value} (G : Glb Z a0) : (Jvm.Cond.methodLink "com/example/onepass/onepass/model/FieldsGetPinLaw" (14 : Nat) ({ cls := "java/lang/String", name := "valueOf", desc := "(C)Ljava/lang/String;" } : Jvm.MethodName)).before a0 Z = true := G.1 _ (List.mem_of_getElem? (i := 10) rfl)
theorem wd_11 {Z : State} {a0 : Array Value} (G : Glb Z a0) : (Jvm.Cond.static ({ cls := "java/lang/String", name := "valueOf", desc := "(C)Ljava/lang/String;" } : Jvm.MethodName)).before a0 Z = true := G.1 _ (List.mem_of_getElem? (i := 11) rfl)
theorem wd_12 {Z : State} {a0 : Array Value} (G : Glb Z a0) : (Jvm.Cond.initialized "java/lang/String").before a0 Z = true := G.1 _ (List.mem_of_getElem? (i := 12) rfl)
theorem wd_13 {Z : State} {a0 : Array Value} (G : Glb Z a0) : (Jvm.Cond.code ({ cls := "java/lang/String", name := "valueOf", desc := "(C)Ljava/lang/String;" } : Jvm.MethodName) jdk_42_method_139_code (1 : Nat) (Option.some (Jvm.ClassFile.FieldType.object "java/lang/String"))).before a0 Z = true := G.1 _ (List.mem_of_getElem? (i := 13) rfl)
theorem wd_14 {Z : State} {a0 : Array Value} (G : Glb Z a0) : (Jvm.Cond.fieldLink "java/lang/String" (38 : Nat) "java/lang/String" "COMPACT_STRINGS" "Z").before a0 Z = true := G.1 _ (List.mem_of_getElem? (i := 14) rfl)
theorem wd_15 {Z : State} {a0 : Array Value} (G : Glb Z a0) : (Jvm.Cond.methodLink "java/lang/String" (1015 : Nat) ({ cls := "java/lang/StringLatin1", name := "canEncode", desc := "(C)Z" } : Jvm.MethodName)).before a0 Z = true := G.1 _ (List.mem_of_getElem? (i := 15) rfl)
theorem wd_16 {Z : State} {a0 : Array Value} (G : Glb Z a0) : (Jvm.Cond.static ({ cls := "java/lang/StringLatin1", name := "canEncode", desc := "(C)Z" } : Jvm.MethodName)).before a0 Z = true := G.1 _ (List.mem_of_getElem? (i := 16) rfl)
theorem wd_17 {Z : State} {a0 : Array Value} (G : Glb Z a0) : (Jvm.Cond.initialized "java/lang/StringLatin1").before a0 Z = true := G.1 _ (List.mem_of_getElem? (i := 17) rfl)
theorem wd_18 {Z : State} {a0 : Array Value} (G : Glb Z a0) : (Jvm.Cond.code ({ cls := "java/lang/StringLatin1", name := "canEncode", desc := "(C)Z" } : Jvm.MethodName) jdk_43_method_3_code (1 : Nat) (Option.some Jvm.ClassFile.FieldType.boolean)).before a0 Z = true := G.1 _ (List.mem_of_getElem? (i := 18) rfl)
theorem wd_19 {Z : State} {a0 : Array Value} (G : Glb Z a0) : (Jvm.Cond.classLink "java/lang/String" (10 : Nat) "java/lang/String").before a0 Z = true := G.1 _ (List.mem_of_getElem? (i := 19) rfl)
theorem wd_20 {Z : State} {a0 : Array Value} (G : Glb Z a0) : (Jvm.Cond.instantiable "java/lang/String" (4 : Nat)).before a0 Z = true := G.1 _ (List.mem_of_getElem? (i := 20) rfl)
theorem wd_21 {Z : State} {a0 : Array Value} (G : Glb Z a0) : (Jvm.Cond.methodLink "java/lang/String" (1018 : Nat) ({ cls := "java/lang/StringLatin1", name := "toBytes", desc := "(C)[B" } : Jvm.MethodName)).before a0 Z = true := G.1 _ (List.mem_of_getElem? (i := 21) rfl)
theorem wd_22 {Z : State} {a0 : Array Value} (G : Glb Z a0) : (Jvm.Cond.static ({ cls := "java/lang/StringLatin1", name := "toBytes", desc := "(C)[B" } : Jvm.MethodName)).before a0 Z = true := G.1 _ (List.mem_of_getElem? (i := 22) rfl)
theorem wd_23 {Z : State} {a0 : Array Value} (G : Glb Z a0) : (Jvm.Cond.code ({ cls := "java/lang/StringLatin1", name := "toBytes", desc := "(C)[B" } : Jvm.MethodName) jdk_43_method_46_code (1 : Nat) (Option.some (Jvm.ClassFile.FieldType.array Jvm.ClassFile.FieldType.byte))).before a0 Z = true := G.1 _ (List.mem_of_getElem? (i := 23) rfl)
theorem wd_24 {Z : State} {a0 : Array Value} (G : Glb Z a0) : (Jvm.Cond.arrayClass Jvm.ClassFile.FieldType.byte).before a0 Z = true := G.1 _ (List.mem_of_getElem? (i := 24) rfl)
theorem wd_25 {Z : State} {a0 : Array Value} (G : Glb Z a0) : (Jvm.Cond.methodLink "java/lang/String" (209 : Nat) ({ cls := "java/lang/String", name := "<init>", desc := "([BB)V" } : Jvm.MethodName)).before a0 Z = true := G.1 _ (List.mem_of_getElem? (i := 25) rfl)
theorem wd_26 {Z : State} {a0 : Array Value} (G : Glb Z a0) : (Jvm.Cond.instanceMethod ({ cls := "java/lang/String", name := "<init>", desc := "([BB)V" } : Jvm.MethodName)).before a0 Z = true := G.1 _ (List.mem_of_getElem? (i := 26) rfl)
theorem wd_28 {Z : State} {a0 : Array Value} (G : Glb Z a0) : (Jvm.Cond.code ({ cls := "java/lang/String", name := "<init>", desc := "([BB)V" } : Jvm.MethodName) jdk_42_method_151_code (3 : Nat) (Option.none : Option Jvm.ClassFile.FieldType)).before a0 Z = true := G.1 _ (List.mem_of_getElem? (i := 28) rfl)
theorem wd_29 {Z : State} {a0 : Array Value} (G : Glb Z a0) : (Jvm.Cond.methodLink "java/lang/String" (1 : Nat) ({ cls := "java/lang/Object", name := "<init>", desc := "()V" } : Jvm.MethodName)).before a0 Z = true := G.1 _ (List.mem_of_getElem? (i := 29) rfl)
theorem wd_30 {Z : State} {a0 : Array Value} (G : Glb Z a0) : (Jvm.Cond.instanceMethod ({ cls := "java/lang/Object", name := "<init>", desc := "()V" } : Jvm.MethodName)).before a0 Z = true := G.1 _ (List.mem_of_getElem? (i := 30) rfl)
theorem wd_31 {Z : State} {a0 : Array Value} (G : Glb Z a0) : (Jvm.Cond.code ({ cls := "java/lang/Object", name := "<init>", desc := "()V" } : Jvm.MethodName) object_method_1_code (1 : Nat) (Option.none : Option Jvm.ClassFile.FieldType)).before a0 Z = true := G.1 _ (List.mem_of_getElem? (i := 31) rfl)
theorem wd_32 {Z : State} {a0 : Array Value} (G : Glb Z a0) : (Jvm.Cond.fieldLink "java/lang/String" (9 : Nat) "java/lang/String" "value" "[B").before a0 Z = true := G.1 _ (List.mem_of_getElem? (i := 32) rfl)
theorem wd_33 {Z : State} {a0 : Array Value} (G : Glb Z a0) : (Jvm.Cond.laysFinal "java/lang/String" "java/lang/String" "value" "[B").before a0 Z = true := G.1 _ (List.mem_of_getElem? (i := 33) rfl)
theorem wd_34 {Z : State} {a0 : Array Value} (G : Glb Z a0) : (Jvm.Cond.fieldLink "java/lang/String" (15 : Nat) "java/lang/String" "coder" "B").before a0 Z = true := G.1 _ (List.mem_of_getElem? (i := 34) rfl)
theorem wd_35 {Z : State} {a0 : Array Value} (G : Glb Z a0) : (Jvm.Cond.laysFinal "java/lang/String" "java/lang/String" "coder" "B").before a0 Z = true := G.1 _ (List.mem_of_getElem? (i := 35) rfl)
theorem wd_36 {Z : State} {a0 : Array Value} (G : Glb Z a0) : (Jvm.Cond.classLink "com/example/onepass/onepass/model/FieldsGetPinLaw" (15 : Nat) "java/lang/String").before a0 Z = true := G.1 _ (List.mem_of_getElem? (i := 36) rfl)
theorem wd_37 {Z : State} {a0 : Array Value} (G : Glb Z a0) : (Jvm.Cond.methodLink "com/example/onepass/onepass/model/FieldsGetPinLaw" (20 : Nat) ({ cls := "java/lang/String", name := "<init>", desc := "([C)V" } : Jvm.MethodName)).before a0 Z = true := G.1 _ (List.mem_of_getElem? (i := 37) rfl)
theorem wd_38 {Z : State} {a0 : Array Value} (G : Glb Z a0) : (Jvm.Cond.instanceMethod ({ cls := "java/lang/String", name := "<init>", desc := "([C)V" } : Jvm.MethodName)).before a0 Z = true := G.1 _ (List.mem_of_getElem? (i := 38) rfl)
theorem wd_39 {Z : State} {a0 : Array Value} (G : Glb Z a0) : (Jvm.Cond.code ({ cls := "java/lang/String", name := "<init>", desc := "([C)V" } : Jvm.MethodName) jdk_42_method_3_code (2 : Nat) (Option.none : Option Jvm.ClassFile.FieldType)).before a0 Z = true := G.1 _ (List.mem_of_getElem? (i := 39) rfl)
theorem wd_40 {Z : State} {a0 : Array Value} (G : Glb Z a0) : (Jvm.Cond.methodLink "java/lang/String" (27 : Nat) ({ cls := "java/lang/String", name := "<init>", desc := "([CIILjava/lang/Void;)V" } : Jvm.MethodName)).before a0 Z = true := G.1 _ (List.mem_of_getElem? (i := 40) rfl)
theorem wd_41 {Z : State} {a0 : Array Value} (G : Glb Z a0) : (Jvm.Cond.instanceMethod ({ cls := "java/lang/String", name := "<init>", desc := "([CIILjava/lang/Void;)V" } : Jvm.MethodName)).before a0 Z = true := G.1 _ (List.mem_of_getElem? (i := 41) rfl)
theorem wd_42 {Z : State} {a0 : Array Value} (G : Glb Z a0) : (Jvm.Cond.code ({ cls := "java/lang/String", name := "<init>", desc := "([CIILjava/lang/Void;)V" } : Jvm.MethodName) jdk_42_method_149_code (6 : Nat) (Option.none : Option Jvm.ClassFile.FieldType)).before a0 Z = true := G.1 _ (List.mem_of_getElem? (i := 42) rfl)
theorem wd_43 {Z : State} {a0 : Array Value} (G : Glb Z a0) : (Jvm.Cond.methodLink "java/lang/String" (177 : Nat) ({ cls := "java/lang/StringUTF16", name := "compress", desc := "([CII)[B" } : Jvm.MethodName)).before a0 Z = true := G.1 _ (List.mem_of_getElem? (i := 43) rfl)
theorem wd_44 {Z : State} {a0 : Array Value} (G : Glb Z a0) : (Jvm.Cond.static ({ cls := "java/lang/StringUTF16", name := "compress", desc := "([CII)[B" } : Jvm.MethodName)).before a0 Z = true := G.1 _ (List.mem_of_getElem? (i := 44) rfl)
theorem wd_45 {Z : State} {a0 : Array Value} (G : Glb Z a0) : (Jvm.Cond.initialized "java/lang/StringUTF16").before a0 Z = true := G.1 _ (List.mem_of_getElem? (i := 45) rfl)
theorem wd_46 {Z : State} {a0 : Array Value} (G : Glb Z a0) : (Jvm.Cond.code ({ cls := "java/lang/StringUTF16", name := "compress", desc := "([CII)[B" } : Jvm.MethodName) jdk_52_method_16_code (6 : Nat) (Option.some (Jvm.ClassFile.FieldType.array Jvm.ClassFile.FieldType.byte))).before a0 Z = true := G.1 _ (List.mem_of_getElem? (i := 46) rfl)
theorem wd_47 {Z : State} {a0 : Array Value} (G : Glb Z a0) : (Jvm.Cond.methodLink "java/lang/StringUTF16" (115 : Nat) ({ cls := "java/lang/StringUTF16", name := "compress", desc := "([CI[BII)I" } : Jvm.MethodName)).before a0 Z = true := G.1 _ (List.mem_of_getElem? (i := 47) rfl)
theorem wd_48 {Z : State} {a0 : Array Value} (G : Glb Z a0) : (Jvm.Cond.static ({ cls := "java/lang/StringUTF16", name := "compress", desc := "([CI[BII)I" } : Jvm.MethodName)).before a0 Z = true := G.1 _ (List.mem_of_getElem? (i := 48) rfl)
theorem wd_49 {Z : State} {a0 : Array Value} (G : Glb Z a0) : (Jvm.Cond.code ({ cls := "java/lang/StringUTF16", name := "compress", desc := "([CI[BII)I" } : Jvm.MethodName) jdk_52_method_21_code (7 : Nat) (Option.some Jvm.ClassFile.FieldType.int)).before a0 Z = true := G.1 _ (List.mem_of_getElem? (i := 49) rfl)
theorem wd_50 {Z : State} {a0 : Array Value} (G : Glb Z a0) : (Jvm.Cond.methodLink "java/lang/String" (47 : Nat) ({ cls := "java/lang/StringUTF16", name := "coderFromArrayLen", desc := "([BI)B" } : Jvm.MethodName)).before a0 Z = true := G.1 _ (List.mem_of_getElem? (i := 50) rfl)
theorem wd_51 {Z : State} {a0 : Array Value} (G : Glb Z a0) : (Jvm.Cond.static ({ cls := "java/lang/StringUTF16", name := "coderFromArrayLen", desc := "([BI)B" } : Jvm.MethodName)).before a0 Z = true := G.1 _ (List.mem_of_getElem? (i := 51) rfl)
theorem wd_52 {Z : State} {a0 : Array Value} (G : Glb Z a0) : (Jvm.Cond.code ({ cls := "java/lang/StringUTF16", name := "coderFromArrayLen", desc := "([BI)B" } : Jvm.MethodName) jdk_52_method_15_code (2 : Nat) (Option.some Jvm.ClassFile.FieldType.byte)).before a0 Z = true := G.1 _ (List.mem_of_getElem? (i := 52) rfl)
theorem wd_53 {Z : State} {a0 : Array Value} (G : Glb Z a0) : (Jvm.Cond.classLink "com/example/onepass/onepass/model/FieldsGetPinLaw" (23 : Nat) "com/example/onepass/onepass/model/Fields").before a0 Z = true := G.1 _ (List.mem_of_getElem? (i := 53) rfl)
theorem wd_54 {Z : State} {a0 : Array Value} (G : Glb Z a0) : (Jvm.Cond.instantiable "com/example/onepass/onepass/model/Fields" (6 : Nat)).before a0 Z = true := G.1 _ (List.mem_of_getElem? (i := 54) rfl)
theorem wd_55 {Z : State} {a0 : Array Value} (G : Glb Z a0) : (Jvm.Cond.initialized "com/example/onepass/onepass/model/Fields").before a0 Z = true := G.1 _ (List.mem_of_getElem? (i := 55) rfl)
theorem wd_56 {Z : State} {a0 : Array Value} (G : Glb Z a0) : (Jvm.Cond.methodLink "com/example/onepass/onepass/model/FieldsGetPinLaw" (25 : Nat) ({ cls := "com/example/onepass/onepass/model/Fields", name := "<init>", desc := "(Ljava/lang/String;I)V" } : Jvm.MethodName)).before a0 Z = true := G.1 _ (List.mem_of_getElem? (i := 56) rfl)
theorem wd_57 {Z : State} {a0 : Array Value} (G : Glb Z a0) : (Jvm.Cond.instanceMethod ({ cls := "com/example/onepass/onepass/model/Fields", name := "<init>", desc := "(Ljava/lang/String;I)V" } : Jvm.MethodName)).before a0 Z = true := G.1 _ (List.mem_of_getElem? (i := 57) rfl)
theorem wd_58 {Z : State} {a0 : Array Value} (G : Glb Z a0) : (Jvm.Cond.code ({ cls := "com/example/onepass/onepass/model/Fields", name := "<init>", desc := "(Ljava/lang/String;I)V" } : Jvm.MethodName) prog_71_method_1_code (3 : Nat) (Option.none : Option Jvm.ClassFile.FieldType)).before a0 Z = true := G.1 _ (List.mem_of_getElem? (i := 58) rfl)
theorem wd_59 {Z : State} {a0 : Array Value} (G : Glb Z a0) : (Jvm.Cond.methodLink "com/example/onepass/onepass/model/Fields" (1 : Nat) ({ cls := "java/lang/Object", name := "<init>", desc := "()V" } : Jvm.MethodName)).before a0 Z = true := G.1 _ (List.mem_of_getElem? (i := 59) rfl)
set_option maxRecDepth 65536 in
theorem wd_60 {Z : State} {a0 : Array Value} (G : Glb Z a0) : (Jvm.Cond.stringLink "com/example/onepass/onepass/model/Fields" (7 : Nat) (txtAt 60)).before a0 Z = true := G.1 _ (List.mem_of_getElem? (i := 60) rfl)
theorem wd_63 {Z : State} {a0 : Array Value} (G : Glb Z a0) : (Jvm.Cond.fieldLink "com/example/onepass/onepass/model/Fields" (9 : Nat) "com/example/onepass/onepass/model/Fields" "line" "Ljava/lang/String;").before a0 Z = true := G.1 _ (List.mem_of_getElem? (i := 63) rfl)
theorem wd_64 {Z : State} {a0 : Array Value} (G : Glb Z a0) : (Jvm.Cond.lays "com/example/onepass/onepass/model/Fields" "com/example/onepass/onepass/model/Fields" "line" "Ljava/lang/String;").before a0 Z = true := G.1 _ (List.mem_of_getElem? (i := 64) rfl)
theorem wd_65 {Z : State} {a0 : Array Value} (G : Glb Z a0) : (Jvm.Cond.arrayClass Jvm.ClassFile.FieldType.int).before a0 Z = true := G.1 _ (List.mem_of_getElem? (i := 65) rfl)
theorem wd_66 {Z : State} {a0 : Array Value} (G : Glb Z a0) : (Jvm.Cond.fieldLink "com/example/onepass/onepass/model/Fields" (15 : Nat) "com/example/onepass/onepass/model/Fields" "starts" "[I").before a0 Z = true := G.1 _ (List.mem_of_getElem? (i := 66) rfl)
theorem wd_67 {Z : State} {a0 : Array Value} (G : Glb Z a0) : (Jvm.Cond.lays "com/example/onepass/onepass/model/Fields" "com/example/onepass/onepass/model/Fields" "starts" "[I").before a0 Z = true := G.1 _ (List.mem_of_getElem? (i := 67) rfl)
theorem wd_68 {Z : State} {a0 : Array Value} (G : Glb Z a0) : (Jvm.Cond.fieldLink "com/example/onepass/onepass/model/Fields" (19 : Nat) "com/example/onepass/onepass/model/Fields" "ends" "[I").before a0 Z = true := G.1 _ (List.mem_of_getElem? (i := 68) rfl)
theorem wd_69 {Z : State} {a0 : Array Value} (G : Glb Z a0) : (Jvm.Cond.lays "com/example/onepass/onepass/model/Fields" "com/example/onepass/onepass/model/Fields" "ends" "[I").before a0 Z = true := G.1 _ (List.mem_of_getElem? (i := 69) rfl)
theorem wd_70 {Z : State} {a0 : Array Value} (G : Glb Z a0) : (Jvm.Cond.fieldLink "com/example/onepass/onepass/model/Fields" (22 : Nat) "com/example/onepass/onepass/model/Fields" "delimiter" "Ljava/lang/String;").before a0 Z = true := G.1 _ (List.mem_of_getElem? (i := 70) rfl)
theorem wd_71 {Z : State} {a0 : Array Value} (G : Glb Z a0) : (Jvm.Cond.laysFinal "com/example/onepass/onepass/model/Fields" "com/example/onepass/onepass/model/Fields" "delimiter" "Ljava/lang/String;").before a0 Z = true := G.1 _ (List.mem_of_getElem? (i := 71) rfl)
theorem wd_72 {Z : State} {a0 : Array Value} (G : Glb Z a0) : (Jvm.Cond.fieldLink "com/example/onepass/onepass/model/Fields" (25 : Nat) "com/example/onepass/onepass/model/Fields" "lastNeeded" "I").before a0 Z = true := G.1 _ (List.mem_of_getElem? (i := 72) rfl)
theorem wd_73 {Z : State} {a0 : Array Value} (G : Glb Z a0) : (Jvm.Cond.laysFinal "com/example/onepass/onepass/model/Fields" "com/example/onepass/onepass/model/Fields" "lastNeeded" "I").before a0 Z = true := G.1 _ (List.mem_of_getElem? (i := 73) rfl)
theorem wd_74 {Z : State} {a0 : Array Value} (G : Glb Z a0) : (Jvm.Cond.methodLink "com/example/onepass/onepass/model/FieldsGetPinLaw" (28 : Nat) ({ cls := "com/example/onepass/onepass/model/Fields", name := "cut", desc := "(Ljava/lang/String;)V" } : Jvm.MethodName)).before a0 Z = true := G.1 _ (List.mem_of_getElem? (i := 74) rfl)
theorem wd_75 {Z : State} {a0 : Array Value} (G : Glb Z a0) : (Jvm.Cond.declares ({ cls := "com/example/onepass/onepass/model/Fields", name := "cut", desc := "(Ljava/lang/String;)V" } : Jvm.MethodName)).before a0 Z = true := G.1 _ (List.mem_of_getElem? (i := 75) rfl)
theorem wd_76 {Z : State} {a0 : Array Value} (G : Glb Z a0) : (Jvm.Cond.instanceMethod ({ cls := "com/example/onepass/onepass/model/Fields", name := "cut", desc := "(Ljava/lang/String;)V" } : Jvm.MethodName)).before a0 Z = true := G.1 _ (List.mem_of_getElem? (i := 76) rfl)
theorem wd_77 {Z : State} {a0 : Array Value} (G : Glb Z a0) : (Jvm.Cond.selects "com/example/onepass/onepass/model/Fields" ({ cls := "com/example/onepass/onepass/model/Fields", name := "cut", desc := "(Ljava/lang/String;)V" } : Jvm.MethodName) ({ cls := "com/example/onepass/onepass/model/Fields", name := "cut", desc := "(Ljava/lang/String;)V" } : Jvm.MethodName)).before a0 Z = true := G.1 _ (List.mem_of_getElem? (i := 77) rfl)
theorem wd_78 {Z : State} {a0 : Array Value} (G : Glb Z a0) : (Jvm.Cond.code ({ cls := "com/example/onepass/onepass/model/Fields", name := "cut", desc := "(Ljava/lang/String;)V" } : Jvm.MethodName) prog_71_method_3_code (4 : Nat) (Option.none : Option Jvm.ClassFile.FieldType)).before a0 Z = true := G.1 _ (List.mem_of_getElem? (i := 78) rfl)
theorem wd_79 {Z : State} {a0 : Array Value} (G : Glb Z a0) : (Jvm.Cond.fieldLink "com/example/onepass/onepass/model/Fields" (65 : Nat) "com/example/onepass/onepass/model/Fields" "count" "I").before a0 Z = true := G.1 _ (List.mem_of_getElem? (i := 79) rfl)
theorem wd_80 {Z : State} {a0 : Array Value} (G : Glb Z a0) : (Jvm.Cond.lays "com/example/onepass/onepass/model/Fields" "com/example/onepass/onepass/model/Fields" "count" "I").before a0 Z = true := G.1 _ (List.mem_of_getElem? (i := 80) rfl)
theorem wd_81 {Z : State} {a0 : Array Value} (G : Glb Z a0) : (Jvm.Cond.methodLink "com/example/onepass/onepass/model/Fields" (68 : Nat) ({ cls := "java/lang/String", name := "indexOf", desc := "(Ljava/lang/String;I)I" } : Jvm.MethodName)).before a0 Z = true := G.1 _ (List.mem_of_getElem? (i := 81) rfl)
theorem wd_82 {Z : State} {a0 : Array Value} (G : Glb Z a0) : (Jvm.Cond.declares ({ cls := "java/lang/String", name := "indexOf", desc := "(Ljava/lang/String;I)I" } : Jvm.MethodName)).before a0 Z = true := G.1 _ (List.mem_of_getElem? (i := 82) rfl)
theorem wd_83 {Z : State} {a0 : Array Value} (G : Glb Z a0) : (Jvm.Cond.instanceMethod ({ cls := "java/lang/String", name := "indexOf", desc := "(Ljava/lang/String;I)I" } : Jvm.MethodName)).before a0 Z = true := G.1 _ (List.mem_of_getElem? (i := 83) rfl)
theorem wd_84 {Z : State} {a0 : Array Value} (G : Glb Z a0) : (Jvm.Cond.selects "java/lang/String" ({ cls := "java/lang/String", name := "indexOf", desc := "(Ljava/lang/String;I)I" } : Jvm.MethodName) ({ cls := "java/lang/String", name := "indexOf", desc := "(Ljava/lang/String;I)I" } : Jvm.MethodName)).before a0 Z = true := G.1 _ (List.mem_of_getElem? (i := 84) rfl)
theorem wd_85 {Z : State} {a0 : Array Value} (G : Glb Z a0) : (Jvm.Cond.code ({ cls := "java/lang/String", name := "indexOf", desc := "(Ljava/lang/String;I)I" } : Jvm.MethodName) jdk_42_method_85_code (3 : Nat) (Option.some Jvm.ClassFile.FieldType.int)).before a0 Z = true := G.1 _ (List.mem_of_getElem? (i := 85) rfl)
theorem wd_86 {Z : State} {a0 : Array Value} (G : Glb Z a0) : (Jvm.Cond.methodLink "java/lang/String" (335 : Nat) ({ cls := "java/lang/String", name := "coder", desc := "()B" } : Jvm.MethodName)).before a0 Z = true := G.1 _ (List.mem_of_getElem? (i := 86) rfl)
theorem wd_87 {Z : State} {a0 : Array Value} (G : Glb Z a0) : (Jvm.Cond.declares ({ cls := "java/lang/String", name := "coder", desc := "()B" } : Jvm.MethodName)).before a0 Z = true := G.1 _ (List.mem_of_getElem? (i := 87) rfl)
theorem wd_88 {Z : State} {a0 : Array Value} (G : Glb Z a0) : (Jvm.Cond.instanceMethod ({ cls := "java/lang/String", name := "coder", desc := "()B" } : Jvm.MethodName)).before a0 Z = true := G.1 _ (List.mem_of_getElem? (i := 88) rfl)
theorem wd_89 {Z : State} {a0 : Array Value} (G : Glb Z a0) : (Jvm.Cond.selects "java/lang/String" ({ cls := "java/lang/String", name := "coder", desc := "()B" } : Jvm.MethodName) ({ cls := "java/lang/String", name := "coder", desc := "()B" } : Jvm.MethodName)).before a0 Z = true := G.1 _ (List.mem_of_getElem? (i := 89) rfl)
theorem wd_90 {Z : State} {a0 : Array Value} (G : Glb Z a0) : (Jvm.Cond.code ({ cls := "java/lang/String", name := "coder", desc := "()B" } : Jvm.MethodName) jdk_42_method_152_code (1 : Nat) (Option.some Jvm.ClassFile.FieldType.byte)).before a0 Z = true := G.1 _ (List.mem_of_getElem? (i := 90) rfl)
theorem wd_91 {Z : State} {a0 : Array Value} (G : Glb Z a0) : (Jvm.Cond.methodLink "java/lang/String" (505 : Nat) ({ cls := "java/lang/String", name := "length", desc := "()I" } : Jvm.MethodName)).before a0 Z = true := G.1 _ (List.mem_of_getElem? (i := 91) rfl)
theorem wd_92 {Z : State} {a0 : Array Value} (G : Glb Z a0) : (Jvm.Cond.declares ({ cls := "java/lang/String", name := "length", desc := "()I" } : Jvm.MethodName)).before a0 Z = true := G.1 _ (List.mem_of_getElem? (i := 92) rfl)
theorem wd_93 {Z : State} {a0 : Array Value} (G : Glb Z a0) : (Jvm.Cond.instanceMethod ({ cls := "java/lang/String", name := "length", desc := "()I" } : Jvm.MethodName)).before a0 Z = true := G.1 _ (List.mem_of_getElem? (i := 93) rfl)
theorem wd_94 {Z : State} {a0 : Array Value} (G : Glb Z a0) : (Jvm.Cond.selects "java/lang/String" ({ cls := "java/lang/String", name := "length", desc := "()I" } : Jvm.MethodName) ({ cls := "java/lang/String", name := "length", desc := "()I" } : Jvm.MethodName)).before a0 Z = true := G.1 _ (List.mem_of_getElem? (i := 94) rfl)
theorem wd_95 {Z : State} {a0 : Array Value} (G : Glb Z a0) : (Jvm.Cond.code ({ cls := "java/lang/String", name := "length", desc := "()I" } : Jvm.MethodName) jdk_42_method_54_code (1 : Nat) (Option.some Jvm.ClassFile.FieldType.int)).before a0 Z = true := G.1 _ (List.mem_of_getElem? (i := 95) rfl)
theorem wd_96 {Z : State} {a0 : Array Value} (G : Glb Z a0) : (Jvm.Cond.methodLink "java/lang/String" (653 : Nat) ({ cls := "java/lang/String", name := "indexOf", desc := "([BBILjava/lang/String;I)I" } : Jvm.MethodName)).before a0 Z = true := G.1 _ (List.mem_of_getElem? (i := 96) rfl)
theorem wd_97 {Z : State} {a0 : Array Value} (G : Glb Z a0) : (Jvm.Cond.static ({ cls := "java/lang/String", name := "indexOf", desc := "([BBILjava/lang/String;I)I" } : Jvm.MethodName)).before a0 Z = true := G.1 _ (List.mem_of_getElem? (i := 97) rfl)
theorem wd_98 {Z : State} {a0 : Array Value} (G : Glb Z a0) : (Jvm.Cond.code ({ cls := "java/lang/String", name := "indexOf", desc := "([BBILjava/lang/String;I)I" } : Jvm.MethodName) jdk_42_method_87_code (8 : Nat) (Option.some Jvm.ClassFile.FieldType.int)).before a0 Z = true := G.1 _ (List.mem_of_getElem? (i := 98) rfl)
theorem wd_99 {Z : State} {a0 : Array Value} (G : Glb Z a0) : (Jvm.Cond.methodLink "java/lang/String" (659 : Nat) ({ cls := "java/lang/Math", name := "clamp", desc := "(JII)I" } : Jvm.MethodName)).before a0 Z = true := G.1 _ (List.mem_of_getElem? (i := 99) rfl)
theorem wd_100 {Z : State} {a0 : Array Value} (G : Glb Z a0) : (Jvm.Cond.static ({ cls := "java/lang/Math", name := "clamp", desc := "(JII)I" } : Jvm.MethodName)).before a0 Z = true := G.1 _ (List.mem_of_getElem? (i := 100) rfl)
theorem wd_101 {Z : State} {a0 : Array Value} (G : Glb Z a0) : (Jvm.Cond.initialized "java/lang/Math").before a0 Z = true := G.1 _ (List.mem_of_getElem? (i := 101) rfl)
theorem wd_102 {Z : State} {a0 : Array Value} (G : Glb Z a0) : (Jvm.Cond.code ({ cls := "java/lang/Math", name := "clamp", desc := "(JII)I" } : Jvm.MethodName) jdk_29_method_73_code (4 : Nat) (Option.some Jvm.ClassFile.FieldType.int)).before a0 Z = true := G.1 _ (List.mem_of_getElem? (i := 102) rfl)
theorem wd_103 {Z : State} {a0 : Array Value} (G : Glb Z a0) : (Jvm.Cond.methodLink "java/lang/Math" (196 : Nat) ({ cls := "java/lang/Math", name := "max", desc := "(JJ)J" } : Jvm.MethodName)).before a0 Z = true := G.1 _ (List.mem_of_getElem? (i := 103) rfl)
theorem wd_104 {Z : State} {a0 : Array Value} (G : Glb Z a0) : (Jvm.Cond.static ({ cls := "java/lang/Math", name := "max", desc := "(JJ)J" } : Jvm.MethodName)).before a0 Z = true := G.1 _ (List.mem_of_getElem? (i := 104) rfl)
theorem wd_105 {Z : State} {a0 : Array Value} (G : Glb Z a0) : (Jvm.Cond.code ({ cls := "java/lang/Math", name := "max", desc := "(JJ)J" } : Jvm.MethodName) jdk_29_method_66_code (4 : Nat) (Option.some Jvm.ClassFile.FieldType.long)).before a0 Z = true := G.1 _ (List.mem_of_getElem? (i := 105) rfl)
theorem wd_106 {Z : State} {a0 : Array Value} (G : Glb Z a0) : (Jvm.Cond.methodLink "java/lang/Math" (199 : Nat) ({ cls := "java/lang/Math", name := "min", desc := "(JJ)J" } : Jvm.MethodName)).before a0 Z = true := G.1 _ (List.mem_of_getElem? (i := 106) rfl)
theorem wd_107 {Z : State} {a0 : Array Value} (G : Glb Z a0) : (Jvm.Cond.static ({ cls := "java/lang/Math", name := "min", desc := "(JJ)J" } : Jvm.MethodName)).before a0 Z = true := G.1 _ (List.mem_of_getElem? (i := 107) rfl)
theorem wd_108 {Z : State} {a0 : Array Value} (G : Glb Z a0) : (Jvm.Cond.code ({ cls := "java/lang/Math", name := "min", desc := "(JJ)J" } : Jvm.MethodName) jdk_29_method_70_code (4 : Nat) (Option.some Jvm.ClassFile.FieldType.long)).before a0 Z = true := G.1 _ (List.mem_of_getElem? (i := 108) rfl)
theorem wd_109 {Z : State} {a0 : Array Value} (G : Glb Z a0) : (Jvm.Cond.methodLink "java/lang/String" (665 : Nat) ({ cls := "java/lang/StringLatin1", name := "indexOf", desc := "([BI[BII)I" } : Jvm.MethodName)).before a0 Z = true := G.1 _ (List.mem_of_getElem? (i := 109) rfl)
theorem wd_110 {Z : State} {a0 : Array Value} (G : Glb Z a0) : (Jvm.Cond.static ({ cls := "java/lang/StringLatin1", name := "indexOf", desc := "([BI[BII)I" } : Jvm.MethodName)).before a0 Z = true := G.1 _ (List.mem_of_getElem? (i := 110) rfl)
theorem wd_111 {Z : State} {a0 : Array Value} (G : Glb Z a0) : (Jvm.Cond.code ({ cls := "java/lang/StringLatin1", name := "indexOf", desc := "([BI[BII)I" } : Jvm.MethodName) jdk_43_method_25_code (11 : Nat) (Option.some Jvm.ClassFile.FieldType.int)).before a0 Z = true := G.1 _ (List.mem_of_getElem? (i := 111) rfl)
theorem wd_112 {Z : State} {a0 : Array Value} (G : Glb Z a0) : (Jvm.Cond.methodLink "com/example/onepass/onepass/model/Fields" (90 : Nat) ({ cls := "com/example/onepass/onepass/model/Fields", name := "add", desc := "(II)V" } : Jvm.MethodName)).before a0 Z = true := G.1 _ (List.mem_of_getElem? (i := 112) rfl)
theorem wd_113 {Z : State} {a0 : Array Value} (G : Glb Z a0) : (Jvm.Cond.instanceMethod ({ cls := "com/example/onepass/onepass/model/Fields", name := "add", desc := "(II)V" } : Jvm.MethodName)).before a0 Z = true := G.1 _ (List.mem_of_getElem? (i := 113) rfl)
theorem wd_114 {Z : State} {a0 : Array Value} (G : Glb Z a0) : (Jvm.Cond.privateMethod ({ cls := "com/example/onepass/onepass/model/Fields", name := "add", desc := "(II)V" } : Jvm.MethodName)).before a0 Z = true := G.1 _ (List.mem_of_getElem? (i := 114) rfl)
theorem wd_115 {Z : State} {a0 : Array Value} (G : Glb Z a0) : (Jvm.Cond.code ({ cls := "com/example/onepass/onepass/model/Fields", name := "add", desc := "(II)V" } : Jvm.MethodName) prog_71_method_4_code (3 : Nat) (Option.none : Option Jvm.ClassFile.FieldType)).before a0 Z = true := G.1 _ (List.mem_of_getElem? (i := 115) rfl)
theorem wd_116 {Z : State} {a0 : Array Value} (G : Glb Z a0) : (Jvm.Cond.methodLink "com/example/onepass/onepass/model/Fields" (87 : Nat) ({ cls := "java/lang/String", name := "length", desc := "()I" } : Jvm.MethodName)).before a0 Z = true := G.1 _ (List.mem_of_getElem? (i := 116) rfl)
theorem wd_117 {Z : State} {a0 : Array Value} (G : Glb Z a0) : (Jvm.Cond.methodLink "com/example/onepass/onepass/model/FieldsGetPinLaw" (32 : Nat) ({ cls := "com/example/onepass/onepass/model/Fields", name := "get", desc := "(I)Ljava/lang/String;" } : Jvm.MethodName)).before a0 Z = true := G.1 _ (List.mem_of_getElem? (i := 117) rfl)
theorem wd_118 {Z : State} {a0 : Array Value} (G : Glb Z a0) : (Jvm.Cond.declares ({ cls := "com/example/onepass/onepass/model/Fields", name := "get", desc := "(I)Ljava/lang/String;" } : Jvm.MethodName)).before a0 Z = true := G.1 _ (List.mem_of_getElem? (i := 118) rfl)
theorem wd_119 {Z : State} {a0 : Array Value} (G : Glb Z a0) : (Jvm.Cond.instanceMethod ({ cls := "com/example/onepass/onepass/model/Fields", name := "get", desc := "(I)Ljava/lang/String;" } : Jvm.MethodName)).before a0 Z = true := G.1 _ (List.mem_of_getElem? (i := 119) rfl)
theorem wd_120 {Z : State} {a0 : Array Value} (G : Glb Z a0) : (Jvm.Cond.selects "com/example/onepass/onepass/model/Fields" ({ cls := "com/example/onepass/onepass/model/Fields", name := "get", desc := "(I)Ljava/lang/String;" } : Jvm.MethodName) ({ cls := "com/example/onepass/onepass/model/Fields", name := "get", desc := "(I)Ljava/lang/String;" } : Jvm.MethodName)).before a0 Z = true := G.1 _ (List.mem_of_getElem? (i := 120) rfl)
theorem wd_121 {Z : State} {a0 : Array Value} (G : Glb Z a0) : (Jvm.Cond.code ({ cls := "com/example/onepass/onepass/model/Fields", name := "get", desc := "(I)Ljava/lang/String;" } : Jvm.MethodName) prog_71_method_5_code (2 : Nat) (Option.some (Jvm.ClassFile.FieldType.object "java/lang/String"))).before a0 Z = true := G.1 _ (List.mem_of_getElem? (i := 121) rfl)
theorem wd_122 {Z : State} {a0 : Array Value} (G : Glb Z a0) : (Jvm.Cond.methodLink "com/example/onepass/onepass/model/Fields" (100 : Nat) ({ cls := "java/lang/String", name := "substring", desc := "(II)Ljava/lang/String;" } : Jvm.MethodName)).before a0 Z = true := G.1 _ (List.mem_of_getElem? (i := 122) rfl)
theorem wd_123 {Z : State} {a0 : Array Value} (G : Glb Z a0) : (Jvm.Cond.declares ({ cls := "java/lang/String", name := "substring", desc := "(II)Ljava/lang/String;" } : Jvm.MethodName)).before a0 Z = true := G.1 _ (List.mem_of_getElem? (i := 123) rfl)
theorem wd_124 {Z : State} {a0 : Array Value} (G : Glb Z a0) : (Jvm.Cond.instanceMethod ({ cls := "java/lang/String", name := "substring", desc := "(II)Ljava/lang/String;" } : Jvm.MethodName)).before a0 Z = true := G.1 _ (List.mem_of_getElem? (i := 124) rfl)
theorem wd_125 {Z : State} {a0 : Array Value} (G : Glb Z a0) : (Jvm.Cond.selects "java/lang/String" ({ cls := "java/lang/String", name := "substring", desc := "(II)Ljava/lang/String;" } : Jvm.MethodName) ({ cls := "java/lang/String", name := "substring", desc := "(II)Ljava/lang/String;" } : Jvm.MethodName)).before a0 Z = true := G.1 _ (List.mem_of_getElem? (i := 125) rfl)
theorem wd_126 {Z : State} {a0 : Array Value} (G : Glb Z a0) : (Jvm.Cond.code ({ cls := "java/lang/String", name := "substring", desc := "(II)Ljava/lang/String;" } : Jvm.MethodName) jdk_42_method_92_code (5 : Nat) (Option.some (Jvm.ClassFile.FieldType.object "java/lang/String"))).before a0 Z = true := G.1 _ (List.mem_of_getElem? (i := 126) rfl)
theorem wd_127 {Z : State} {a0 : Array Value} (G : Glb Z a0) : (Jvm.Cond.methodLink "java/lang/String" (521 : Nat) ({ cls := "java/lang/String", name := "checkBoundsBeginEnd", desc := "(III)V" } : Jvm.MethodName)).before a0 Z = true := G.1 _ (List.mem_of_getElem? (i := 127) rfl)
theorem wd_128 {Z : State} {a0 : Array Value} (G : Glb Z a0) : (Jvm.Cond.static ({ cls := "java/lang/String", name := "checkBoundsBeginEnd", desc := "(III)V" } : Jvm.MethodName)).before a0 Z = true := G.1 _ (List.mem_of_getElem? (i := 128) rfl)
theorem wd_129 {Z : State} {a0 : Array Value} (G : Glb Z a0) : (Jvm.Cond.code ({ cls := "java/lang/String", name := "checkBoundsBeginEnd", desc := "(III)V" } : Jvm.MethodName) jdk_42_method_158_code (3 : Nat) (Option.none : Option Jvm.ClassFile.FieldType)).before a0 Z = true := G.1 _ (List.mem_of_getElem? (i := 129) rfl)
theorem wd_130 {Z : State} {a0 : Array Value} (G : Glb Z a0) : (Jvm.Cond.fieldLink "java/lang/String" (1053 : Nat) "jdk/internal/util/Preconditions" "SIOOBE_FORMATTER" "Ljava/util/function/BiFunction;").before a0 Z = true := G.1 _ (List.mem_of_getElem? (i := 130) rfl)
theorem wd_131 {Z : State} {a0 : Array Value} (G : Glb Z a0) : (Jvm.Cond.initialized "jdk/internal/util/Preconditions").before a0 Z = true := G.1 _ (List.mem_of_getElem? (i := 131) rfl)
theorem wd_132 {Z : State} {a0 : Array Value} (G : Glb Z a0) : (Jvm.Cond.methodLink "java/lang/String" (1062 : Nat) ({ cls := "jdk/internal/util/Preconditions", name := "checkFromToIndex", desc := "(IIILjava/util/function/BiFunction;)I" } : Jvm.MethodName)).before a0 Z = true := G.1 _ (List.mem_of_getElem? (i := 132) rfl)
theorem wd_133 {Z : State} {a0 : Array Value} (G : Glb Z a0) : (Jvm.Cond.static ({ cls := "jdk/internal/util/Preconditions", name := "checkFromToIndex", desc := "(IIILjava/util/function/BiFunction;)I" } : Jvm.MethodName)).before a0 Z = true := G.1 _ (List.mem_of_getElem? (i := 133) rfl)
theorem wd_134 {Z : State} {a0 : Array Value} (G : Glb Z a0) : (Jvm.Cond.code ({ cls := "jdk/internal/util/Preconditions", name := "checkFromToIndex", desc := "(IIILjava/util/function/BiFunction;)I" } : Jvm.MethodName) jdk_41_method_12_code (4 : Nat) (Option.some Jvm.ClassFile.FieldType.int)).before a0 Z = true := G.1 _ (List.mem_of_getElem? (i := 134) rfl)
theorem wd_135 {Z : State} {a0 : Array Value} (G : Glb Z a0) : (Jvm.Cond.methodLink "java/lang/String" (492 : Nat) ({ cls := "java/lang/String", name := "isLatin1", desc := "()Z" } : Jvm.MethodName)).before a0 Z = true := G.1 _ (List.mem_of_getElem? (i := 135) rfl)
theorem wd_136 {Z : State} {a0 : Array Value} (G : Glb Z a0) : (Jvm.Cond.declares ({ cls := "java/lang/String", name := "isLatin1", desc := "()Z" } : Jvm.MethodName)).before a0 Z = true := G.1 _ (List.mem_of_getElem? (i := 136) rfl)
theorem wd_137 {Z : State} {a0 : Array Value} (G : Glb Z a0) : (Jvm.Cond.instanceMethod ({ cls := "java/lang/String", name := "isLatin1", desc := "()Z" } : Jvm.MethodName)).before a0 Z = true := G.1 _ (List.mem_of_getElem? (i := 137) rfl)
theorem wd_138 {Z : State} {a0 : Array Value} (G : Glb Z a0) : (Jvm.Cond.selects "java/lang/String" ({ cls := "java/lang/String", name := "isLatin1", desc := "()Z" } : Jvm.MethodName) ({ cls := "java/lang/String", name := "isLatin1", desc := "()Z" } : Jvm.MethodName)).before a0 Z = true := G.1 _ (List.mem_of_getElem? (i := 138) rfl)
theorem wd_139 {Z : State} {a0 : Array Value} (G : Glb Z a0) : (Jvm.Cond.code ({ cls := "java/lang/String", name := "isLatin1", desc := "()Z" } : Jvm.MethodName) jdk_42_method_154_code (1 : Nat) (Option.some Jvm.ClassFile.FieldType.boolean)).before a0 Z = true := G.1 _ (List.mem_of_getElem? (i := 139) rfl)
theorem wd_140 {Z : State} {a0 : Array Value} (G : Glb Z a0) : (Jvm.Cond.methodLink "java/lang/String" (685 : Nat) ({ cls := "java/lang/StringLatin1", name := "newString", desc := "([BII)Ljava/lang/String;" } : Jvm.MethodName)).before a0 Z = true := G.1 _ (List.mem_of_getElem? (i := 140) rfl)
theorem wd_141 {Z : State} {a0 : Array Value} (G : Glb Z a0) : (Jvm.Cond.static ({ cls := "java/lang/StringLatin1", name := "newString", desc := "([BII)Ljava/lang/String;" } : Jvm.MethodName)).before a0 Z = true := G.1 _ (List.mem_of_getElem? (i := 141) rfl)
theorem wd_142 {Z : State} {a0 : Array Value} (G : Glb Z a0) : (Jvm.Cond.code ({ cls := "java/lang/StringLatin1", name := "newString", desc := "([BII)Ljava/lang/String;" } : Jvm.MethodName) jdk_43_method_47_code (3 : Nat) (Option.some (Jvm.ClassFile.FieldType.object "java/lang/String"))).before a0 Z = true := G.1 _ (List.mem_of_getElem? (i := 142) rfl)
theorem wd_143 {Z : State} {a0 : Array Value} (G : Glb Z a0) : (Jvm.Cond.classLink "java/lang/StringLatin1" (1 : Nat) "java/lang/String").before a0 Z = true := G.1 _ (List.mem_of_getElem? (i := 143) rfl)
theorem wd_144 {Z : State} {a0 : Array Value} (G : Glb Z a0) : (Jvm.Cond.methodLink "java/lang/StringLatin1" (232 : Nat) ({ cls := "java/util/Arrays", name := "copyOfRange", desc := "([BII)[B" } : Jvm.MethodName)).before a0 Z = true := G.1 _ (List.mem_of_getElem? (i := 144) rfl)
theorem wd_145 {Z : State} {a0 : Array Value} (G : Glb Z a0) : (Jvm.Cond.static ({ cls := "java/util/Arrays", name := "copyOfRange", desc := "([BII)[B" } : Jvm.MethodName)).before a0 Z = true := G.1 _ (List.mem_of_getElem? (i := 145) rfl)
theorem wd_146 {Z : State} {a0 : Array Value} (G : Glb Z a0) : (Jvm.Cond.initialized "java/util/Arrays").before a0 Z = true := G.1 _ (List.mem_of_getElem? (i := 146) rfl)
theorem wd_147 {Z : State} {a0 : Array Value} (G : Glb Z a0) : (Jvm.Cond.code ({ cls := "java/util/Arrays", name := "copyOfRange", desc := "([BII)[B" } : Jvm.MethodName) jdk_65_method_132_code (3 : Nat) (Option.some (Jvm.ClassFile.FieldType.array Jvm.ClassFile.FieldType.byte))).before a0 Z = true := G.1 _ (List.mem_of_getElem? (i := 147) rfl)
theorem wd_148 {Z : State} {a0 : Array Value} (G : Glb Z a0) : (Jvm.Cond.methodLink "java/util/Arrays" (339 : Nat) ({ cls := "java/util/Arrays", name := "copyOfRangeByte", desc := "([BII)[B" } : Jvm.MethodName)).before a0 Z = true := G.1 _ (List.mem_of_getElem? (i := 148) rfl)
theorem wd_149 {Z : State} {a0 : Array Value} (G : Glb Z a0) : (Jvm.Cond.static ({ cls := "java/util/Arrays", name := "copyOfRangeByte", desc := "([BII)[B" } : Jvm.MethodName)).before a0 Z = true := G.1 _ (List.mem_of_getElem? (i := 149) rfl)
theorem wd_150 {Z : State} {a0 : Array Value} (G : Glb Z a0) : (Jvm.Cond.code ({ cls := "java/util/Arrays", name := "copyOfRangeByte", desc := "([BII)[B" } : Jvm.MethodName) jdk_65_method_133_code (5 : Nat) (Option.some (Jvm.ClassFile.FieldType.array Jvm.ClassFile.FieldType.byte))).before a0 Z = true := G.1 _ (List.mem_of_getElem? (i := 150) rfl)
theorem wd_151 {Z : State} {a0 : Array Value} (G : Glb Z a0) : (Jvm.Cond.methodLink "java/util/Arrays" (343 : Nat) ({ cls := "java/util/Arrays", name := "checkLength", desc := "(II)V" } : Jvm.MethodName)).before a0 Z = true := G.1 _ (List.mem_of_getElem? (i := 151) rfl)
theorem wd_152 {Z : State} {a0 : Array Value} (G : Glb Z a0) : (Jvm.Cond.static ({ cls := "java/util/Arrays", name := "checkLength", desc := "(II)V" } : Jvm.MethodName)).before a0 Z = true := G.1 _ (List.mem_of_getElem? (i := 152) rfl)
theorem wd_153 {Z : State} {a0 : Array Value} (G : Glb Z a0) : (Jvm.Cond.code ({ cls := "java/util/Arrays", name := "checkLength", desc := "(II)V" } : Jvm.MethodName) jdk_65_method_131_code (2 : Nat) (Option.none : Option Jvm.ClassFile.FieldType)).before a0 Z = true := G.1 _ (List.mem_of_getElem? (i := 153) rfl)
theorem wd_154 {Z : State} {a0 : Array Value} (G : Glb Z a0) : (Jvm.Cond.methodLink "java/util/Arrays" (304 : Nat) ({ cls := "java/lang/Math", name := "min", desc := "(II)I" } : Jvm.MethodName)).before a0 Z = true := G.1 _ (List.mem_of_getElem? (i := 154) rfl)
theorem wd_155 {Z : State} {a0 : Array Value} (G : Glb Z a0) : (Jvm.Cond.static ({ cls := "java/lang/Math", name := "min", desc := "(II)I" } : Jvm.MethodName)).before a0 Z = true := G.1 _ (List.mem_of_getElem? (i := 155) rfl)
theorem wd_156 {Z : State} {a0 : Array Value} (G : Glb Z a0) : (Jvm.Cond.code ({ cls := "java/lang/Math", name := "min", desc := "(II)I" } : Jvm.MethodName) jdk_29_method_69_code (2 : Nat) (Option.some Jvm.ClassFile.FieldType.int)).before a0 Z = true := G.1 _ (List.mem_of_getElem? (i := 156) rfl)
theorem wd_157 {Z : State} {a0 : Array Value} (G : Glb Z a0) : (Jvm.Cond.methodLink "java/util/Arrays" (150 : Nat) ({ cls := "java/lang/System", name := "arraycopy", desc := "(Ljava/lang/Object;ILjava/lang/Object;II)V" } : Jvm.MethodName)).before a0 Z = true := G.1 _ (List.mem_of_getElem? (i := 157) rfl)
theorem wd_158 {Z : State} {a0 : Array Value} (G : Glb Z a0) : (Jvm.Cond.static ({ cls := "java/lang/System", name := "arraycopy", desc := "(Ljava/lang/Object;ILjava/lang/Object;II)V" } : Jvm.MethodName)).before a0 Z = true := G.1 _ (List.mem_of_getElem? (i := 158) rfl)
theorem wd_159 {Z : State} {a0 : Array Value} (G : Glb Z a0) : (Jvm.Cond.initialized "java/lang/System").before a0 Z = true := G.1 _ (List.mem_of_getElem? (i := 159) rfl)
theorem wd_160 {Z : State} {a0 : Array Value} (G : Glb Z a0) : (Jvm.Cond.native ({ cls := "java/lang/System", name := "arraycopy", desc := "(Ljava/lang/Object;ILjava/lang/Object;II)V" } : Jvm.MethodName)).before a0 Z = true := G.1 _ (List.mem_of_getElem? (i := 160) rfl)
theorem wd_161 {Z : State} {a0 : Array Value} (G : Glb Z a0) : (Jvm.Cond.methodLink "java/lang/StringLatin1" (112 : Nat) ({ cls := "java/lang/String", name := "<init>", desc := "([BB)V" } : Jvm.MethodName)).before a0 Z = true := G.1 _ (List.mem_of_getElem? (i := 161) rfl)
theorem wd_162 {Z : State} {a0 : Array Value} (G : Glb Z a0) : (Jvm.Cond.methodLink "com/example/onepass/onepass/model/FieldsGetPinLaw" (36 : Nat) ({ cls := "java/lang/String", name := "length", desc := "()I" } : Jvm.MethodName)).before a0 Z = true := G.1 _ (List.mem_of_getElem? (i := 162) rfl)
theorem wd_163 {Z : State} {a0 : Array Value} (G : Glb Z a0) : (Jvm.Cond.methodLink "com/example/onepass/onepass/model/FieldsGetPinLaw" (40 : Nat) ({ cls := "com/example/onepass/onepass/model/FieldsGetPinLaw", name := "same", desc := "(Ljava/lang/String;[CII)Z" } : Jvm.MethodName)).before a0 Z = true := G.1 _ (List.mem_of_getElem? (i := 163) rfl)
theorem wd_164 {Z : State} {a0 : Array Value} (G : Glb Z a0) : (Jvm.Cond.static ({ cls := "com/example/onepass/onepass/model/FieldsGetPinLaw", name := "same", desc := "(Ljava/lang/String;[CII)Z" } : Jvm.MethodName)).before a0 Z = true := G.1 _ (List.mem_of_getElem? (i := 164) rfl)
theorem wd_165 {Z : State} {a0 : Array Value} (G : Glb Z a0) : (Jvm.Cond.code ({ cls := "com/example/onepass/onepass/model/FieldsGetPinLaw", name := "same", desc := "(Ljava/lang/String;[CII)Z" } : Jvm.MethodName) method_3_code (4 : Nat) (Option.some Jvm.ClassFile.FieldType.boolean)).before a0 Z = true := G.1 _ (List.mem_of_getElem? (i := 165) rfl)
theorem wd_166 {Z : State} {a0 : Array Value} (G : Glb Z a0) : (Jvm.Cond.methodLink "com/example/onepass/onepass/model/FieldsGetPinLaw" (44 : Nat) ({ cls := "java/lang/String", name := "charAt", desc := "(I)C" } : Jvm.MethodName)).before a0 Z = true := G.1 _ (List.mem_of_getElem? (i := 166) rfl)
theorem wd_167 {Z : State} {a0 : Array Value} (G : Glb Z a0) : (Jvm.Cond.declares ({ cls := "java/lang/String", name := "charAt", desc := "(I)C" } : Jvm.MethodName)).before a0 Z = true := G.1 _ (List.mem_of_getElem? (i := 167) rfl)
theorem wd_168 {Z : State} {a0 : Array Value} (G : Glb Z a0) : (Jvm.Cond.instanceMethod ({ cls := "java/lang/String", name := "charAt", desc := "(I)C" } : Jvm.MethodName)).before a0 Z = true := G.1 _ (List.mem_of_getElem? (i := 168) rfl)
theorem wd_169 {Z : State} {a0 : Array Value} (G : Glb Z a0) : (Jvm.Cond.selects "java/lang/String" ({ cls := "java/lang/String", name := "charAt", desc := "(I)C" } : Jvm.MethodName) ({ cls := "java/lang/String", name := "charAt", desc := "(I)C" } : Jvm.MethodName)).before a0 Z = true := G.1 _ (List.mem_of_getElem? (i := 169) rfl)
theorem wd_170 {Z : State} {a0 : Array Value} (G : Glb Z a0) : (Jvm.Cond.code ({ cls := "java/lang/String", name := "charAt", desc := "(I)C" } : Jvm.MethodName) jdk_42_method_56_code (2 : Nat) (Option.some Jvm.ClassFile.FieldType.char)).before a0 Z = true := G.1 _ (List.mem_of_getElem? (i := 170) rfl)
theorem wd_171 {Z : State} {a0 : Array Value} (G : Glb Z a0) : (Jvm.Cond.methodLink "java/lang/String" (495 : Nat) ({ cls := "java/lang/StringLatin1", name := "charAt", desc := "([BI)C" } : Jvm.MethodName)).before a0 Z = true := G.1 _ (List.mem_of_getElem? (i := 171) rfl)
theorem wd_172 {Z : State} {a0 : Array Value} (G : Glb Z a0) : (Jvm.Cond.static ({ cls := "java/lang/StringLatin1", name := "charAt", desc := "([BI)C" } : Jvm.MethodName)).before a0 Z = true := G.1 _ (List.mem_of_getElem? (i := 172) rfl)
theorem wd_173 {Z : State} {a0 : Array Value} (G : Glb Z a0) : (Jvm.Cond.code ({ cls := "java/lang/StringLatin1", name := "charAt", desc := "([BI)C" } : Jvm.MethodName) jdk_43_method_2_code (2 : Nat) (Option.some Jvm.ClassFile.FieldType.char)).before a0 Z = true := G.1 _ (List.mem_of_getElem? (i := 173) rfl)
theorem wd_174 {Z : State} {a0 : Array Value} (G : Glb Z a0) : (Jvm.Cond.methodLink "java/lang/StringLatin1" (9 : Nat) ({ cls := "java/lang/String", name := "checkIndex", desc := "(II)V" } : Jvm.MethodName)).before a0 Z = true := G.1 _ (List.mem_of_getElem? (i := 174) rfl)
theorem wd_175 {Z : State} {a0 : Array Value} (G : Glb Z a0) : (Jvm.Cond.static ({ cls := "java/lang/String", name := "checkIndex", desc := "(II)V" } : Jvm.MethodName)).before a0 Z = true := G.1 _ (List.mem_of_getElem? (i := 175) rfl)
theorem wd_176 {Z : State} {a0 : Array Value} (G : Glb Z a0) : (Jvm.Cond.code ({ cls := "java/lang/String", name := "checkIndex", desc := "(II)V" } : Jvm.MethodName) jdk_42_method_155_code (2 : Nat) (Option.none : Option Jvm.ClassFile.FieldType)).before a0 Z = true := G.1 _ (List.mem_of_getElem? (i := 176) rfl)
theorem wd_177 {Z : State} {a0 : Array Value} (G : Glb Z a0) : (Jvm.Cond.methodLink "java/lang/String" (1059 : Nat) ({ cls := "jdk/internal/util/Preconditions", name := "checkIndex", desc := "(IILjava/util/function/BiFunction;)I" } : Jvm.MethodName)).before a0 Z = true := G.1 _ (List.mem_of_getElem? (i := 177) rfl)
theorem wd_178 {Z : State} {a0 : Array Value} (G : Glb Z a0) : (Jvm.Cond.static ({ cls := "jdk/internal/util/Preconditions", name := "checkIndex", desc := "(IILjava/util/function/BiFunction;)I" } : Jvm.MethodName)).before a0 Z = true := G.1 _ (List.mem_of_getElem? (i := 178) rfl)
theorem wd_179 {Z : State} {a0 : Array Value} (G : Glb Z a0) : (Jvm.Cond.code ({ cls := "jdk/internal/util/Preconditions", name := "checkIndex", desc := "(IILjava/util/function/BiFunction;)I" } : Jvm.MethodName) jdk_41_method_11_code (3 : Nat) (Option.some Jvm.ClassFile.FieldType.int)).before a0 Z = true := G.1 _ (List.mem_of_getElem? (i := 179) rfl)
set_option maxRecDepth 65536 in
theorem wd_180 {Z : State} {a0 : Array Value} (G : Glb Z a0) : (Jvm.Cond.stringLink "java/lang/StringLatin1" (151 : Nat) (txtAt 180)).before a0 Z = true := G.1 _ (List.mem_of_getElem? (i := 180) rfl)
theorem G_SA {Z : State} {a0 : Array Value} (G : Glb Z a0) : ∀ a ∈ Bundle.stringAtoms, a.before a0 Z = true := fun a ha => G.1 a ((by decide +kernel : ∀ a ∈ Bundle.stringAtoms, a ∈ tables_1) a ha)
theorem G_EL {Z : State} {a0 : Array Value} (G : Glb Z a0) : EW Z a0 EL0 := (show EW Z a0 [("com/example/onepass/onepass/model/Fields", 7), ("java/lang/StringLatin1", 151)] from EW.cons (wd_60 G) (by decide +kernel) (EW.cons (wd_180 G) (by decide +kernel) (EW.nil)))
theorem Ct.in {l : Launch} {Z : State} {a0 : Array Value} (G : Glb Z a0) {ml : Nat} {H : HP} {ls : List Slot} {y : MethodName} {bytes : ByteArray} {ret : Option FieldType} {rm : Room} {wz : List Jvm.Cond} {as : List Value} {Q : Option Value → HP → Prop} (hpl : plainFor y = true) (hls : locsOf as ml = ls) (hlen : ls.length = ml)
    (body : ∀ D, Wk l Z a0 EL0 y.cls bytes ml y.name ret rm D 0 ls [] H 0 0 → ∃ v H' k n, Rt Z EL0 D v H' k n ∧ Q v H' ∧ k ≤ rm.cells ∧ n ≤ rm.slots) : Ct l Z EL0 y bytes ml ret rm wz as H Q := Ct.intro hpl (G_EL G) (G_SA G) hls hlen body

/-! numbers -/
theorem n32_toInt {i : Nat} (h : i < 2 ^ 31) : (i.toInt32).toInt = i := by simp [Nat.toInt32, Int32.toInt_ofNat_of_lt h]
theorem n32_lt {i j : Nat} (hi : i < 2 ^ 31) (hj : j < 2 ^ 31) : i.toInt32 < j.toInt32 ↔ i < j := by
  rw [Int32.lt_iff_toInt_lt, n32_toInt hi, n32_toInt hj]; omega
theorem n32_inj {i j : Nat} (hi : i < 2 ^ 31) (hj : j < 2 ^ 31) : i.toInt32 = j.toInt32 ↔ i = j := by
  constructor
  · intro h; have := congrArg Int32.toInt h; rw [n32_toInt hi, n32_toInt hj] at this; omega
  · rintro rfl; rfl
theorem n32_succ (i : Nat) : i.toInt32 + 1 = (i + 1).toInt32 := by
  show Int32.ofNat i + Int32.ofNat 1 = Int32.ofNat (i + 1)
  rw [Int32.ofNat_add]
theorem n32_add (i j : Nat) : i.toInt32 + j.toInt32 = (i + j).toInt32 := by
  show Int32.ofNat i + Int32.ofNat j = Int32.ofNat (i + j)
  rw [Int32.ofNat_add]
theorem n32_shl0 (x : Int32) : x <<< ((0 : Int32) &&& 31) = x := by
  apply Int32.toInt_inj.mp
  have a := c_ishl x 0 0 (by decide)
  have r1 := rng32 (x <<< ((0 : Int32) &&& 31))
  have r2 := rng32 x
  simp only [Nat.pow_zero] at a
  omega

theorem G_compact {Z : State} {a0 : Array Value} (G : Glb Z a0) : ∃ x : Int32, ¬ x = 0 ∧ Sta Z Z.heap "java/lang/String" "COMPACT_STRINGS" "Z" (.int x) := by
  obtain ⟨x, e⟩ := is_v (Cond.before_iff.mp (G.2.1 _ (List.mem_of_getElem? (i := 1) rfl)))
  have n := not_v (Cond.before_iff.mp (G.2.1 _ (List.mem_of_getElem? (i := 2) rfl)))
  exact ⟨x, gotF (Cond.eq_ints e (Term.int_eval 0)) n, Sta.start e (Or.inl (G.2.1 _ (List.mem_of_getElem? (i := 0) rfl)))⟩


/-! ## new String(char[]) -/
abbrev chs (cs : List Int32) : List Value := cs.map Value.int
abbrev b8 (c : Int32) : Int32 := c.toInt8.toInt32
abbrev lo8 (cs : List Int32) : List Value := cs.map fun c => Value.int (b8 c)
def pfx : List Int32 → Nat
  | [] => 0
  | c :: r => if (255 : Int32) < c then 0 else pfx r + 1
theorem pfx_le : ∀ cs, pfx cs ≤ cs.length
  | [] => Nat.le_refl _
  | c :: r => by unfold pfx; split <;> simp [pfx_le r]
theorem pfx_all : ∀ {cs}, (∀ c ∈ cs, ¬ (255 : Int32) < c) → pfx cs = cs.length
  | [], _ => rfl
  | c :: r, h => by
    unfold pfx
    rw [if_neg (h c (List.mem_cons_self ..)), pfx_all fun x hx => h x (List.mem_cons_of_mem _ hx)]; rfl
section JStr
variable {l : Launch} {Z : State} {a0 : Array Value} {D : Dyn} {H : HP}
set_option maxRecDepth 65536 in
theorem l_cmp5 (G : Glb Z a0) {s t : Addr} {cs : List Int32} {vs : List Value} (F : Ar Z H s .char (chs cs)) (hl : vs.length = cs.length) (hne : s ≠ t) :
    ∀ (q : List Int32) (i : Nat) (H1 : HP) (s6 : Slot), cs.drop i = q → i ≤ cs.length → Kp H H1 [t] → H1.2 t → Ar Z H1 t .byte (lo8 (cs.take i) ++ vs.drop i) → (s6 = .unset ∨ ∃ x, s6 = .val (.int x)) →
      Wk l Z a0 EL0 "java/lang/StringUTF16" jdk_52_method_21_code 7 "compress" (some .int) ({ frames := 0, cells := 0, slots := 0, locals := 0 } : Room) D 3 [.val (.ref s), .val (.int i.toInt32), .val (.ref t), .val (.int i.toInt32), .val (.int cs.length.toInt32), .val (.int i.toInt32), s6] [] H1 0 0 →
      ∃ H', Rt Z EL0 D (some (.int (i + pfx q).toInt32)) H' 0 0 ∧ Kp H H' [t] ∧ Ar Z H' t .byte (lo8 (cs.take (i + pfx q)) ++ vs.drop (i + pfx q)) := by
  have hn : cs.length < 2 ^ 31 := by simpa using F.len
  intro q
  induction q with
  | nil =>
    intro i H1 s6 hd hi K o T h6 A0
    have e : i = cs.length := by have := List.drop_eq_nil_iff.mp hd; omega
    subst e
    have A1 := A0.run [(3, .iload 5, 5, 0), (5, .iload 4, 7, 0)] (pe := 7) (by decide +kernel) rfl
    have A2 := A1.icT (cd := .ge) (o := 37) (by decide +kernel) Int32.lt_irrefl (pe := 44) (by decide)
    have A3 := A2.run [(44, .iload 4, 46, 0)] (pe := 46) (by decide +kernel) rfl
    have A4 := A3.retI (by decide +kernel)
    exact ⟨_, A4, K, T⟩
  | cons c r ih =>
    intro i H1 s6 hd hi K o T h6 A0
    have hlt : i < cs.length := by
      rcases Nat.lt_or_ge i cs.length with h | h
      · exact h
      · rw [List.drop_eq_nil_of_le h] at hd; cases hd
    have hc : cs[i]? = some c := by have := congrArg List.head? hd; simpa [List.head?_drop] using this
    have hr : cs.drop (i + 1) = r := by have := congrArg List.tail hd; simpa using this
    have A1 := A0.run [(3, .iload 5, 5, 0), (5, .iload 4, 7, 0)] (pe := 7) (by decide +kernel) rfl
    have A2 := A1.icF (cd := .ge) (o := 37) (by decide +kernel) (by show ¬ ¬ _ < _; exact not_not_intro ((n32_lt (by omega) hn).mpr hlt))
    have A3 := A2.run [(10, .aload_n 0, 11, 0), (11, .iload_n 1, 12, 0)] (pe := 12) (by decide +kernel) rfl
    have A4 := A3.caload (F.ky K (by simpa using hne)) (by decide +kernel) rfl (v := .int c) (by simp [hc])
    have A6 : Wk l Z a0 EL0 "java/lang/StringUTF16" jdk_52_method_21_code 7 "compress" (some .int) ({ frames := 0, cells := 0, slots := 0, locals := 0 } : Room) D 20 [.val (.ref s), .val (.int i.toInt32), .val (.ref t), .val (.int i.toInt32), .val (.int cs.length.toInt32), .val (.int i.toInt32), .val (.int c)] [.int 255, .int c] H1 0 0 := by
      rcases h6 with rfl | ⟨x, rfl⟩
      · exact A4.run [(13, .istore 6, 15, 0), (15, .iload 6, 17, 0), (17, .sipush 255, 20, 255)] (pe := 20) (by decide +kernel) rfl
      · exact A4.run [(13, .istore 6, 15, 0), (15, .iload 6, 17, 0), (17, .sipush 255, 20, 255)] (pe := 20) (by decide +kernel) rfl
    by_cases h255 : (255 : Int32) < c
    · have A7 := A6.icF (cd := .le) (o := 6) (by decide +kernel) (by show ¬ ¬ _ < _; exact not_not_intro h255)
      have A8 := A7.run [(23, .iload 5, 25, 0)] (pe := 25) (by decide +kernel) rfl
      have A9 := A8.retI (by decide +kernel)
      have e : pfx (c :: r) = 0 := by simp [pfx, h255]
      rw [e]
      exact ⟨_, A9, K, T⟩
    · have A7 := A6.icT (cd := .le) (o := 6) (by decide +kernel) (by show ¬ _ < _; exact h255) (pe := 26) (by decide)
      have A8 := A7.run [(26, .aload_n 2, 27, 0), (27, .iload_n 3, 28, 0), (28, .iload 6, 30, 0), (30, .i2b, 31, 0)] (pe := 31) (by decide +kernel) rfl
      obtain ⟨H2, A9, K2, T2⟩ := A8.bastore T o (by decide +kernel) rfl (by simp; omega) (x2 := b8 c) (by simp [nar])
      have A10 := A9.run [(32, .iinc 1 1, 35, 1), (35, .iinc 3 1, 38, 1), (38, .iinc 5 1, 41, 1), (41, .goto (-38), 3, 0)] (pe := 3) (by decide +kernel) rfl
      have e : pfx (c :: r) = pfx r + 1 := by simp [pfx, h255]
      have hl2 : (lo8 (cs.take i) ++ vs.drop i).set i (.int (b8 c)) = lo8 (cs.take (i + 1)) ++ vs.drop (i + 1) := by
        have h1 : (lo8 (cs.take i)).length = i := by simp; omega
        have h2 : vs.drop i = vs[i]'(by omega) :: vs.drop (i + 1) := by rw [List.drop_eq_getElem_cons]
        rw [List.set_append_right _ _ (by omega), h1, Nat.sub_self, h2, List.set_cons_zero]
        rw [List.take_add_one, hc]
        simp
      rw [hl2] at T2
      rw [n32_succ] at A10
      obtain ⟨H', B1, B2, B3⟩ := ih (i + 1) H2 _ hr hlt (K.trans K2 fun x hx => Or.inl hx) (K2.2 _ o) T2 (Or.inr ⟨c, rfl⟩) A10
      rw [e]
      rw [show i + (pfx r + 1) = i + 1 + pfx r by omega]
      exact ⟨H', B1, B2, B3⟩
theorem c_cmp5 (G : Glb Z a0) {s t : Addr} {cs : List Int32} {vs : List Value} (F : Ar Z H s .char (chs cs)) (T : Ar Z H t .byte vs) (o : H.2 t) (hl : vs.length = cs.length) (hne : s ≠ t) :
    Ct l Z EL0 (⟨"java/lang/StringUTF16", "compress", "([CI[BII)I"⟩ : MethodName) jdk_52_method_21_code 7 ((some .int)) ({ frames := 0, cells := 0, slots := 0, locals := 0 } : Room) [] [.ref s, .int 0, .ref t, .int 0, .int cs.length.toInt32] H (fun v H' => v = some (.int (pfx cs).toInt32) ∧ Kp H H' [t] ∧ Ar Z H' t .byte (lo8 (cs.take (pfx cs)) ++ vs.drop (pfx cs))) := by
  refine Ct.in G (by first | exact plainFor_of_name (by simp [plainName, overriddenIn]; done) | decide +kernel) (ls := [.val (.ref s), .val (.int 0), .val (.ref t), .val (.int 0), .val (.int cs.length.toInt32), .unset, .unset]) rfl rfl fun D A0 => ?_
  have A1 := A0.run [(0, .iconst 0, 1, 0), (1, .istore 5, 3, 0)] (pe := 3) (by decide +kernel) rfl
  obtain ⟨H', B1, B2, B3⟩ := l_cmp5 G F hl hne cs 0 H .unset rfl (Nat.zero_le _) (Kp.refl H |>.wide fun x hx => nomatch hx) o (by simpa using T) (Or.inl rfl) A1
  rw [Nat.zero_add] at B1 B3
  exact ⟨_, H', 0, 0, B1, ⟨rfl, B2, B3⟩, Nat.le_refl _, Nat.le_refl _⟩
/-- all chars below 256 -/
abbrev Lat (cs : List Int32) : Prop := ∀ c ∈ cs, ¬ (255 : Int32) < c
theorem c_cmp3 (G : Glb Z a0) {s : Addr} {cs : List Int32} (F : Ar Z H s .char (chs cs)) (hn : cs.length ≤ 9) (hla : Lat cs) :
    Ct l Z EL0 (⟨"java/lang/StringUTF16", "compress", "([CII)[B"⟩ : MethodName) jdk_52_method_16_code 6 ((some (.array .byte))) ({ frames := 1, cells := 1, slots := 9, locals := 18 } : Room) [] [.ref s, .int 0, .int cs.length.toInt32] H (fun v H' => ∃ t, v = some (.ref t) ∧ H.1.size ≤ t ∧ Kp H H' [] ∧ Ar Z H' t .byte (lo8 cs) ∧ H'.2 t) := by
  refine Ct.in G (by first | exact plainFor_of_name (by simp [plainName, overriddenIn]; done) | decide +kernel) (ls := [.val (.ref s), .val (.int 0), .val (.int cs.length.toInt32), .unset, .unset, .unset]) rfl rfl fun D A0 => ?_
  have A1 := A0.run [(0, .iload_n 2, 1, 0)] (pe := 1) (by decide +kernel) rfl
  obtain ⟨t, H1, A2, hge, K1, T1, o1⟩ := A1.newA (aty := .byte) (wd_24 G) (by decide +kernel) rfl (cap := 9) hn (by decide) (by decide) (by decide)
  have A3 := A2.run [(3, .astore_n 3, 4, 0), (4, .aload_n 0, 5, 0), (5, .iload_n 1, 6, 0), (6, .aload_n 3, 7, 0), (7, .iconst 0, 8, 0), (8, .iload_n 2, 9, 0)] (pe := 9) (by decide +kernel) rfl
  have hne : s ≠ t := Nat.ne_of_lt (Nat.lt_of_lt_of_le F.lt hge)
  obtain ⟨_, HA4, qA4, A4, moA4, szA4⟩ := A3.callS (argsL := [.ref s, .int 0, .ref t, .int 0, .int cs.length.toInt32]) (wd_47 G) (wd_48 G) (wd_45 G) (wd_49 G) (c_cmp5 G (F.ky K1) T1 o1 (by simp) hne) (by decide) ⟨_, _, (by decide +kernel : parseMethodDescriptor "([CI[BII)I" = some ⟨[(.array .char), .int, (.array .byte), .int, .int], some .int⟩), rfl⟩ (by decide +kernel) (Wd := 0) (by decide) (Nat.le_of_ble_eq_true rfl) (by decide) (by decide) (by decide)
  obtain ⟨rfl, K2, T2⟩ := qA4
  rw [pfx_all hla] at T2 A4
  have A5 := A4.run [(12, .istore 4, 14, 0), (14, .iload 4, 16, 0), (16, .iload_n 2, 17, 0)] (pe := 17) (by decide +kernel) rfl
  have A6 := A5.icT (cd := .eq) (o := 40) (by decide +kernel) rfl (pe := 57) (by decide)
  have A7 := A6.run [(57, .aload_n 3, 58, 0)] (pe := 58) (by decide +kernel) rfl
  have A8 := A7.retA (by decide +kernel) rfl rfl
  refine ⟨_, _, _, _, A8, ⟨t, rfl, hge, K1.trans K2 (fun x hx => Or.inr ?_), by simpa using T2, moA4 _ o1⟩, by decide, by decide⟩
  cases List.mem_singleton.mp hx; exact hge
theorem c_cfa (G : Glb Z a0) {t : Addr} {n : Nat} {vs : List Value} (F : Ar Z H t .byte vs) (hl : vs.length = n) :
    Ct l Z EL0 (⟨"java/lang/StringUTF16", "coderFromArrayLen", "([BI)B"⟩ : MethodName) jdk_52_method_15_code 2 ((some .byte)) ({ frames := 0, cells := 0, slots := 0, locals := 0 } : Room) [] [.ref t, .int n.toInt32] H (fun v H' => v = some (.int 0) ∧ H = H') := by
  refine Ct.in G (by first | exact plainFor_of_name (by simp [plainName, overriddenIn]; done) | decide +kernel) (ls := [.val (.ref t), .val (.int n.toInt32)]) rfl rfl fun D A0 => ?_
  have A1 := A0.run [(0, .iload_n 1, 1, 0), (1, .aload_n 0, 2, 0)] (pe := 2) (by decide +kernel) rfl
  have A2 := A1.alen F (by decide +kernel) (z := n.toInt32) (by rw [hl])
  have A3 := A2.run [(3, .isub, 4, 0), (4, .bipush 31, 6, 31), (6, .iushr, 7, 0), (7, .i2b, 8, 0)] (pe := 8) (by decide +kernel) rfl
  have A4 := A3.retB (by decide +kernel) (x2 := 0) (by rw [Int32.sub_self]; decide)
  exact ⟨_, _, _, _, A4, ⟨rfl, rfl⟩, Nat.le_refl _, Nat.le_refl _⟩
/-- a char's value -/
abbrev isC (c : Int32) : Prop := 0 ≤ c.toInt ∧ c.toInt < 65536
abbrev e16 (c : Int32) : List Value := [.int (b8 c), .int (b8 (c >>> (8 &&& 31)))]
abbrev enc16 (cs : List Int32) : List Value := cs.flatMap e16
/-- the String a says cs -/
def Str (Z : State) (H : HP) (a : Addr) (cs : List Int32) : Prop := Exa Z H.1 a "java/lang/String" ∧ (∀ c ∈ cs, isC c) ∧ ∃ t, Fld Z H.1 a "java/lang/String" "value" "[B" (.ref t) ∧
  (Lat cs ∧ Fld Z H.1 a "java/lang/String" "coder" "B" (.int 0) ∧ Ar Z H t .byte (lo8 cs) ∨ ¬ Lat cs ∧ Fld Z H.1 a "java/lang/String" "coder" "B" (.int 1) ∧ Ar Z H t .byte (enc16 cs))
theorem Str.ky {H H' : HP} {a : Addr} {cs : List Int32} (S : Str Z H a cs) (K : Kp H H' []) : Str Z H' a cs := by
  obtain ⟨h1, h2, t, h3, h4⟩ := S
  exact ⟨h1.ky K, h2, t, h3.ky K, h4.imp (fun ⟨q1, q2, q3⟩ => ⟨q1, q2.ky K, q3.ky K⟩) (fun ⟨q1, q2, q3⟩ => ⟨q1, q2.ky K, q3.ky K⟩)⟩
theorem Ar.kyE {H H' : HP} {t x : Addr} {ty : FieldType} {vs : List Value} {C : String} {q : Nat} (F : Ar Z H t ty vs) (K : Kp H H' [x]) (E : Exa Z H.1 x C) (wi : (Jvm.Cond.instantiable C q).before a0 Z = true) : Ar Z H' t ty vs :=
  F.ky K (by obtain ⟨c, A, -⟩ := F; simpa using Ne.symm (ne_arr E wi A))
theorem Str.kyE {H H' : HP} {a x : Addr} {cs : List Int32} {C : String} {q : Nat} (S : Str Z H a cs) (K : Kp H H' [x]) (E : Exa Z H.1 x C) (hC : C ≠ "java/lang/String") (wi : (Jvm.Cond.instantiable C q).before a0 Z = true) : Str Z H' a cs := by
  obtain ⟨h1, h2, t, h3, h4⟩ := S
  have ha : a ∉ [x] := by simpa using Ne.symm (ne_exa E h1 hC)
  exact ⟨h1.ky K, h2, t, h3.ky K ha, h4.imp (fun ⟨q1, q2, q3⟩ => ⟨q1, q2.ky K ha, q3.kyE K E wi⟩) (fun ⟨q1, q2, q3⟩ => ⟨q1, q2.ky K ha, q3.kyE K E wi⟩)⟩
theorem Str.lt {H : HP} {a : Addr} {cs : List Int32} (S : Str Z H a cs) : a < H.1.size := S.1.lt
theorem Str.opL {H : HP} {a : Addr} {cs : List Int32} (S : Str Z H a cs) (h : Lat cs) : Exa Z H.1 a "java/lang/String" ∧ ∃ t, Fld Z H.1 a "java/lang/String" "value" "[B" (.ref t) ∧ Fld Z H.1 a "java/lang/String" "coder" "B" (.int 0) ∧ Ar Z H t .byte (lo8 cs) := by
  obtain ⟨h1, h2, t, h3, h4⟩ := S
  rcases h4 with ⟨-, q⟩ | ⟨q, -⟩
  · exact ⟨h1, t, h3, q⟩
  · exact absurd h q
theorem Str.opU {H : HP} {a : Addr} {cs : List Int32} (S : Str Z H a cs) (h : ¬ Lat cs) : Exa Z H.1 a "java/lang/String" ∧ ∃ t, Fld Z H.1 a "java/lang/String" "value" "[B" (.ref t) ∧ Fld Z H.1 a "java/lang/String" "coder" "B" (.int 1) ∧ Ar Z H t .byte (enc16 cs) := by
  obtain ⟨h1, h2, t, h3, h4⟩ := S
  rcases h4 with ⟨q, -⟩ | ⟨-, q⟩
  · exact absurd q h
  · exact ⟨h1, t, h3, q⟩
theorem isC_of {H : HP} {s : Addr} {cs : List Int32} (F : Ar Z H s .char (chs cs)) : ∀ c ∈ cs, isC c := fun c hc => by
  have h := rng_char (F.fits (.int c) (List.mem_map_of_mem hc))
  rw [Int32.lt_iff_toInt_lt, Int32.lt_iff_toInt_lt] at h
  have e1 : (0 : Int32).toInt = 0 := by decide
  have e2 : (65535 : Int32).toInt = 65535 := by decide
  omega
set_option maxRecDepth 65536 in
theorem c_sI4L (G : Glb Z a0) {x s : Addr} {cs : List Int32} (F : Ar Z H s .char (chs cs)) (hn : cs.length ≤ 9) (h0 : cs ≠ []) (hla : Lat cs) (E : Exa Z H.1 x "java/lang/String") (V : Fld Z H.1 x "java/lang/String" "value" "[B" .null) (C : Fld Z H.1 x "java/lang/String" "coder" "B" (.int 0)) (o : H.2 x) :
    Ct l Z EL0 (⟨"java/lang/String", "<init>", "([CIILjava/lang/Void;)V"⟩ : MethodName) jdk_42_method_149_code 6 (none) ({ frames := 2, cells := 4, slots := 9, locals := 35 } : Room) [] [.ref x, .ref s, .int 0, .int cs.length.toInt32, .null] H (fun v H' => v = none ∧ Kp H H' [x] ∧ Str Z H' x cs) := by
  refine Ct.in G (by first | exact plainFor_of_name (by simp [plainName, overriddenIn]; done) | decide +kernel) (ls := [.val (.ref x), .val (.ref s), .val (.int 0), .val (.int cs.length.toInt32), .val .null, .unset]) rfl rfl fun D A0 => ?_
  have hn31 : cs.length < 2 ^ 31 := by omega
  obtain ⟨cz, hcz, cS⟩ := G_compact G
  have A1 := A0.run [(0, .aload_n 0, 1, 0)] (pe := 1) (by decide +kernel) rfl
  have A2 := A1.initO (wd_29 G) (wd_30 G) (wd_31 G) (by decide +kernel) (Wd := 0) (by decide) (Nat.le_of_ble_eq_true rfl) (by decide)
  have A3 := A2.run [(4, .iload_n 3, 5, 0)] (pe := 5) (by decide +kernel) rfl
  have A4 := A3.ifT (cd := .ne) (o := 22) (by decide +kernel) (by show ¬ _ = _; exact fun e => h0 (List.length_eq_zero_iff.mp ((n32_inj (j := 0) hn31 (by decide)).mp e))) (pe := 27) (by decide)
  have A5 := A4.getS (wd_14 G) cS (by decide +kernel)
  have A6 := A5.ifF (cd := .eq) (o := 28) (by decide +kernel) hcz
  have A7 := A6.run [(33, .aload_n 1, 34, 0), (34, .iload_n 2, 35, 0), (35, .iload_n 3, 36, 0)] (pe := 36) (by decide +kernel) rfl
  obtain ⟨_, HA8, qA8, A8, moA8, szA8⟩ := A7.callS (argsL := [.ref s, .int 0, .int cs.length.toInt32]) (wd_43 G) (wd_44 G) (wd_45 G) (wd_46 G) (c_cmp3 G F hn hla) (by decide) ⟨_, _, (by decide +kernel : parseMethodDescriptor "([CII)[B" = some ⟨[(.array .char), .int, .int], some (.array .byte)⟩), rfl⟩ (by decide +kernel) (Wd := 0) (by decide) (Nat.le_of_ble_eq_true rfl) (by decide) (by decide) (by decide)
  obtain ⟨t, rfl, hge, K1, T1, o1⟩ := qA8
  have A9 := A8.run [(39, .astore 5, 41, 0), (41, .aload_n 0, 42, 0), (42, .aload 5, 44, 0), (44, .iload_n 3, 45, 0)] (pe := 45) (by decide +kernel) rfl
  obtain ⟨_, HA10, qA10, A10, moA10, szA10⟩ := A9.callS (argsL := [.ref t, .int cs.length.toInt32]) (wd_50 G) (wd_51 G) (wd_45 G) (wd_52 G) (c_cfa G T1 (by simp)) (by decide) ⟨_, _, (by decide +kernel : parseMethodDescriptor "([BI)B" = some ⟨[(.array .byte), .int], some .byte⟩), rfl⟩ (by decide +kernel) (Wd := 1) (by decide) (Nat.le_of_ble_eq_true rfl) (by decide) (by decide) (by decide)
  obtain ⟨rfl, rfl⟩ := qA10
  obtain ⟨H2, A11, K2, W2⟩ := A10.putFin (wd_34 G) (C.ky K1) (E.ky K1) (wd_35 G) rfl rfl (wd_20 G) (K1.2 _ o) (by decide +kernel) (ty := .byte) (by decide) rfl rfl
  have A12 := A11.run [(51, .aload_n 0, 52, 0), (52, .aload 5, 54, 0)] (pe := 54) (by decide +kernel) rfl
  have V2 := (V.ky K1).other W2 (Or.inr (slot_ne (Or.inr (wd_33 G)) (Or.inr (wd_35 G)) (by decide) (t := .array .byte) (by decide) (t' := .byte) (by decide)))
  obtain ⟨H3, A13, K3, W3⟩ := A12.putFin (wd_32 G) V2 ((E.ky K1).ky K2) (wd_33 G) rfl rfl (wd_20 G) (K2.2 _ (K1.2 _ o)) (by decide +kernel) (ty := .array .byte) (by decide) rfl rfl
  have A14 := A13.ret (by decide +kernel)
  have hxt : t ≠ x := Nat.ne_of_gt (Nat.lt_of_lt_of_le E.lt hge)
  have C3 := ((C.ky K1).same W2).other W3 (Or.inr (slot_ne (Or.inr (wd_35 G)) (Or.inr (wd_33 G)) (by decide) (t := .byte) (by decide) (t' := .array .byte) (by decide)))
  refine ⟨_, _, _, _, A14, ⟨rfl, (K1.wide fun x hx => nomatch hx).trans (K2.trans K3 fun x hx => Or.inl hx) fun x hx => Or.inl hx, (((E.ky K1).ky K2).ky K3), isC_of F, t, V2.same W3, Or.inl ⟨hla, C3, (T1.ky K2 (by simpa using hxt)).ky K3 (by simpa using hxt)⟩⟩, by decide, by decide⟩
theorem c_sI1 (G : Glb Z a0) {x s : Addr} {cs : List Int32} (F : Ar Z H s .char (chs cs)) (M : Ct l Z EL0 (⟨"java/lang/String", "<init>", "([CIILjava/lang/Void;)V"⟩ : MethodName) jdk_42_method_149_code 6 (none) ({ frames := 2, cells := 4, slots := 9, locals := 35 } : Room) [] [.ref x, .ref s, .int 0, .int cs.length.toInt32, .null] H (fun v H' => v = none ∧ Kp H H' [x] ∧ Str Z H' x cs)) :
    Ct l Z EL0 (⟨"java/lang/String", "<init>", "([C)V"⟩ : MethodName) jdk_42_method_3_code 2 (none) ({ frames := 3, cells := 4, slots := 9, locals := 52 } : Room) [] [.ref x, .ref s] H (fun v H' => v = none ∧ Kp H H' [x] ∧ Str Z H' x cs) := by
  refine Ct.in G (by first | exact plainFor_of_name (by simp [plainName, overriddenIn]; done) | decide +kernel) (ls := [.val (.ref x), .val (.ref s)]) rfl rfl fun D A0 => ?_
  have A1 := A0.run [(0, .aload_n 0, 1, 0), (1, .aload_n 1, 2, 0), (2, .iconst 0, 3, 0), (3, .aload_n 1, 4, 0)] (pe := 4) (by decide +kernel) rfl
  have A2 := A1.alen F (by decide +kernel) (z := cs.length.toInt32) (by simp)
  have A3 := A2.run [(5, .aconst_null, 6, 0)] (pe := 6) (by decide +kernel) rfl
  obtain ⟨_, HA4, qA4, A4, moA4, szA4⟩ := A3.callI (argsL := [.ref s, .int 0, .int cs.length.toInt32, .null]) rfl (wd_40 G) (wd_41 G) (wd_12 G) (wd_42 G) (M) (by decide) ⟨_, _, (by decide +kernel : parseMethodDescriptor "([CIILjava/lang/Void;)V" = some ⟨[(.array .char), .int, .int, (.object "java/lang/Void")], none⟩), rfl⟩ (by decide +kernel) (Wd := 0) (by decide) (Nat.le_of_ble_eq_true rfl) (by decide) (by decide) (by decide)
  obtain ⟨rfl, K1, S1⟩ := qA4
  have A5 := A4.ret (by decide +kernel)
  exact ⟨_, _, _, _, A5, ⟨rfl, K1, S1⟩, by decide, by decide⟩
end JStr

theorem b8_back {c : Int32} (h : isC c) (h2 : ¬ (255 : Int32) < c) : (b8 c &&& 255).toUInt32.toUInt16.toUInt32.toInt32 = c := by
  rw [i2c_mask]
  apply Int32.toInt_inj.mp
  rw [c_mask _ 255 8 (by decide) (by decide)]
  have h3 := c_i2b c
  show (b8 c).toInt % _ = _
  simp only [b8] at *
  rw [Int32.lt_iff_toInt_lt, show (255 : Int32).toInt = 255 by decide] at h2
  omega
theorem b8_back' {c : Int32} (h : isC c) (h2 : ¬ (255 : Int32) < c) : b8 c &&& 255 = c := by rw [← i2c_mask]; exact b8_back h h2
theorem isC_nar {c : Int32} (h : isC c) : nar .char c = c := by
  apply Int32.toInt_inj.mp
  have := c_i2c c
  show (c.toUInt32.toUInt16.toUInt32.toInt32).toInt = _
  omega
theorem okc_mask (i : Int32) : isC (i &&& 255) ∧ ¬ (255 : Int32) < i &&& 255 := by
  have h := c_and i 255 (by decide)
  have e : (255 : Int32).toInt = 255 := by decide
  rw [Int32.lt_iff_toInt_lt]
  simp only [isC]; omega
theorem okc_i2c (i : Int32) : (i &&& 255).toUInt32.toUInt16.toUInt32.toInt32 = i &&& 255 := i2c_mask i
theorem lat1 {a : Int32} (ha : ¬ (255 : Int32) < a) : Lat [a] := fun e he => by simp at he; subst he; exact ha
theorem latC {a : Int32} {cs : List Int32} (ha : ¬ (255 : Int32) < a) (h : Lat cs) : Lat (a :: cs) := fun e he => by
  rcases List.mem_cons.mp he with rfl | he
  · exact ha
  · exact h e he
theorem lat2 {a b : Int32} (ha : ¬ (255 : Int32) < a) (hb : ¬ (255 : Int32) < b) : Lat [a, b] := latC ha (lat1 hb)
theorem lat3 {a b c : Int32} (ha : ¬ (255 : Int32) < a) (hb : ¬ (255 : Int32) < b) (hc : ¬ (255 : Int32) < c) : Lat [a, b, c] := latC ha (lat2 hb hc)

/-! longs -/
theorem n64_toInt {i : Nat} (h : i < 2 ^ 63) : (i.toInt64).toInt = i := by simp [Nat.toInt64, Int64.toInt_ofNat_of_lt h]
theorem n64_inj {i j : Nat} (hi : i < 2 ^ 63) (hj : j < 2 ^ 63) : i.toInt64 = j.toInt64 ↔ i = j := by
  constructor
  · intro h; have := congrArg Int64.toInt h; rw [n64_toInt hi, n64_toInt hj] at this; omega
  · rintro rfl; rfl
theorem n64_add (i j : Nat) : i.toInt64 + j.toInt64 = (i + j).toInt64 := by
  show Int64.ofNat i + Int64.ofNat j = Int64.ofNat (i + j)
  rw [Int64.ofNat_add]
theorem n64_mul (i j : Nat) : i.toInt64 * j.toInt64 = (i * j).toInt64 := by
  show Int64.ofNat i * Int64.ofNat j = Int64.ofNat (i * j)
  rw [Int64.ofNat_mul]
theorem n64_div {i j : Nat} (hi : i < 2 ^ 63) (hj : j < 2 ^ 63) : i.toInt64 / j.toInt64 = (i / j).toInt64 := by
  have q : i / j < 2 ^ 63 := Nat.lt_of_le_of_lt (Nat.div_le_self _ _) hi
  apply Int64.toInt_inj.mp
  have h1 : j.toInt64 ≠ -1 := fun e => by have := congrArg Int64.toInt e; rw [n64_toInt hj, show (-1 : Int64).toInt = -1 by decide] at this; omega
  rw [(c_ldiv i.toInt64 j.toInt64 j (n64_toInt hj) h1).1 (by rw [n64_toInt hi]; omega), n64_toInt hi, n64_toInt q]
  rfl
theorem n64_mod {i j : Nat} (hi : i < 2 ^ 63) (hj : j < 2 ^ 63) : i.toInt64 % j.toInt64 = (i % j).toInt64 := by
  have q : i % j < 2 ^ 63 := Nat.lt_of_le_of_lt (Nat.mod_le _ _) hi
  apply Int64.toInt_inj.mp
  have h := (c_lrem i.toInt64 j.toInt64 j (n64_toInt hj)).1 (by rw [n64_toInt hi]; omega)
  rw [lrem_mod] at h
  rw [h, n64_toInt hi, n64_toInt q]
  rfl
theorem n64_32 (i : Nat) : i.toInt64.toInt32 = i.toInt32 := by
  apply Int32.toInt_inj.mp
  rw [Int64.toInt_toInt32]
  simp only [Nat.toInt64, Nat.toInt32, Int64.toInt_ofNat', Int32.toInt_ofNat']
  exact Int.bmod_bmod_of_dvd (by decide)
theorem n32_64 {i : Nat} (h : i < 2 ^ 31) : i.toInt32.toInt64 = i.toInt64 := by
  apply Int64.toInt_inj.mp
  rw [c_i2l, n32_toInt h, n64_toInt (by omega)]
theorem n32_sub {i j : Nat} (h : j ≤ i) : i.toInt32 - j.toInt32 = (i - j).toInt32 := by
  have e : i.toInt32 = (i - j).toInt32 + j.toInt32 := by rw [n32_add]; congr 1; omega
  rw [e, Int32.add_sub_cancel]
theorem n32_c {i : Nat} (h : i < 65536) : isC i.toInt32 := by
  have := n32_toInt (i := i) (by omega)
  simp only [isC]; omega
theorem n32_i2c {i : Nat} (h : i < 65536) : i.toInt32.toUInt32.toUInt16.toUInt32.toInt32 = i.toInt32 := isC_nar (n32_c h)
theorem cmp_same (x : Int64) : XT.cmpL x x = 0 := by simp [XT.cmpL]


section JLen
variable {l : Launch} {Z : State} {a0 : Array Value} {D : Dyn} {H : HP}
theorem enc16_len : ∀ cs : List Int32, (enc16 cs).length = 2 * cs.length
  | [] => rfl
  | c :: r => by have := enc16_len r; simp only [enc16, List.flatMap_cons, List.length_append] at this ⊢; simp [e16]; simp at this; omega
theorem c_sCod (G : Glb Z a0) {a : Addr} {b : Int32} (F : Fld Z H.1 a "java/lang/String" "coder" "B" (.int b)) (hb : b = 0 ∨ b = 1) :
    Ct l Z EL0 (⟨"java/lang/String", "coder", "()B"⟩ : MethodName) jdk_42_method_152_code 1 ((some .byte)) ({ frames := 0, cells := 0, slots := 0, locals := 0 } : Room) [] [.ref a] H (fun v H' => v = some (.int b) ∧ H = H') := by
  refine Ct.in G (by first | exact plainFor_of_name (by simp [plainName, overriddenIn]; done) | decide +kernel) (ls := [.val (.ref a)]) rfl rfl fun D A0 => ?_
  obtain ⟨cz, hcz, cS⟩ := G_compact G
  have A1 := A0.getS (wd_14 G) cS (by decide +kernel)
  have A2 := A1.ifF (cd := .eq) (o := 10) (by decide +kernel) hcz
  have A3 := A2.run [(6, .aload_n 0, 7, 0)] (pe := 7) (by decide +kernel) rfl
  have A4 := A3.getF (wd_34 G) F (by decide +kernel)
  have A5 := A4.run [(10, .goto 4, 14, 0)] (pe := 14) (by decide +kernel) rfl
  exact ⟨_, _, _, _, A5.retB (by decide +kernel) (x2 := b) (by rcases hb with rfl | rfl <;> decide), ⟨rfl, rfl⟩, by decide, by decide⟩
theorem n32_shr1 {n : Nat} (h : 2 * n < 2 ^ 31) : (2 * n).toInt32 >>> ((1 : Int32) &&& 31) = n.toInt32 := by
  apply Int32.toInt_inj.mp
  rw [c_ishr _ 1 1 (by decide), n32_toInt h, n32_toInt (by omega)]
  omega
theorem n32_shr0 (x : Int32) : x >>> ((0 : Int32) &&& 31) = x := by
  apply Int32.toInt_inj.mp
  rw [c_ishr _ 0 0 (by decide)]; simp
theorem c_sLen (G : Glb Z a0) {a : Addr} {cs : List Int32} (S : Str Z H a cs) :
    Ct l Z EL0 (⟨"java/lang/String", "length", "()I"⟩ : MethodName) jdk_42_method_54_code 1 ((some .int)) ({ frames := 1, cells := 0, slots := 0, locals := 13 } : Room) [] [.ref a] H (fun v H' => v = some (.int cs.length.toInt32) ∧ H = H') := by
  refine Ct.in G (by first | exact plainFor_of_name (by simp [plainName, overriddenIn]; done) | decide +kernel) (ls := [.val (.ref a)]) rfl rfl fun D A0 => ?_
  obtain ⟨E, hC, t, F, q⟩ := S
  have A1 := A0.run [(0, .aload_n 0, 1, 0)] (pe := 1) (by decide +kernel) rfl
  have A2 := A1.getF (wd_32 G) F (by decide +kernel)
  rcases q with ⟨-, C, T⟩ | ⟨-, C, T⟩
  · have A3 := A2.alen T (by decide +kernel) (z := cs.length.toInt32) (by simp)
    have A4 := A3.run [(5, .aload_n 0, 6, 0)] (pe := 6) (by decide +kernel) rfl
    obtain ⟨_, HA5, qA5, A5, moA5, szA5⟩ := A4.callV (argsL := []) (wd_86 G) (wd_87 G) (wd_89 G) rfl (wd_89 G) (wd_88 G) (wd_12 G) (wd_90 G) E (c_sCod G C (Or.inl rfl)) (by decide) ⟨_, _, (by decide +kernel : parseMethodDescriptor "()B" = some ⟨[], some .byte⟩), rfl⟩ (by decide +kernel) (Wd := 1) (by decide) (Nat.le_of_ble_eq_true rfl) (by decide) (by decide) (by decide)
    obtain ⟨rfl, rfl⟩ := qA5
    have A6 := A5.run [(9, .ishr, 10, 0)] (pe := 10) (by decide +kernel) rfl
    rw [n32_shr0] at A6
    exact ⟨_, _, _, _, A6.retI (by decide +kernel), ⟨rfl, rfl⟩, by decide, by decide⟩
  · have A3 := A2.alen T (by decide +kernel) (z := (2 * cs.length).toInt32) (by rw [enc16_len])
    have A4 := A3.run [(5, .aload_n 0, 6, 0)] (pe := 6) (by decide +kernel) rfl
    obtain ⟨_, HA5, qA5, A5, moA5, szA5⟩ := A4.callV (argsL := []) (wd_86 G) (wd_87 G) (wd_89 G) rfl (wd_89 G) (wd_88 G) (wd_12 G) (wd_90 G) E (c_sCod G C (Or.inr rfl)) (by decide) ⟨_, _, (by decide +kernel : parseMethodDescriptor "()B" = some ⟨[], some .byte⟩), rfl⟩ (by decide +kernel) (Wd := 1) (by decide) (Nat.le_of_ble_eq_true rfl) (by decide) (by decide) (by decide)
    obtain ⟨rfl, rfl⟩ := qA5
    have A6 := A5.run [(9, .ishr, 10, 0)] (pe := 10) (by decide +kernel) rfl
    rw [n32_shr1 (by rw [← enc16_len]; exact T.len)] at A6
    exact ⟨_, _, _, _, A6.retI (by decide +kernel), ⟨rfl, rfl⟩, by decide, by decide⟩
end JLen


section JCh
variable {l : Launch} {Z : State} {a0 : Array Value} {D : Dyn} {H : HP}
theorem G_fmt {Z : State} {a0 : Array Value} (G : Glb Z a0) : ∃ x : Value, x.isRef = true ∧ Sta Z Z.heap "jdk/internal/util/Preconditions" "SIOOBE_FORMATTER" "Ljava/util/function/BiFunction;" x := by
  obtain ⟨x, e, r⟩ := isR_v (Cond.before_iff.mp (G.2.1 _ (List.mem_of_getElem? (i := 8) rfl)))
  exact ⟨x, r, Sta.start e (Or.inl (G.2.1 _ (List.mem_of_getElem? (i := 7) rfl)))⟩
theorem c_isL (G : Glb Z a0) {a : Addr} {b : Int32} (F : Fld Z H.1 a "java/lang/String" "coder" "B" (.int b)) (r : Int32) (hb : b = 0 ∧ r = 1 ∨ b = 1 ∧ r = 0) :
    Ct l Z EL0 (⟨"java/lang/String", "isLatin1", "()Z"⟩ : MethodName) jdk_42_method_154_code 1 ((some .boolean)) ({ frames := 0, cells := 0, slots := 0, locals := 0 } : Room) [] [.ref a] H (fun v H' => v = some (.int r) ∧ H = H') := by
  refine Ct.in G (by first | exact plainFor_of_name (by simp [plainName, overriddenIn]; done) | decide +kernel) (ls := [.val (.ref a)]) rfl rfl fun D A0 => ?_
  obtain ⟨cz, hcz, cS⟩ := G_compact G
  have A1 := A0.getS (wd_14 G) cS (by decide +kernel)
  have A2 := A1.ifF (cd := .eq) (o := 14) (by decide +kernel) hcz
  have A3 := A2.run [(6, .aload_n 0, 7, 0)] (pe := 7) (by decide +kernel) rfl
  have A4 := A3.getF (wd_34 G) F (by decide +kernel)
  rcases hb with ⟨rfl, rfl⟩ | ⟨rfl, rfl⟩
  · have A5 := A4.ifF (cd := .ne) (o := 7) (by decide +kernel) (by show ¬ ¬ _ = _; decide)
    have A6 := A5.run [(13, .iconst 1, 14, 1), (14, .goto 4, 18, 0)] (pe := 18) (by decide +kernel) rfl
    exact ⟨_, _, _, _, A6.retZ (by decide +kernel) rfl, ⟨rfl, rfl⟩, by decide, by decide⟩
  · have A5 := A4.ifT (cd := .ne) (o := 7) (by decide +kernel) (by show ¬ _ = _; decide) (pe := 17) (by decide)
    have A6 := A5.run [(17, .iconst 0, 18, 0)] (pe := 18) (by decide +kernel) rfl
    exact ⟨_, _, _, _, A6.retZ (by decide +kernel) rfl, ⟨rfl, rfl⟩, by decide, by decide⟩
theorem c_pci (G : Glb Z a0) {i n : Nat} {f : Value} (hf : f.isRef = true) (hi : i < n) (hn : n < 2 ^ 31) :
    Ct l Z EL0 (⟨"jdk/internal/util/Preconditions", "checkIndex", "(IILjava/util/function/BiFunction;)I"⟩ : MethodName) jdk_41_method_11_code 3 ((some .int)) ({ frames := 0, cells := 0, slots := 0, locals := 0 } : Room) [] [.int i.toInt32, .int n.toInt32, f] H (fun v H' => v = some (.int i.toInt32) ∧ H = H') := by
  have key : ∀ s : Slot, locsOf [.int i.toInt32, .int n.toInt32, f] 3 = [.val (.int i.toInt32), .val (.int n.toInt32), s] → Ct l Z EL0 (⟨"jdk/internal/util/Preconditions", "checkIndex", "(IILjava/util/function/BiFunction;)I"⟩ : MethodName) jdk_41_method_11_code 3 ((some .int)) ({ frames := 0, cells := 0, slots := 0, locals := 0 } : Room) [] [.int i.toInt32, .int n.toInt32, f] H (fun v H' => v = some (.int i.toInt32) ∧ H = H') := by
    intro s hs
    refine Ct.in G (by first | exact plainFor_of_name (by simp [plainName, overriddenIn]; done) | decide +kernel) (ls := [.val (.int i.toInt32), .val (.int n.toInt32), s]) hs rfl fun D A0 => ?_
    have A1 := A0.run [(0, .iload_n 0, 1, 0)] (pe := 1) (by decide +kernel) rfl
    have A2 := A1.ifF (cd := .lt) (o := 8) (by decide +kernel) (nonneg_nat (by omega))
    have A3 := A2.run [(4, .iload_n 0, 5, 0), (5, .iload_n 1, 6, 0)] (pe := 6) (by decide +kernel) rfl
    have A4 := A3.icT (cd := .lt) (o := 10) (by decide +kernel) ((n32_lt (by omega) hn).mpr hi) (pe := 16) (by decide)
    have A5 := A4.run [(16, .iload_n 0, 17, 0)] (pe := 17) (by decide +kernel) rfl
    exact ⟨_, _, _, _, A5.retI (by decide +kernel), ⟨rfl, rfl⟩, by decide, by decide⟩
  rcases ref_cases hf with rfl | ⟨x, rfl⟩ <;> exact key _ rfl
theorem c_sci (G : Glb Z a0) {i n : Nat} (hi : i < n) (hn : n < 2 ^ 31) :
    Ct l Z EL0 (⟨"java/lang/String", "checkIndex", "(II)V"⟩ : MethodName) jdk_42_method_155_code 2 (none) ({ frames := 1, cells := 0, slots := 0, locals := 14 } : Room) [] [.int i.toInt32, .int n.toInt32] H (fun v H' => v = none ∧ H = H') := by
  refine Ct.in G (by first | exact plainFor_of_name (by simp [plainName, overriddenIn]; done) | decide +kernel) (ls := [.val (.int i.toInt32), .val (.int n.toInt32)]) rfl rfl fun D A0 => ?_
  obtain ⟨f, hf, fS⟩ := G_fmt G
  have A1 := A0.run [(0, .iload_n 0, 1, 0), (1, .iload_n 1, 2, 0)] (pe := 2) (by decide +kernel) rfl
  have A2 := A1.getS (wd_130 G) fS (by decide +kernel)
  obtain ⟨_, HA3, qA3, A3, moA3, szA3⟩ := A2.callS (argsL := [.int i.toInt32, .int n.toInt32, f]) (wd_177 G) (wd_178 G) (wd_131 G) (wd_179 G) (c_pci G hf hi hn) (by decide) ⟨_, _, (by decide +kernel : parseMethodDescriptor "(IILjava/util/function/BiFunction;)I" = some ⟨[.int, .int, (.object "java/util/function/BiFunction")], some .int⟩), rfl⟩ (by decide +kernel) (Wd := 0) (by decide) (Nat.le_of_ble_eq_true rfl) (by decide) (by decide) (by decide)
  obtain ⟨rfl, rfl⟩ := qA3
  have A4 := A3.run [(8, .pop, 9, 0)] (pe := 9) (by decide +kernel) rfl
  exact ⟨_, _, _, _, A4.ret (by decide +kernel), ⟨rfl, rfl⟩, by decide, by decide⟩
end JCh


section JCh1
variable {l : Launch} {Z : State} {a0 : Array Value} {D : Dyn} {H : HP}
theorem c_lch (G : Glb Z a0) {t : Addr} {cs : List Int32} {i : Nat} {c : Int32} (T : Ar Z H t .byte (lo8 cs)) (hla : Lat cs) (hC : ∀ c ∈ cs, isC c) (hc : cs[i]? = some c) :
    Ct l Z EL0 (⟨"java/lang/StringLatin1", "charAt", "([BI)C"⟩ : MethodName) jdk_43_method_2_code 2 ((some .char)) ({ frames := 2, cells := 0, slots := 0, locals := 27 } : Room) [] [.ref t, .int i.toInt32] H (fun v H' => v = some (.int c) ∧ H = H') := by
  refine Ct.in G (by first | exact plainFor_of_name (by simp [plainName, overriddenIn]; done) | decide +kernel) (ls := [.val (.ref t), .val (.int i.toInt32)]) rfl rfl fun D A0 => ?_
  have hi : i < cs.length := (List.getElem?_eq_some_iff.mp hc).1
  have hm : c ∈ cs := List.mem_of_getElem? hc
  have hn : cs.length < 2 ^ 31 := by simpa using T.len
  have A1 := A0.run [(0, .iload_n 1, 1, 0), (1, .aload_n 0, 2, 0)] (pe := 2) (by decide +kernel) rfl
  have A2 := A1.alen T (by decide +kernel) (z := cs.length.toInt32) (by simp)
  obtain ⟨_, HA3, qA3, A3, moA3, szA3⟩ := A2.callS (argsL := [.int i.toInt32, .int cs.length.toInt32]) (wd_174 G) (wd_175 G) (wd_12 G) (wd_176 G) (c_sci G hi hn) (by decide) ⟨_, _, (by decide +kernel : parseMethodDescriptor "(II)V" = some ⟨[.int, .int], none⟩), rfl⟩ (by decide +kernel) (Wd := 0) (by decide) (Nat.le_of_ble_eq_true rfl) (by decide) (by decide) (by decide)
  obtain ⟨rfl, rfl⟩ := qA3
  have A4 := A3.run [(6, .aload_n 0, 7, 0), (7, .iload_n 1, 8, 0)] (pe := 8) (by decide +kernel) rfl
  have A5 := A4.baload T (by decide +kernel) rfl (v := .int (b8 c)) (by simp [hc])
  have A6 := A5.run [(9, .sipush 255, 12, 255), (12, .iand, 13, 0), (13, .i2c, 14, 0)] (pe := 14) (by decide +kernel) rfl
  rw [b8_back (hC c hm) (hla c hm)] at A6
  exact ⟨_, _, _, _, A6.retC (by decide +kernel) (isC_nar (hC c hm)), ⟨rfl, rfl⟩, by decide, by decide⟩
theorem c_schL (G : Glb Z a0) {a : Addr} {cs : List Int32} {i : Nat} {c : Int32} (S : Str Z H a cs) (hla : Lat cs) (hc : cs[i]? = some c) :
    Ct l Z EL0 (⟨"java/lang/String", "charAt", "(I)C"⟩ : MethodName) jdk_42_method_56_code 2 ((some .char)) ({ frames := 3, cells := 0, slots := 0, locals := 40 } : Room) [] [.ref a, .int i.toInt32] H (fun v H' => v = some (.int c) ∧ H = H') := by
  refine Ct.in G (by first | exact plainFor_of_name (by simp [plainName, overriddenIn]; done) | decide +kernel) (ls := [.val (.ref a), .val (.int i.toInt32)]) rfl rfl fun D A0 => ?_
  have hC := S.2.1
  obtain ⟨E, t, F, C, T⟩ := S.opL hla
  have A1 := A0.run [(0, .aload_n 0, 1, 0)] (pe := 1) (by decide +kernel) rfl
  obtain ⟨_, HA2, qA2, A2, moA2, szA2⟩ := A1.callV (argsL := []) (wd_135 G) (wd_136 G) (wd_138 G) rfl (wd_138 G) (wd_137 G) (wd_12 G) (wd_139 G) E (c_isL G C 1 (Or.inl ⟨rfl, rfl⟩)) (by decide) ⟨_, _, (by decide +kernel : parseMethodDescriptor "()Z" = some ⟨[], some .boolean⟩), rfl⟩ (by decide +kernel) (Wd := 0) (by decide) (Nat.le_of_ble_eq_true rfl) (by decide) (by decide) (by decide)
  obtain ⟨rfl, rfl⟩ := qA2
  have A3 := A2.ifF (cd := .eq) (o := 12) (by decide +kernel) (by show ¬ _ = _; decide)
  have A4 := A3.run [(7, .aload_n 0, 8, 0)] (pe := 8) (by decide +kernel) rfl
  have A5 := A4.getF (wd_32 G) F (by decide +kernel)
  have A6 := A5.run [(11, .iload_n 1, 12, 0)] (pe := 12) (by decide +kernel) rfl
  obtain ⟨_, HA7, qA7, A7, moA7, szA7⟩ := A6.callS (argsL := [.ref t, .int i.toInt32]) (wd_171 G) (wd_172 G) (wd_17 G) (wd_173 G) (c_lch G T hla hC hc) (by decide) ⟨_, _, (by decide +kernel : parseMethodDescriptor "([BI)C" = some ⟨[(.array .byte), .int], some .char⟩), rfl⟩ (by decide +kernel) (Wd := 0) (by decide) (Nat.le_of_ble_eq_true rfl) (by decide) (by decide) (by decide)
  obtain ⟨rfl, rfl⟩ := qA7
  exact ⟨_, _, _, _, A7.retC (by decide +kernel) (isC_nar (hC c (List.mem_of_getElem? hc))), ⟨rfl, rfl⟩, by decide, by decide⟩
end JCh1

abbrev bit (p : Prop) [Decidable p] : Int32 := if p then 1 else 0
theorem bit_isB (p : Prop) [Decidable p] : nar .boolean (bit p) = bit p := by by_cases h : p <;> simp [bit, h, nar]


section JVof
variable {l : Launch} {Z : State} {a0 : Array Value} {D : Dyn} {H : HP}
theorem c_can (G : Glb Z a0) {c : Int32} (h : ¬ (255 : Int32) < c) : Ct l Z EL0 (⟨"java/lang/StringLatin1", "canEncode", "(C)Z"⟩ : MethodName) jdk_43_method_3_code 1 ((some .boolean)) ({ frames := 0, cells := 0, slots := 0, locals := 0 } : Room) [] [.int c] H (fun v H' => v = some (.int 1) ∧ H = H') := by
  refine Ct.in G (by first | exact plainFor_of_name (by simp [plainName, overriddenIn]; done) | decide +kernel) (ls := [.val (.int c)]) rfl rfl fun D A0 => ?_
  have A1 := A0.run [(0, .iload_n 0, 1, 0), (1, .sipush 255, 4, 255)] (pe := 4) (by decide +kernel) rfl
  have A2 := A1.icF (cd := .gt) (o := 7) (by decide +kernel) h
  have A3 := A2.run [(7, .iconst 1, 8, 1), (8, .goto 4, 12, 0)] (pe := 12) (by decide +kernel) rfl
  exact ⟨_, _, _, _, A3.retZ (by decide +kernel) rfl, ⟨rfl, rfl⟩, by decide, by decide⟩
theorem c_tb1 (G : Glb Z a0) {c : Int32} : Ct l Z EL0 (⟨"java/lang/StringLatin1", "toBytes", "(C)[B"⟩ : MethodName) jdk_43_method_46_code 1 ((some (.array .byte))) ({ frames := 0, cells := 1, slots := 1, locals := 0 } : Room) [] [.int c] H (fun v H' => ∃ t, v = some (.ref t) ∧ H.1.size ≤ t ∧ Kp H H' [] ∧ Ar Z H' t .byte (lo8 [c]) ∧ H'.2 t) := by
  refine Ct.in G (by first | exact plainFor_of_name (by simp [plainName, overriddenIn]; done) | decide +kernel) (ls := [.val (.int c)]) rfl rfl fun D A0 => ?_
  have A1 := A0.run [(0, .iconst 1, 1, 1)] (pe := 1) (by decide +kernel) rfl
  obtain ⟨t, H1, A2, hge, K1, T1, o1⟩ := A1.newA (aty := .byte) (wd_24 G) (by decide +kernel) (N := 1) rfl (cap := 1) (by decide) (by decide) (by decide) (by decide)
  have A3 := A2.run [(3, .dup, 4, 0), (4, .iconst 0, 5, 0), (5, .iload_n 0, 6, 0), (6, .i2b, 7, 0)] (pe := 7) (by decide +kernel) rfl
  obtain ⟨H2, A4, K2, T2⟩ := A3.bastore T1 o1 (by decide +kernel) (i := 0) rfl (by simp) (x2 := b8 c) (by
    have h := c_i2b c
    apply Int32.toInt_inj.mp
    have h2 := c_i2b (c.toInt8.toInt32)
    show (c.toInt8.toInt32.toInt8.toInt32).toInt = (c.toInt8.toInt32).toInt
    omega)
  exact ⟨_, _, _, _, A4.retA (by decide +kernel) rfl rfl, ⟨t, rfl, hge, K1.trans K2 (fun y hy => by cases List.mem_singleton.mp hy; exact Or.inr hge), T2, K2.2 _ o1⟩, by decide, by decide⟩
set_option maxRecDepth 65536 in
theorem c_sIB (G : Glb Z a0) {x t : Addr} {b : Int32} {cs : List Int32} (hC : ∀ c ∈ cs, isC c) (hb : Lat cs ∧ b = 0 ∧ Ar Z H t .byte (lo8 cs) ∨ ¬ Lat cs ∧ b = 1 ∧ Ar Z H t .byte (enc16 cs)) (E : Exa Z H.1 x "java/lang/String") (V : Fld Z H.1 x "java/lang/String" "value" "[B" .null) (C : Fld Z H.1 x "java/lang/String" "coder" "B" (.int 0)) (o : H.2 x) :
    Ct l Z EL0 (⟨"java/lang/String", "<init>", "([BB)V"⟩ : MethodName) jdk_42_method_151_code 3 (none) ({ frames := 1, cells := 0, slots := 0, locals := 12 } : Room) [] [.ref x, .ref t, .int b] H (fun v H' => v = none ∧ Kp H H' [x] ∧ Str Z H' x cs) := by
  refine Ct.in G (by first | exact plainFor_of_name (by simp [plainName, overriddenIn]; done) | decide +kernel) (ls := [.val (.ref x), .val (.ref t), .val (.int b)]) rfl rfl fun D A0 => ?_
  have A1 := A0.run [(0, .aload_n 0, 1, 0)] (pe := 1) (by decide +kernel) rfl
  have A2 := A1.initO (wd_29 G) (wd_30 G) (wd_31 G) (by decide +kernel) (Wd := 0) (by decide) (Nat.le_of_ble_eq_true rfl) (by decide)
  have A3 := A2.run [(4, .aload_n 0, 5, 0), (5, .aload_n 1, 6, 0)] (pe := 6) (by decide +kernel) rfl
  have hb2 : b = 0 ∨ b = 1 := hb.imp (fun q => q.2.1) (fun q => q.2.1)
  obtain ⟨H2, A4, K2, W2⟩ := A3.putFin (wd_32 G) V E (wd_33 G) rfl rfl (wd_20 G) o (by decide +kernel) (ty := .array .byte) (by decide) rfl rfl
  have A5 := A4.run [(9, .aload_n 0, 10, 0), (10, .iload_n 2, 11, 0)] (pe := 11) (by decide +kernel) rfl
  have sne := slot_ne (Z := Z) (Or.inr (wd_35 G)) (Or.inr (wd_33 G)) (by decide) (t := .byte) (by decide) (t' := .array .byte) (by decide)
  have C2 := C.other W2 (Or.inr sne)
  obtain ⟨H3, A6, K3, W3⟩ := A5.putFin (wd_34 G) C2 (E.ky K2) (wd_35 G) rfl rfl (wd_20 G) (K2.2 _ o) (by decide +kernel) (ty := .byte) (by decide) (by rcases hb2 with rfl | rfl <;> decide) (by rcases hb2 with rfl | rfl <;> decide)
  have hA : ∀ {vs : List Value}, Ar Z H t .byte vs → Ar Z H3 t .byte vs := fun {vs} F => by
    have ht : t ∉ [x] := by obtain ⟨c, A, -⟩ := F; simpa using Ne.symm (ne_arr E (wd_20 G) A)
    exact (F.ky K2 ht).ky K3 ht
  refine ⟨_, _, _, _, A6.ret (by decide +kernel), ⟨rfl, K2.trans K3 fun x hx => Or.inl hx, (E.ky K2).ky K3, hC, t, (V.same W2).other W3 (Or.inr (Ne.symm sne)), ?_⟩, by decide, by decide⟩
  rcases hb with ⟨q1, rfl, q3⟩ | ⟨q1, rfl, q3⟩
  · exact Or.inl ⟨q1, C2.same W3, hA q3⟩
  · exact Or.inr ⟨q1, C2.same W3, hA q3⟩
theorem c_vofL (G : Glb Z a0) {c : Int32} (hC : isC c) (h : ¬ (255 : Int32) < c) : Ct l Z EL0 (⟨"java/lang/String", "valueOf", "(C)Ljava/lang/String;"⟩ : MethodName) jdk_42_method_139_code 1 ((some (.object "java/lang/String"))) ({ frames := 2, cells := 2, slots := 5, locals := 27 } : Room) [] [.int c] H (fun v H' => ∃ s, v = some (.ref s) ∧ H.1.size ≤ s ∧ Kp H H' [] ∧ Str Z H' s [c]) := by
  refine Ct.in G (by first | exact plainFor_of_name (by simp [plainName, overriddenIn]; done) | decide +kernel) (ls := [.val (.int c)]) rfl rfl fun D A0 => ?_
  obtain ⟨cz, hcz, cS⟩ := G_compact G
  have A1 := A0.getS (wd_14 G) cS (by decide +kernel)
  have A2 := A1.ifF (cd := .eq) (o := 23) (by decide +kernel) hcz
  have A3 := A2.run [(6, .iload_n 0, 7, 0)] (pe := 7) (by decide +kernel) rfl
  obtain ⟨_, HA4, qA4, A4, moA4, szA4⟩ := A3.callS (argsL := [.int c]) (wd_15 G) (wd_16 G) (wd_17 G) (wd_18 G) (c_can G h) (by decide) ⟨_, _, (by decide +kernel : parseMethodDescriptor "(C)Z" = some ⟨[.char], some .boolean⟩), rfl⟩ (by decide +kernel) (Wd := 0) (by decide) (Nat.le_of_ble_eq_true rfl) (by decide) (by decide) (by decide)
  obtain ⟨rfl, rfl⟩ := qA4
  have A5 := A4.ifF (cd := .eq) (o := 16) (by decide +kernel) (by show ¬ _ = _; decide)
  obtain ⟨s, H1, A6, hge, K1, E, o, Df⟩ := A5.newO (wd_19 G) (wd_20 G) (wd_12 G) (by decide +kernel) (by decide) (by decide)
  have A7 := A6.run [(16, .dup, 17, 0), (17, .iload_n 0, 18, 0)] (pe := 18) (by decide +kernel) rfl
  obtain ⟨_, HA8, qA8, A8, moA8, szA8⟩ := A7.callS (argsL := [.int c]) (wd_21 G) (wd_22 G) (wd_17 G) (wd_23 G) (c_tb1 G) (by decide) ⟨_, _, (by decide +kernel : parseMethodDescriptor "(C)[B" = some ⟨[.char], some (.array .byte)⟩), rfl⟩ (by decide +kernel) (Wd := 2) (by decide) (Nat.le_of_ble_eq_true rfl) (by decide) (by decide) (by decide)
  obtain ⟨t, rfl, ht, K2, T, o2⟩ := qA8
  have A9 := A8.run [(21, .iconst 0, 22, 0)] (pe := 22) (by decide +kernel) rfl
  obtain ⟨_, HA10, qA10, A10, moA10, szA10⟩ := A9.callI (argsL := [.ref t, .int 0]) rfl (wd_25 G) (wd_26 G) (wd_12 G) (wd_28 G) (c_sIB G (cs := [c]) (fun d hd => by cases List.mem_singleton.mp hd; exact hC) (Or.inl ⟨lat1 h, rfl, T⟩) (E.ky K2) ((Df (Or.inr (wd_33 G)) (t := .array .byte) (by decide)).ky K2) ((Df (Or.inr (wd_35 G)) (t := .byte) (by decide)).ky K2) (K2.2 _ o)) (by decide) ⟨_, _, (by decide +kernel : parseMethodDescriptor "([BB)V" = some ⟨[(.array .byte), .byte], none⟩), rfl⟩ (by decide +kernel) (Wd := 1) (by decide) (Nat.le_of_ble_eq_true rfl) (by decide) (by decide) (by decide)
  obtain ⟨rfl, K3, S⟩ := qA10
  exact ⟨_, _, _, _, A10.retA (by decide +kernel) rfl rfl, ⟨s, rfl, hge, (K1.tr K2).trans K3 (fun y hy => by cases List.mem_singleton.mp hy; exact Or.inr hge), S⟩, by decide, by decide⟩
end JVof


section JCpr
variable {l : Launch} {Z : State} {a0 : Array Value} {D : Dyn} {H : HP}
theorem c_mmin (G : Glb Z a0) {i j : Nat} (hi : i < 2 ^ 31) (hj : j < 2 ^ 31) : Ct l Z EL0 (⟨"java/lang/Math", "min", "(II)I"⟩ : MethodName) jdk_29_method_69_code 2 ((some .int)) ({ frames := 0, cells := 0, slots := 0, locals := 0 } : Room) [] [.int i.toInt32, .int j.toInt32] H (fun v H' => v = some (.int (min i j).toInt32) ∧ H = H') := by
  refine Ct.in G (by decide +kernel) (ls := [.val (.int i.toInt32), .val (.int j.toInt32)]) rfl rfl fun D A0 => ?_
  have A1 := A0.run [(0, .iload_n 0, 1, 0), (1, .iload_n 1, 2, 0)] (pe := 2) (by decide +kernel) rfl
  by_cases h : j < i
  · have A2 := A1.icT (cd := .gt) (o := 7) (by decide +kernel) ((n32_lt hj hi).mpr h) (pe := 9) (by decide)
    have A3 := A2.run [(9, .iload_n 1, 10, 0)] (pe := 10) (by decide +kernel) rfl
    exact ⟨_, _, _, _, A3.retI (by decide +kernel), ⟨by rw [Nat.min_eq_right (by omega)], rfl⟩, by decide, by decide⟩
  · have A2 := A1.icF (cd := .gt) (o := 7) (by decide +kernel) (fun q => h ((n32_lt hj hi).mp q))
    have A3 := A2.run [(5, .iload_n 0, 6, 0), (6, .goto 4, 10, 0)] (pe := 10) (by decide +kernel) rfl
    exact ⟨_, _, _, _, A3.retI (by decide +kernel), ⟨by rw [Nat.min_eq_left (by omega)], rfl⟩, by decide, by decide⟩
theorem c_chl (G : Glb Z a0) {i j : Nat} (hi : i < 2 ^ 31) (hj : j < 2 ^ 31) (h : i ≤ j) : Ct l Z EL0 (⟨"java/util/Arrays", "checkLength", "(II)V"⟩ : MethodName) jdk_65_method_131_code 2 (none) ({ frames := 0, cells := 0, slots := 0, locals := 0 } : Room) [] [.int i.toInt32, .int j.toInt32] H (fun v H' => v = none ∧ H = H') := by
  refine Ct.in G (by first | exact plainFor_of_name (by simp [plainName, overriddenIn]; done) | decide +kernel) (ls := [.val (.int i.toInt32), .val (.int j.toInt32)]) rfl rfl fun D A0 => ?_
  have A1 := A0.run [(0, .iload_n 1, 1, 0), (1, .iload_n 0, 2, 0)] (pe := 2) (by decide +kernel) rfl
  have A2 := A1.icT (cd := .ge) (o := 35) (by decide +kernel) (fun q => by have := (n32_lt hj hi).mp q; omega) (pe := 37) (by decide)
  exact ⟨_, _, _, _, A2.ret (by decide +kernel), ⟨rfl, rfl⟩, by decide, by decide⟩
set_option maxRecDepth 65536 in
theorem c_cpb (G : Glb Z a0) {t : Addr} {vs : List Value} {i j : Nat} (T : Ar Z H t .byte vs) (h1 : i ≤ j) (h2 : j ≤ vs.length) (h3 : j - i ≤ 9) :
    Ct l Z EL0 (⟨"java/util/Arrays", "copyOfRangeByte", "([BII)[B"⟩ : MethodName) jdk_65_method_133_code 5 ((some (.array .byte))) ({ frames := 1, cells := 1, slots := 9, locals := 18 } : Room) [] [.ref t, .int i.toInt32, .int j.toInt32] H (fun v H' => ∃ u, v = some (.ref u) ∧ H.1.size ≤ u ∧ Kp H H' [] ∧ Ar Z H' u .byte ((vs.drop i).take (j - i)) ∧ H'.2 u) := by
  refine Ct.in G (by first | exact plainFor_of_name (by simp [plainName, overriddenIn]; done) | decide +kernel) (ls := [.val (.ref t), .val (.int i.toInt32), .val (.int j.toInt32), .unset, .unset]) rfl rfl fun D A0 => ?_
  have hL := T.len
  have A1 := A0.run [(0, .iload_n 1, 1, 0), (1, .iload_n 2, 2, 0)] (pe := 2) (by decide +kernel) rfl
  obtain ⟨_, HA2, qA2, A2, moA2, szA2⟩ := A1.callS (argsL := [.int i.toInt32, .int j.toInt32]) (wd_151 G) (wd_152 G) (wd_146 G) (wd_153 G) (c_chl G (by omega) (by omega) h1) (by decide) ⟨_, _, (by decide +kernel : parseMethodDescriptor "(II)V" = some ⟨[.int, .int], none⟩), rfl⟩ (by decide +kernel) (Wd := 0) (by decide) (Nat.le_of_ble_eq_true rfl) (by decide) (by decide) (by decide)
  obtain ⟨rfl, rfl⟩ := qA2
  have A3 := A2.run [(5, .iload_n 2, 6, 0), (6, .iload_n 1, 7, 0), (7, .isub, 8, 0)] (pe := 8) (by decide +kernel) rfl
  rw [n32_sub h1] at A3
  have A4 := A3.run [(8, .istore_n 3, 9, 0), (9, .iload_n 3, 10, 0)] (pe := 10) (by decide +kernel) rfl
  obtain ⟨u, H1, A5, hge, K1, U1, o1⟩ := A4.newA (aty := .byte) (wd_24 G) (by decide +kernel) (N := j - i) rfl (cap := 9) h3 (by decide) (by decide) (by decide)
  have A6 := A5.run [(12, .astore 4, 14, 0), (14, .aload_n 0, 15, 0), (15, .iload_n 1, 16, 0), (16, .aload 4, 18, 0), (18, .iconst 0, 19, 0), (19, .aload_n 0, 20, 0)] (pe := 20) (by decide +kernel) rfl
  have A7 := A6.alen (T.ky K1) (by decide +kernel) rfl
  have A8 := A7.run [(21, .iload_n 1, 22, 0), (22, .isub, 23, 0)] (pe := 23) (by decide +kernel) rfl
  rw [n32_sub (by omega)] at A8
  have A9 := A8.run [(23, .iload_n 3, 24, 0)] (pe := 24) (by decide +kernel) rfl
  obtain ⟨_, HA10, qA10, A10, moA10, szA10⟩ := A9.callS (argsL := [.int (vs.length - i).toInt32, .int (j - i).toInt32]) (wd_154 G) (wd_155 G) (wd_101 G) (wd_156 G) (c_mmin G (by omega) (by omega)) (by decide) ⟨_, _, (by decide +kernel : parseMethodDescriptor "(II)I" = some ⟨[.int, .int], some .int⟩), rfl⟩ (by decide +kernel) (Wd := 4) (by decide) (Nat.le_of_ble_eq_true rfl) (by decide) (by decide) (by decide)
  obtain ⟨rfl, rfl⟩ := qA10
  rw [Nat.min_eq_right (by omega)] at A10
  obtain ⟨H2, A11, K2, U2⟩ := A10.copy (wd_157 G) (wd_160 G) (wd_158 G) (wd_159 G) (T.ky K1) U1 rfl o1 (i := i) rfl (j := 0) rfl (q := j - i) rfl (by omega) (by simp) (by decide +kernel) (by decide) (Wd := 0) (by decide) (Nat.le_of_ble_eq_true rfl)
  have A12 := A11.run [(30, .aload 4, 32, 0)] (pe := 32) (by decide +kernel) rfl
  have e : (List.replicate (j - i) (defaultValue (newarray.typeOf .byte))).drop (0 + (j - i)) = [] := List.drop_eq_nil_of_le (by simp)
  rw [e, List.take_zero, List.nil_append, List.append_nil] at U2
  exact ⟨_, _, _, _, A12.retA (by decide +kernel) rfl rfl, ⟨u, rfl, hge, K1.trans K2 (fun y hy => by cases List.mem_singleton.mp hy; exact Or.inr hge), U2, K2.2 _ o1⟩, by decide, by decide⟩
theorem c_cpr (G : Glb Z a0) {t : Addr} {vs : List Value} {i j : Nat} (T : Ar Z H t .byte vs) (h1 : i ≤ j) (h2 : j ≤ vs.length) (h3 : j - i ≤ 9) (h4 : i = 0 → j ≠ vs.length) :
    Ct l Z EL0 (⟨"java/util/Arrays", "copyOfRange", "([BII)[B"⟩ : MethodName) jdk_65_method_132_code 3 ((some (.array .byte))) ({ frames := 2, cells := 1, slots := 9, locals := 34 } : Room) [] [.ref t, .int i.toInt32, .int j.toInt32] H (fun v H' => ∃ u, v = some (.ref u) ∧ H.1.size ≤ u ∧ Kp H H' [] ∧ Ar Z H' u .byte ((vs.drop i).take (j - i)) ∧ H'.2 u) := by
  refine Ct.in G (by first | exact plainFor_of_name (by simp [plainName, overriddenIn]; done) | decide +kernel) (ls := [.val (.ref t), .val (.int i.toInt32), .val (.int j.toInt32)]) rfl rfl fun D A0 => ?_
  have hL := T.len
  have A1 := A0.run [(0, .iload_n 1, 1, 0)] (pe := 1) (by decide +kernel) rfl
  have key : Wk l Z a0 EL0 "java/util/Arrays" jdk_65_method_132_code 3 "copyOfRange" (some (.array .byte)) ({ frames := 2, cells := 1, slots := 9, locals := 34 } : Room) D 10 [.val (.ref t), .val (.int i.toInt32), .val (.int j.toInt32)] [] H 0 0 := by
    by_cases h : i = 0
    · have B1 := A1.ifF (cd := .ne) (o := 9) (by decide +kernel) (not_not_intro (by rw [h]; rfl))
      have B2 := B1.run [(4, .iload_n 2, 5, 0), (5, .aload_n 0, 6, 0)] (pe := 6) (by decide +kernel) rfl
      have B3 := B2.alen T (by decide +kernel) rfl
      have B4 := B3.icF (cd := .eq) (o := 10) (by decide +kernel) (fun q => h4 h ((n32_inj (by omega) hL).mp q))
      exact B4
    · have B1 := A1.ifT (cd := .ne) (o := 9) (by decide +kernel) (fun q => h ((n32_inj (j := 0) (by omega) (by decide)).mp q)) (pe := 10) (by decide)
      exact B1
  have A2 := key.run [(10, .aload_n 0, 11, 0), (11, .iload_n 1, 12, 0), (12, .iload_n 2, 13, 0)] (pe := 13) (by decide +kernel) rfl
  obtain ⟨_, HA3, qA3, A3, moA3, szA3⟩ := A2.callS (argsL := [.ref t, .int i.toInt32, .int j.toInt32]) (wd_148 G) (wd_149 G) (wd_146 G) (wd_150 G) (c_cpb G T h1 h2 h3) (by decide) ⟨_, _, (by decide +kernel : parseMethodDescriptor "([BII)[B" = some ⟨[(.array .byte), .int, .int], some (.array .byte)⟩), rfl⟩ (by decide +kernel) (Wd := 0) (by decide) (Nat.le_of_ble_eq_true rfl) (by decide) (by decide) (by decide)
  obtain ⟨u, rfl, q⟩ := qA3
  exact ⟨_, _, _, _, A3.retA (by decide +kernel) rfl rfl, ⟨u, rfl, q⟩, by decide, by decide⟩
end JCpr


theorem xinj {c a b : Int32} (h : c ^^^ a = c ^^^ b) : a = b := by
  have : c ^^^ (c ^^^ a) = c ^^^ (c ^^^ b) := by rw [h]
  rw [← Int32.xor_assoc, ← Int32.xor_assoc, Int32.xor_self, Int32.zero_xor, Int32.zero_xor] at this
  exact this
theorem xor_ne0 (c : Int32) : c ^^^ 1 ≠ c ∧ c ^^^ 2 ≠ c ∧ c ^^^ 2 ≠ c ^^^ 1 := by
  refine ⟨fun e => ?_, fun e => ?_, fun e => ?_⟩
  · have : c ^^^ 1 = c ^^^ 0 := by rw [e, Int32.xor_zero]
    exact absurd (xinj this) (by decide)
  · have : c ^^^ 2 = c ^^^ 0 := by rw [e, Int32.xor_zero]
    exact absurd (xinj this) (by decide)
  · exact absurd (xinj e) (by decide)
theorem xor_lt8 {y z : Int32} (h1 : 0 ≤ y.toInt) (h2 : y.toInt < 256) (hz : z.toBitVec.toNat < 256) : 0 ≤ (y ^^^ z).toInt ∧ (y ^^^ z).toInt < 256 := by
  have hn : (y ^^^ z).toBitVec.toNat = y.toBitVec.toNat ^^^ z.toBitVec.toNat := by
    show (y.toBitVec ^^^ z.toBitVec).toNat = _
    rw [BitVec.toNat_xor]
  have hy : y.toBitVec.toInt = y.toInt := rfl
  have hb := y.toBitVec.isLt
  rw [BitVec.toInt_eq_toNat_cond] at hy
  have hy2 : (y.toBitVec.toNat : Int) = y.toInt := by split at hy <;> omega
  have hx := Nat.xor_lt_two_pow (n := 8) (x := y.toBitVec.toNat) (y := z.toBitVec.toNat) (by omega) (by omega)
  have hq : (y ^^^ z).toBitVec.toInt = (y ^^^ z).toInt := rfl
  rw [BitVec.toInt_eq_toNat_cond, hn, if_pos (by omega)] at hq
  omega
def okL (c : Int32) : Prop := 0 ≤ c.toInt ∧ c.toInt < 256
theorem okL.isC {c : Int32} (h : okL c) : isC c := ⟨h.1, Int.lt_trans h.2 (by decide)⟩
theorem okL.lat {c : Int32} (h : okL c) : ¬ (255 : Int32) < c := by
  rw [Int32.lt_iff_toInt_lt, show (255 : Int32).toInt = 255 by decide]; have := h.2; omega
theorem okL.i2c {c : Int32} (h : okL c) : c.toUInt32.toUInt16.toUInt32.toInt32 = c := isC_nar h.isC
theorem okL_mask (i : Int32) : okL (i &&& 255) := by
  have h := c_and i 255 (by decide)
  rw [show (255 : Int32).toInt = 255 by decide] at h
  exact ⟨h.1, by omega⟩
theorem b8_inj {c d : Int32} (hc : okL c) (hd : okL d) (h : b8 c = b8 d) : c = d := by
  rw [← b8_back' hc.isC hc.lat, ← b8_back' hd.isC hd.lat, h]
theorem n32_pred {k : Nat} (h : 1 ≤ k) : k.toInt32 - 1 = (k - 1).toInt32 := n32_sub (i := k) (j := 1) h
theorem remN {x : Int32} {m : Nat} (hx : 0 ≤ x.toInt) (hm : 0 < m) (hm2 : m < 2 ^ 31) : m.toInt32 ≠ 0 ∧ ∃ r : Nat, r < m ∧ x % m.toInt32 = r.toInt32 := by
  have e := n32_toInt hm2
  refine ⟨fun q => ?_, ?_⟩
  · have := congrArg Int32.toInt q; rw [e, show (0 : Int32).toInt = 0 by decide] at this; omega
  · have h := (c_iremV x m.toInt32).1 hx (by omega)
    refine ⟨(x % m.toInt32).toInt.toNat, by omega, ?_⟩
    apply Int32.toInt_inj.mp
    rw [n32_toInt (by omega)]; omega
/-- what stands at place i of the line -/
def Cell (a b len : Nat) (d0 d1 : Int32) (i : Nat) (c : Int32) : Prop :=
  okL c ∧ (i < a ∨ (a + len ≤ i ∧ i < a + len + b) ∨ a + 2 * len + b ≤ i → c ≠ d0) ∧ (i = a ∨ i = a + len + b → c = d0) ∧ (len = 2 → i = a + 1 ∨ i = a + len + b + 1 → c = d1)
abbrev FNm : String := "com/example/onepass/onepass/model/Fields"
section LawF
variable {l : Launch} {Z : State} {a0 : Array Value} {D : Dyn} {H : HP}
theorem c_pick (G : Glb Z a0) {c d0 d1 : Int32} (hc : okL c) : Ct l Z EL0 (⟨"com/example/onepass/onepass/model/FieldsGetPinLaw", "pick", "(ICC)C"⟩ : MethodName) method_4_code 4 ((some .char)) ({ frames := 0, cells := 0, slots := 0, locals := 0 } : Room) [] [.int c, .int d0, .int d1] H (fun v H' => ∃ f, okL f ∧ f ≠ d0 ∧ f ≠ d1 ∧ v = some (.int f) ∧ H = H') := by
  refine Ct.in G (by first | exact plainFor_of_name (by simp [plainName, overriddenIn]; done) | decide +kernel) (ls := [.val (.int c), .val (.int d0), .val (.int d1), .unset]) rfl rfl fun D A0 => ?_
  have h1 : okL (c ^^^ 1) := xor_lt8 hc.1 hc.2 (by decide)
  have h2 : okL (c ^^^ 2) := xor_lt8 hc.1 hc.2 (by decide)
  obtain ⟨n1, n2, n3⟩ := xor_ne0 c
  have A1 := A0.run [(0, .iload_n 0, 1, 0), (1, .iload_n 1, 2, 0)] (pe := 2) (by decide +kernel) rfl
  have fin : (c = d0 ∨ c = d1) → Wk l Z a0 EL0 "com/example/onepass/onepass/model/FieldsGetPinLaw" method_4_code 4 "pick" (some .char) ({ frames := 0, cells := 0, slots := 0, locals := 0 } : Room) D 13 [.val (.int c), .val (.int d0), .val (.int d1), .unset] [] H 0 0 → ∃ v H' k n, Rt Z EL0 D v H' k n ∧ (∃ f, okL f ∧ f ≠ d0 ∧ f ≠ d1 ∧ v = some (.int f) ∧ H = H') ∧ k ≤ (({ frames := 0, cells := 0, slots := 0, locals := 0 } : Room)).cells ∧ n ≤ (({ frames := 0, cells := 0, slots := 0, locals := 0 } : Room)).slots := by
    intro hd B0
    have B1 := B0.run [(13, .iload_n 0, 14, 0), (14, .iconst 1, 15, 1), (15, .ixor, 16, 0), (16, .istore_n 3, 17, 0), (17, .iload_n 3, 18, 0), (18, .iload_n 1, 19, 0)] (pe := 19) (by decide +kernel) rfl
    have fin2 : (c ^^^ 1 = d0 ∨ c ^^^ 1 = d1) → Wk l Z a0 EL0 "com/example/onepass/onepass/model/FieldsGetPinLaw" method_4_code 4 "pick" (some .char) ({ frames := 0, cells := 0, slots := 0, locals := 0 } : Room) D 30 [.val (.int c), .val (.int d0), .val (.int d1), .val (.int (c ^^^ 1))] [] H 0 0 → ∃ v H' k n, Rt Z EL0 D v H' k n ∧ (∃ f, okL f ∧ f ≠ d0 ∧ f ≠ d1 ∧ v = some (.int f) ∧ H = H') ∧ k ≤ (({ frames := 0, cells := 0, slots := 0, locals := 0 } : Room)).cells ∧ n ≤ (({ frames := 0, cells := 0, slots := 0, locals := 0 } : Room)).slots := by
      intro he C0
      have C1 := C0.run [(30, .iload_n 0, 31, 0), (31, .iconst 2, 32, 2), (32, .ixor, 33, 0), (33, .i2c, 34, 0)] (pe := 34) (by decide +kernel) rfl
      rw [h2.i2c] at C1
      refine ⟨_, _, _, _, C1.retC (by decide +kernel) (isC_nar h2.isC), ⟨_, h2, ?_, ?_, rfl, rfl⟩, by decide, by decide⟩
      · rintro rfl
        rcases he with he | rfl
        · exact n3 he.symm
        · exact hd.elim (fun q => n2 q.symm) (fun q => n1 q.symm)
      · rintro rfl
        rcases he with rfl | he
        · exact hd.elim (fun q => n1 q.symm) (fun q => n2 q.symm)
        · exact n3 he.symm
    by_cases e0 : c ^^^ 1 = d0
    · have B2 := B1.icT (cd := .eq) (o := 11) (by decide +kernel) e0 (pe := 30) (by decide)
      exact fin2 (Or.inl e0) B2
    · have B2 := B1.icF (cd := .eq) (o := 11) (by decide +kernel) e0
      have B3 := B2.run [(22, .iload_n 3, 23, 0), (23, .iload_n 2, 24, 0)] (pe := 24) (by decide +kernel) rfl
      by_cases e1 : c ^^^ 1 = d1
      · have B4 := B3.icT (cd := .eq) (o := 6) (by decide +kernel) e1 (pe := 30) (by decide)
        exact fin2 (Or.inr e1) B4
      · have B4 := B3.icF (cd := .eq) (o := 6) (by decide +kernel) e1
        have B5 := B4.run [(27, .iload_n 3, 28, 0), (28, .i2c, 29, 0)] (pe := 29) (by decide +kernel) rfl
        rw [h1.i2c] at B5
        exact ⟨_, _, _, _, B5.retC (by decide +kernel) (isC_nar h1.isC), ⟨_, h1, e0, e1, rfl, rfl⟩, by decide, by decide⟩
  by_cases e0 : c = d0
  · have A2 := A1.icT (cd := .eq) (o := 11) (by decide +kernel) e0 (pe := 13) (by decide)
    exact fin (Or.inl e0) A2
  · have A2 := A1.icF (cd := .eq) (o := 11) (by decide +kernel) e0
    have A3 := A2.run [(5, .iload_n 0, 6, 0), (6, .iload_n 2, 7, 0)] (pe := 7) (by decide +kernel) rfl
    by_cases e1 : c = d1
    · have A4 := A3.icT (cd := .eq) (o := 6) (by decide +kernel) e1 (pe := 13) (by decide)
      exact fin (Or.inr e1) A4
    · have A4 := A3.icF (cd := .eq) (o := 6) (by decide +kernel) e1
      have A5 := A4.run [(10, .iload_n 0, 11, 0), (11, .i2c, 12, 0)] (pe := 12) (by decide +kernel) rfl
      rw [hc.i2c] at A5
      exact ⟨_, _, _, _, A5.retC (by decide +kernel) (isC_nar hc.isC), ⟨_, hc, e0, e1, rfl, rfl⟩, by decide, by decide⟩
theorem okL_long (x : Int64) : okL (x &&& 255).toInt32 := by
  have h := c_maskL x 255 8 (by decide) (by decide)
  simp only [Nat.reducePow] at h
  have q := c_l2i (x &&& 255)
  have r := rng32 (x &&& 255).toInt32
  simp only [okL]; omega
set_option maxRecDepth 65536 in
set_option maxHeartbeats 1000000 in
theorem c_cell (G : Glb Z a0) {i a b len : Nat} {d0 d1 d : Int32} {p : Int64} (hi : i ≤ 8) (ha : a ≤ 9) (hb : b ≤ 9) (hl : len = 1 ∨ len = 2) (o0 : okL d0) (o1 : okL d1) :
    Ct l Z EL0 (⟨"com/example/onepass/onepass/model/FieldsGetPinLaw", "cell", "(IIIICCJI)C"⟩ : MethodName) method_5_code 11 ((some .char)) ({ frames := 1, cells := 0, slots := 0, locals := 15 } : Room) [] [.int i.toInt32, .int a.toInt32, .int b.toInt32, .int len.toInt32, .int d0, .int d1, .long p, .int d] H (fun v H' => ∃ c, Cell a b len d0 d1 i c ∧ v = some (.int c) ∧ H = H') := by
  refine Ct.in G (by first | exact plainFor_of_name (by simp [plainName, overriddenIn]; done) | decide +kernel) (ls := [.val (.int i.toInt32), .val (.int a.toInt32), .val (.int b.toInt32), .val (.int len.toInt32), .val (.int d0), .val (.int d1), .val (.long p), .second, .val (.int d), .unset, .unset]) rfl rfl fun D A0 => ?_
  have A1 := A0.run [(0, .iload_n 0, 1, 0), (1, .bipush 8, 3, 8)] (pe := 3) (by decide +kernel) rfl
  obtain ⟨raw, hraw, A2⟩ : ∃ raw, okL raw ∧ Wk l Z a0 EL0 "com/example/onepass/onepass/model/FieldsGetPinLaw" method_5_code 11 "cell" (some .char) ({ frames := 1, cells := 0, slots := 0, locals := 15 } : Room) D 30 [.val (.int i.toInt32), .val (.int a.toInt32), .val (.int b.toInt32), .val (.int len.toInt32), .val (.int d0), .val (.int d1), .val (.long p), .second, .val (.int d), .unset, .unset] [.int raw] H 0 0 := by
    by_cases h : i < 8
    · have B1 := A1.icF (cd := .ge) (o := 18) (by decide +kernel) (not_not_intro ((n32_lt (j := 8) (by omega) (by decide)).mpr h))
      have B2 := B1.run [(6, .lload 6, 8, 0), (8, .bipush 8, 10, 8), (10, .iload_n 0, 11, 0), (11, .imul, 12, 0), (12, .lushr, 13, 0)] (pe := 13) (by decide +kernel) rfl
      have B3 := B2.ldcJ (wd_6 G) (by decide +kernel)
      have B4 := B3.run [(16, .land, 17, 0), (17, .l2i, 18, 0), (18, .goto 12, 30, 0)] (pe := 30) (by decide +kernel) rfl
      exact ⟨_, okL_long _, B4⟩
    · have B1 := A1.icT (cd := .ge) (o := 18) (by decide +kernel) (fun q => h ((n32_lt (j := 8) (by omega) (by decide)).mp q)) (pe := 21) (by decide)
      have B2 := B1.run [(21, .iload 8, 23, 0), (23, .bipush 16, 25, 16), (25, .iushr, 26, 0), (26, .sipush 255, 29, 255), (29, .iand, 30, 0)] (pe := 30) (by decide +kernel) rfl
      exact ⟨_, okL_mask _, B2⟩
  have A3 := A2.run [(30, .istore 9, 32, 0), (32, .iload 9, 34, 0), (34, .iload 4, 36, 0), (36, .iload 5, 38, 0)] (pe := 38) (by decide +kernel) rfl
  obtain ⟨_, HA4, qA4, A4, moA4, szA4⟩ := A3.callS (argsL := [.int raw, .int d0, .int d1]) (wd_7 G) (wd_8 G) (wd_4 G) (wd_9 G) (c_pick G hraw) (by decide) ⟨_, _, (by decide +kernel : parseMethodDescriptor "(ICC)C" = some ⟨[.int, .char, .char], some .char⟩), rfl⟩ (by decide +kernel) (Wd := 0) (by decide) (Nat.le_of_ble_eq_true rfl) (by decide) (by decide) (by decide)
  obtain ⟨f, hf, f0, f1, rfl, rfl⟩ := qA4
  have A5 := A4.run [(41, .istore 10, 43, 0), (43, .iload_n 0, 44, 0), (44, .iload_n 1, 45, 0)] (pe := 45) (by decide +kernel) rfl
  by_cases h1 : i < a
  · have B1 := A5.icF (cd := .ge) (o := 6) (by decide +kernel) (not_not_intro ((n32_lt (by omega) (by omega)).mpr h1))
    have B2 := B1.run [(48, .iload 10, 50, 0)] (pe := 50) (by decide +kernel) rfl
    exact ⟨_, _, _, _, B2.retC (by decide +kernel) (isC_nar hf.isC), ⟨f, ⟨hf, fun _ => f0, fun q => by omega, fun _ q => by omega⟩, rfl, rfl⟩, by decide, by decide⟩
  have A6 := A5.icT (cd := .ge) (o := 6) (by decide +kernel) (fun q => h1 ((n32_lt (by omega) (by omega)).mp q)) (pe := 51) (by decide)
  have A7 := A6.run [(51, .iload_n 0, 52, 0), (52, .iload_n 1, 53, 0), (53, .iload_n 3, 54, 0), (54, .iadd, 55, 0)] (pe := 55) (by decide +kernel) rfl
  rw [n32_add] at A7
  by_cases h2 : i < a + len
  · have B1 := A7.icF (cd := .ge) (o := 17) (by decide +kernel) (not_not_intro ((n32_lt (by omega) (by omega)).mpr h2))
    have B2 := B1.run [(58, .iload_n 0, 59, 0), (59, .iload_n 1, 60, 0), (60, .isub, 61, 0)] (pe := 61) (by decide +kernel) rfl
    rw [n32_sub (by omega)] at B2
    by_cases h3 : i = a
    · have B3 := B2.ifF (cd := .ne) (o := 8) (by decide +kernel) (not_not_intro (by rw [show i - a = 0 by omega]; rfl))
      have B4 := B3.run [(64, .iload 4, 66, 0), (66, .goto 5, 71, 0)] (pe := 71) (by decide +kernel) rfl
      exact ⟨_, _, _, _, B4.retC (by decide +kernel) (isC_nar o0.isC), ⟨d0, ⟨o0, fun q => by omega, fun _ => rfl, fun _ q => by omega⟩, rfl, rfl⟩, by decide, by decide⟩
    · have B3 := B2.ifT (cd := .ne) (o := 8) (by decide +kernel) (fun q => by have := (n32_inj (i := i - a) (j := 0) (by omega) (by decide)).mp q; omega) (pe := 69) (by decide)
      have B4 := B3.run [(69, .iload 5, 71, 0)] (pe := 71) (by decide +kernel) rfl
      exact ⟨_, _, _, _, B4.retC (by decide +kernel) (isC_nar o1.isC), ⟨d1, ⟨o1, fun q => by omega, fun q => by omega, fun _ _ => rfl⟩, rfl, rfl⟩, by decide, by decide⟩
  have A8 := A7.icT (cd := .ge) (o := 17) (by decide +kernel) (fun q => h2 ((n32_lt (by omega) (by omega)).mp q)) (pe := 72) (by decide)
  have A9 := A8.run [(72, .iload_n 0, 73, 0), (73, .iload_n 1, 74, 0), (74, .iload_n 3, 75, 0), (75, .iadd, 76, 0), (76, .iload_n 2, 77, 0), (77, .iadd, 78, 0)] (pe := 78) (by decide +kernel) rfl
  rw [n32_add, n32_add] at A9
  by_cases h3 : i < a + len + b
  · have B1 := A9.icF (cd := .ge) (o := 6) (by decide +kernel) (not_not_intro ((n32_lt (by omega) (by omega)).mpr h3))
    have B2 := B1.run [(81, .iload 10, 83, 0)] (pe := 83) (by decide +kernel) rfl
    exact ⟨_, _, _, _, B2.retC (by decide +kernel) (isC_nar hf.isC), ⟨f, ⟨hf, fun _ => f0, fun q => by omega, fun _ q => by omega⟩, rfl, rfl⟩, by decide, by decide⟩
  have A10 := A9.icT (cd := .ge) (o := 6) (by decide +kernel) (fun q => h3 ((n32_lt (by omega) (by omega)).mp q)) (pe := 84) (by decide)
  have A11 := A10.run [(84, .iload_n 0, 85, 0), (85, .iload_n 1, 86, 0), (86, .iconst 2, 87, 2), (87, .iload_n 3, 88, 0), (88, .imul, 89, 0)] (pe := 89) (by decide +kernel) rfl
  have e2 : (2 : Int32) * len.toInt32 = (2 * len).toInt32 := by rcases hl with rfl | rfl <;> decide
  rw [e2] at A11
  have A12 := A11.run [(89, .iadd, 90, 0), (90, .iload_n 2, 91, 0), (91, .iadd, 92, 0)] (pe := 92) (by decide +kernel) rfl
  rw [n32_add, n32_add] at A12
  by_cases h4 : i < a + 2 * len + b
  · have B1 := A12.icF (cd := .ge) (o := 21) (by decide +kernel) (not_not_intro ((n32_lt (by omega) (by omega)).mpr h4))
    have B2 := B1.run [(95, .iload_n 0, 96, 0), (96, .iload_n 1, 97, 0), (97, .isub, 98, 0), (98, .iload_n 3, 99, 0), (99, .isub, 100, 0), (100, .iload_n 2, 101, 0), (101, .isub, 102, 0)] (pe := 102) (by decide +kernel) rfl
    rw [n32_sub (by omega), n32_sub (by omega), n32_sub (by omega)] at B2
    by_cases h5 : i = a + len + b
    · have B3 := B2.ifF (cd := .ne) (o := 8) (by decide +kernel) (not_not_intro (by rw [show i - a - len - b = 0 by omega]; rfl))
      have B4 := B3.run [(105, .iload 4, 107, 0), (107, .goto 5, 112, 0)] (pe := 112) (by decide +kernel) rfl
      exact ⟨_, _, _, _, B4.retC (by decide +kernel) (isC_nar o0.isC), ⟨d0, ⟨o0, fun q => by omega, fun _ => rfl, fun _ q => by omega⟩, rfl, rfl⟩, by decide, by decide⟩
    · have B3 := B2.ifT (cd := .ne) (o := 8) (by decide +kernel) (fun q => by have := (n32_inj (i := i - a - len - b) (j := 0) (by omega) (by decide)).mp q; omega) (pe := 110) (by decide)
      have B4 := B3.run [(110, .iload 5, 112, 0)] (pe := 112) (by decide +kernel) rfl
      exact ⟨_, _, _, _, B4.retC (by decide +kernel) (isC_nar o1.isC), ⟨d1, ⟨o1, fun q => by omega, fun q => by omega, fun _ _ => rfl⟩, rfl, rfl⟩, by decide, by decide⟩
  have A13 := A12.icT (cd := .ge) (o := 21) (by decide +kernel) (fun q => h4 ((n32_lt (by omega) (by omega)).mp q)) (pe := 113) (by decide)
  have A14 := A13.run [(113, .iload 10, 115, 0)] (pe := 115) (by decide +kernel) rfl
  exact ⟨_, _, _, _, A14.retC (by decide +kernel) (isC_nar hf.isC), ⟨f, ⟨hf, fun _ => f0, fun q => by omega, fun _ q => by omega⟩, rfl, rfl⟩, by decide, by decide⟩
/-! indexOf -/
theorem cmpL_nn {f : Nat} (hf : f < 2 ^ 31) : ¬ XT.cmpL f.toInt64 0 < 0 := by
  have e := n64_toInt (i := f) (by omega)
  unfold XT.cmpL
  split
  · decide
  · rename_i h
    split
    · decide
    · rename_i h2
      exfalso
      rw [Int64.lt_iff_toInt_lt, e, show (0 : Int64).toInt = 0 by decide] at h
      exact h2 (Int64.toInt_inj.mp (by rw [e, show (0 : Int64).toInt = 0 by decide]; omega))
theorem c_maxL (G : Glb Z a0) {f : Nat} (hf : f < 2 ^ 31) : Ct l Z EL0 (⟨"java/lang/Math", "max", "(JJ)J"⟩ : MethodName) jdk_29_method_66_code 4 ((some .long)) ({ frames := 0, cells := 0, slots := 0, locals := 0 } : Room) [] [.long f.toInt64, .long 0] H (fun v H' => v = some (.long f.toInt64) ∧ H = H') := by
  refine Ct.in G (by decide +kernel) (ls := [.val (.long f.toInt64), .second, .val (.long 0), .second]) rfl rfl fun D A0 => ?_
  have A1 := A0.run [(0, .lload_n 0, 1, 0), (1, .lload_n 2, 2, 0), (2, .lcmp, 3, 0)] (pe := 3) (by decide +kernel) rfl
  have A2 := A1.ifF (cd := .lt) (o := 7) (by decide +kernel) (cmpL_nn hf)
  have A3 := A2.run [(6, .lload_n 0, 7, 0), (7, .goto 4, 11, 0)] (pe := 11) (by decide +kernel) rfl
  exact ⟨_, _, _, _, A3.retJ (by decide +kernel), ⟨rfl, rfl⟩, by decide, by decide⟩
theorem c_minL (G : Glb Z a0) {f n : Nat} (hf : f ≤ n) (hn : n < 2 ^ 31) : Ct l Z EL0 (⟨"java/lang/Math", "min", "(JJ)J"⟩ : MethodName) jdk_29_method_70_code 4 ((some .long)) ({ frames := 0, cells := 0, slots := 0, locals := 0 } : Room) [] [.long n.toInt64, .long f.toInt64] H (fun v H' => v = some (.long f.toInt64) ∧ H = H') := by
  refine Ct.in G (by decide +kernel) (ls := [.val (.long n.toInt64), .second, .val (.long f.toInt64), .second]) rfl rfl fun D A0 => ?_
  have A1 := A0.run [(0, .lload_n 0, 1, 0), (1, .lload_n 2, 2, 0), (2, .lcmp, 3, 0)] (pe := 3) (by decide +kernel) rfl
  by_cases h : f = n
  · subst h
    rw [cmp_same] at A1
    have A2 := A1.ifF (cd := .gt) (o := 7) (by decide +kernel) (by show ¬ _ < _; decide)
    have A3 := A2.run [(6, .lload_n 0, 7, 0), (7, .goto 4, 11, 0)] (pe := 11) (by decide +kernel) rfl
    exact ⟨_, _, _, _, A3.retJ (by decide +kernel), ⟨rfl, rfl⟩, by decide, by decide⟩
  · have e : XT.cmpL n.toInt64 f.toInt64 = 1 := by
      unfold XT.cmpL
      rw [if_pos (by rw [Int64.lt_iff_toInt_lt, n64_toInt (by omega), n64_toInt (by omega)]; omega)]
    rw [e] at A1
    have A2 := A1.ifT (cd := .gt) (o := 7) (by decide +kernel) (by show _ < _; decide) (pe := 10) (by decide)
    have A3 := A2.run [(10, .lload_n 2, 11, 0)] (pe := 11) (by decide +kernel) rfl
    exact ⟨_, _, _, _, A3.retJ (by decide +kernel), ⟨rfl, rfl⟩, by decide, by decide⟩
theorem c_clp (G : Glb Z a0) {f n : Nat} (hf : f ≤ n) (hn : n < 2 ^ 31) : Ct l Z EL0 (⟨"java/lang/Math", "clamp", "(JII)I"⟩ : MethodName) jdk_29_method_73_code 4 ((some .int)) ({ frames := 1, cells := 0, slots := 0, locals := 17 } : Room) [] [.long f.toInt64, .int 0, .int n.toInt32] H (fun v H' => v = some (.int f.toInt32) ∧ H = H') := by
  refine Ct.in G (by decide +kernel) (ls := [.val (.long f.toInt64), .second, .val (.int 0), .val (.int n.toInt32)]) rfl rfl fun D A0 => ?_
  have A1 := A0.run [(0, .iload_n 2, 1, 0), (1, .iload_n 3, 2, 0)] (pe := 2) (by decide +kernel) rfl
  have A2 := A1.icT (cd := .le) (o := 34) (by decide +kernel) (nonneg_nat hn) (pe := 36) (by decide)
  have A3 := A2.run [(36, .iload_n 3, 37, 0), (37, .i2l, 38, 0), (38, .lload_n 0, 39, 0), (39, .iload_n 2, 40, 0), (40, .i2l, 41, 0)] (pe := 41) (by decide +kernel) rfl
  rw [n32_64 hn] at A3
  obtain ⟨_, HA4, qA4, A4, moA4, szA4⟩ := A3.callS (argsL := [.long f.toInt64, .long 0]) (wd_103 G) (wd_104 G) (wd_101 G) (wd_105 G) (c_maxL G (by omega)) (by decide) ⟨_, _, (by decide +kernel : parseMethodDescriptor "(JJ)J" = some ⟨[.long, .long], some .long⟩), rfl⟩ (by decide +kernel) (Wd := 2) (by decide) (Nat.le_of_ble_eq_true rfl) (by decide) (by decide) (by decide)
  obtain ⟨rfl, rfl⟩ := qA4
  obtain ⟨_, HA5, qA5, A5, moA5, szA5⟩ := A4.callS (argsL := [.long n.toInt64, .long f.toInt64]) (wd_106 G) (wd_107 G) (wd_101 G) (wd_108 G) (c_minL G hf hn) (by decide) ⟨_, _, (by decide +kernel : parseMethodDescriptor "(JJ)J" = some ⟨[.long, .long], some .long⟩), rfl⟩ (by decide +kernel) (Wd := 0) (by decide) (Nat.le_of_ble_eq_true rfl) (by decide) (by decide) (by decide)
  obtain ⟨rfl, rfl⟩ := qA5
  have A6 := A5.run [(47, .l2i, 48, 0)] (pe := 48) (by decide +kernel) rfl
  rw [n64_32] at A6
  exact ⟨_, _, _, _, A6.retI (by decide +kernel), ⟨rfl, rfl⟩, by decide, by decide⟩

theorem l_i30 (G : Glb Z a0) {t u : Addr} {cs ds : List Int32} {f m mx : Nat} {d0 : Int32} (T : Ar Z H t .byte (lo8 cs)) (hno : ∀ j c, f ≤ j → j < m → cs[j]? = some c → b8 c ≠ b8 d0) (hm : cs[m]? = some d0) (hmx : m ≤ mx) (hb : mx < 2 ^ 30) :
    ∀ (r i : Nat), i + r + 1 = m → f ≤ i → Wk l Z a0 EL0 "java/lang/StringLatin1" jdk_43_method_25_code 11 "indexOf" (some .int) ({ frames := 0, cells := 0, slots := 0, locals := 0 } : Room) D 30 [.val (.ref t), .val (.int cs.length.toInt32), .val (.ref u), .val (.int ds.length.toInt32), .val (.int f.toInt32), .val (.int (b8 d0)), .val (.int mx.toInt32), .val (.int i.toInt32), .unset, .unset, .unset] [] H 0 0 → Wk l Z a0 EL0 "java/lang/StringLatin1" jdk_43_method_25_code 11 "indexOf" (some .int) ({ frames := 0, cells := 0, slots := 0, locals := 0 } : Room) D 52 [.val (.ref t), .val (.int cs.length.toInt32), .val (.ref u), .val (.int ds.length.toInt32), .val (.int f.toInt32), .val (.int (b8 d0)), .val (.int mx.toInt32), .val (.int m.toInt32), .unset, .unset, .unset] [] H 0 0 := by
  have hml : m < cs.length := (List.getElem?_eq_some_iff.mp hm).1
  intro r
  induction r with
  | zero =>
    intro i e hf A0
    have A1 := A0.run [(30, .iinc 7 1, 33, 1), (33, .iload 7, 35, 0), (35, .iload 6, 37, 0)] (pe := 37) (by decide +kernel) rfl
    rw [n32_succ] at A1
    have A2 := A1.icF (cd := .gt) (o := 15) (by decide +kernel) (fun q => by have := (n32_lt (by omega) (by omega)).mp q; omega)
    have A3 := A2.run [(40, .aload_n 0, 41, 0), (41, .iload 7, 43, 0)] (pe := 43) (by decide +kernel) rfl
    obtain rfl : m = i + 1 := by omega
    have A4 := A3.baload T (by decide +kernel) rfl (v := .int (b8 d0)) (by simp [hm])
    have A5 := A4.run [(44, .iload 5, 46, 0)] (pe := 46) (by decide +kernel) rfl
    have A6 := A5.icT (cd := .eq) (o := 6) (by decide +kernel) rfl (pe := 52) (by decide)
    exact A6
  | succ r ih =>
    intro i e hf A0
    obtain ⟨c, hc⟩ : ∃ c, cs[i + 1]? = some c := ⟨_, List.getElem?_eq_getElem (by omega)⟩
    have A1 := A0.run [(30, .iinc 7 1, 33, 1), (33, .iload 7, 35, 0), (35, .iload 6, 37, 0)] (pe := 37) (by decide +kernel) rfl
    rw [n32_succ] at A1
    have A2 := A1.icF (cd := .gt) (o := 15) (by decide +kernel) (fun q => by have := (n32_lt (by omega) (by omega)).mp q; omega)
    have A3 := A2.run [(40, .aload_n 0, 41, 0), (41, .iload 7, 43, 0)] (pe := 43) (by decide +kernel) rfl
    have A4 := A3.baload T (by decide +kernel) rfl (v := .int (b8 c)) (by simp [hc])
    have A5 := A4.run [(44, .iload 5, 46, 0)] (pe := 46) (by decide +kernel) rfl
    have A6 := A5.icF (cd := .eq) (o := 6) (by decide +kernel) (hno (i + 1) c (by omega) (by omega) hc)
    have A7 := A6.run [(49, .goto (-19), 30, 0)] (pe := 30) (by decide +kernel) rfl
    exact ih (i + 1) (by omega) (by omega) A7
theorem l_i30n (G : Glb Z a0) {t u : Addr} {cs ds : List Int32} {f mx : Nat} {d0 : Int32} (T : Ar Z H t .byte (lo8 cs)) (hno : ∀ j c, f ≤ j → cs[j]? = some c → b8 c ≠ b8 d0) (hb : mx < 2 ^ 30) (hl : mx < cs.length) :
    ∀ (r i : Nat), i + r = mx → f ≤ i → Wk l Z a0 EL0 "java/lang/StringLatin1" jdk_43_method_25_code 11 "indexOf" (some .int) ({ frames := 0, cells := 0, slots := 0, locals := 0 } : Room) D 30 [.val (.ref t), .val (.int cs.length.toInt32), .val (.ref u), .val (.int ds.length.toInt32), .val (.int f.toInt32), .val (.int (b8 d0)), .val (.int mx.toInt32), .val (.int i.toInt32), .unset, .unset, .unset] [] H 0 0 → Rt Z EL0 D (some (.int (-1))) H 0 0 := by
  intro r
  induction r with
  | zero =>
    intro i e hf A0
    have A1 := A0.run [(30, .iinc 7 1, 33, 1), (33, .iload 7, 35, 0), (35, .iload 6, 37, 0)] (pe := 37) (by decide +kernel) rfl
    rw [n32_succ] at A1
    have A2 := A1.icT (cd := .gt) (o := 15) (by decide +kernel) ((n32_lt (by omega) (by omega)).mpr (by omega)) (pe := 52) (by decide)
    have A3 := A2.run [(52, .iload 7, 54, 0), (54, .iload 6, 56, 0)] (pe := 56) (by decide +kernel) rfl
    have A4 := A3.icT (cd := .gt) (o := 57) (by decide +kernel) ((n32_lt (by omega) (by omega)).mpr (by omega)) (pe := 113) (by decide)
    have A5 := A4.run [(113, .iinc 7 1, 116, 1), (116, .goto (-102), 14, 0)] (pe := 14) (by decide +kernel) rfl
    rw [n32_succ] at A5
    have A6 := A5.run [(14, .iload 7, 16, 0), (16, .iload 6, 18, 0)] (pe := 18) (by decide +kernel) rfl
    have A7 := A6.icT (cd := .gt) (o := 101) (by decide +kernel) ((n32_lt (by omega) (by omega)).mpr (by omega)) (pe := 119) (by decide)
    have A8 := A7.run [(119, .iconst (-1), 120, (-1))] (pe := 120) (by decide +kernel) rfl
    exact A8.retI (by decide +kernel)
  | succ r ih =>
    intro i e hf A0
    obtain ⟨c, hc⟩ : ∃ c, cs[i + 1]? = some c := ⟨_, List.getElem?_eq_getElem (by omega)⟩
    have A1 := A0.run [(30, .iinc 7 1, 33, 1), (33, .iload 7, 35, 0), (35, .iload 6, 37, 0)] (pe := 37) (by decide +kernel) rfl
    rw [n32_succ] at A1
    have A2 := A1.icF (cd := .gt) (o := 15) (by decide +kernel) (fun q => by have := (n32_lt (by omega) (by omega)).mp q; omega)
    have A3 := A2.run [(40, .aload_n 0, 41, 0), (41, .iload 7, 43, 0)] (pe := 43) (by decide +kernel) rfl
    have A4 := A3.baload T (by decide +kernel) rfl (v := .int (b8 c)) (by simp [hc])
    have A5 := A4.run [(44, .iload 5, 46, 0)] (pe := 46) (by decide +kernel) rfl
    have A6 := A5.icF (cd := .eq) (o := 6) (by decide +kernel) (hno (i + 1) c (by omega) hc)
    have A7 := A6.run [(49, .goto (-19), 30, 0)] (pe := 30) (by decide +kernel) rfl
    exact ih (i + 1) (by omega) (by omega) A7
/-- what indexOf answers -/
def Idx (cs ds : List Int32) (d0 : Int32) (f : Nat) (r : Int32) : Prop :=
  (∃ m : Nat, r = m.toInt32 ∧ f ≤ m ∧ m + ds.length ≤ cs.length ∧ (∀ j c, f ≤ j → j < m → cs[j]? = some c → b8 c ≠ b8 d0) ∧ ∀ i c, ds[i]? = some c → cs[m + i]? = some c) ∨ (r = -1 ∧ ∀ j c, f ≤ j → cs[j]? = some c → b8 c ≠ b8 d0)
set_option maxRecDepth 65536 in
theorem c_l1i (G : Glb Z a0) {t u : Addr} {cs ds : List Int32} {f : Nat} {d0 r : Int32} (T : Ar Z H t .byte (lo8 cs)) (U : Ar Z H u .byte (lo8 ds)) (hd : ds.length = 1 ∨ ds.length = 2) (h0 : ds[0]? = some d0) (hf : f + ds.length ≤ cs.length) (hn : cs.length < 2 ^ 29) (hr : Idx cs ds d0 f r) :
    Ct l Z EL0 (⟨"java/lang/StringLatin1", "indexOf", "([BI[BII)I"⟩ : MethodName) jdk_43_method_25_code 11 ((some .int)) ({ frames := 0, cells := 0, slots := 0, locals := 0 } : Room) [] [.ref t, .int cs.length.toInt32, .ref u, .int ds.length.toInt32, .int f.toInt32] H (fun v H' => v = some (.int r) ∧ H = H') := by
  refine Ct.in G (by first | exact plainFor_of_name (by simp [plainName, overriddenIn]; done) | decide +kernel) (ls := [.val (.ref t), .val (.int cs.length.toInt32), .val (.ref u), .val (.int ds.length.toInt32), .val (.int f.toInt32), .unset, .unset, .unset, .unset, .unset, .unset]) rfl rfl fun D A0 => ?_
  have A1 := A0.run [(0, .aload_n 2, 1, 0), (1, .iconst 0, 2, 0)] (pe := 2) (by decide +kernel) rfl
  have A2 := A1.baload U (by decide +kernel) (i := 0) rfl (v := .int (b8 d0)) (by simp [h0])
  have A3 := A2.run [(3, .istore 5, 5, 0), (5, .iload_n 1, 6, 0), (6, .iload_n 3, 7, 0), (7, .isub, 8, 0)] (pe := 8) (by decide +kernel) rfl
  rw [n32_sub (by omega)] at A3
  obtain ⟨mx, emx⟩ : ∃ mx, mx = cs.length - ds.length := ⟨_, rfl⟩
  rw [← emx] at A3
  have A4 := A3.run [(8, .istore 6, 10, 0), (10, .iload 4, 12, 0), (12, .istore 7, 14, 0), (14, .iload 7, 16, 0), (16, .iload 6, 18, 0)] (pe := 18) (by decide +kernel) rfl
  have A5 := A4.icF (cd := .gt) (o := 101) (by decide +kernel) (fun q => by have := (n32_lt (by omega) (by omega)).mp q; omega)
  have A6 := A5.run [(21, .aload_n 0, 22, 0), (22, .iload 7, 24, 0)] (pe := 24) (by decide +kernel) rfl
  obtain ⟨c, hc⟩ : ∃ c, cs[f]? = some c := ⟨_, List.getElem?_eq_getElem (by omega)⟩
  have A7 := A6.baload T (by decide +kernel) rfl (v := .int (b8 c)) (by simp [hc])
  have A8 := A7.run [(25, .iload 5, 27, 0)] (pe := 27) (by decide +kernel) rfl
  rcases hr with ⟨m, rfl, hfm, hml, hno, hma⟩ | ⟨rfl, hno⟩
  · have hm : cs[m]? = some d0 := hma 0 d0 h0
    have B0 : Wk l Z a0 EL0 "java/lang/StringLatin1" jdk_43_method_25_code 11 "indexOf" (some .int) ({ frames := 0, cells := 0, slots := 0, locals := 0 } : Room) D 52 [.val (.ref t), .val (.int cs.length.toInt32), .val (.ref u), .val (.int ds.length.toInt32), .val (.int f.toInt32), .val (.int (b8 d0)), .val (.int mx.toInt32), .val (.int m.toInt32), .unset, .unset, .unset] [] H 0 0 := by
      by_cases e : f = m
      · subst e
        have ec : c = d0 := by rw [hm] at hc; exact (Option.some.inj hc).symm
        have B1 := A8.icT (cd := .eq) (o := 25) (by decide +kernel) (congrArg b8 ec) (pe := 52) (by decide)
        exact B1
      · have B1 := A8.icF (cd := .eq) (o := 25) (by decide +kernel) (hno f c (by omega) (by omega) hc)
        exact l_i30 G T hno hm (by omega) (by omega) (m - f - 1) f (by omega) (by omega) B1
    have B1 := B0.run [(52, .iload 7, 54, 0), (54, .iload 6, 56, 0)] (pe := 56) (by decide +kernel) rfl
    have B2 := B1.icF (cd := .gt) (o := 57) (by decide +kernel) (fun q => by have := (n32_lt (by omega) (by omega)).mp q; omega)
    have B3 := B2.run [(59, .iload 7, 61, 0), (61, .iconst 1, 62, 1), (62, .iadd, 63, 0), (63, .istore 8, 65, 0)] (pe := 65) (by decide +kernel) rfl
    rw [n32_succ] at B3
    have B4 := B3.run [(65, .iload 8, 67, 0), (67, .iload_n 3, 68, 0), (68, .iadd, 69, 0), (69, .iconst 1, 70, 1), (70, .isub, 71, 0)] (pe := 71) (by decide +kernel) rfl
    rw [n32_add, n32_pred (by omega)] at B4
    have B5 := B4.run [(71, .istore 9, 73, 0), (73, .iconst 1, 74, 1), (74, .istore 10, 76, 0), (76, .iload 8, 78, 0), (78, .iload 9, 80, 0)] (pe := 80) (by decide +kernel) rfl
    rcases hd with hd | hd
    · have B6 := B5.icT (cd := .ge) (o := 23) (by decide +kernel) (fun q => by have := (n32_lt (by omega) (by omega)).mp q; omega) (pe := 103) (by decide)
      have B7 := B6.run [(103, .iload 8, 105, 0), (105, .iload 9, 107, 0)] (pe := 107) (by decide +kernel) rfl
      have B8 := B7.icF (cd := .ne) (o := 6) (by decide +kernel) (not_not_intro (congrArg Nat.toInt32 (by omega)))
      have B9 := B8.run [(110, .iload 7, 112, 0)] (pe := 112) (by decide +kernel) rfl
      exact ⟨_, _, _, _, B9.retI (by decide +kernel), ⟨rfl, rfl⟩, by decide, by decide⟩
    · obtain ⟨d1, h1⟩ : ∃ d1, ds[1]? = some d1 := ⟨_, List.getElem?_eq_getElem (by omega)⟩
      have hm1 : cs[m + 1]? = some d1 := hma 1 d1 h1
      have B6 := B5.icF (cd := .ge) (o := 23) (by decide +kernel) (not_not_intro ((n32_lt (by omega) (by omega)).mpr (by omega)))
      have B7 := B6.run [(83, .aload_n 0, 84, 0), (84, .iload 8, 86, 0)] (pe := 86) (by decide +kernel) rfl
      have B8 := B7.baload T (by decide +kernel) rfl (v := .int (b8 d1)) (by simp [hm1])
      have B9 := B8.run [(87, .aload_n 2, 88, 0), (88, .iload 10, 90, 0)] (pe := 90) (by decide +kernel) rfl
      have B10 := B9.baload U (by decide +kernel) (i := 1) rfl (v := .int (b8 d1)) (by simp [h1])
      have B11 := B10.icF (cd := .ne) (o := 12) (by decide +kernel) (not_not_intro rfl)
      have B12 := B11.run [(94, .iinc 8 1, 97, 1), (97, .iinc 10 1, 100, 1), (100, .goto (-24), 76, 0)] (pe := 76) (by decide +kernel) rfl
      rw [n32_succ] at B12
      have B13 := B12.run [(76, .iload 8, 78, 0), (78, .iload 9, 80, 0)] (pe := 80) (by decide +kernel) rfl
      have B14 := B13.icT (cd := .ge) (o := 23) (by decide +kernel) (fun q => by have := (n32_lt (by omega) (by omega)).mp q; omega) (pe := 103) (by decide)
      have B15 := B14.run [(103, .iload 8, 105, 0), (105, .iload 9, 107, 0)] (pe := 107) (by decide +kernel) rfl
      have B16 := B15.icF (cd := .ne) (o := 6) (by decide +kernel) (not_not_intro (congrArg Nat.toInt32 (by omega)))
      have B17 := B16.run [(110, .iload 7, 112, 0)] (pe := 112) (by decide +kernel) rfl
      exact ⟨_, _, _, _, B17.retI (by decide +kernel), ⟨rfl, rfl⟩, by decide, by decide⟩
  · have B1 := A8.icF (cd := .eq) (o := 25) (by decide +kernel) (hno f c (by omega) hc)
    exact ⟨_, _, _, _, l_i30n G T hno (by omega) (by omega) (mx - f) f (by omega) (by omega) B1, ⟨rfl, rfl⟩, by decide, by decide⟩
set_option maxRecDepth 65536 in
theorem c_iof5 (G : Glb Z a0) {t dl : Addr} {cs ds : List Int32} {f : Nat} {d0 r : Int32} (T : Ar Z H t .byte (lo8 cs)) (S : Str Z H dl ds) (hla : Lat ds) (hd : ds.length = 1 ∨ ds.length = 2) (h0 : ds[0]? = some d0) (hf : f ≤ cs.length) (hn : cs.length < 2 ^ 29) (hr : Idx cs ds d0 f r) :
    Ct l Z EL0 (⟨"java/lang/String", "indexOf", "([BBILjava/lang/String;I)I"⟩ : MethodName) jdk_42_method_87_code 8 ((some .int)) ({ frames := 2, cells := 0, slots := 0, locals := 32 } : Room) [] [.ref t, .int 0, .int cs.length.toInt32, .ref dl, .int f.toInt32] H (fun v H' => v = some (.int r) ∧ H = H') := by
  refine Ct.in G (by first | exact plainFor_of_name (by simp [plainName, overriddenIn]; done) | decide +kernel) (ls := [.val (.ref t), .val (.int 0), .val (.int cs.length.toInt32), .val (.ref dl), .val (.int f.toInt32), .unset, .unset, .unset]) rfl rfl fun D A0 => ?_
  obtain ⟨E, u, V, C, U⟩ := S.opL hla
  have A1 := A0.run [(0, .iload 4, 2, 0), (2, .i2l, 3, 0), (3, .iconst 0, 4, 0), (4, .iload_n 2, 5, 0)] (pe := 5) (by decide +kernel) rfl
  rw [n32_64 (by omega)] at A1
  obtain ⟨_, HA2, qA2, A2, moA2, szA2⟩ := A1.callS (argsL := [.long f.toInt64, .int 0, .int cs.length.toInt32]) (wd_99 G) (wd_100 G) (wd_101 G) (wd_102 G) (c_clp G hf (by omega)) (by decide) ⟨_, _, (by decide +kernel : parseMethodDescriptor "(JII)I" = some ⟨[.long, .int, .int], some .int⟩), rfl⟩ (by decide +kernel) (Wd := 0) (by decide) (Nat.le_of_ble_eq_true rfl) (by decide) (by decide) (by decide)
  obtain ⟨rfl, rfl⟩ := qA2
  have A3 := A2.run [(8, .istore 4, 10, 0), (10, .aload_n 3, 11, 0)] (pe := 11) (by decide +kernel) rfl
  obtain ⟨_, HA4, qA4, A4, moA4, szA4⟩ := A3.callV (argsL := []) (wd_91 G) (wd_92 G) (wd_94 G) rfl (wd_94 G) (wd_93 G) (wd_12 G) (wd_95 G) S.1 (c_sLen G S) (by decide) ⟨_, _, (by decide +kernel : parseMethodDescriptor "()I" = some ⟨[], some .int⟩), rfl⟩ (by decide +kernel) (Wd := 0) (by decide) (Nat.le_of_ble_eq_true rfl) (by decide) (by decide) (by decide)
  obtain ⟨rfl, rfl⟩ := qA4
  have A5 := A4.run [(14, .istore 5, 16, 0), (16, .iload 5, 18, 0), (18, .iload_n 2, 19, 0), (19, .iload 4, 21, 0), (21, .isub, 22, 0)] (pe := 22) (by decide +kernel) rfl
  rw [n32_sub hf] at A5
  by_cases hle : f + ds.length ≤ cs.length
  · have A6 := A5.icT (cd := .le) (o := 5) (by decide +kernel) (fun q => by have := (n32_lt (by omega) (by omega)).mp q; omega) (pe := 27) (by decide)
    have A7 := A6.run [(27, .iload 5, 29, 0)] (pe := 29) (by decide +kernel) rfl
    have A8 := A7.ifT (cd := .ne) (o := 6) (by decide +kernel) (fun q => by have := (n32_inj (i := ds.length) (j := 0) (by omega) (by decide)).mp q; omega) (pe := 35) (by decide)
    have A9 := A8.run [(35, .aload_n 3, 36, 0)] (pe := 36) (by decide +kernel) rfl
    have A10 := A9.getF (wd_32 G) V (by decide +kernel)
    have A11 := A10.run [(39, .astore 6, 41, 0), (41, .aload_n 3, 42, 0)] (pe := 42) (by decide +kernel) rfl
    obtain ⟨_, HA12, qA12, A12, moA12, szA12⟩ := A11.callV (argsL := []) (wd_86 G) (wd_87 G) (wd_89 G) rfl (wd_89 G) (wd_88 G) (wd_12 G) (wd_90 G) S.1 (c_sCod G C (Or.inl rfl)) (by decide) ⟨_, _, (by decide +kernel : parseMethodDescriptor "()B" = some ⟨[], some .byte⟩), rfl⟩ (by decide +kernel) (Wd := 0) (by decide) (Nat.le_of_ble_eq_true rfl) (by decide) (by decide) (by decide)
    obtain ⟨rfl, rfl⟩ := qA12
    have A13 := A12.run [(45, .istore 7, 47, 0), (47, .iload_n 1, 48, 0), (48, .iload 7, 50, 0)] (pe := 50) (by decide +kernel) rfl
    have A14 := A13.icF (cd := .ne) (o := 33) (by decide +kernel) (not_not_intro rfl)
    have A15 := A14.run [(53, .iload_n 1, 54, 0)] (pe := 54) (by decide +kernel) rfl
    have A16 := A15.ifF (cd := .ne) (o := 17) (by decide +kernel) (not_not_intro rfl)
    have A17 := A16.run [(57, .aload_n 0, 58, 0), (58, .iload_n 2, 59, 0), (59, .aload 6, 61, 0), (61, .iload 5, 63, 0), (63, .iload 4, 65, 0)] (pe := 65) (by decide +kernel) rfl
    obtain ⟨_, HA18, qA18, A18, moA18, szA18⟩ := A17.callS (argsL := [.ref t, .int cs.length.toInt32, .ref u, .int ds.length.toInt32, .int f.toInt32]) (wd_109 G) (wd_110 G) (wd_17 G) (wd_111 G) (c_l1i G T U hd h0 hle hn hr) (by decide) ⟨_, _, (by decide +kernel : parseMethodDescriptor "([BI[BII)I" = some ⟨[(.array .byte), .int, (.array .byte), .int, .int], some .int⟩), rfl⟩ (by decide +kernel) (Wd := 0) (by decide) (Nat.le_of_ble_eq_true rfl) (by decide) (by decide) (by decide)
    obtain ⟨rfl, rfl⟩ := qA18
    have A19 := A18.run [(68, .goto 14, 82, 0)] (pe := 82) (by decide +kernel) rfl
    exact ⟨_, _, _, _, A19.retI (by decide +kernel), ⟨rfl, rfl⟩, by decide, by decide⟩
  · have A6 := A5.icF (cd := .le) (o := 5) (by decide +kernel) (not_not_intro ((n32_lt (by omega) (by omega)).mpr (by omega)))
    have A7 := A6.run [(25, .iconst (-1), 26, (-1))] (pe := 26) (by decide +kernel) rfl
    have hr' : r = -1 := by
      rcases hr with ⟨m, rfl, hfm, hml, -⟩ | ⟨h, -⟩
      · omega
      · exact h
    exact ⟨_, _, _, _, A7.retI (by decide +kernel), ⟨by rw [hr'], rfl⟩, by decide, by decide⟩
theorem c_iof (G : Glb Z a0) {s dl : Addr} {cs ds : List Int32} {f : Nat} {d0 r : Int32} (SL : Str Z H s cs) (hls : Lat cs) (S : Str Z H dl ds) (hla : Lat ds) (hd : ds.length = 1 ∨ ds.length = 2) (h0 : ds[0]? = some d0) (hf : f ≤ cs.length) (hn : cs.length < 2 ^ 29) (hr : Idx cs ds d0 f r) :
    Ct l Z EL0 (⟨"java/lang/String", "indexOf", "(Ljava/lang/String;I)I"⟩ : MethodName) jdk_42_method_85_code 3 ((some .int)) ({ frames := 3, cells := 0, slots := 0, locals := 51 } : Room) [] [.ref s, .ref dl, .int f.toInt32] H (fun v H' => v = some (.int r) ∧ H = H') := by
  refine Ct.in G (by first | exact plainFor_of_name (by simp [plainName, overriddenIn]; done) | decide +kernel) (ls := [.val (.ref s), .val (.ref dl), .val (.int f.toInt32)]) rfl rfl fun D A0 => ?_
  obtain ⟨E, t, V, C, T⟩ := SL.opL hls
  have A1 := A0.run [(0, .aload_n 0, 1, 0)] (pe := 1) (by decide +kernel) rfl
  have A2 := A1.getF (wd_32 G) V (by decide +kernel)
  have A3 := A2.run [(4, .aload_n 0, 5, 0)] (pe := 5) (by decide +kernel) rfl
  obtain ⟨_, HA4, qA4, A4, moA4, szA4⟩ := A3.callV (argsL := []) (wd_86 G) (wd_87 G) (wd_89 G) rfl (wd_89 G) (wd_88 G) (wd_12 G) (wd_90 G) SL.1 (c_sCod G C (Or.inl rfl)) (by decide) ⟨_, _, (by decide +kernel : parseMethodDescriptor "()B" = some ⟨[], some .byte⟩), rfl⟩ (by decide +kernel) (Wd := 1) (by decide) (Nat.le_of_ble_eq_true rfl) (by decide) (by decide) (by decide)
  obtain ⟨rfl, rfl⟩ := qA4
  have A5 := A4.run [(8, .aload_n 0, 9, 0)] (pe := 9) (by decide +kernel) rfl
  obtain ⟨_, HA6, qA6, A6, moA6, szA6⟩ := A5.callV (argsL := []) (wd_91 G) (wd_92 G) (wd_94 G) rfl (wd_94 G) (wd_93 G) (wd_12 G) (wd_95 G) SL.1 (c_sLen G SL) (by decide) ⟨_, _, (by decide +kernel : parseMethodDescriptor "()I" = some ⟨[], some .int⟩), rfl⟩ (by decide +kernel) (Wd := 2) (by decide) (Nat.le_of_ble_eq_true rfl) (by decide) (by decide) (by decide)
  obtain ⟨rfl, rfl⟩ := qA6
  have A7 := A6.run [(12, .aload_n 1, 13, 0), (13, .iload_n 2, 14, 0)] (pe := 14) (by decide +kernel) rfl
  obtain ⟨_, HA8, qA8, A8, moA8, szA8⟩ := A7.callS (argsL := [.ref t, .int 0, .int cs.length.toInt32, .ref dl, .int f.toInt32]) (wd_96 G) (wd_97 G) (wd_12 G) (wd_98 G) (c_iof5 G T S hla hd h0 hf hn hr) (by decide) ⟨_, _, (by decide +kernel : parseMethodDescriptor "([BBILjava/lang/String;I)I" = some ⟨[(.array .byte), .byte, .int, (.object "java/lang/String"), .int], some .int⟩), rfl⟩ (by decide +kernel) (Wd := 0) (by decide) (Nat.le_of_ble_eq_true rfl) (by decide) (by decide) (by decide)
  obtain ⟨rfl, rfl⟩ := qA8
  exact ⟨_, _, _, _, A8.retI (by decide +kernel), ⟨rfl, rfl⟩, by decide, by decide⟩
/-! substring -/
theorem c_cft (G : Glb Z a0) {s e n : Nat} {f : Value} (hf : f.isRef = true) (hs : s ≤ e) (he : e ≤ n) (hn : n < 2 ^ 31) :
    Ct l Z EL0 (⟨"jdk/internal/util/Preconditions", "checkFromToIndex", "(IIILjava/util/function/BiFunction;)I"⟩ : MethodName) jdk_41_method_12_code 4 ((some .int)) ({ frames := 0, cells := 0, slots := 0, locals := 0 } : Room) [] [.int s.toInt32, .int e.toInt32, .int n.toInt32, f] H (fun v H' => v = some (.int s.toInt32) ∧ H = H') := by
  have key : ∀ q : Slot, locsOf [.int s.toInt32, .int e.toInt32, .int n.toInt32, f] 4 = [.val (.int s.toInt32), .val (.int e.toInt32), .val (.int n.toInt32), q] → Ct l Z EL0 (⟨"jdk/internal/util/Preconditions", "checkFromToIndex", "(IIILjava/util/function/BiFunction;)I"⟩ : MethodName) jdk_41_method_12_code 4 ((some .int)) ({ frames := 0, cells := 0, slots := 0, locals := 0 } : Room) [] [.int s.toInt32, .int e.toInt32, .int n.toInt32, f] H (fun v H' => v = some (.int s.toInt32) ∧ H = H') := by
    intro q hq
    refine Ct.in G (by first | exact plainFor_of_name (by simp [plainName, overriddenIn]; done) | decide +kernel) (ls := [.val (.int s.toInt32), .val (.int e.toInt32), .val (.int n.toInt32), q]) hq rfl fun D A0 => ?_
    have A1 := A0.run [(0, .iload_n 0, 1, 0)] (pe := 1) (by decide +kernel) rfl
    have A2 := A1.ifF (cd := .lt) (o := 13) (by decide +kernel) (nonneg_nat (by omega))
    have A3 := A2.run [(4, .iload_n 0, 5, 0), (5, .iload_n 1, 6, 0)] (pe := 6) (by decide +kernel) rfl
    have A4 := A3.icF (cd := .gt) (o := 8) (by decide +kernel) (fun q => by have := (n32_lt (by omega) (by omega)).mp q; omega)
    have A5 := A4.run [(9, .iload_n 1, 10, 0), (10, .iload_n 2, 11, 0)] (pe := 11) (by decide +kernel) rfl
    have A6 := A5.icT (cd := .le) (o := 11) (by decide +kernel) (fun q => by have := (n32_lt (by omega) (by omega)).mp q; omega) (pe := 22) (by decide)
    have A7 := A6.run [(22, .iload_n 0, 23, 0)] (pe := 23) (by decide +kernel) rfl
    exact ⟨_, _, _, _, A7.retI (by decide +kernel), ⟨rfl, rfl⟩, by decide, by decide⟩
  rcases ref_cases hf with rfl | ⟨x, rfl⟩ <;> exact key _ rfl
theorem c_bbe (G : Glb Z a0) {s e n : Nat} (hs : s ≤ e) (he : e ≤ n) (hn : n < 2 ^ 31) :
    Ct l Z EL0 (⟨"java/lang/String", "checkBoundsBeginEnd", "(III)V"⟩ : MethodName) jdk_42_method_158_code 3 (none) ({ frames := 1, cells := 0, slots := 0, locals := 15 } : Room) [] [.int s.toInt32, .int e.toInt32, .int n.toInt32] H (fun v H' => v = none ∧ H = H') := by
  refine Ct.in G (by first | exact plainFor_of_name (by simp [plainName, overriddenIn]; done) | decide +kernel) (ls := [.val (.int s.toInt32), .val (.int e.toInt32), .val (.int n.toInt32)]) rfl rfl fun D A0 => ?_
  obtain ⟨f, hf, fS⟩ := G_fmt G
  have A1 := A0.run [(0, .iload_n 0, 1, 0), (1, .iload_n 1, 2, 0), (2, .iload_n 2, 3, 0)] (pe := 3) (by decide +kernel) rfl
  have A2 := A1.getS (wd_130 G) fS (by decide +kernel)
  obtain ⟨_, HA3, qA3, A3, moA3, szA3⟩ := A2.callS (argsL := [.int s.toInt32, .int e.toInt32, .int n.toInt32, f]) (wd_132 G) (wd_133 G) (wd_131 G) (wd_134 G) (c_cft G hf hs he hn) (by decide) ⟨_, _, (by decide +kernel : parseMethodDescriptor "(IIILjava/util/function/BiFunction;)I" = some ⟨[.int, .int, .int, (.object "java/util/function/BiFunction")], some .int⟩), rfl⟩ (by decide +kernel) (Wd := 0) (by decide) (Nat.le_of_ble_eq_true rfl) (by decide) (by decide) (by decide)
  obtain ⟨rfl, rfl⟩ := qA3
  have A4 := A3.run [(9, .pop, 10, 0)] (pe := 10) (by decide +kernel) rfl
  exact ⟨_, _, _, _, A4.ret (by decide +kernel), ⟨rfl, rfl⟩, by decide, by decide⟩
set_option maxRecDepth 65536 in
theorem c_nst (G : Glb Z a0) {t : Addr} {cs : List Int32} {s m : Nat} (T : Ar Z H t .byte (lo8 cs)) (hC : ∀ c ∈ cs, isC c) (hla : Lat cs) (hm : s + m ≤ cs.length) (h9 : m ≤ 9) (hw : s = 0 → m ≠ cs.length) :
    Ct l Z EL0 (⟨"java/lang/StringLatin1", "newString", "([BII)Ljava/lang/String;"⟩ : MethodName) jdk_43_method_47_code 3 ((some (.object "java/lang/String"))) ({ frames := 3, cells := 2, slots := 13, locals := 50 } : Room) [] [.ref t, .int s.toInt32, .int m.toInt32] H (fun v H' => ∃ u, v = some (.ref u) ∧ Kp H H' [] ∧ Str Z H' u ((cs.drop s).take m)) := by
  refine Ct.in G (by first | exact plainFor_of_name (by simp [plainName, overriddenIn]; done) | decide +kernel) (ls := [.val (.ref t), .val (.int s.toInt32), .val (.int m.toInt32)]) rfl rfl fun D A0 => ?_
  have hL : cs.length < 2 ^ 31 := by simpa using T.len
  have A1 := A0.run [(0, .iload_n 2, 1, 0)] (pe := 1) (by decide +kernel) rfl
  by_cases h : m = 0
  · subst h
    have A2 := A1.ifF (cd := .ne) (o := 6) (by decide +kernel) (not_not_intro rfl)
    obtain ⟨a1, b1, H1, A3, K1, E1, C1, V1, T1, n1⟩ := A2.ldcS (wd_180 G) (by decide +kernel) (vs := []) ⟨by decide +kernel, rfl⟩ (by decide +kernel) (z := 0) (by decide) rfl (q := 0) (by decide +kernel) (by decide) (by decide) (by decide)
    exact ⟨_, _, _, _, A3.retA (by decide +kernel) rfl rfl, ⟨a1, rfl, K1, by rw [List.take_zero]; exact ⟨E1, (fun c hc => nomatch hc), b1, V1, Or.inl ⟨(fun c hc => nomatch hc), C1, T1⟩⟩⟩, by decide, by decide⟩
  · have A2 := A1.ifT (cd := .ne) (o := 6) (by decide +kernel) (fun q => h ((n32_inj (i := m) (j := 0) (by omega) (by decide)).mp q)) (pe := 7) (by decide)
    obtain ⟨x, H1, A3, hge, K1, E, o, Df⟩ := A2.newO (wd_143 G) (wd_20 G) (wd_12 G) (by decide +kernel) (by decide) (by decide)
    have A4 := A3.run [(10, .dup, 11, 0), (11, .aload_n 0, 12, 0), (12, .iload_n 1, 13, 0), (13, .iload_n 1, 14, 0), (14, .iload_n 2, 15, 0), (15, .iadd, 16, 0)] (pe := 16) (by decide +kernel) rfl
    rw [n32_add] at A4
    obtain ⟨_, HA5, qA5, A5, moA5, szA5⟩ := A4.callS (argsL := [.ref t, .int s.toInt32, .int (s + m).toInt32]) (wd_144 G) (wd_145 G) (wd_146 G) (wd_147 G) (c_cpr G (T.ky K1) (by omega) (by simpa using hm) (by omega) (fun q r => hw q (by simp at r; omega))) (by decide) ⟨_, _, (by decide +kernel : parseMethodDescriptor "([BII)[B" = some ⟨[(.array .byte), .int, .int], some (.array .byte)⟩), rfl⟩ (by decide +kernel) (Wd := 2) (by decide) (Nat.le_of_ble_eq_true rfl) (by decide) (by decide) (by decide)
    obtain ⟨u, rfl, hgu, K2, U, o2⟩ := qA5
    have U' : Ar Z HA5 u .byte (lo8 ((cs.drop s).take m)) := by
      have e : ((lo8 cs).drop s).take (s + m - s) = lo8 ((cs.drop s).take m) := by
        rw [show s + m - s = m by omega]; simp [List.map_drop, List.map_take]
      rw [← e]; exact U
    have A6 := A5.run [(19, .iconst 0, 20, 0)] (pe := 20) (by decide +kernel) rfl
    have hC' : ∀ c ∈ (cs.drop s).take m, isC c := fun c hc => hC c (List.mem_of_mem_drop (List.mem_of_mem_take hc))
    have hla' : Lat ((cs.drop s).take m) := fun c hc => hla c (List.mem_of_mem_drop (List.mem_of_mem_take hc))
    obtain ⟨_, HA7, qA7, A7, moA7, szA7⟩ := A6.callI (argsL := [.ref u, .int 0]) rfl (wd_161 G) (wd_26 G) (wd_12 G) (wd_28 G) (c_sIB G (cs := (cs.drop s).take m) hC' (Or.inl ⟨hla', rfl, U'⟩) (E.ky K2) ((Df (Or.inr (wd_33 G)) (t := .array .byte) (by decide)).ky K2) ((Df (Or.inr (wd_35 G)) (t := .byte) (by decide)).ky K2) (K2.2 _ o)) (by decide) ⟨_, _, (by decide +kernel : parseMethodDescriptor "([BB)V" = some ⟨[(.array .byte), .byte], none⟩), rfl⟩ (by decide +kernel) (Wd := 1) (by decide) (Nat.le_of_ble_eq_true rfl) (by decide) (by decide) (by decide)
    obtain ⟨rfl, K3, S⟩ := qA7
    exact ⟨_, _, _, _, A7.retA (by decide +kernel) rfl rfl, ⟨x, rfl, (K1.tr K2).trans K3 (fun y hy => by cases List.mem_singleton.mp hy; exact Or.inr hge), S⟩, by decide, by decide⟩
set_option maxRecDepth 65536 in
theorem c_sub (G : Glb Z a0) {a : Addr} {cs : List Int32} {s e : Nat} (S : Str Z H a cs) (hla : Lat cs) (hs : s ≤ e) (he : e ≤ cs.length) (h9 : cs.length ≤ 9) :
    Ct l Z EL0 (⟨"java/lang/String", "substring", "(II)Ljava/lang/String;"⟩ : MethodName) jdk_42_method_92_code 5 ((some (.object "java/lang/String"))) ({ frames := 4, cells := 2, slots := 13, locals := 64 } : Room) [] [.ref a, .int s.toInt32, .int e.toInt32] H (fun v H' => ∃ u, v = some (.ref u) ∧ Kp H H' [] ∧ Str Z H' u ((cs.drop s).take (e - s))) := by
  refine Ct.in G (by first | exact plainFor_of_name (by simp [plainName, overriddenIn]; done) | decide +kernel) (ls := [.val (.ref a), .val (.int s.toInt32), .val (.int e.toInt32), .unset, .unset]) rfl rfl fun D A0 => ?_
  have hC := S.2.1
  obtain ⟨E, t, V, C, T⟩ := S.opL hla
  have A1 := A0.run [(0, .aload_n 0, 1, 0)] (pe := 1) (by decide +kernel) rfl
  obtain ⟨_, HA2, qA2, A2, moA2, szA2⟩ := A1.callV (argsL := []) (wd_91 G) (wd_92 G) (wd_94 G) rfl (wd_94 G) (wd_93 G) (wd_12 G) (wd_95 G) S.1 (c_sLen G S) (by decide) ⟨_, _, (by decide +kernel : parseMethodDescriptor "()I" = some ⟨[], some .int⟩), rfl⟩ (by decide +kernel) (Wd := 0) (by decide) (Nat.le_of_ble_eq_true rfl) (by decide) (by decide) (by decide)
  obtain ⟨rfl, rfl⟩ := qA2
  have A3 := A2.run [(4, .istore_n 3, 5, 0), (5, .iload_n 1, 6, 0), (6, .iload_n 2, 7, 0), (7, .iload_n 3, 8, 0)] (pe := 8) (by decide +kernel) rfl
  obtain ⟨_, HA4, qA4, A4, moA4, szA4⟩ := A3.callS (argsL := [.int s.toInt32, .int e.toInt32, .int cs.length.toInt32]) (wd_127 G) (wd_128 G) (wd_12 G) (wd_129 G) (c_bbe G hs he (by omega)) (by decide) ⟨_, _, (by decide +kernel : parseMethodDescriptor "(III)V" = some ⟨[.int, .int, .int], none⟩), rfl⟩ (by decide +kernel) (Wd := 0) (by decide) (Nat.le_of_ble_eq_true rfl) (by decide) (by decide) (by decide)
  obtain ⟨rfl, rfl⟩ := qA4
  have A5 := A4.run [(11, .iload_n 1, 12, 0)] (pe := 12) (by decide +kernel) rfl
  have key : (s = 0 ∧ e = cs.length ∧ Wk l Z a0 EL0 "java/lang/String" jdk_42_method_92_code 5 "substring" (some (.object "java/lang/String")) ({ frames := 4, cells := 2, slots := 13, locals := 64 } : Room) D 20 [.val (.ref a), .val (.int s.toInt32), .val (.int e.toInt32), .val (.int cs.length.toInt32), .unset] [] H 0 0) ∨ (¬ (s = 0 ∧ e = cs.length) ∧ Wk l Z a0 EL0 "java/lang/String" jdk_42_method_92_code 5 "substring" (some (.object "java/lang/String")) ({ frames := 4, cells := 2, slots := 13, locals := 64 } : Room) D 22 [.val (.ref a), .val (.int s.toInt32), .val (.int e.toInt32), .val (.int cs.length.toInt32), .unset] [] H 0 0) := by
    by_cases h : s = 0
    · have B1 := A5.ifF (cd := .ne) (o := 10) (by decide +kernel) (not_not_intro (by rw [h]; rfl))
      have B2 := B1.run [(15, .iload_n 2, 16, 0), (16, .iload_n 3, 17, 0)] (pe := 17) (by decide +kernel) rfl
      by_cases h2 : e = cs.length
      · have B3 := B2.icF (cd := .ne) (o := 5) (by decide +kernel) (not_not_intro (congrArg Nat.toInt32 h2))
        exact Or.inl ⟨h, h2, B3⟩
      · have B3 := B2.icT (cd := .ne) (o := 5) (by decide +kernel) (fun q => h2 ((n32_inj (by omega) (by omega)).mp q)) (pe := 22) (by decide)
        exact Or.inr ⟨fun q => h2 q.2, B3⟩
    · have B1 := A5.ifT (cd := .ne) (o := 10) (by decide +kernel) (fun q => h ((n32_inj (i := s) (j := 0) (by omega) (by decide)).mp q)) (pe := 22) (by decide)
      exact Or.inr ⟨fun q => h q.1, B1⟩
  rcases key with ⟨h1, h2, B0⟩ | ⟨h, B0⟩
  · have B1 := B0.run [(20, .aload_n 0, 21, 0)] (pe := 21) (by decide +kernel) rfl
    exact ⟨_, _, _, _, B1.retA (by decide +kernel) rfl rfl, ⟨a, rfl, Kp.refl _, by rw [h1, h2]; simpa using S⟩, by decide, by decide⟩
  · have B1 := B0.run [(22, .iload_n 2, 23, 0), (23, .iload_n 1, 24, 0), (24, .isub, 25, 0)] (pe := 25) (by decide +kernel) rfl
    rw [n32_sub hs] at B1
    have B2 := B1.run [(25, .istore 4, 27, 0), (27, .aload_n 0, 28, 0)] (pe := 28) (by decide +kernel) rfl
    obtain ⟨_, HB3, qB3, B3, moB3, szB3⟩ := B2.callV (argsL := []) (wd_135 G) (wd_136 G) (wd_138 G) rfl (wd_138 G) (wd_137 G) (wd_12 G) (wd_139 G) S.1 (c_isL G C 1 (Or.inl ⟨rfl, rfl⟩)) (by decide) ⟨_, _, (by decide +kernel : parseMethodDescriptor "()Z" = some ⟨[], some .boolean⟩), rfl⟩ (by decide +kernel) (Wd := 0) (by decide) (Nat.le_of_ble_eq_true rfl) (by decide) (by decide) (by decide)
    obtain ⟨rfl, rfl⟩ := qB3
    have B4 := B3.ifF (cd := .eq) (o := 16) (by decide +kernel) (by show ¬ _ = _; decide)
    have B5 := B4.run [(34, .aload_n 0, 35, 0)] (pe := 35) (by decide +kernel) rfl
    have B6 := B5.getF (wd_32 G) V (by decide +kernel)
    have B7 := B6.run [(38, .iload_n 1, 39, 0), (39, .iload 4, 41, 0)] (pe := 41) (by decide +kernel) rfl
    obtain ⟨_, HB8, qB8, B8, moB8, szB8⟩ := B7.callS (argsL := [.ref t, .int s.toInt32, .int (e - s).toInt32]) (wd_140 G) (wd_141 G) (wd_17 G) (wd_142 G) (c_nst G T hC hla (by omega) (by omega) (fun q r => h ⟨q, by omega⟩)) (by decide) ⟨_, _, (by decide +kernel : parseMethodDescriptor "([BII)Ljava/lang/String;" = some ⟨[(.array .byte), .int, .int], some (.object "java/lang/String")⟩), rfl⟩ (by decide +kernel) (Wd := 0) (by decide) (Nat.le_of_ble_eq_true rfl) (by decide) (by decide) (by decide)
    obtain ⟨u, rfl, q⟩ := qB8
    have B9 := B8.run [(44, .goto 13, 57, 0)] (pe := 57) (by decide +kernel) rfl
    exact ⟨_, _, _, _, B9.retA (by decide +kernel) rfl rfl, ⟨u, rfl, q⟩, by decide, by decide⟩
theorem sl_line_starts (G : Glb Z a0) : Jvm.RoadKit.slotOf Z FNm "line" "Ljava/lang/String;" ≠ Jvm.RoadKit.slotOf Z FNm "starts" "[I" := slot_ne (Or.inl (wd_64 G)) (Or.inl (wd_67 G)) (by decide) (t := .object "java/lang/String") (by decide) (t' := .array .int) (by decide)
theorem sl_line_ends (G : Glb Z a0) : Jvm.RoadKit.slotOf Z FNm "line" "Ljava/lang/String;" ≠ Jvm.RoadKit.slotOf Z FNm "ends" "[I" := slot_ne (Or.inl (wd_64 G)) (Or.inl (wd_69 G)) (by decide) (t := .object "java/lang/String") (by decide) (t' := .array .int) (by decide)
theorem sl_line_count (G : Glb Z a0) : Jvm.RoadKit.slotOf Z FNm "line" "Ljava/lang/String;" ≠ Jvm.RoadKit.slotOf Z FNm "count" "I" := slot_ne (Or.inl (wd_64 G)) (Or.inl (wd_80 G)) (by decide) (t := .object "java/lang/String") (by decide) (t' := .int) (by decide)
theorem sl_line_delimiter (G : Glb Z a0) : Jvm.RoadKit.slotOf Z FNm "line" "Ljava/lang/String;" ≠ Jvm.RoadKit.slotOf Z FNm "delimiter" "Ljava/lang/String;" := slot_ne (Or.inl (wd_64 G)) (Or.inr (wd_71 G)) (by decide) (t := .object "java/lang/String") (by decide) (t' := .object "java/lang/String") (by decide)
theorem sl_line_lastNeeded (G : Glb Z a0) : Jvm.RoadKit.slotOf Z FNm "line" "Ljava/lang/String;" ≠ Jvm.RoadKit.slotOf Z FNm "lastNeeded" "I" := slot_ne (Or.inl (wd_64 G)) (Or.inr (wd_73 G)) (by decide) (t := .object "java/lang/String") (by decide) (t' := .int) (by decide)
theorem sl_starts_line (G : Glb Z a0) : Jvm.RoadKit.slotOf Z FNm "starts" "[I" ≠ Jvm.RoadKit.slotOf Z FNm "line" "Ljava/lang/String;" := slot_ne (Or.inl (wd_67 G)) (Or.inl (wd_64 G)) (by decide) (t := .array .int) (by decide) (t' := .object "java/lang/String") (by decide)
theorem sl_starts_ends (G : Glb Z a0) : Jvm.RoadKit.slotOf Z FNm "starts" "[I" ≠ Jvm.RoadKit.slotOf Z FNm "ends" "[I" := slot_ne (Or.inl (wd_67 G)) (Or.inl (wd_69 G)) (by decide) (t := .array .int) (by decide) (t' := .array .int) (by decide)
theorem sl_starts_count (G : Glb Z a0) : Jvm.RoadKit.slotOf Z FNm "starts" "[I" ≠ Jvm.RoadKit.slotOf Z FNm "count" "I" := slot_ne (Or.inl (wd_67 G)) (Or.inl (wd_80 G)) (by decide) (t := .array .int) (by decide) (t' := .int) (by decide)
theorem sl_starts_delimiter (G : Glb Z a0) : Jvm.RoadKit.slotOf Z FNm "starts" "[I" ≠ Jvm.RoadKit.slotOf Z FNm "delimiter" "Ljava/lang/String;" := slot_ne (Or.inl (wd_67 G)) (Or.inr (wd_71 G)) (by decide) (t := .array .int) (by decide) (t' := .object "java/lang/String") (by decide)
theorem sl_starts_lastNeeded (G : Glb Z a0) : Jvm.RoadKit.slotOf Z FNm "starts" "[I" ≠ Jvm.RoadKit.slotOf Z FNm "lastNeeded" "I" := slot_ne (Or.inl (wd_67 G)) (Or.inr (wd_73 G)) (by decide) (t := .array .int) (by decide) (t' := .int) (by decide)
theorem sl_ends_line (G : Glb Z a0) : Jvm.RoadKit.slotOf Z FNm "ends" "[I" ≠ Jvm.RoadKit.slotOf Z FNm "line" "Ljava/lang/String;" := slot_ne (Or.inl (wd_69 G)) (Or.inl (wd_64 G)) (by decide) (t := .array .int) (by decide) (t' := .object "java/lang/String") (by decide)
theorem sl_ends_starts (G : Glb Z a0) : Jvm.RoadKit.slotOf Z FNm "ends" "[I" ≠ Jvm.RoadKit.slotOf Z FNm "starts" "[I" := slot_ne (Or.inl (wd_69 G)) (Or.inl (wd_67 G)) (by decide) (t := .array .int) (by decide) (t' := .array .int) (by decide)
theorem sl_ends_count (G : Glb Z a0) : Jvm.RoadKit.slotOf Z FNm "ends" "[I" ≠ Jvm.RoadKit.slotOf Z FNm "count" "I" := slot_ne (Or.inl (wd_69 G)) (Or.inl (wd_80 G)) (by decide) (t := .array .int) (by decide) (t' := .int) (by decide)
theorem sl_ends_delimiter (G : Glb Z a0) : Jvm.RoadKit.slotOf Z FNm "ends" "[I" ≠ Jvm.RoadKit.slotOf Z FNm "delimiter" "Ljava/lang/String;" := slot_ne (Or.inl (wd_69 G)) (Or.inr (wd_71 G)) (by decide) (t := .array .int) (by decide) (t' := .object "java/lang/String") (by decide)
theorem sl_ends_lastNeeded (G : Glb Z a0) : Jvm.RoadKit.slotOf Z FNm "ends" "[I" ≠ Jvm.RoadKit.slotOf Z FNm "lastNeeded" "I" := slot_ne (Or.inl (wd_69 G)) (Or.inr (wd_73 G)) (by decide) (t := .array .int) (by decide) (t' := .int) (by decide)
theorem sl_count_line (G : Glb Z a0) : Jvm.RoadKit.slotOf Z FNm "count" "I" ≠ Jvm.RoadKit.slotOf Z FNm "line" "Ljava/lang/String;" := slot_ne (Or.inl (wd_80 G)) (Or.inl (wd_64 G)) (by decide) (t := .int) (by decide) (t' := .object "java/lang/String") (by decide)
theorem sl_count_starts (G : Glb Z a0) : Jvm.RoadKit.slotOf Z FNm "count" "I" ≠ Jvm.RoadKit.slotOf Z FNm "starts" "[I" := slot_ne (Or.inl (wd_80 G)) (Or.inl (wd_67 G)) (by decide) (t := .int) (by decide) (t' := .array .int) (by decide)
theorem sl_count_ends (G : Glb Z a0) : Jvm.RoadKit.slotOf Z FNm "count" "I" ≠ Jvm.RoadKit.slotOf Z FNm "ends" "[I" := slot_ne (Or.inl (wd_80 G)) (Or.inl (wd_69 G)) (by decide) (t := .int) (by decide) (t' := .array .int) (by decide)
theorem sl_count_delimiter (G : Glb Z a0) : Jvm.RoadKit.slotOf Z FNm "count" "I" ≠ Jvm.RoadKit.slotOf Z FNm "delimiter" "Ljava/lang/String;" := slot_ne (Or.inl (wd_80 G)) (Or.inr (wd_71 G)) (by decide) (t := .int) (by decide) (t' := .object "java/lang/String") (by decide)
theorem sl_count_lastNeeded (G : Glb Z a0) : Jvm.RoadKit.slotOf Z FNm "count" "I" ≠ Jvm.RoadKit.slotOf Z FNm "lastNeeded" "I" := slot_ne (Or.inl (wd_80 G)) (Or.inr (wd_73 G)) (by decide) (t := .int) (by decide) (t' := .int) (by decide)
theorem sl_delimiter_line (G : Glb Z a0) : Jvm.RoadKit.slotOf Z FNm "delimiter" "Ljava/lang/String;" ≠ Jvm.RoadKit.slotOf Z FNm "line" "Ljava/lang/String;" := slot_ne (Or.inr (wd_71 G)) (Or.inl (wd_64 G)) (by decide) (t := .object "java/lang/String") (by decide) (t' := .object "java/lang/String") (by decide)
theorem sl_delimiter_starts (G : Glb Z a0) : Jvm.RoadKit.slotOf Z FNm "delimiter" "Ljava/lang/String;" ≠ Jvm.RoadKit.slotOf Z FNm "starts" "[I" := slot_ne (Or.inr (wd_71 G)) (Or.inl (wd_67 G)) (by decide) (t := .object "java/lang/String") (by decide) (t' := .array .int) (by decide)
theorem sl_delimiter_ends (G : Glb Z a0) : Jvm.RoadKit.slotOf Z FNm "delimiter" "Ljava/lang/String;" ≠ Jvm.RoadKit.slotOf Z FNm "ends" "[I" := slot_ne (Or.inr (wd_71 G)) (Or.inl (wd_69 G)) (by decide) (t := .object "java/lang/String") (by decide) (t' := .array .int) (by decide)
theorem sl_delimiter_count (G : Glb Z a0) : Jvm.RoadKit.slotOf Z FNm "delimiter" "Ljava/lang/String;" ≠ Jvm.RoadKit.slotOf Z FNm "count" "I" := slot_ne (Or.inr (wd_71 G)) (Or.inl (wd_80 G)) (by decide) (t := .object "java/lang/String") (by decide) (t' := .int) (by decide)
theorem sl_delimiter_lastNeeded (G : Glb Z a0) : Jvm.RoadKit.slotOf Z FNm "delimiter" "Ljava/lang/String;" ≠ Jvm.RoadKit.slotOf Z FNm "lastNeeded" "I" := slot_ne (Or.inr (wd_71 G)) (Or.inr (wd_73 G)) (by decide) (t := .object "java/lang/String") (by decide) (t' := .int) (by decide)
theorem sl_lastNeeded_line (G : Glb Z a0) : Jvm.RoadKit.slotOf Z FNm "lastNeeded" "I" ≠ Jvm.RoadKit.slotOf Z FNm "line" "Ljava/lang/String;" := slot_ne (Or.inr (wd_73 G)) (Or.inl (wd_64 G)) (by decide) (t := .int) (by decide) (t' := .object "java/lang/String") (by decide)
theorem sl_lastNeeded_starts (G : Glb Z a0) : Jvm.RoadKit.slotOf Z FNm "lastNeeded" "I" ≠ Jvm.RoadKit.slotOf Z FNm "starts" "[I" := slot_ne (Or.inr (wd_73 G)) (Or.inl (wd_67 G)) (by decide) (t := .int) (by decide) (t' := .array .int) (by decide)
theorem sl_lastNeeded_ends (G : Glb Z a0) : Jvm.RoadKit.slotOf Z FNm "lastNeeded" "I" ≠ Jvm.RoadKit.slotOf Z FNm "ends" "[I" := slot_ne (Or.inr (wd_73 G)) (Or.inl (wd_69 G)) (by decide) (t := .int) (by decide) (t' := .array .int) (by decide)
theorem sl_lastNeeded_count (G : Glb Z a0) : Jvm.RoadKit.slotOf Z FNm "lastNeeded" "I" ≠ Jvm.RoadKit.slotOf Z FNm "count" "I" := slot_ne (Or.inr (wd_73 G)) (Or.inl (wd_80 G)) (by decide) (t := .int) (by decide) (t' := .int) (by decide)
theorem sl_lastNeeded_delimiter (G : Glb Z a0) : Jvm.RoadKit.slotOf Z FNm "lastNeeded" "I" ≠ Jvm.RoadKit.slotOf Z FNm "delimiter" "Ljava/lang/String;" := slot_ne (Or.inr (wd_73 G)) (Or.inr (wd_71 G)) (by decide) (t := .int) (by decide) (t' := .object "java/lang/String") (by decide)
/-- a Fields: its line, the two arrays, the delimiter, what is needed and what is there -/
def FA (Z : State) (H : HP) (x ln st en dl : Addr) (n c : Nat) (S E : List Value) : Prop :=
  Exa Z H.1 x FNm ∧ Fld Z H.1 x FNm "line" "Ljava/lang/String;" (.ref ln) ∧ Fld Z H.1 x FNm "starts" "[I" (.ref st) ∧ Fld Z H.1 x FNm "ends" "[I" (.ref en) ∧ Fld Z H.1 x FNm "count" "I" (.int c.toInt32) ∧ Fld Z H.1 x FNm "delimiter" "Ljava/lang/String;" (.ref dl) ∧ Fld Z H.1 x FNm "lastNeeded" "I" (.int n.toInt32) ∧
  Ar Z H st .int S ∧ Ar Z H en .int E ∧ S.length = 16 ∧ E.length = 16 ∧ H.2 x ∧ H.2 st ∧ H.2 en ∧ st ≠ en
set_option maxRecDepth 65536 in
theorem c_fI (G : Glb Z a0) {x dl : Addr} {n : Nat} (E0 : Exa Z H.1 x FNm) (Fline0 : Fld Z H.1 x FNm "line" "Ljava/lang/String;" .null) (Fstarts0 : Fld Z H.1 x FNm "starts" "[I" .null) (Fends0 : Fld Z H.1 x FNm "ends" "[I" .null) (Fcount0 : Fld Z H.1 x FNm "count" "I" (.int 0)) (Fdelimiter0 : Fld Z H.1 x FNm "delimiter" "Ljava/lang/String;" .null) (FlastNeeded0 : Fld Z H.1 x FNm "lastNeeded" "I" (.int 0)) (o0 : H.2 x) :
    Ct l Z EL0 (⟨"com/example/onepass/onepass/model/Fields", "<init>", "(Ljava/lang/String;I)V"⟩ : MethodName) prog_71_method_1_code 3 (none) ({ frames := 1, cells := 4, slots := 36, locals := 12 } : Room) [] [.ref x, .ref dl, .int n.toInt32] H (fun v H' => v = none ∧ Kp H H' [x] ∧ ∃ ln st en, H.1.size ≤ st ∧ H.1.size ≤ en ∧ FA Z H' x ln st en dl n 0 (List.replicate 16 (.int 0)) (List.replicate 16 (.int 0))) := by
  refine Ct.in G (by first | exact plainFor_of_name (by simp [plainName, overriddenIn]; done) | decide +kernel) (ls := [.val (.ref x), .val (.ref dl), .val (.int n.toInt32)]) rfl rfl fun D A0 => ?_
  have A1 := A0.run [(0, .aload_n 0, 1, 0)] (pe := 1) (by decide +kernel) rfl
  have A2 := A1.initO (wd_59 G) (wd_30 G) (wd_31 G) (by decide +kernel) (Wd := 0) (by decide) (Nat.le_of_ble_eq_true rfl) (by decide)
  have A3 := A2.run [(4, .aload_n 0, 5, 0)] (pe := 5) (by decide +kernel) rfl
  obtain ⟨w1, H1, A4, K1⟩ := A3.ldcSo (wd_60 G) (by decide +kernel) (q := 0) (by decide +kernel) (by decide) (by decide) (by decide)
  have Fline1 := Fline0.ky K1
  have Fstarts1 := Fstarts0.ky K1
  have Fends1 := Fends0.ky K1
  have Fcount1 := Fcount0.ky K1
  have Fdelimiter1 := Fdelimiter0.ky K1
  have FlastNeeded1 := FlastNeeded0.ky K1
  have E1 := E0.ky K1
  obtain ⟨H2, A5, K2, W2⟩ := A4.putF (wd_63 G) Fline1 E1 (wd_64 G) (wd_54 G) (K1.2 _ o0) (by decide +kernel) (ty := .object "java/lang/String") (by decide) rfl rfl
  have Fline2 := Fline1.same W2
  have Fstarts2 := Fstarts1.other W2 (Or.inr (sl_starts_line G))
  have Fends2 := Fends1.other W2 (Or.inr (sl_ends_line G))
  have Fcount2 := Fcount1.other W2 (Or.inr (sl_count_line G))
  have Fdelimiter2 := Fdelimiter1.other W2 (Or.inr (sl_delimiter_line G))
  have FlastNeeded2 := FlastNeeded1.other W2 (Or.inr (sl_lastNeeded_line G))
  have E2 := E1.ky K2
  have A6 := A5.run [(10, .aload_n 0, 11, 0), (11, .bipush 16, 13, 16)] (pe := 13) (by decide +kernel) rfl
  obtain ⟨st, H3, A7, g3, K3, T3, o3⟩ := A6.newA (aty := .int) (wd_65 G) (by decide +kernel) (N := 16) rfl (cap := 16) (by decide) (by decide) (by decide) (by decide)
  have Fline3 := Fline2.ky K3
  have Fstarts3 := Fstarts2.ky K3
  have Fends3 := Fends2.ky K3
  have Fcount3 := Fcount2.ky K3
  have Fdelimiter3 := Fdelimiter2.ky K3
  have FlastNeeded3 := FlastNeeded2.ky K3
  have E3 := E2.ky K3
  obtain ⟨H4, A8, K4, W4⟩ := A7.putF (wd_66 G) Fstarts3 E3 (wd_67 G) (wd_54 G) (K3.2 _ (K2.2 _ (K1.2 _ o0))) (by decide +kernel) (ty := .array .int) (by decide) rfl rfl
  have Fline4 := Fline3.other W4 (Or.inr (sl_line_starts G))
  have Fstarts4 := Fstarts3.same W4
  have Fends4 := Fends3.other W4 (Or.inr (sl_ends_starts G))
  have Fcount4 := Fcount3.other W4 (Or.inr (sl_count_starts G))
  have Fdelimiter4 := Fdelimiter3.other W4 (Or.inr (sl_delimiter_starts G))
  have FlastNeeded4 := FlastNeeded3.other W4 (Or.inr (sl_lastNeeded_starts G))
  have E4 := E3.ky K4
  have T4 := T3.kyE K4 E3 (wd_54 G)
  have A9 := A8.run [(18, .aload_n 0, 19, 0), (19, .bipush 16, 21, 16)] (pe := 21) (by decide +kernel) rfl
  obtain ⟨en, H5, A10, g5, K5, U5, p5⟩ := A9.newA (aty := .int) (wd_65 G) (by decide +kernel) (N := 16) rfl (cap := 16) (by decide) (by decide) (by decide) (by decide)
  have Fline5 := Fline4.ky K5
  have Fstarts5 := Fstarts4.ky K5
  have Fends5 := Fends4.ky K5
  have Fcount5 := Fcount4.ky K5
  have Fdelimiter5 := Fdelimiter4.ky K5
  have FlastNeeded5 := FlastNeeded4.ky K5
  have E5 := E4.ky K5
  obtain ⟨H6, A11, K6, W6⟩ := A10.putF (wd_68 G) Fends5 E5 (wd_69 G) (wd_54 G) (K5.2 _ (K4.2 _ (K3.2 _ (K2.2 _ (K1.2 _ o0))))) (by decide +kernel) (ty := .array .int) (by decide) rfl rfl
  have Fline6 := Fline5.other W6 (Or.inr (sl_line_ends G))
  have Fstarts6 := Fstarts5.other W6 (Or.inr (sl_starts_ends G))
  have Fends6 := Fends5.same W6
  have Fcount6 := Fcount5.other W6 (Or.inr (sl_count_ends G))
  have Fdelimiter6 := Fdelimiter5.other W6 (Or.inr (sl_delimiter_ends G))
  have FlastNeeded6 := FlastNeeded5.other W6 (Or.inr (sl_lastNeeded_ends G))
  have E6 := E5.ky K6
  have T6 := (T4.ky K5).kyE K6 E5 (wd_54 G)
  have U6 := U5.kyE K6 E5 (wd_54 G)
  have A12 := A11.run [(26, .aload_n 0, 27, 0), (27, .aload_n 1, 28, 0)] (pe := 28) (by decide +kernel) rfl
  have o6 := K6.2 _ (K5.2 _ (K4.2 _ (K3.2 _ (K2.2 _ (K1.2 _ o0)))))
  obtain ⟨H7, A13, K7, W7⟩ := A12.putFin (wd_70 G) Fdelimiter6 E6 (wd_71 G) rfl rfl (wd_54 G) o6 (by decide +kernel) (ty := .object "java/lang/String") (by decide) rfl rfl
  have Fline7 := Fline6.other W7 (Or.inr (sl_line_delimiter G))
  have Fstarts7 := Fstarts6.other W7 (Or.inr (sl_starts_delimiter G))
  have Fends7 := Fends6.other W7 (Or.inr (sl_ends_delimiter G))
  have Fcount7 := Fcount6.other W7 (Or.inr (sl_count_delimiter G))
  have Fdelimiter7 := Fdelimiter6.same W7
  have FlastNeeded7 := FlastNeeded6.other W7 (Or.inr (sl_lastNeeded_delimiter G))
  have E7 := E6.ky K7
  have T7 := T6.kyE K7 E6 (wd_54 G)
  have U7 := U6.kyE K7 E6 (wd_54 G)
  have A14 := A13.run [(31, .aload_n 0, 32, 0), (32, .iload_n 2, 33, 0)] (pe := 33) (by decide +kernel) rfl
  obtain ⟨H8, A15, K8, W8⟩ := A14.putFin (wd_72 G) FlastNeeded7 E7 (wd_73 G) rfl rfl (wd_54 G) (K7.2 _ o6) (by decide +kernel) (ty := .int) (by decide) rfl rfl
  have Fline8 := Fline7.other W8 (Or.inr (sl_line_lastNeeded G))
  have Fstarts8 := Fstarts7.other W8 (Or.inr (sl_starts_lastNeeded G))
  have Fends8 := Fends7.other W8 (Or.inr (sl_ends_lastNeeded G))
  have Fcount8 := Fcount7.other W8 (Or.inr (sl_count_lastNeeded G))
  have Fdelimiter8 := Fdelimiter7.other W8 (Or.inr (sl_delimiter_lastNeeded G))
  have FlastNeeded8 := FlastNeeded7.same W8
  have E8 := E7.ky K8
  have T8 := T7.kyE K8 E7 (wd_54 G)
  have U8 := U7.kyE K8 E7 (wd_54 G)
  have L12 : Kp H H2 [x] := (K1.wide fun x hx => nomatch hx).trans K2 fun x hx => Or.inl hx
  have L4 := (L12.trans K3 fun x hx => nomatch hx).trans K4 fun x hx => Or.inl hx
  have L6 := (L4.trans K5 fun x hx => nomatch hx).trans K6 fun x hx => Or.inl hx
  have L8 := (L6.trans K7 fun x hx => Or.inl hx).trans K8 fun x hx => Or.inl hx
  have hse : st ≠ en := Nat.ne_of_lt (Nat.lt_of_lt_of_le T4.lt g5)
  refine ⟨_, _, _, _, A15.ret (by decide +kernel), ⟨rfl, L8, w1, st, en, Nat.le_trans L12.size g3, Nat.le_trans L4.size g5, E8, Fline8, Fstarts8, Fends8, Fcount8, Fdelimiter8, FlastNeeded8, T8, U8, rfl, rfl, K8.2 _ (K7.2 _ o6), ?_, ?_, hse⟩, by decide, by decide⟩
  · exact K8.2 _ (K7.2 _ (K6.2 _ (K5.2 _ (K4.2 _ o3))))
  · exact K8.2 _ (K7.2 _ (K6.2 _ p5))
set_option maxRecDepth 65536 in
theorem c_add (G : Glb Z a0) {x ln st en dl : Addr} {n c s e : Nat} {S E : List Value} (F : FA Z H x ln st en dl n c S E) (hc : c < 16) :
    Ct l Z EL0 (⟨"com/example/onepass/onepass/model/Fields", "add", "(II)V"⟩ : MethodName) prog_71_method_4_code 3 (none) ({ frames := 0, cells := 0, slots := 0, locals := 0 } : Room) [] [.ref x, .int s.toInt32, .int e.toInt32] H (fun v H' => v = none ∧ Kp H H' [x, st, en] ∧ FA Z H' x ln st en dl n (c + 1) (S.set c (.int s.toInt32)) (E.set c (.int e.toInt32))) := by
  refine Ct.in G (by first | exact plainFor_of_name (by simp [plainName, overriddenIn]; done) | decide +kernel) (ls := [.val (.ref x), .val (.int s.toInt32), .val (.int e.toInt32)]) rfl rfl fun D A0 => ?_
  obtain ⟨E0, Fline0, Fstarts0, Fends0, Fcount0, Fdelimiter0, FlastNeeded0, TS, TE, hS, hE, o0, oS, oE, hse⟩ := F
  have wi := (wd_54 G)
  have hxs : x ≠ st := by obtain ⟨c, A, -⟩ := TS; exact ne_arr E0 wi A
  have hxe : x ≠ en := by obtain ⟨c, A, -⟩ := TE; exact ne_arr E0 wi A
  have A1 := A0.run [(0, .aload_n 0, 1, 0)] (pe := 1) (by decide +kernel) rfl
  have A2 := A1.getF (wd_79 G) Fcount0 (by decide +kernel)
  have A3 := A2.run [(4, .aload_n 0, 5, 0)] (pe := 5) (by decide +kernel) rfl
  have A4 := A3.getF (wd_66 G) Fstarts0 (by decide +kernel)
  have A5 := A4.alen TS (by decide +kernel) (z := (16 : Nat).toInt32) (by rw [hS])
  have A6 := A5.icT (cd := .ne) (o := 37) (by decide +kernel) (fun q => by have := (n32_inj (i := c) (j := 16) (by omega) (by decide)).mp q; omega) (pe := 46) (by decide)
  have A7 := A6.run [(46, .aload_n 0, 47, 0)] (pe := 47) (by decide +kernel) rfl
  have A8 := A7.getF (wd_66 G) Fstarts0 (by decide +kernel)
  have A9 := A8.run [(50, .aload_n 0, 51, 0)] (pe := 51) (by decide +kernel) rfl
  have A10 := A9.getF (wd_79 G) Fcount0 (by decide +kernel)
  have A11 := A10.run [(54, .iload_n 1, 55, 0)] (pe := 55) (by decide +kernel) rfl
  obtain ⟨H1, A12, K1, T1⟩ := A11.iastore TS oS (by decide +kernel) rfl (by omega)
  have Fline1 := Fline0.ky K1 (by simpa using hxs)
  have Fstarts1 := Fstarts0.ky K1 (by simpa using hxs)
  have Fends1 := Fends0.ky K1 (by simpa using hxs)
  have Fcount1 := Fcount0.ky K1 (by simpa using hxs)
  have Fdelimiter1 := Fdelimiter0.ky K1 (by simpa using hxs)
  have FlastNeeded1 := FlastNeeded0.ky K1 (by simpa using hxs)
  have E1 := E0.ky K1
  have A13 := A12.run [(56, .aload_n 0, 57, 0)] (pe := 57) (by decide +kernel) rfl
  have A14 := A13.getF (wd_68 G) Fends1 (by decide +kernel)
  have A15 := A14.run [(60, .aload_n 0, 61, 0)] (pe := 61) (by decide +kernel) rfl
  have A16 := A15.getF (wd_79 G) Fcount1 (by decide +kernel)
  have A17 := A16.run [(64, .iload_n 2, 65, 0)] (pe := 65) (by decide +kernel) rfl
  obtain ⟨H2, A18, K2, T2⟩ := A17.iastore (TE.ky K1 (by simpa using Ne.symm hse)) (K1.2 _ oE) (by decide +kernel) rfl (by omega)
  have Fline2 := Fline1.ky K2 (by simpa using hxe)
  have Fstarts2 := Fstarts1.ky K2 (by simpa using hxe)
  have Fends2 := Fends1.ky K2 (by simpa using hxe)
  have Fcount2 := Fcount1.ky K2 (by simpa using hxe)
  have Fdelimiter2 := Fdelimiter1.ky K2 (by simpa using hxe)
  have FlastNeeded2 := FlastNeeded1.ky K2 (by simpa using hxe)
  have E2 := E1.ky K2
  have A19 := A18.run [(66, .aload_n 0, 67, 0), (67, .dup, 68, 0)] (pe := 68) (by decide +kernel) rfl
  have A20 := A19.getF (wd_79 G) Fcount2 (by decide +kernel)
  have A21 := A20.run [(71, .iconst 1, 72, 1), (72, .iadd, 73, 0)] (pe := 73) (by decide +kernel) rfl
  rw [n32_succ] at A21
  obtain ⟨H3, A22, K3, W3⟩ := A21.putF (wd_79 G) Fcount2 E2 (wd_80 G) wi (K2.2 _ (K1.2 _ o0)) (by decide +kernel) (ty := .int) (by decide) rfl rfl
  have Fline3 := Fline2.other W3 (Or.inr (sl_line_count G))
  have Fstarts3 := Fstarts2.other W3 (Or.inr (sl_starts_count G))
  have Fends3 := Fends2.other W3 (Or.inr (sl_ends_count G))
  have Fcount3 := Fcount2.same W3
  have Fdelimiter3 := Fdelimiter2.other W3 (Or.inr (sl_delimiter_count G))
  have FlastNeeded3 := FlastNeeded2.other W3 (Or.inr (sl_lastNeeded_count G))
  have E3 := E2.ky K3
  have T3 := (T1.ky K2 (by simpa using hse)).kyE K3 E2 wi
  have U3 := T2.kyE K3 E2 wi
  have m1 : x ∈ [x, st, en] := List.mem_cons_self
  have m2 : st ∈ [x, st, en] := List.mem_cons_of_mem _ List.mem_cons_self
  have m3 : en ∈ [x, st, en] := List.mem_cons_of_mem _ (List.mem_cons_of_mem _ List.mem_cons_self)
  have L : Kp H H3 [x, st, en] := ((K1.wide fun y hy => by cases List.mem_singleton.mp hy; exact Or.inl m2).trans K2 fun y hy => by cases List.mem_singleton.mp hy; exact Or.inl m3).trans K3 fun y hy => by cases List.mem_singleton.mp hy; exact Or.inl m1
  exact ⟨_, _, _, _, A22.ret (by decide +kernel), ⟨rfl, L, E3, Fline3, Fstarts3, Fends3, Fcount3, Fdelimiter3, FlastNeeded3, T3, U3, by rw [List.length_set]; exact hS, by rw [List.length_set]; exact hE, K3.2 _ (K2.2 _ (K1.2 _ o0)), K3.2 _ (K2.2 _ (K1.2 _ oS)), K3.2 _ (K2.2 _ (K1.2 _ oE)), hse⟩, by decide, by decide⟩
theorem FA.ar {x ln st en dl : Addr} {n c : Nat} {S E : List Value} (F : FA Z H x ln st en dl n c S E) : H.2 x ∧ H.2 st ∧ H.2 en := ⟨F.2.2.2.2.2.2.2.2.2.2.2.1, F.2.2.2.2.2.2.2.2.2.2.2.2.1, F.2.2.2.2.2.2.2.2.2.2.2.2.2.1⟩
theorem three {a b c : Addr} {n : Nat} (h1 : n ≤ a) (h2 : n ≤ b) (h3 : n ≤ c) : ∀ y ∈ [a, b, c], n ≤ y := fun y hy => by
  rcases List.mem_cons.mp hy with rfl | hy
  · exact h1
  rcases List.mem_cons.mp hy with rfl | hy
  · exact h2
  · cases List.mem_singleton.mp hy; exact h3
set_option maxRecDepth 65536 in
set_option maxHeartbeats 1000000 in
theorem l_cut (G : Glb Z a0) {HB H : HP} {x ln st en dl : Addr} {n c f m : Nat} {S E : List Value} {cs ds : List Int32} {d0 r : Int32} {s3 : Slot} (F : FA Z H x ln st en dl n c S E) (hc : c < n) (hn16 : n ≤ 3) (KB : Kp HB H []) (SL : Str Z HB ln cs) (SD : Str Z HB dl ds) (gx : HB.1.size ≤ x) (gs : HB.1.size ≤ st) (ge : HB.1.size ≤ en)
    (hls : Lat cs) (hla : Lat ds) (hd : ds.length = 1 ∨ ds.length = 2) (h0 : ds[0]? = some d0) (hf : f ≤ cs.length) (h9 : cs.length = 9) (hr : Idx cs ds d0 f r) (hm : r = m.toInt32 ∧ m ≤ 9 ∨ r = -1 ∧ c + 1 = n ∧ m = 9)
    (h3 : s3 = .unset ∨ ∃ z, s3 = .val (.int z)) (A0 : Wk l Z a0 EL0 "com/example/onepass/onepass/model/Fields" prog_71_method_3_code 4 "cut" none ({ frames := 4, cells := 0, slots := 0, locals := 65 } : Room) D 12 [.val (.ref x), .val (.ref ln), .val (.int f.toInt32), s3] [] H 0 0) :
    ∃ H', Kp HB H' [] ∧ FA Z H' x ln st en dl n (c + 1) (S.set c (.int f.toInt32)) (E.set c (.int m.toInt32)) ∧ Wk l Z a0 EL0 "com/example/onepass/onepass/model/Fields" prog_71_method_3_code 4 "cut" none ({ frames := 4, cells := 0, slots := 0, locals := 65 } : Room) D 12 [.val (.ref x), .val (.ref ln), .val (.int (m + ds.length).toInt32), .val (.int m.toInt32)] [] H' 0 0 := by
  have F' := F
  obtain ⟨E0, Fline, Fstarts, Fends, Fcount, Fdelim, Flast, -⟩ := F
  have A1 := A0.run [(12, .aload_n 0, 13, 0)] (pe := 13) (by decide +kernel) rfl
  have A2 := A1.getF (wd_79 G) Fcount (by decide +kernel)
  have A3 := A2.run [(16, .aload_n 0, 17, 0)] (pe := 17) (by decide +kernel) rfl
  have A4 := A3.getF (wd_72 G) Flast (by decide +kernel)
  have A5 := A4.icF (cd := .ge) (o := 87) (by decide +kernel) (not_not_intro ((n32_lt (by omega) (by omega)).mpr hc))
  have A6 := A5.run [(23, .aload_n 0, 24, 0)] (pe := 24) (by decide +kernel) rfl
  have A7 := A6.getF (wd_63 G) Fline (by decide +kernel)
  have A8 := A7.run [(27, .aload_n 0, 28, 0)] (pe := 28) (by decide +kernel) rfl
  have A9 := A8.getF (wd_70 G) Fdelim (by decide +kernel)
  have A10 := A9.run [(31, .iload_n 2, 32, 0)] (pe := 32) (by decide +kernel) rfl
  obtain ⟨_, HA11, qA11, A11, moA11, szA11⟩ := A10.callV (argsL := [.ref dl, .int f.toInt32]) (wd_81 G) (wd_82 G) (wd_84 G) rfl (wd_84 G) (wd_83 G) (wd_12 G) (wd_85 G) (SL.ky KB).1 (c_iof G (SL.ky KB) hls (SD.ky KB) hla hd h0 hf (by omega) hr) (by decide) ⟨_, _, (by decide +kernel : parseMethodDescriptor "(Ljava/lang/String;I)I" = some ⟨[(.object "java/lang/String"), .int], some .int⟩), rfl⟩ (by decide +kernel) (Wd := 0) (by decide) (Nat.le_of_ble_eq_true rfl) (by decide) (by decide) (by decide)
  obtain ⟨rfl, rfl⟩ := qA11
  have A12 : Wk l Z a0 EL0 "com/example/onepass/onepass/model/Fields" prog_71_method_3_code 4 "cut" none ({ frames := 4, cells := 0, slots := 0, locals := 65 } : Room) D 37 [.val (.ref x), .val (.ref ln), .val (.int f.toInt32), .val (.int r)] [.int r] H 0 0 := by
    rcases h3 with rfl | ⟨z, rfl⟩
    · exact A11.run [(35, .istore_n 3, 36, 0), (36, .iload_n 3, 37, 0)] (pe := 37) (by decide +kernel) rfl
    · exact A11.run [(35, .istore_n 3, 36, 0), (36, .iload_n 3, 37, 0)] (pe := 37) (by decide +kernel) rfl
  have A13 : Wk l Z a0 EL0 "com/example/onepass/onepass/model/Fields" prog_71_method_3_code 4 "cut" none ({ frames := 4, cells := 0, slots := 0, locals := 65 } : Room) D 88 [.val (.ref x), .val (.ref ln), .val (.int f.toInt32), .val (.int m.toInt32)] [] H 0 0 := by
    rcases hm with ⟨rfl, hm⟩ | ⟨rfl, hcn, hm⟩
    · have B1 := A12.ifT (cd := .ge) (o := 51) (by decide +kernel) (nonneg_nat (by omega)) (pe := 88) (by decide)
      exact B1
    · have B1 := A12.ifF (cd := .ge) (o := 51) (by decide +kernel) (by show ¬ ¬ _ < _; decide)
      have B2 := B1.run [(40, .aload_n 0, 41, 0)] (pe := 41) (by decide +kernel) rfl
      have B3 := B2.getF (wd_79 G) Fcount (by decide +kernel)
      have B4 := B3.run [(44, .iconst 1, 45, 1), (45, .iadd, 46, 0), (46, .aload_n 0, 47, 0)] (pe := 47) (by decide +kernel) rfl
      rw [n32_succ] at B4
      have B5 := B4.getF (wd_72 G) Flast (by decide +kernel)
      have B6 := B5.icT (cd := .ge) (o := 30) (by decide +kernel) (fun q => by have := (n32_lt (by omega) (by omega)).mp q; omega) (pe := 80) (by decide)
      have B7 := B6.run [(80, .aload_n 0, 81, 0)] (pe := 81) (by decide +kernel) rfl
      have B8 := B7.getF (wd_63 G) Fline (by decide +kernel)
      obtain ⟨_, HB9, qB9, B9, moB9, szB9⟩ := B8.callV (argsL := []) (wd_116 G) (wd_92 G) (wd_94 G) rfl (wd_94 G) (wd_93 G) (wd_12 G) (wd_95 G) (SL.ky KB).1 (c_sLen G (SL.ky KB)) (by decide) ⟨_, _, (by decide +kernel : parseMethodDescriptor "()I" = some ⟨[], some .int⟩), rfl⟩ (by decide +kernel) (Wd := 0) (by decide) (Nat.le_of_ble_eq_true rfl) (by decide) (by decide) (by decide)
      obtain ⟨rfl, rfl⟩ := qB9
      have B10 := B9.run [(87, .istore_n 3, 88, 0)] (pe := 88) (by decide +kernel) rfl
      rw [h9, ← hm] at B10
      exact B10
  have A14 := A13.run [(88, .aload_n 0, 89, 0), (89, .iload_n 2, 90, 0), (90, .iload_n 3, 91, 0)] (pe := 91) (by decide +kernel) rfl
  obtain ⟨_, HA15, qA15, A15, moA15, szA15⟩ := A14.callP (argsL := [.int f.toInt32, .int m.toInt32]) (wd_112 G) (wd_77 G) rfl (wd_114 G) (wd_113 G) (wd_55 G) (wd_115 G) E0 (c_add G F' (by omega)) (by decide) ⟨_, _, (by decide +kernel : parseMethodDescriptor "(II)V" = some ⟨[.int, .int], none⟩), rfl⟩ (by decide +kernel) (Wd := 0) (by decide) (Nat.le_of_ble_eq_true rfl) (by decide) (by decide) (by decide)
  obtain ⟨rfl, K1, F1⟩ := qA15
  have KB1 : Kp HB HA15 [] := KB.trans K1 fun y hy => Or.inr (three gx gs ge y hy)
  have A16 := A15.run [(94, .iload_n 3, 95, 0), (95, .aload_n 0, 96, 0)] (pe := 96) (by decide +kernel) rfl
  have A17 := A16.getF (wd_70 G) F1.2.2.2.2.2.1 (by decide +kernel)
  obtain ⟨_, HA18, qA18, A18, moA18, szA18⟩ := A17.callV (argsL := []) (wd_116 G) (wd_92 G) (wd_94 G) rfl (wd_94 G) (wd_93 G) (wd_12 G) (wd_95 G) (SD.ky KB1).1 (c_sLen G (SD.ky KB1)) (by decide) ⟨_, _, (by decide +kernel : parseMethodDescriptor "()I" = some ⟨[], some .int⟩), rfl⟩ (by decide +kernel) (Wd := 1) (by decide) (Nat.le_of_ble_eq_true rfl) (by decide) (by decide) (by decide)
  obtain ⟨rfl, rfl⟩ := qA18
  have A19 := A18.run [(102, .iadd, 103, 0)] (pe := 103) (by decide +kernel) rfl
  rw [n32_add] at A19
  have A20 := A19.run [(103, .istore_n 2, 104, 0), (104, .goto (-92), 12, 0)] (pe := 12) (by decide +kernel) rfl
  exact ⟨_, KB1, F1, A20⟩
abbrev sk (a b len k : Nat) : Nat := if k = 1 then 0 else if k = 2 then a + len else a + 2 * len + b
abbrev ek (a b len k : Nat) : Nat := if k = 1 then a else if k = 2 then a + len + b else 9
theorem l_cutE (G : Glb Z a0) {x ln st en dl : Addr} {n c : Nat} {S E : List Value} {s2 s3 : Slot} (F : FA Z H x ln st en dl n c S E) (hc : c = n) (A0 : Wk l Z a0 EL0 "com/example/onepass/onepass/model/Fields" prog_71_method_3_code 4 "cut" none ({ frames := 4, cells := 0, slots := 0, locals := 65 } : Room) D 12 [.val (.ref x), .val (.ref ln), s2, s3] [] H 0 0) : Rt Z EL0 D none H 0 0 := by
  subst hc
  obtain ⟨E0, Fline, Fstarts, Fends, Fcount, Fdelim, Flast, -⟩ := F
  have A1 := A0.run [(12, .aload_n 0, 13, 0)] (pe := 13) (by decide +kernel) rfl
  have A2 := A1.getF (wd_79 G) Fcount (by decide +kernel)
  have A3 := A2.run [(16, .aload_n 0, 17, 0)] (pe := 17) (by decide +kernel) rfl
  have A4 := A3.getF (wd_72 G) Flast (by decide +kernel)
  have A5 := A4.icT (cd := .ge) (o := 87) (by decide +kernel) Int32.lt_irrefl (pe := 107) (by decide)
  exact A5.ret (by decide +kernel)
theorem set_at {S : List Value} {i : Nat} {v : Value} (h : i < S.length) : (S.set i v)[i]? = some v := by rw [List.getElem?_set_self h]
theorem set_ne {S : List Value} {i j : Nat} {v : Value} (h : i ≠ j) : (S.set i v)[j]? = S[j]? := by rw [List.getElem?_set_ne h]
set_option maxRecDepth 65536 in
set_option maxHeartbeats 1000000 in
theorem c_cut (G : Glb Z a0) {HB : HP} {x l0 ln st en dl : Addr} {n a b len : Nat} {S E : List Value} {cs ds : List Int32} {d0 d1 : Int32} (F : FA Z H x l0 st en dl n 0 S E) (hn : 1 ≤ n) (hn3 : n ≤ 3) (KB : Kp HB H []) (SL : Str Z HB ln cs) (SD : Str Z HB dl ds) (gx : HB.1.size ≤ x) (gs : HB.1.size ≤ st) (ge : HB.1.size ≤ en)
    (hls : Lat cs) (hla : Lat ds) (o0 : okL d0) (hl : len = 1 ∨ len = 2) (hdl : ds.length = len) (h0 : ds[0]? = some d0) (h1 : len = 2 → ds[1]? = some d1) (h9 : cs.length = 9) (hab : a + b + 2 * len ≤ 9) (hcell : ∀ i c, cs[i]? = some c → Cell a b len d0 d1 i c) :
    Ct l Z EL0 (⟨"com/example/onepass/onepass/model/Fields", "cut", "(Ljava/lang/String;)V"⟩ : MethodName) prog_71_method_3_code 4 (none) ({ frames := 4, cells := 0, slots := 0, locals := 65 } : Room) [] [.ref x, .ref ln] H (fun v H' => v = none ∧ Kp HB H' [] ∧ ∃ S' E', FA Z H' x ln st en dl n n S' E' ∧ ∀ k, 1 ≤ k → k ≤ n → S'[k - 1]? = some (.int (sk a b len k).toInt32) ∧ E'[k - 1]? = some (.int (ek a b len k).toInt32)) := by
  refine Ct.in G (by first | exact plainFor_of_name (by simp [plainName, overriddenIn]; done) | decide +kernel) (ls := [.val (.ref x), .val (.ref ln), .unset, .unset]) rfl rfl fun D A0 => ?_
  have hd : ds.length = 1 ∨ ds.length = 2 := by omega
  have hdm : ∀ m : Nat, cs[m]? = some d0 → (len = 2 → cs[m + 1]? = some d1) → ∀ i c, ds[i]? = some c → cs[m + i]? = some c := by
    intro m q0 q1 i c hi
    have hi2 : i < ds.length := (List.getElem?_eq_some_iff.mp hi).1
    obtain rfl | rfl : i = 0 ∨ i = 1 := by omega
    · rw [h0] at hi; cases hi; exact q0
    · rw [h1 (by omega)] at hi; cases hi; exact q1 (by omega)
  have get : ∀ i, i < 9 → ∃ c, cs[i]? = some c ∧ Cell a b len d0 d1 i c := fun i hi => by
    have q : cs[i]? = some cs[i] := List.getElem?_eq_getElem (by omega)
    exact ⟨_, q, hcell i _ q⟩
  have nb : ∀ j c, cs[j]? = some c → c ≠ d0 → b8 c ≠ b8 d0 := fun j c hj hc q => hc (b8_inj (hcell j c hj).1 o0 q)
  have i1 : Idx cs ds d0 0 a.toInt32 := Or.inl ⟨a, rfl, by omega, by omega, fun j c _ hj hc => nb j c hc ((hcell j c hc).2.1 (by omega)), hdm a (by
    obtain ⟨c, q, w⟩ := get a (by omega)
    rw [q, w.2.2.1 (Or.inl rfl)]) (fun h2 => by
    obtain ⟨c, q, w⟩ := get (a + 1) (by omega)
    rw [q, w.2.2.2 h2 (Or.inl rfl)])⟩
  have i2 : Idx cs ds d0 (a + len) (a + len + b).toInt32 := Or.inl ⟨a + len + b, rfl, by omega, by omega, fun j c hj1 hj hc => nb j c hc ((hcell j c hc).2.1 (by omega)), hdm _ (by
    obtain ⟨c, q, w⟩ := get (a + len + b) (by omega)
    rw [q, w.2.2.1 (Or.inr rfl)]) (fun h2 => by
    obtain ⟨c, q, w⟩ := get (a + len + b + 1) (by omega)
    rw [q, w.2.2.2 h2 (Or.inr rfl)])⟩
  have i3 : Idx cs ds d0 (a + len + b + len) (-1) := Or.inr ⟨rfl, fun j c hj hc => nb j c hc ((hcell j c hc).2.1 (by omega))⟩
  obtain ⟨E0, Fline0, Fstarts0, Fends0, Fcount0, Fdelimiter0, FlastNeeded0, TS, TE, hS, hE, ox, oS, oE, hse⟩ := F
  have wi := (wd_54 G)
  have A1 := A0.run [(0, .aload_n 0, 1, 0), (1, .aload_n 1, 2, 0)] (pe := 2) (by decide +kernel) rfl
  obtain ⟨H1, A2, K1, W1⟩ := A1.putF (wd_63 G) Fline0 E0 (wd_64 G) wi ox (by decide +kernel) (ty := .object "java/lang/String") (by decide) rfl rfl
  have Fline1 := Fline0.same W1
  have Fstarts1 := Fstarts0.other W1 (Or.inr (sl_starts_line G))
  have Fends1 := Fends0.other W1 (Or.inr (sl_ends_line G))
  have Fcount1 := Fcount0.other W1 (Or.inr (sl_count_line G))
  have Fdelimiter1 := Fdelimiter0.other W1 (Or.inr (sl_delimiter_line G))
  have FlastNeeded1 := FlastNeeded0.other W1 (Or.inr (sl_lastNeeded_line G))
  have E1 := E0.ky K1
  have A3 := A2.run [(5, .aload_n 0, 6, 0), (6, .iconst 0, 7, 0)] (pe := 7) (by decide +kernel) rfl
  obtain ⟨H2, A4, K2, W2⟩ := A3.putF (wd_79 G) Fcount1 E1 (wd_80 G) wi (K1.2 _ ox) (by decide +kernel) (ty := .int) (by decide) rfl rfl
  have Fline2 := Fline1.other W2 (Or.inr (sl_line_count G))
  have Fstarts2 := Fstarts1.other W2 (Or.inr (sl_starts_count G))
  have Fends2 := Fends1.other W2 (Or.inr (sl_ends_count G))
  have Fcount2 := Fcount1.same W2
  have Fdelimiter2 := Fdelimiter1.other W2 (Or.inr (sl_delimiter_count G))
  have FlastNeeded2 := FlastNeeded1.other W2 (Or.inr (sl_lastNeeded_count G))
  have E2 := E1.ky K2
  have F2 : FA Z H2 x ln st en dl n 0 S E := ⟨E2, Fline2, Fstarts2, Fends2, Fcount2, Fdelimiter2, FlastNeeded2, (TS.kyE K1 E0 wi).kyE K2 E1 wi, (TE.kyE K1 E0 wi).kyE K2 E1 wi, hS, hE, K2.2 _ (K1.2 _ ox), K2.2 _ (K1.2 _ oS), K2.2 _ (K1.2 _ oE), hse⟩
  have one : ∀ y ∈ [x], y ∈ ([] : List Addr) ∨ HB.1.size ≤ y := fun y hy => by cases List.mem_singleton.mp hy; exact Or.inr gx
  have KB2 : Kp HB H2 [] := (KB.trans K1 one).trans K2 one
  have A5 := A4.run [(10, .iconst 0, 11, 0), (11, .istore_n 2, 12, 0)] (pe := 12) (by decide +kernel) rfl
  obtain ⟨H3, KB3, F3, A6⟩ := l_cut G F2 (by omega) hn3 KB2 SL SD gx gs ge hls hla hd h0 (f := 0) (by omega) h9 i1 (m := a) (Or.inl ⟨rfl, by omega⟩) (Or.inl rfl) A5
  by_cases e1 : n = 1
  · subst e1
    refine ⟨_, _, _, _, l_cutE G F3 rfl A6, ⟨rfl, KB3, _, _, F3, fun k hk1 hk2 => ?_⟩, by decide, by decide⟩
    obtain rfl : k = 1 := by omega
    exact ⟨set_at (i := 0) (by omega), set_at (i := 0) (by omega)⟩
  rw [hdl] at A6
  obtain ⟨H4, KB4, F4, A7⟩ := l_cut G F3 (by omega) hn3 KB3 SL SD gx gs ge hls hla hd h0 (f := a + len) (by omega) h9 i2 (m := a + len + b) (Or.inl ⟨rfl, by omega⟩) (Or.inr ⟨_, rfl⟩) A6
  by_cases e2 : n = 2
  · subst e2
    refine ⟨_, _, _, _, l_cutE G F4 rfl A7, ⟨rfl, KB4, _, _, F4, fun k hk1 hk2 => ?_⟩, by decide, by decide⟩
    obtain rfl | rfl : k = 1 ∨ k = 2 := by omega
    · exact ⟨(set_ne (i := 1) (j := 0) (by decide)).trans (set_at (i := 0) (by omega)), (set_ne (i := 1) (j := 0) (by decide)).trans (set_at (i := 0) (by omega))⟩
    · exact ⟨set_at (i := 1) (by rw [List.length_set]; omega), set_at (i := 1) (by rw [List.length_set]; omega)⟩
  rw [hdl] at A7
  obtain ⟨H5, KB5, F5, A8⟩ := l_cut G F4 (by omega) hn3 KB4 SL SD gx gs ge hls hla hd h0 (f := a + len + b + len) (by omega) h9 i3 (m := 9) (Or.inr ⟨rfl, by omega, rfl⟩) (Or.inr ⟨_, rfl⟩) A7
  have e3 : n = 3 := by omega
  subst e3
  refine ⟨_, _, _, _, l_cutE G F5 rfl A8, ⟨rfl, KB5, _, _, F5, fun k hk1 hk2 => ?_⟩, by decide, by decide⟩
  have es : a + len + b + len = sk a b len 3 := by show _ = a + 2 * len + b; omega
  obtain rfl | rfl | rfl : k = 1 ∨ k = 2 ∨ k = 3 := by omega
  · exact ⟨((set_ne (i := 2) (j := 0) (by decide)).trans (set_ne (i := 1) (j := 0) (by decide))).trans (set_at (i := 0) (by omega)), ((set_ne (i := 2) (j := 0) (by decide)).trans (set_ne (i := 1) (j := 0) (by decide))).trans (set_at (i := 0) (by omega))⟩
  · exact ⟨(set_ne (i := 2) (j := 1) (by decide)).trans (set_at (i := 1) (by rw [List.length_set]; omega)), (set_ne (i := 2) (j := 1) (by decide)).trans (set_at (i := 1) (by rw [List.length_set]; omega))⟩
  · exact ⟨(set_at (i := 2) (by rw [List.length_set, List.length_set]; omega)).trans (by rw [es]), set_at (i := 2) (by rw [List.length_set, List.length_set]; omega)⟩
theorem c_get (G : Glb Z a0) {x ln st en dl : Addr} {n c k s e : Nat} {S E : List Value} {cs : List Int32} (F : FA Z H x ln st en dl n c S E) (SL : Str Z H ln cs) (hla : Lat cs) (hk : 1 ≤ k) (hk2 : k < 2 ^ 31) (hs : S[k - 1]? = some (.int s.toInt32)) (he : E[k - 1]? = some (.int e.toInt32)) (hse : s ≤ e) (hel : e ≤ cs.length) (h9 : cs.length ≤ 9) :
    Ct l Z EL0 (⟨"com/example/onepass/onepass/model/Fields", "get", "(I)Ljava/lang/String;"⟩ : MethodName) prog_71_method_5_code 2 ((some (.object "java/lang/String"))) ({ frames := 5, cells := 2, slots := 13, locals := 80 } : Room) [] [.ref x, .int k.toInt32] H (fun v H' => ∃ u, v = some (.ref u) ∧ Kp H H' [] ∧ Str Z H' u ((cs.drop s).take (e - s))) := by
  refine Ct.in G (by first | exact plainFor_of_name (by simp [plainName, overriddenIn]; done) | decide +kernel) (ls := [.val (.ref x), .val (.int k.toInt32)]) rfl rfl fun D A0 => ?_
  obtain ⟨E0, Fline, Fstarts, Fends, Fcount, Fdelim, Flast, TS, TE, -⟩ := F
  have A1 := A0.run [(0, .aload_n 0, 1, 0)] (pe := 1) (by decide +kernel) rfl
  have A2 := A1.getF (wd_63 G) Fline (by decide +kernel)
  have A3 := A2.run [(4, .aload_n 0, 5, 0)] (pe := 5) (by decide +kernel) rfl
  have A4 := A3.getF (wd_66 G) Fstarts (by decide +kernel)
  have A5 := A4.run [(8, .iload_n 1, 9, 0), (9, .iconst 1, 10, 1), (10, .isub, 11, 0)] (pe := 11) (by decide +kernel) rfl
  rw [n32_pred hk] at A5
  have A6 := A5.iaload TS (by decide +kernel) rfl hs
  have A7 := A6.run [(12, .aload_n 0, 13, 0)] (pe := 13) (by decide +kernel) rfl
  have A8 := A7.getF (wd_68 G) Fends (by decide +kernel)
  have A9 := A8.run [(16, .iload_n 1, 17, 0), (17, .iconst 1, 18, 1), (18, .isub, 19, 0)] (pe := 19) (by decide +kernel) rfl
  rw [n32_pred hk] at A9
  have A10 := A9.iaload TE (by decide +kernel) rfl he
  obtain ⟨_, HA11, qA11, A11, moA11, szA11⟩ := A10.callV (argsL := [.int s.toInt32, .int e.toInt32]) (wd_122 G) (wd_123 G) (wd_125 G) rfl (wd_125 G) (wd_124 G) (wd_12 G) (wd_126 G) SL.1 (c_sub G SL hla hse hel h9) (by decide) ⟨_, _, (by decide +kernel : parseMethodDescriptor "(II)Ljava/lang/String;" = some ⟨[.int, .int], some (.object "java/lang/String")⟩), rfl⟩ (by decide +kernel) (Wd := 0) (by decide) (Nat.le_of_ble_eq_true rfl) (by decide) (by decide) (by decide)
  obtain ⟨u, rfl, q⟩ := qA11
  exact ⟨_, _, _, _, A11.retA (by decide +kernel) rfl rfl, ⟨u, rfl, q⟩, by decide, by decide⟩
theorem c_same (G : Glb Z a0) {g ca : Addr} {cs gs : List Int32} {s j : Nat} (SG : Str Z H g gs) (hla : Lat gs) (T : Ar Z H ca .char (chs cs)) (hj : j < 100) (hs : s < 100) (hg : gs.length < 100) (hq : ∀ c, gs[j]? = some c → cs[s + j]? = some c) :
    Ct l Z EL0 (⟨"com/example/onepass/onepass/model/FieldsGetPinLaw", "same", "(Ljava/lang/String;[CII)Z"⟩ : MethodName) method_3_code 4 ((some .boolean)) ({ frames := 4, cells := 0, slots := 0, locals := 53 } : Room) [] [.ref g, .ref ca, .int s.toInt32, .int j.toInt32] H (fun v H' => v = some (.int 1) ∧ H = H') := by
  refine Ct.in G (by first | exact plainFor_of_name (by simp [plainName, overriddenIn]; done) | decide +kernel) (ls := [.val (.ref g), .val (.ref ca), .val (.int s.toInt32), .val (.int j.toInt32)]) rfl rfl fun D A0 => ?_
  have A1 := A0.run [(0, .iload_n 3, 1, 0), (1, .aload_n 0, 2, 0)] (pe := 2) (by decide +kernel) rfl
  obtain ⟨_, HA2, qA2, A2, moA2, szA2⟩ := A1.callV (argsL := []) (wd_162 G) (wd_92 G) (wd_94 G) rfl (wd_94 G) (wd_93 G) (wd_12 G) (wd_95 G) SG.1 (c_sLen G SG) (by decide) ⟨_, _, (by decide +kernel : parseMethodDescriptor "()I" = some ⟨[], some .int⟩), rfl⟩ (by decide +kernel) (Wd := 1) (by decide) (Nat.le_of_ble_eq_true rfl) (by decide) (by decide) (by decide)
  obtain ⟨rfl, rfl⟩ := qA2
  by_cases h : j < gs.length
  · have A3 := A2.icF (cd := .ge) (o := 16) (by decide +kernel) (not_not_intro ((n32_lt (by omega) (by omega)).mpr h))
    obtain ⟨c, hc⟩ : ∃ c, gs[j]? = some c := ⟨_, List.getElem?_eq_getElem h⟩
    have A4 := A3.run [(8, .aload_n 0, 9, 0), (9, .iload_n 3, 10, 0)] (pe := 10) (by decide +kernel) rfl
    obtain ⟨_, HA5, qA5, A5, moA5, szA5⟩ := A4.callV (argsL := [.int j.toInt32]) (wd_166 G) (wd_167 G) (wd_169 G) rfl (wd_169 G) (wd_168 G) (wd_12 G) (wd_170 G) SG.1 (c_schL G SG hla hc) (by decide) ⟨_, _, (by decide +kernel : parseMethodDescriptor "(I)C" = some ⟨[.int], some .char⟩), rfl⟩ (by decide +kernel) (Wd := 0) (by decide) (Nat.le_of_ble_eq_true rfl) (by decide) (by decide) (by decide)
    obtain ⟨rfl, rfl⟩ := qA5
    have A6 := A5.run [(13, .aload_n 1, 14, 0), (14, .iload_n 2, 15, 0), (15, .iload_n 3, 16, 0), (16, .iadd, 17, 0)] (pe := 17) (by decide +kernel) rfl
    rw [n32_add] at A6
    have A7 := A6.caload T (by decide +kernel) rfl (v := .int c) (by simp [hq c hc])
    have A8 := A7.icF (cd := .ne) (o := 7) (by decide +kernel) (not_not_intro rfl)
    have A9 := A8.run [(21, .iconst 1, 22, 1), (22, .goto 4, 26, 0)] (pe := 26) (by decide +kernel) rfl
    exact ⟨_, _, _, _, A9.retZ (by decide +kernel) rfl, ⟨rfl, rfl⟩, by decide, by decide⟩
  · have A3 := A2.icT (cd := .ge) (o := 16) (by decide +kernel) (fun q => h ((n32_lt (by omega) (by omega)).mp q)) (pe := 21) (by decide)
    have A4 := A3.run [(21, .iconst 1, 22, 1), (22, .goto 4, 26, 0)] (pe := 26) (by decide +kernel) rfl
    exact ⟨_, _, _, _, A4.retZ (by decide +kernel) rfl, ⟨rfl, rfl⟩, by decide, by decide⟩
set_option maxRecDepth 65536 in
set_option maxHeartbeats 2000000 in
theorem l_cells (G : Glb Z a0) {i0 i1 i2 i4 : Int32} {i3 : Int64} {len n k a b : Nat} {d0 d1 : Int32} (ha : a ≤ 9) (hb : b ≤ 9) (hl : len = 1 ∨ len = 2) (o0 : okL d0) (o1 : okL d1) (A0 : Wk l Z a0 EL0 "com/example/onepass/onepass/model/FieldsGetPinLaw" code maxLocals "law" ret room_1 D 96 [.val (.int i0), .val (.int i1), .val (.int i2), .val (.long i3), .second, .val (.int i4), .val (.int len.toInt32), .val (.int n.toInt32), .val (.int k.toInt32), .val (.int (9 - 2 * len).toInt32), .val (.int a.toInt32), .val (.int b.toInt32), .val (.int d0), .val (.int d1), .unset, .unset, .unset, .unset, .unset, .unset, .unset] [] H 0 0) :
    ∃ ca H' cs, Kp H H' [] ∧ cs.length = 9 ∧ (∀ i c, cs[i]? = some c → Cell a b len d0 d1 i c) ∧ Ar Z H' ca .char (chs cs) ∧ Wk l Z a0 EL0 "com/example/onepass/onepass/model/FieldsGetPinLaw" code maxLocals "law" ret room_1 D 297 [.val (.int i0), .val (.int i1), .val (.int i2), .val (.long i3), .second, .val (.int i4), .val (.int len.toInt32), .val (.int n.toInt32), .val (.int k.toInt32), .val (.int (9 - 2 * len).toInt32), .val (.int a.toInt32), .val (.int b.toInt32), .val (.int d0), .val (.int d1), .val (.ref ca), .unset, .unset, .unset, .unset, .unset, .unset] [] H' 1 9 := by
  have A1 := A0.run [(96, .bipush 9, 98, 9)] (pe := 98) (by decide +kernel) rfl
  obtain ⟨ca, H1, A2, gca, K1, T0, o0a⟩ := A1.newA (aty := .char) (wd_1 G) (by decide +kernel) (N := 9) rfl (cap := 9) (by decide) (by decide) (by decide) (by decide)
  have X0 := A2.run [(100, .astore 14, 102, 0)] (pe := 102) (by decide +kernel) rfl
  have one : ∀ y ∈ [ca], y ∈ ([] : List Addr) ∨ H.1.size ≤ y := fun y hy => by cases List.mem_singleton.mp hy; exact Or.inr gca
  have Y0 := X0.run [(102, .aload 14, 104, 0), (104, .iconst 0, 105, 0), (105, .iconst 0, 106, 0), (106, .iload 10, 108, 0), (108, .iload 11, 110, 0), (110, .iload 6, 112, 0), (112, .iload 12, 114, 0), (114, .iload 13, 116, 0), (116, .lload_n 3, 117, 0), (117, .iload 5, 119, 0)] (pe := 119) (by decide +kernel) rfl
  obtain ⟨_, HZ0, qZ0, Z0, moZ0, szZ0⟩ := Y0.callS (argsL := [.int (0 : Nat).toInt32, .int a.toInt32, .int b.toInt32, .int len.toInt32, .int d0, .int d1, .long i3, .int i4]) (wd_2 G) (wd_3 G) (wd_4 G) (wd_5 G) (c_cell G (i := 0) (by decide) ha hb hl o0 o1) (by decide) ⟨_, _, (by decide +kernel : parseMethodDescriptor "(IIIICCJI)C" = some ⟨[.int, .int, .int, .int, .char, .char, .long, .int], some .char⟩), rfl⟩ (by decide +kernel) (Wd := 2) (by decide) (Nat.le_of_ble_eq_true rfl) (by decide) (by decide) (by decide)
  obtain ⟨c0, hc0, rfl, rfl⟩ := qZ0
  obtain ⟨G0, X1, J0, T1⟩ := Z0.castore T0 o0a (by decide +kernel) (i := 0) rfl (by simp) (isC_nar hc0.1.isC)
  have Y1 := X1.run [(123, .aload 14, 125, 0), (125, .iconst 1, 126, 1), (126, .iconst 1, 127, 1), (127, .iload 10, 129, 0), (129, .iload 11, 131, 0), (131, .iload 6, 133, 0), (133, .iload 12, 135, 0), (135, .iload 13, 137, 0), (137, .lload_n 3, 138, 0), (138, .iload 5, 140, 0)] (pe := 140) (by decide +kernel) rfl
  obtain ⟨_, HZ1, qZ1, Z1, moZ1, szZ1⟩ := Y1.callS (argsL := [.int (1 : Nat).toInt32, .int a.toInt32, .int b.toInt32, .int len.toInt32, .int d0, .int d1, .long i3, .int i4]) (wd_2 G) (wd_3 G) (wd_4 G) (wd_5 G) (c_cell G (i := 1) (by decide) ha hb hl o0 o1) (by decide) ⟨_, _, (by decide +kernel : parseMethodDescriptor "(IIIICCJI)C" = some ⟨[.int, .int, .int, .int, .char, .char, .long, .int], some .char⟩), rfl⟩ (by decide +kernel) (Wd := 2) (by decide) (Nat.le_of_ble_eq_true rfl) (by decide) (by decide) (by decide)
  obtain ⟨c1, hc1, rfl, rfl⟩ := qZ1
  obtain ⟨G1, X2, J1, T2⟩ := Z1.castore T1 (J0.2 _ o0a) (by decide +kernel) (i := 1) rfl (by simp) (isC_nar hc1.1.isC)
  have Y2 := X2.run [(144, .aload 14, 146, 0), (146, .iconst 2, 147, 2), (147, .iconst 2, 148, 2), (148, .iload 10, 150, 0), (150, .iload 11, 152, 0), (152, .iload 6, 154, 0), (154, .iload 12, 156, 0), (156, .iload 13, 158, 0), (158, .lload_n 3, 159, 0), (159, .iload 5, 161, 0)] (pe := 161) (by decide +kernel) rfl
  obtain ⟨_, HZ2, qZ2, Z2, moZ2, szZ2⟩ := Y2.callS (argsL := [.int (2 : Nat).toInt32, .int a.toInt32, .int b.toInt32, .int len.toInt32, .int d0, .int d1, .long i3, .int i4]) (wd_2 G) (wd_3 G) (wd_4 G) (wd_5 G) (c_cell G (i := 2) (by decide) ha hb hl o0 o1) (by decide) ⟨_, _, (by decide +kernel : parseMethodDescriptor "(IIIICCJI)C" = some ⟨[.int, .int, .int, .int, .char, .char, .long, .int], some .char⟩), rfl⟩ (by decide +kernel) (Wd := 2) (by decide) (Nat.le_of_ble_eq_true rfl) (by decide) (by decide) (by decide)
  obtain ⟨c2, hc2, rfl, rfl⟩ := qZ2
  obtain ⟨G2, X3, J2, T3⟩ := Z2.castore T2 (J1.2 _ (J0.2 _ o0a)) (by decide +kernel) (i := 2) rfl (by simp) (isC_nar hc2.1.isC)
  have Y3 := X3.run [(165, .aload 14, 167, 0), (167, .iconst 3, 168, 3), (168, .iconst 3, 169, 3), (169, .iload 10, 171, 0), (171, .iload 11, 173, 0), (173, .iload 6, 175, 0), (175, .iload 12, 177, 0), (177, .iload 13, 179, 0), (179, .lload_n 3, 180, 0), (180, .iload 5, 182, 0)] (pe := 182) (by decide +kernel) rfl
  obtain ⟨_, HZ3, qZ3, Z3, moZ3, szZ3⟩ := Y3.callS (argsL := [.int (3 : Nat).toInt32, .int a.toInt32, .int b.toInt32, .int len.toInt32, .int d0, .int d1, .long i3, .int i4]) (wd_2 G) (wd_3 G) (wd_4 G) (wd_5 G) (c_cell G (i := 3) (by decide) ha hb hl o0 o1) (by decide) ⟨_, _, (by decide +kernel : parseMethodDescriptor "(IIIICCJI)C" = some ⟨[.int, .int, .int, .int, .char, .char, .long, .int], some .char⟩), rfl⟩ (by decide +kernel) (Wd := 2) (by decide) (Nat.le_of_ble_eq_true rfl) (by decide) (by decide) (by decide)
  obtain ⟨c3, hc3, rfl, rfl⟩ := qZ3
  obtain ⟨G3, X4, J3, T4⟩ := Z3.castore T3 (J2.2 _ (J1.2 _ (J0.2 _ o0a))) (by decide +kernel) (i := 3) rfl (by simp) (isC_nar hc3.1.isC)
  have Y4 := X4.run [(186, .aload 14, 188, 0), (188, .iconst 4, 189, 4), (189, .iconst 4, 190, 4), (190, .iload 10, 192, 0), (192, .iload 11, 194, 0), (194, .iload 6, 196, 0), (196, .iload 12, 198, 0), (198, .iload 13, 200, 0), (200, .lload_n 3, 201, 0), (201, .iload 5, 203, 0)] (pe := 203) (by decide +kernel) rfl
  obtain ⟨_, HZ4, qZ4, Z4, moZ4, szZ4⟩ := Y4.callS (argsL := [.int (4 : Nat).toInt32, .int a.toInt32, .int b.toInt32, .int len.toInt32, .int d0, .int d1, .long i3, .int i4]) (wd_2 G) (wd_3 G) (wd_4 G) (wd_5 G) (c_cell G (i := 4) (by decide) ha hb hl o0 o1) (by decide) ⟨_, _, (by decide +kernel : parseMethodDescriptor "(IIIICCJI)C" = some ⟨[.int, .int, .int, .int, .char, .char, .long, .int], some .char⟩), rfl⟩ (by decide +kernel) (Wd := 2) (by decide) (Nat.le_of_ble_eq_true rfl) (by decide) (by decide) (by decide)
  obtain ⟨c4, hc4, rfl, rfl⟩ := qZ4
  obtain ⟨G4, X5, J4, T5⟩ := Z4.castore T4 (J3.2 _ (J2.2 _ (J1.2 _ (J0.2 _ o0a)))) (by decide +kernel) (i := 4) rfl (by simp) (isC_nar hc4.1.isC)
  have Y5 := X5.run [(207, .aload 14, 209, 0), (209, .iconst 5, 210, 5), (210, .iconst 5, 211, 5), (211, .iload 10, 213, 0), (213, .iload 11, 215, 0), (215, .iload 6, 217, 0), (217, .iload 12, 219, 0), (219, .iload 13, 221, 0), (221, .lload_n 3, 222, 0), (222, .iload 5, 224, 0)] (pe := 224) (by decide +kernel) rfl
  obtain ⟨_, HZ5, qZ5, Z5, moZ5, szZ5⟩ := Y5.callS (argsL := [.int (5 : Nat).toInt32, .int a.toInt32, .int b.toInt32, .int len.toInt32, .int d0, .int d1, .long i3, .int i4]) (wd_2 G) (wd_3 G) (wd_4 G) (wd_5 G) (c_cell G (i := 5) (by decide) ha hb hl o0 o1) (by decide) ⟨_, _, (by decide +kernel : parseMethodDescriptor "(IIIICCJI)C" = some ⟨[.int, .int, .int, .int, .char, .char, .long, .int], some .char⟩), rfl⟩ (by decide +kernel) (Wd := 2) (by decide) (Nat.le_of_ble_eq_true rfl) (by decide) (by decide) (by decide)
  obtain ⟨c5, hc5, rfl, rfl⟩ := qZ5
  obtain ⟨G5, X6, J5, T6⟩ := Z5.castore T5 (J4.2 _ (J3.2 _ (J2.2 _ (J1.2 _ (J0.2 _ o0a))))) (by decide +kernel) (i := 5) rfl (by simp) (isC_nar hc5.1.isC)
  have Y6 := X6.run [(228, .aload 14, 230, 0), (230, .bipush 6, 232, 6), (232, .bipush 6, 234, 6), (234, .iload 10, 236, 0), (236, .iload 11, 238, 0), (238, .iload 6, 240, 0), (240, .iload 12, 242, 0), (242, .iload 13, 244, 0), (244, .lload_n 3, 245, 0), (245, .iload 5, 247, 0)] (pe := 247) (by decide +kernel) rfl
  obtain ⟨_, HZ6, qZ6, Z6, moZ6, szZ6⟩ := Y6.callS (argsL := [.int (6 : Nat).toInt32, .int a.toInt32, .int b.toInt32, .int len.toInt32, .int d0, .int d1, .long i3, .int i4]) (wd_2 G) (wd_3 G) (wd_4 G) (wd_5 G) (c_cell G (i := 6) (by decide) ha hb hl o0 o1) (by decide) ⟨_, _, (by decide +kernel : parseMethodDescriptor "(IIIICCJI)C" = some ⟨[.int, .int, .int, .int, .char, .char, .long, .int], some .char⟩), rfl⟩ (by decide +kernel) (Wd := 2) (by decide) (Nat.le_of_ble_eq_true rfl) (by decide) (by decide) (by decide)
  obtain ⟨c6, hc6, rfl, rfl⟩ := qZ6
  obtain ⟨G6, X7, J6, T7⟩ := Z6.castore T6 (J5.2 _ (J4.2 _ (J3.2 _ (J2.2 _ (J1.2 _ (J0.2 _ o0a)))))) (by decide +kernel) (i := 6) rfl (by simp) (isC_nar hc6.1.isC)
  have Y7 := X7.run [(251, .aload 14, 253, 0), (253, .bipush 7, 255, 7), (255, .bipush 7, 257, 7), (257, .iload 10, 259, 0), (259, .iload 11, 261, 0), (261, .iload 6, 263, 0), (263, .iload 12, 265, 0), (265, .iload 13, 267, 0), (267, .lload_n 3, 268, 0), (268, .iload 5, 270, 0)] (pe := 270) (by decide +kernel) rfl
  obtain ⟨_, HZ7, qZ7, Z7, moZ7, szZ7⟩ := Y7.callS (argsL := [.int (7 : Nat).toInt32, .int a.toInt32, .int b.toInt32, .int len.toInt32, .int d0, .int d1, .long i3, .int i4]) (wd_2 G) (wd_3 G) (wd_4 G) (wd_5 G) (c_cell G (i := 7) (by decide) ha hb hl o0 o1) (by decide) ⟨_, _, (by decide +kernel : parseMethodDescriptor "(IIIICCJI)C" = some ⟨[.int, .int, .int, .int, .char, .char, .long, .int], some .char⟩), rfl⟩ (by decide +kernel) (Wd := 2) (by decide) (Nat.le_of_ble_eq_true rfl) (by decide) (by decide) (by decide)
  obtain ⟨c7, hc7, rfl, rfl⟩ := qZ7
  obtain ⟨G7, X8, J7, T8⟩ := Z7.castore T7 (J6.2 _ (J5.2 _ (J4.2 _ (J3.2 _ (J2.2 _ (J1.2 _ (J0.2 _ o0a))))))) (by decide +kernel) (i := 7) rfl (by simp) (isC_nar hc7.1.isC)
  have Y8 := X8.run [(274, .aload 14, 276, 0), (276, .bipush 8, 278, 8), (278, .bipush 8, 280, 8), (280, .iload 10, 282, 0), (282, .iload 11, 284, 0), (284, .iload 6, 286, 0), (286, .iload 12, 288, 0), (288, .iload 13, 290, 0), (290, .lload_n 3, 291, 0), (291, .iload 5, 293, 0)] (pe := 293) (by decide +kernel) rfl
  obtain ⟨_, HZ8, qZ8, Z8, moZ8, szZ8⟩ := Y8.callS (argsL := [.int (8 : Nat).toInt32, .int a.toInt32, .int b.toInt32, .int len.toInt32, .int d0, .int d1, .long i3, .int i4]) (wd_2 G) (wd_3 G) (wd_4 G) (wd_5 G) (c_cell G (i := 8) (by decide) ha hb hl o0 o1) (by decide) ⟨_, _, (by decide +kernel : parseMethodDescriptor "(IIIICCJI)C" = some ⟨[.int, .int, .int, .int, .char, .char, .long, .int], some .char⟩), rfl⟩ (by decide +kernel) (Wd := 2) (by decide) (Nat.le_of_ble_eq_true rfl) (by decide) (by decide) (by decide)
  obtain ⟨c8, hc8, rfl, rfl⟩ := qZ8
  obtain ⟨G8, X9, J8, T9⟩ := Z8.castore T8 (J7.2 _ (J6.2 _ (J5.2 _ (J4.2 _ (J3.2 _ (J2.2 _ (J1.2 _ (J0.2 _ o0a)))))))) (by decide +kernel) (i := 8) rfl (by simp) (isC_nar hc8.1.isC)
  refine ⟨ca, _, [c0, c1, c2, c3, c4, c5, c6, c7, c8], (((((((((K1.trans J0 one).trans J1 one).trans J2 one).trans J3 one).trans J4 one).trans J5 one).trans J6 one).trans J7 one).trans J8 one), rfl, fun i c hi => ?_, T9, X9⟩
  have h9 : i < 9 := (List.getElem?_eq_some_iff.mp hi).1
  obtain rfl | rfl | rfl | rfl | rfl | rfl | rfl | rfl | rfl : i = 0 ∨ i = 1 ∨ i = 2 ∨ i = 3 ∨ i = 4 ∨ i = 5 ∨ i = 6 ∨ i = 7 ∨ i = 8 := by omega
  · cases hi; exact hc0
  · cases hi; exact hc1
  · cases hi; exact hc2
  · cases hi; exact hc3
  · cases hi; exact hc4
  · cases hi; exact hc5
  · cases hi; exact hc6
  · cases hi; exact hc7
  · cases hi; exact hc8
set_option maxRecDepth 65536 in
theorem l_delim (G : Glb Z a0) {i0 i1 i2 i4 : Int32} {i3 : Int64} {len n k a b : Nat} {d0 d1 : Int32} {ca : Addr} (hl : len = 1 ∨ len = 2) (o0 : okL d0) (o1 : okL d1) (A0 : Wk l Z a0 EL0 "com/example/onepass/onepass/model/FieldsGetPinLaw" code maxLocals "law" ret room_1 D 297 [.val (.int i0), .val (.int i1), .val (.int i2), .val (.long i3), .second, .val (.int i4), .val (.int len.toInt32), .val (.int n.toInt32), .val (.int k.toInt32), .val (.int (9 - 2 * len).toInt32), .val (.int a.toInt32), .val (.int b.toInt32), .val (.int d0), .val (.int d1), .val (.ref ca), .unset, .unset, .unset, .unset, .unset, .unset] [] H 1 9) :
    ∃ dl H' ds, Kp H H' [] ∧ ds.length = len ∧ Lat ds ∧ ds[0]? = some d0 ∧ (len = 2 → ds[1]? = some d1) ∧ Str Z H' dl ds ∧ Wk l Z a0 EL0 "com/example/onepass/onepass/model/FieldsGetPinLaw" code maxLocals "law" ret room_1 D 333 [.val (.int i0), .val (.int i1), .val (.int i2), .val (.long i3), .second, .val (.int i4), .val (.int len.toInt32), .val (.int n.toInt32), .val (.int k.toInt32), .val (.int (9 - 2 * len).toInt32), .val (.int a.toInt32), .val (.int b.toInt32), .val (.int d0), .val (.int d1), .val (.ref ca), .val (.ref dl), .unset, .unset, .unset, .unset, .unset] [] H' 8 60 := by
  have A1 := A0.run [(297, .iload 6, 299, 0), (299, .iconst 1, 300, 1)] (pe := 300) (by decide +kernel) rfl
  rcases hl with rfl | rfl
  · have A2 := A1.icF (cd := .ne) (o := 11) (by decide +kernel) (not_not_intro rfl)
    have A3 := A2.run [(303, .iload 12, 305, 0)] (pe := 305) (by decide +kernel) rfl
    obtain ⟨_, HA4, qA4, A4, moA4, szA4⟩ := A3.callS (argsL := [.int d0]) (wd_10 G) (wd_11 G) (wd_12 G) (wd_13 G) (c_vofL G o0.isC o0.lat) (by decide) ⟨_, _, (by decide +kernel : parseMethodDescriptor "(C)Ljava/lang/String;" = some ⟨[.char], some (.object "java/lang/String")⟩), rfl⟩ (by decide +kernel) (Wd := 0) (by decide) (Nat.le_of_ble_eq_true rfl) (by decide) (by decide) (by decide)
    obtain ⟨s, rfl, gs, K, S⟩ := qA4
    have A5 := A4.run [(308, .goto 23, 331, 0), (331, .astore 15, 333, 0)] (pe := 333) (by decide +kernel) rfl
    exact ⟨s, _, [d0], K, rfl, lat1 o0.lat, rfl, (fun h => absurd h (by decide)), S, A5.more (by decide) (by decide)⟩
  · have A2 := A1.icT (cd := .ne) (o := 11) (by decide +kernel) (by show ¬ _ = _; decide) (pe := 311) (by decide)
    obtain ⟨sq, H1q, P1q, gq, K1q, Eq, o1q, Dq⟩ := A2.newO (wd_36 G) (wd_20 G) (wd_12 G) (by decide +kernel) (by decide) (by decide)
    have P2q := P1q.run [(314, .dup, 315, 0), (315, .iconst 2, 316, 2)] (pe := 316) (by decide +kernel) rfl
    obtain ⟨caq, H2q, P3q, gaq, K2q, T0q, oaq⟩ := P2q.newA (aty := .char) (wd_1 G) (by decide +kernel) (N := 2) rfl (cap := 2) (by decide) (by decide) (by decide) (by decide)
    have hsq : sq ∉ [caq] := by simpa using Nat.ne_of_lt (Nat.lt_of_lt_of_le Eq.lt gaq)
    have Q0q := P3q.run [(318, .dup, 319, 0), (319, .iconst 0, 320, 0), (320, .iload 12, 322, 0)] (pe := 322) (by decide +kernel) rfl
    obtain ⟨G0q, R0q, J0q, T1q⟩ := Q0q.castore T0q oaq (by decide +kernel) (i := 0) rfl (by simp) (isC_nar o0.isC)
    have Q1q := R0q.run [(323, .dup, 324, 0), (324, .iconst 1, 325, 1), (325, .iload 13, 327, 0)] (pe := 327) (by decide +kernel) rfl
    obtain ⟨G1q, R1q, J1q, T2q⟩ := Q1q.castore T1q (J0q.2 _ oaq) (by decide +kernel) (i := 1) rfl (by simp) (isC_nar o1.isC)
    obtain ⟨_, HA3, qA3, A3, moA3, szA3⟩ := R1q.callI (argsL := [.ref caq]) rfl (wd_37 G) (wd_38 G) (wd_12 G) (wd_39 G) (c_sI1 G (cs := [d0, d1]) T2q (c_sI4L G T2q (by simp) (by simp) (lat2 o0.lat o1.lat) (((Eq.ky K2q).ky J0q).ky J1q) ((((Dq (Or.inr (wd_33 G)) (t := .array .byte) (by decide)).ky K2q).ky J0q hsq).ky J1q hsq) ((((Dq (Or.inr (wd_35 G)) (t := .byte) (by decide)).ky K2q).ky J0q hsq).ky J1q hsq) (J1q.2 _ (J0q.2 _ (K2q.2 _ o1q))))) (by decide) ⟨_, _, (by decide +kernel : parseMethodDescriptor "([C)V" = some ⟨[(.array .char)], none⟩), rfl⟩ (by decide +kernel) (Wd := 1) (by decide) (Nat.le_of_ble_eq_true rfl) (by decide) (by decide) (by decide)
    obtain ⟨rfl, K9q, Sq⟩ := qA3
    have Kq := (((K1q.tr K2q).trans J0q (fun y hy => by cases List.mem_singleton.mp hy; exact Or.inr (Nat.le_trans K1q.size gaq))).trans J1q (fun y hy => by cases List.mem_singleton.mp hy; exact Or.inr (Nat.le_trans K1q.size gaq))).trans K9q (fun y hy => by cases List.mem_singleton.mp hy; exact Or.inr gq)
    have A5 := A3.run [(331, .astore 15, 333, 0)] (pe := 333) (by decide +kernel) rfl
    exact ⟨sq, _, [d0, d1], Kq, rfl, lat2 o0.lat o1.lat, rfl, (fun _ => rfl), Sq, A5.more (by decide) (by decide)⟩
set_option maxRecDepth 65536 in
set_option maxHeartbeats 2000000 in
theorem l_end (G : Glb Z a0) {i0 i1 i2 i4 : Int32} {i3 : Int64} {len n k a b : Nat} {d0 d1 : Int32} {ca dl ln x g : Addr} {cs : List Int32} (hl : len = 1 ∨ len = 2) (hab : a + b + 2 * len ≤ 9) (hk : 1 ≤ k) (hk3 : k ≤ 3) (h9 : cs.length = 9) (hla : Lat cs) (T : Ar Z H ca .char (chs cs)) (SG : Str Z H g ((cs.drop (sk a b len k)).take (ek a b len k - sk a b len k))) (A0 : Wk l Z a0 EL0 "com/example/onepass/onepass/model/FieldsGetPinLaw" code maxLocals "law" ret room_1 D 373 [.val (.int i0), .val (.int i1), .val (.int i2), .val (.long i3), .second, .val (.int i4), .val (.int len.toInt32), .val (.int n.toInt32), .val (.int k.toInt32), .val (.int (9 - 2 * len).toInt32), .val (.int a.toInt32), .val (.int b.toInt32), .val (.int d0), .val (.int d1), .val (.ref ca), .val (.ref dl), .val (.ref ln), .val (.ref x), .val (.ref g), .unset, .unset] [] H 30 400) : ∃ H' kk nn, Rt Z EL0 D (some (.int 1)) H' kk nn ∧ kk ≤ room_1.cells ∧ nn ≤ room_1.slots := by
  have A1 := A0.run [(373, .iload 8, 375, 0), (375, .iconst 1, 376, 1)] (pe := 376) (by decide +kernel) rfl
  have A2 : Wk l Z a0 EL0 "com/example/onepass/onepass/model/FieldsGetPinLaw" code maxLocals "law" ret room_1 D 431 [.val (.int i0), .val (.int i1), .val (.int i2), .val (.long i3), .second, .val (.int i4), .val (.int len.toInt32), .val (.int n.toInt32), .val (.int k.toInt32), .val (.int (9 - 2 * len).toInt32), .val (.int a.toInt32), .val (.int b.toInt32), .val (.int d0), .val (.int d1), .val (.ref ca), .val (.ref dl), .val (.ref ln), .val (.ref x), .val (.ref g), .val (.int (sk a b len k).toInt32), .val (.int (ek a b len k).toInt32)] [] H 30 400 := by
    by_cases h1 : k = 1
    · subst h1
      have B1 := A1.icF (cd := .ne) (o := 13) (by decide +kernel) (not_not_intro rfl)
      exact B1.run [(379, .iconst 0, 380, 0), (380, .istore 19, 382, 0), (382, .iload 10, 384, 0), (384, .istore 20, 386, 0), (386, .goto 45, 431, 0)] (pe := 431) (by decide +kernel) rfl
    · have B1 := A1.icT (cd := .ne) (o := 13) (by decide +kernel) (fun q => h1 ((n32_inj (j := 1) (by omega) (by decide)).mp q)) (pe := 389) (by decide)
      have B2 := B1.run [(389, .iload 8, 391, 0), (391, .iconst 2, 392, 2)] (pe := 392) (by decide +kernel) rfl
      by_cases h2 : k = 2
      · subst h2
        have B3 := B2.icF (cd := .ne) (o := 23) (by decide +kernel) (not_not_intro rfl)
        have B4 := B3.run [(395, .iload 10, 397, 0), (397, .iload 6, 399, 0), (399, .iadd, 400, 0), (400, .istore 19, 402, 0), (402, .iload 10, 404, 0), (404, .iload 6, 406, 0), (406, .iadd, 407, 0), (407, .iload 11, 409, 0), (409, .iadd, 410, 0), (410, .istore 20, 412, 0), (412, .goto 19, 431, 0)] (pe := 431) (by decide +kernel) rfl
        rw [n32_add, n32_add] at B4
        exact B4
      · obtain rfl : k = 3 := by omega
        have B3 := B2.icT (cd := .ne) (o := 23) (by decide +kernel) (fun q => absurd q (by decide)) (pe := 415) (by decide)
        have B4 := B3.run [(415, .iload 10, 417, 0), (417, .iconst 2, 418, 2), (418, .iload 6, 420, 0), (420, .imul, 421, 0)] (pe := 421) (by decide +kernel) rfl
        have e2 : (2 : Int32) * len.toInt32 = (2 * len).toInt32 := by rcases hl with rfl | rfl <;> decide
        rw [e2] at B4
        have B5 := B4.run [(421, .iadd, 422, 0), (422, .iload 11, 424, 0), (424, .iadd, 425, 0), (425, .istore 19, 427, 0), (427, .bipush 9, 429, 9), (429, .istore 20, 431, 0)] (pe := 431) (by decide +kernel) rfl
        rw [n32_add, n32_add] at B5
        exact B5
  have hse : sk a b len k ≤ ek a b len k ∧ ek a b len k ≤ 9 := by
    unfold sk ek
    obtain rfl | rfl | rfl : k = 1 ∨ k = 2 ∨ k = 3 := by omega
    · simp; omega
    · simp; omega
    · simp; omega
  generalize sk a b len k = s at *
  generalize ek a b len k = e at *
  have hgl : ((cs.drop s).take (e - s)).length = e - s := by simp; omega
  have hgla : Lat ((cs.drop s).take (e - s)) := fun c hc => hla c (List.mem_of_mem_drop (List.mem_of_mem_take hc))
  have hq : ∀ j c, ((cs.drop s).take (e - s))[j]? = some c → cs[s + j]? = some c := fun j c h => by
    have hj : j < e - s := by have := (List.getElem?_eq_some_iff.mp h).1; omega
    rw [List.getElem?_take_of_lt hj, List.getElem?_drop] at h; exact h
  generalize (cs.drop s).take (e - s) = gs at *
  have A3 := A2.run [(431, .aload 18, 433, 0)] (pe := 433) (by decide +kernel) rfl
  obtain ⟨_, HA4, qA4, A4, moA4, szA4⟩ := A3.callV (argsL := []) (wd_162 G) (wd_92 G) (wd_94 G) rfl (wd_94 G) (wd_93 G) (wd_12 G) (wd_95 G) SG.1 (c_sLen G SG) (by decide) ⟨_, _, (by decide +kernel : parseMethodDescriptor "()I" = some ⟨[], some .int⟩), rfl⟩ (by decide +kernel) (Wd := 0) (by decide) (Nat.le_of_ble_eq_true rfl) (by decide) (by decide) (by decide)
  obtain ⟨rfl, rfl⟩ := qA4
  have A5 := A4.run [(436, .iload 20, 438, 0), (438, .iload 19, 440, 0), (440, .isub, 441, 0)] (pe := 441) (by decide +kernel) rfl
  rw [n32_sub hse.1] at A5
  have B0 := A5.icT (cd := .eq) (o := 5) (by decide +kernel) (congrArg Nat.toInt32 hgl) (pe := 446) (by decide)
  have C0 := B0.run [(446, .aload 18, 448, 0), (448, .aload 14, 450, 0), (450, .iload 19, 452, 0), (452, .iconst 0, 453, 0)] (pe := 453) (by decide +kernel) rfl
  obtain ⟨_, HE0, qE0, E0, moE0, szE0⟩ := C0.callS (argsL := [.ref g, .ref ca, .int s.toInt32, .int (0 : Nat).toInt32]) (wd_163 G) (wd_164 G) (wd_4 G) (wd_165 G) (c_same G SG hgla T (j := 0) (by decide) (by omega) (by omega) (hq 0)) (by decide) ⟨_, _, (by decide +kernel : parseMethodDescriptor "(Ljava/lang/String;[CII)Z" = some ⟨[(.object "java/lang/String"), (.array .char), .int, .int], some .boolean⟩), rfl⟩ (by decide +kernel) (Wd := 0) (by decide) (Nat.le_of_ble_eq_true rfl) (by decide) (by decide) (by decide)
  obtain ⟨rfl, rfl⟩ := qE0
  have B1 := E0.ifF (cd := .eq) (o := 86) (by decide +kernel) (by show ¬ _ = _; decide)
  have C1 := B1.run [(459, .aload 18, 461, 0), (461, .aload 14, 463, 0), (463, .iload 19, 465, 0), (465, .iconst 1, 466, 1)] (pe := 466) (by decide +kernel) rfl
  obtain ⟨_, HE1, qE1, E1, moE1, szE1⟩ := C1.callS (argsL := [.ref g, .ref ca, .int s.toInt32, .int (1 : Nat).toInt32]) (wd_163 G) (wd_164 G) (wd_4 G) (wd_165 G) (c_same G SG hgla T (j := 1) (by decide) (by omega) (by omega) (hq 1)) (by decide) ⟨_, _, (by decide +kernel : parseMethodDescriptor "(Ljava/lang/String;[CII)Z" = some ⟨[(.object "java/lang/String"), (.array .char), .int, .int], some .boolean⟩), rfl⟩ (by decide +kernel) (Wd := 0) (by decide) (Nat.le_of_ble_eq_true rfl) (by decide) (by decide) (by decide)
  obtain ⟨rfl, rfl⟩ := qE1
  have B2 := E1.ifF (cd := .eq) (o := 73) (by decide +kernel) (by show ¬ _ = _; decide)
  have C2 := B2.run [(472, .aload 18, 474, 0), (474, .aload 14, 476, 0), (476, .iload 19, 478, 0), (478, .iconst 2, 479, 2)] (pe := 479) (by decide +kernel) rfl
  obtain ⟨_, HE2, qE2, E2, moE2, szE2⟩ := C2.callS (argsL := [.ref g, .ref ca, .int s.toInt32, .int (2 : Nat).toInt32]) (wd_163 G) (wd_164 G) (wd_4 G) (wd_165 G) (c_same G SG hgla T (j := 2) (by decide) (by omega) (by omega) (hq 2)) (by decide) ⟨_, _, (by decide +kernel : parseMethodDescriptor "(Ljava/lang/String;[CII)Z" = some ⟨[(.object "java/lang/String"), (.array .char), .int, .int], some .boolean⟩), rfl⟩ (by decide +kernel) (Wd := 0) (by decide) (Nat.le_of_ble_eq_true rfl) (by decide) (by decide) (by decide)
  obtain ⟨rfl, rfl⟩ := qE2
  have B3 := E2.ifF (cd := .eq) (o := 60) (by decide +kernel) (by show ¬ _ = _; decide)
  have C3 := B3.run [(485, .aload 18, 487, 0), (487, .aload 14, 489, 0), (489, .iload 19, 491, 0), (491, .iconst 3, 492, 3)] (pe := 492) (by decide +kernel) rfl
  obtain ⟨_, HE3, qE3, E3, moE3, szE3⟩ := C3.callS (argsL := [.ref g, .ref ca, .int s.toInt32, .int (3 : Nat).toInt32]) (wd_163 G) (wd_164 G) (wd_4 G) (wd_165 G) (c_same G SG hgla T (j := 3) (by decide) (by omega) (by omega) (hq 3)) (by decide) ⟨_, _, (by decide +kernel : parseMethodDescriptor "(Ljava/lang/String;[CII)Z" = some ⟨[(.object "java/lang/String"), (.array .char), .int, .int], some .boolean⟩), rfl⟩ (by decide +kernel) (Wd := 0) (by decide) (Nat.le_of_ble_eq_true rfl) (by decide) (by decide) (by decide)
  obtain ⟨rfl, rfl⟩ := qE3
  have B4 := E3.ifF (cd := .eq) (o := 47) (by decide +kernel) (by show ¬ _ = _; decide)
  have C4 := B4.run [(498, .aload 18, 500, 0), (500, .aload 14, 502, 0), (502, .iload 19, 504, 0), (504, .iconst 4, 505, 4)] (pe := 505) (by decide +kernel) rfl
  obtain ⟨_, HE4, qE4, E4, moE4, szE4⟩ := C4.callS (argsL := [.ref g, .ref ca, .int s.toInt32, .int (4 : Nat).toInt32]) (wd_163 G) (wd_164 G) (wd_4 G) (wd_165 G) (c_same G SG hgla T (j := 4) (by decide) (by omega) (by omega) (hq 4)) (by decide) ⟨_, _, (by decide +kernel : parseMethodDescriptor "(Ljava/lang/String;[CII)Z" = some ⟨[(.object "java/lang/String"), (.array .char), .int, .int], some .boolean⟩), rfl⟩ (by decide +kernel) (Wd := 0) (by decide) (Nat.le_of_ble_eq_true rfl) (by decide) (by decide) (by decide)
  obtain ⟨rfl, rfl⟩ := qE4
  have B5 := E4.ifF (cd := .eq) (o := 34) (by decide +kernel) (by show ¬ _ = _; decide)
  have C5 := B5.run [(511, .aload 18, 513, 0), (513, .aload 14, 515, 0), (515, .iload 19, 517, 0), (517, .iconst 5, 518, 5)] (pe := 518) (by decide +kernel) rfl
  obtain ⟨_, HE5, qE5, E5, moE5, szE5⟩ := C5.callS (argsL := [.ref g, .ref ca, .int s.toInt32, .int (5 : Nat).toInt32]) (wd_163 G) (wd_164 G) (wd_4 G) (wd_165 G) (c_same G SG hgla T (j := 5) (by decide) (by omega) (by omega) (hq 5)) (by decide) ⟨_, _, (by decide +kernel : parseMethodDescriptor "(Ljava/lang/String;[CII)Z" = some ⟨[(.object "java/lang/String"), (.array .char), .int, .int], some .boolean⟩), rfl⟩ (by decide +kernel) (Wd := 0) (by decide) (Nat.le_of_ble_eq_true rfl) (by decide) (by decide) (by decide)
  obtain ⟨rfl, rfl⟩ := qE5
  have B6 := E5.ifF (cd := .eq) (o := 21) (by decide +kernel) (by show ¬ _ = _; decide)
  have C6 := B6.run [(524, .aload 18, 526, 0), (526, .aload 14, 528, 0), (528, .iload 19, 530, 0), (530, .bipush 6, 532, 6)] (pe := 532) (by decide +kernel) rfl
  obtain ⟨_, HE6, qE6, E6, moE6, szE6⟩ := C6.callS (argsL := [.ref g, .ref ca, .int s.toInt32, .int (6 : Nat).toInt32]) (wd_163 G) (wd_164 G) (wd_4 G) (wd_165 G) (c_same G SG hgla T (j := 6) (by decide) (by omega) (by omega) (hq 6)) (by decide) ⟨_, _, (by decide +kernel : parseMethodDescriptor "(Ljava/lang/String;[CII)Z" = some ⟨[(.object "java/lang/String"), (.array .char), .int, .int], some .boolean⟩), rfl⟩ (by decide +kernel) (Wd := 0) (by decide) (Nat.le_of_ble_eq_true rfl) (by decide) (by decide) (by decide)
  obtain ⟨rfl, rfl⟩ := qE6
  have B7 := E6.ifF (cd := .eq) (o := 7) (by decide +kernel) (by show ¬ _ = _; decide)
  have B8 := B7.run [(538, .iconst 1, 539, 1), (539, .goto 4, 543, 0)] (pe := 543) (by decide +kernel) rfl
  exact ⟨_, _, _, B8.retZ (by decide +kernel) rfl, by decide, by decide⟩
set_option maxRecDepth 65536 in
set_option maxHeartbeats 8000000 in
theorem c_law (G : Glb Z a0) (i0 i1 i2 : Int32) (i3 : Int64) (i4 : Int32) : Ct l Z EL0 x code maxLocals ret room_1 tables_1 [.int i0, .int i1, .int i2, .long i3, .int i4] H (fun v H' => v = some (.int 1)) := by
  refine Ct.in G (plainFor_of_name (by show plainName "com/example/onepass/onepass/model/FieldsGetPinLaw" = true; simp [plainName, overriddenIn])) (ls := [.val (.int i0), .val (.int i1), .val (.int i2), .val (.long i3), .second, .val (.int i4), .unset, .unset, .unset, .unset, .unset, .unset, .unset, .unset, .unset, .unset, .unset, .unset, .unset, .unset, .unset]) rfl rfl fun D A0 => ?_
  have A1 := A0.run [(0, .iconst 1, 1, 1), (1, .iload_n 0, 2, 0), (2, .iconst 1, 3, 1), (3, .iand, 4, 0), (4, .iadd, 5, 0)] (pe := 5) (by decide +kernel) rfl
  obtain ⟨len, hl, el⟩ : ∃ len : Nat, (len = 1 ∨ len = 2) ∧ 1 + (i0 &&& 1) = len.toInt32 := by
    have h := c_and i0 1 (by decide)
    have a := c_iadd 1 (i0 &&& 1)
    rw [show (1 : Int32).toInt = 1 by decide] at a h
    have r := rng32 (1 + (i0 &&& 1))
    refine ⟨(1 + (i0 &&& 1)).toInt.toNat, by omega, ?_⟩
    apply Int32.toInt_inj.mp
    rw [n32_toInt (by omega)]; omega
  rw [el] at A1
  have A2 := A1.run [(5, .istore 6, 7, 0), (7, .iconst 1, 8, 1), (8, .iload_n 0, 9, 0), (9, .iconst 1, 10, 1), (10, .iushr, 11, 0), (11, .iconst 3, 12, 3), (12, .iand, 13, 0), (13, .iconst 3, 14, 3)] (pe := 14) (by decide +kernel) rfl
  have A3 := A2.irem (by decide +kernel) (by decide)
  have A4 := A3.run [(15, .iadd, 16, 0)] (pe := 16) (by decide +kernel) rfl
  have hand : ∀ z : Int32, 0 ≤ (z &&& 3).toInt := fun z => (c_and z 3 (by decide)).1
  obtain ⟨n, hn1, hn3, en⟩ : ∃ n : Nat, 1 ≤ n ∧ n ≤ 3 ∧ 1 + (XT.ushr i0 1 &&& 3) % 3 = n.toInt32 := by
    obtain ⟨-, r, hr, e⟩ := remN (m := 3) (hand (XT.ushr i0 1)) (by decide) (by decide)
    refine ⟨1 + r, by omega, by omega, ?_⟩
    rw [← n32_add, ← e]; rfl
  rw [en] at A4
  have A5 := A4.run [(16, .istore 7, 18, 0), (18, .iconst 1, 19, 1), (19, .iload_n 0, 20, 0), (20, .iconst 3, 21, 3), (21, .iushr, 22, 0), (22, .iconst 3, 23, 3), (23, .iand, 24, 0), (24, .iload 7, 26, 0)] (pe := 26) (by decide +kernel) rfl
  obtain ⟨hnz, r, hr, er⟩ := remN (m := n) (hand (XT.ushr i0 3)) (by omega) (by omega)
  have A6 := A5.irem (by decide +kernel) hnz
  rw [er] at A6
  have A7 := A6.run [(27, .iadd, 28, 0)] (pe := 28) (by decide +kernel) rfl
  obtain ⟨k, hk1, hkn, ekk⟩ : ∃ k : Nat, 1 ≤ k ∧ k ≤ n ∧ 1 + r.toInt32 = k.toInt32 := ⟨1 + r, by omega, by omega, by rw [← n32_add]; rfl⟩
  rw [ekk] at A7
  have A8 := A7.run [(28, .istore 8, 30, 0), (30, .bipush 9, 32, 9), (32, .iconst 2, 33, 2), (33, .iload 6, 35, 0), (35, .imul, 36, 0), (36, .isub, 37, 0)] (pe := 37) (by decide +kernel) rfl
  have e9 : 9 - 2 * len.toInt32 = (9 - 2 * len).toInt32 := by rcases hl with rfl | rfl <;> decide
  rw [e9] at A8
  have A9 := A8.run [(37, .istore 9, 39, 0), (39, .iload_n 1, 40, 0)] (pe := 40) (by decide +kernel) rfl
  have A10 := A9.ldcI (wd_0 G) (by decide +kernel)
  have A11 := A10.run [(42, .iand, 43, 0), (43, .iload 9, 45, 0), (45, .iconst 1, 46, 1), (46, .iadd, 47, 0)] (pe := 47) (by decide +kernel) rfl
  rw [n32_succ] at A11
  have hpos : ∀ z : Int32, 0 ≤ (z &&& 2147483647).toInt := fun z => (c_and z 2147483647 (by decide)).1
  obtain ⟨hz1, a, ha, ea⟩ := remN (m := 9 - 2 * len + 1) (hpos i1) (by omega) (by omega)
  have A12 := A11.irem (by decide +kernel) hz1
  rw [ea] at A12
  have A13 := A12.run [(48, .istore 10, 50, 0), (50, .iload_n 2, 51, 0)] (pe := 51) (by decide +kernel) rfl
  have A14 := A13.ldcI (wd_0 G) (by decide +kernel)
  have A15 := A14.run [(53, .iand, 54, 0), (54, .iload 9, 56, 0), (56, .iload 10, 58, 0), (58, .isub, 59, 0), (59, .iconst 1, 60, 1), (60, .iadd, 61, 0)] (pe := 61) (by decide +kernel) rfl
  rw [n32_sub (by omega), n32_succ] at A15
  obtain ⟨hz2, b, hb, eb⟩ := remN (m := 9 - 2 * len - a + 1) (hpos i2) (by omega) (by omega)
  have A16 := A15.irem (by decide +kernel) hz2
  rw [eb] at A16
  have A17 := A16.run [(62, .istore 11, 64, 0), (64, .iload 5, 66, 0), (66, .sipush 255, 69, 255), (69, .iand, 70, 0), (70, .i2c, 71, 0)] (pe := 71) (by decide +kernel) rfl
  obtain ⟨d0, o0, e0⟩ : ∃ d0, okL d0 ∧ (i4 &&& 255).toUInt32.toUInt16.toUInt32.toInt32 = d0 := ⟨_, okL_mask i4, okc_i2c i4⟩
  rw [e0] at A17
  have A18 := A17.run [(71, .istore 12, 73, 0), (73, .iload 6, 75, 0), (75, .iconst 2, 76, 2)] (pe := 76) (by decide +kernel) rfl
  obtain ⟨d1, o1, A19⟩ : ∃ d1, okL d1 ∧ Wk l Z a0 EL0 "com/example/onepass/onepass/model/FieldsGetPinLaw" code maxLocals "law" ret room_1 D 96 [.val (.int i0), .val (.int i1), .val (.int i2), .val (.long i3), .second, .val (.int i4), .val (.int len.toInt32), .val (.int n.toInt32), .val (.int k.toInt32), .val (.int (9 - 2 * len).toInt32), .val (.int a.toInt32), .val (.int b.toInt32), .val (.int d0), .val (.int d1), .unset, .unset, .unset, .unset, .unset, .unset, .unset] [] H 0 0 := by
    rcases hl with rfl | rfl
    · have B1 := A18.icT (cd := .ne) (o := 16) (by decide +kernel) (by show ¬ _ = _; decide) (pe := 92) (by decide)
      exact ⟨d0, o0, B1.run [(92, .iload 12, 94, 0), (94, .istore 13, 96, 0)] (pe := 96) (by decide +kernel) rfl⟩
    · have B1 := A18.icF (cd := .ne) (o := 16) (by decide +kernel) (not_not_intro rfl)
      have B2 := B1.run [(79, .iload 5, 81, 0), (81, .bipush 8, 83, 8), (83, .iushr, 84, 0), (84, .sipush 255, 87, 255), (87, .iand, 88, 0), (88, .i2c, 89, 0), (89, .goto 5, 94, 0), (94, .istore 13, 96, 0)] (pe := 96) (by decide +kernel) rfl
      rw [okc_i2c] at B2
      exact ⟨_, okL_mask _, B2⟩
  clear A0 A1 A2 A3 A4 A5 A6 A7 A8 A9 A10 A11 A12 A13 A14 A15 A16 A17 A18
  obtain ⟨ca, H1, cs, K1, h9, hcell, TC, A20⟩ := l_cells G (by omega) (by omega) hl o0 o1 A19
  obtain ⟨dl, H2, ds, K2, hdl, hlad, hd0, hd1, SD, A21⟩ := l_delim G hl o0 o1 A20
  have hla : Lat cs := fun c hc => by
    obtain ⟨i, hi⟩ := List.mem_iff_getElem?.mp hc
    exact (hcell i c hi).1.lat
  obtain ⟨ln, H3, A22, gl, K3, E3, o3, D3⟩ := A21.newO (wd_36 G) (wd_20 G) (wd_12 G) (by decide +kernel) (by decide) (by decide)
  have A23 := A22.run [(336, .dup, 337, 0), (337, .aload 14, 339, 0)] (pe := 339) (by decide +kernel) rfl
  have TC3 := (TC.ky K2).ky K3
  have sv := (wd_33 G)
  have sc := (wd_35 G)
  obtain ⟨_, HA24, qA24, A24, moA24, szA24⟩ := A23.callI (argsL := [.ref ca]) rfl (wd_37 G) (wd_38 G) (wd_12 G) (wd_39 G) (c_sI1 G TC3 (c_sI4L G TC3 (by omega) (fun q => by rw [q] at h9; simp at h9) hla E3 (D3 (Or.inr sv) (t := .array .byte) (by decide)) (D3 (Or.inr sc) (t := .byte) (by decide)) o3)) (by decide) ⟨_, _, (by decide +kernel : parseMethodDescriptor "([C)V" = some ⟨[(.array .char)], none⟩), rfl⟩ (by decide +kernel) (Wd := 1) (by decide) (Nat.le_of_ble_eq_true rfl) (by decide) (by decide) (by decide)
  obtain ⟨rfl, K4, SL⟩ := qA24
  have wS := (wd_20 G)
  have TC4 := TC3.kyE K4 E3 wS
  have KL : Kp H2 HA24 [] := K3.trans K4 fun y hy => by cases List.mem_singleton.mp hy; exact Or.inr gl
  have SD4 := SD.ky KL
  have A25 := A24.run [(342, .astore 16, 344, 0)] (pe := 344) (by decide +kernel) rfl
  obtain ⟨x, H5, A26, gx, K5, E5, o5, D5⟩ := A25.newO (wd_53 G) (wd_54 G) (wd_55 G) (by decide +kernel) (by decide) (by decide)
  have A27 := A26.run [(347, .dup, 348, 0), (348, .aload 15, 350, 0), (350, .iload 7, 352, 0)] (pe := 352) (by decide +kernel) rfl
  obtain ⟨_, HA28, qA28, A28, moA28, szA28⟩ := A27.callI (argsL := [.ref dl, .int n.toInt32]) rfl (wd_56 G) (wd_57 G) (wd_55 G) (wd_58 G) (c_fI G E5 (D5 (Or.inl (wd_64 G)) (t := .object "java/lang/String") (by decide)) (D5 (Or.inl (wd_67 G)) (t := .array .int) (by decide)) (D5 (Or.inl (wd_69 G)) (t := .array .int) (by decide)) (D5 (Or.inl (wd_80 G)) (t := .int) (by decide)) (D5 (Or.inr (wd_71 G)) (t := .object "java/lang/String") (by decide)) (D5 (Or.inr (wd_73 G)) (t := .int) (by decide)) o5) (by decide) ⟨_, _, (by decide +kernel : parseMethodDescriptor "(Ljava/lang/String;I)V" = some ⟨[(.object "java/lang/String"), .int], none⟩), rfl⟩ (by decide +kernel) (Wd := 1) (by decide) (Nat.le_of_ble_eq_true rfl) (by decide) (by decide) (by decide)
  obtain ⟨rfl, K6, l0, st, en, gs, ge, F6⟩ := qA28
  have KB : Kp HA24 HA28 [] := K5.trans K6 fun y hy => by cases List.mem_singleton.mp hy; exact Or.inr gx
  have A29 := A28.run [(355, .astore 17, 357, 0), (357, .aload 17, 359, 0), (359, .aload 16, 361, 0)] (pe := 361) (by decide +kernel) rfl
  obtain ⟨_, HA30, qA30, A30, moA30, szA30⟩ := A29.callV (argsL := [.ref ln]) (wd_74 G) (wd_75 G) (wd_77 G) rfl (wd_77 G) (wd_76 G) (wd_55 G) (wd_78 G) F6.1 (c_cut G F6 hn1 hn3 KB SL SD4 gx (Nat.le_trans K5.size gs) (Nat.le_trans K5.size ge) hla hlad o0 hl hdl hd0 hd1 h9 (by omega) hcell) (by decide) ⟨_, _, (by decide +kernel : parseMethodDescriptor "(Ljava/lang/String;)V" = some ⟨[(.object "java/lang/String")], none⟩), rfl⟩ (by decide +kernel) (Wd := 0) (by decide) (Nat.le_of_ble_eq_true rfl) (by decide) (by decide) (by decide)
  obtain ⟨rfl, KB2, S', E', F7, hSE⟩ := qA30
  obtain ⟨hs, he⟩ := hSE k hk1 hkn
  have A31 := A30.run [(364, .aload 17, 366, 0), (366, .iload 8, 368, 0)] (pe := 368) (by decide +kernel) rfl
  have hse : sk a b len k ≤ ek a b len k ∧ ek a b len k ≤ 9 := by
    unfold sk ek
    obtain rfl | rfl | rfl : k = 1 ∨ k = 2 ∨ k = 3 := by omega
    · simp; omega
    · simp; omega
    · simp; omega
  obtain ⟨_, HA32, qA32, A32, moA32, szA32⟩ := A31.callV (argsL := [.int k.toInt32]) (wd_117 G) (wd_118 G) (wd_120 G) rfl (wd_120 G) (wd_119 G) (wd_55 G) (wd_121 G) F7.1 (c_get G F7 (SL.ky KB2) hla hk1 (by omega) hs he hse.1 (by omega) (by omega)) (by decide) ⟨_, _, (by decide +kernel : parseMethodDescriptor "(I)Ljava/lang/String;" = some ⟨[.int], some (.object "java/lang/String")⟩), rfl⟩ (by decide +kernel) (Wd := 0) (by decide) (Nat.le_of_ble_eq_true rfl) (by decide) (by decide) (by decide)
  obtain ⟨g, rfl, K8, SG⟩ := qA32
  have A33 := A32.run [(371, .astore 18, 373, 0)] (pe := 373) (by decide +kernel) rfl
  obtain ⟨H9, kk, nn, B1, B2, B3⟩ := l_end G hl (by omega) hk1 (by omega) h9 hla ((TC4.ky KB2).ky K8) SG (A33.more (by decide) (by decide))
  exact ⟨_, _, _, _, B1, rfl, B2, B3⟩
end LawF

set_option maxRecDepth 65536 in
theorem comes_1 {Post : Tables → Env → Array Value → State → Outcome → State → Prop} (hpost : ∀ tb e args s v u, (limb_1_1.after args s (.returned v) u = true ∧ limb_1_2.after args s (.returned v) u = true) → ReturnedEndW s (.returned v) u (Jvm.fieldLocs frame_1_writes args s ++ Jvm.arrayLocs frame_1_arrays args s ++ Jvm.staticLocs frame_1_statics s) 40 2304 → Post tb e args s (.returned v) u) :
    ArmFor flags0 classFile x code maxLocals ret World_1 tables_1 room_1 Calls_1 rest_1 Pre_1 Post := by
  intro l hfl _ _ p e ha hc hk s m args below hf hA hF happ hP
  obtain ⟨hcalls, hrest, hpre⟩ := hP
  obtain ⟨-, -, -, hnamed, -, -, -, hat⟩ := (Spec.applies_iff hf).mp happ
  obtain ⟨hg, hn⟩ := and_e (Cond.before_iff.mp (show (Jvm.Cond.and given_1 narrow_1).before args s = true from hpre))
  obtain ⟨h1, g0⟩ := and_e hg
  obtain ⟨f0, g1⟩ := and_e g0
  obtain ⟨f1, g2⟩ := and_e g1
  obtain ⟨f2, g3⟩ := and_e g2
  obtain ⟨f3, g4⟩ := and_e g3
  have f4 := g4
  obtain ⟨w0, w1, w2, w3, w4, rfl⟩ : ∃ w0 w1 w2 w3 w4 : Value, args = #[w0, w1, w2, w3, w4] := by
    have hs : args.size = 5 := by simpa [Cond.value, given_1] using h1
    obtain ⟨L⟩ := args
    match L, hs with
    | [w0, w1, w2, w3, w4], _ => exact ⟨w0, w1, w2, w3, w4, rfl⟩
  have hw := fun d (hd : d ∈ tables_1) => atoms_spec (ws := Jvm.Cond.code x code maxLocals ret :: tables_1) hat d (List.mem_cons_of_mem _ hd)
  obtain ⟨hsets, hown0⟩ := atoms_of _ (rest_1_c_eq ▸ (show rest_1_c.before _ s = true from hrest))
  have hfit : Fit s := fun {y c} hc i hi => by
    obtain ⟨ha, rfl⟩ := Array.getElem?_eq_some_iff.mp hc
    have q := List.all_eq_true.mp ((Array.all_eq_true_iff_forall_mem.mp hF) _ (Array.getElem_mem ha)) i (List.mem_range.mpr hi)
    simpa [Array.getElem?_eq_getElem hi] using q
  obtain ⟨i0, e0⟩ := is_v f0
  obtain rfl : w0 = .int i0 := Option.some.inj e0
  obtain ⟨i1, e1⟩ := is_v f1
  obtain rfl : w1 = .int i1 := Option.some.inj e1
  obtain ⟨i2, e2⟩ := is_v f2
  obtain rfl : w2 = .int i2 := Option.some.inj e2
  obtain ⟨i3, e3⟩ := isL_v f3
  obtain rfl : w3 = .long i3 := Option.some.inj e3
  obtain ⟨i4, e4⟩ := is_v f4
  obtain rfl : w4 = .int i4 := Option.some.inj e4
  have G : Glb s #[.int i0, .int i1, .int i2, .long i3, .int i4] := ⟨hw, hsets, hfit, hn⟩
  have G_cw : Jvm.Lit.compactW.before _ s = true := (G.2.1 _ (List.mem_of_getElem? (i := 2) rfl))
  have G_wa := (wd_24 G)
  have G_wi := (wd_20 G)
  obtain ⟨n, o, h1, h2, h3, v, L, O, rfl, hv, -, -, N, hq⟩ := c_law (l := l) (H := (s.heap, fun _ => False)) G i0 i1 i2 i3 i4 p e ha hc hk s m _ below hf ((Spec.applies_iff_loose hf).mp happ).1 ⟨rfl, State.Warmed39.refl s, rfl, ⟨ext_refl _, fun _ q => q.elim, CHv.start (G_EL G) (fun p hp => hcalls.1 p hp) G_cw G_wa G_wi, fun _ _ q => q.elim⟩⟩ trivial
  subst hv
  refine ⟨n, _, h1, h2, h3, hpost _ _ _ _ _ _ ⟨Cond.after_iff.mpr rfl, Cond.after_iff.mpr (eq_i res_at (Term.int_eval (1)) rfl)⟩ ⟨hq.1, hq.2.1, hq.2.2.1, (hq.2.2.2.sift fun y hy => Or.inr (N y hy)).mono (by decide) (by decide)⟩⟩
theorem main_1_1 : Claimed_1_1 := comes_1 fun _ _ _ _ _ _ h hF => ⟨h.1, hF⟩
theorem main_1_2 : Claimed_1_2 := comes_1 fun _ _ _ _ _ _ h hF => ⟨h.2, hF⟩
end Jvm.Pilot.@@N@@
namespace Jvm.Pilot.@@N@@
open Jvm Jvm.ClassFile Sem Op Lib Jvm.Free Jvm.Stand Jvm.Pilot.@@N@@.Jvm.D
/-! MADE BY PROGRAM (witnessworld.py) out of the Statement's table words and the real class files: 23 classes; the members and pool entries that the words name. The judged class is class 1, her method 1. -/
namespace start1
open Jvm.ClassFile
def u (s : String) : CpInfo := .utf8 (stringToUtf16 s)
/-- a pool by its gaps: so many unusable entries, then the entry; so many at the end -/
def gap : Nat → List CpInfo → List CpInfo
  | 0, r => r
  | n + 1, r => .unusable :: gap n r
def poolList (es : List (Nat × CpInfo)) (last : Nat) : List CpInfo := es.foldr (fun e r => gap e.1 (e.2 :: r)) (gap last [])
def pool (es : List (Nat × CpInfo)) (last : Nat) : Array CpInfo := ⟨poolList es last⟩
def fileOf (pool : Array CpInfo) (this : Nat) (attrs : Array Attribute := #[]) (ms : Array MethodInfo := #[]) (fl : Nat := 33) (sup : Nat := 0) (ifs : Array Nat := #[]) (fds : Array FieldInfo := #[]) : ClassFile where
  minorVersion := 0
  majorVersion := 65
  constantPool := pool
  accessFlags := fl
  thisClass := this
  superClass := sup
  interfaces := ifs
  fields := fds
  methods := ms
  attributes := attrs
def plain (name : String) (sup : Option ClassId) : Class where
  name := name
  kind := .ordinary
  loader := none
  accessFlags := 33
  super := sup
  interfaces := #[]
  cf := none
  fields := #[]
  methods := #[]
  instanceTypes := #[]
  staticTypes := #[]
  resolved := #[]
  callSites := []
  init := .initialized
  statics := none
  mirror := none

def pool0 : Array CpInfo := pool [(5, u "<init>"), (0, u "()V"), (1, .class_ 10), (1, u "java/lang/Object")] 113

def k0c0 : Code := { maxStack := 0, maxLocals := 1, code := object_method_1_code, exceptionTable := #[], attributes := #[] }
def k0m0 : Method := { name := "<init>", desc := "()V", sig := { parameters := [], returnType := none }, accessFlags := 1, code := some k0c0 }
/-- java/lang/Object -/
def k0 : Class := { plain "java/lang/Object" none with
  accessFlags := 33
  interfaces := #[]
  cf := some (fileOf pool0 8 #[] #[{ accessFlags := 1, nameIndex := 5, descriptorIndex := 6, attributes := #[] }] 33 0 #[] #[])
  fields := #[]
  methods := #[k0m0]
  instanceTypes := #[]
  staticTypes := #[]
  resolved := Array.replicate 124 none
  statics := none }

def pool1 : Array CpInfo := pool [(2, .class_ 4), (1, u "java/lang/Object"), (0, u "<init>"), (0, u "()V"), (0, .integer 2147483647), (0, .methodref 9 10), (0, .class_ 11), (0, .nameAndType 12 13), (0, u "com/example/onepass/onepass/model/FieldsGetPinLaw"), (0, u "cell"), (0, u "(IIIICCJI)C"), (0, .methodref 15 16), (0, .class_ 17), (0, .nameAndType 18 19), (0, u "java/lang/String"), (0, u "valueOf"), (0, u "(C)Ljava/lang/String;"), (0, .methodref 15 21), (0, .nameAndType 5 22), (0, u "([C)V"), (0, .class_ 24), (0, u "com/example/onepass/onepass/model/Fields"), (0, .methodref 23 26), (0, .nameAndType 5 27), (0, u "(Ljava/lang/String;I)V"), (0, .methodref 23 29), (0, .nameAndType 30 31), (0, u "cut"), (0, u "(Ljava/lang/String;)V"), (0, .methodref 23 33), (0, .nameAndType 34 35), (0, u "get"), (0, u "(I)Ljava/lang/String;"), (0, .methodref 15 37), (0, .nameAndType 38 39), (0, u "length"), (0, u "()I"), (0, .methodref 9 41), (0, .nameAndType 42 43), (0, u "same"), (0, u "(Ljava/lang/String;[CII)Z"), (0, .methodref 15 45), (0, .nameAndType 46 47), (0, u "charAt"), (0, u "(I)C"), (0, .long 255), (1, .methodref 9 51), (0, .nameAndType 52 53), (0, u "pick"), (0, u "(ICC)C"), (2, u "law"), (0, u "(IIIJI)Z")] 5

def k1m0 : Method := { name := "<init>", desc := "()V", sig := { parameters := [], returnType := none }, accessFlags := 1, code := none }
def k1c1 : Code := { maxStack := 11, maxLocals := 21, code := code, exceptionTable := #[], attributes := #[] }
def k1m1 : Method := { name := "law", desc := "(IIIJI)Z", sig := { parameters := [.int, .int, .int, .long, .int], returnType := some .boolean }, accessFlags := 9, code := some k1c1 }
def k1c2 : Code := { maxStack := 4, maxLocals := 4, code := method_3_code, exceptionTable := #[], attributes := #[] }
def k1m2 : Method := { name := "same", desc := "(Ljava/lang/String;[CII)Z", sig := { parameters := [(.object "java/lang/String"), (.array .char), .int, .int], returnType := some .boolean }, accessFlags := 10, code := some k1c2 }
def k1c3 : Code := { maxStack := 2, maxLocals := 4, code := method_4_code, exceptionTable := #[], attributes := #[] }
def k1m3 : Method := { name := "pick", desc := "(ICC)C", sig := { parameters := [.int, .char, .char], returnType := some .char }, accessFlags := 10, code := some k1c3 }
def k1c4 : Code := { maxStack := 4, maxLocals := 11, code := method_5_code, exceptionTable := #[], attributes := #[] }
def k1m4 : Method := { name := "cell", desc := "(IIIICCJI)C", sig := { parameters := [.int, .int, .int, .int, .char, .char, .long, .int], returnType := some .char }, accessFlags := 10, code := some k1c4 }
/-- com/example/onepass/onepass/model/FieldsGetPinLaw -/
def k1 : Class := { plain "com/example/onepass/onepass/model/FieldsGetPinLaw" (some 0) with
  accessFlags := 49
  interfaces := #[]
  cf := some (fileOf pool1 9 #[] #[{ accessFlags := 1, nameIndex := 5, descriptorIndex := 6, attributes := #[] }, { accessFlags := 9, nameIndex := 56, descriptorIndex := 57, attributes := #[] }, { accessFlags := 10, nameIndex := 42, descriptorIndex := 43, attributes := #[] }, { accessFlags := 10, nameIndex := 52, descriptorIndex := 53, attributes := #[] }, { accessFlags := 10, nameIndex := 12, descriptorIndex := 13, attributes := #[] }] 49 2 #[] #[])
  fields := #[]
  methods := #[k1m0, k1m1, k1m2, k1m3, k1m4]
  instanceTypes := #[]
  staticTypes := #[]
  resolved := Array.replicate 63 none
  statics := none }

def pool2 : Array CpInfo := pool [(1, .class_ 2), (0, u "java/io/Serializable"), (0, .class_ 4), (0, u "java/lang/Object")] 2

/-- java/io/Serializable -/
def k2 : Class := { plain "java/io/Serializable" (some 0) with
  accessFlags := 1537
  interfaces := #[]
  cf := some (fileOf pool2 1 #[] #[] 1537 3 #[] #[])
  fields := #[]
  methods := #[]
  instanceTypes := #[]
  staticTypes := #[]
  resolved := Array.replicate 7 none
  statics := none }

def pool3 : Array CpInfo := pool [(1, .class_ 2), (0, u "java/lang/Comparable"), (0, .class_ 4), (0, u "java/lang/Object")] 7

/-- java/lang/Comparable -/
def k3 : Class := { plain "java/lang/Comparable" (some 0) with
  accessFlags := 1537
  interfaces := #[]
  cf := some (fileOf pool3 1 #[] #[] 1537 3 #[] #[])
  fields := #[]
  methods := #[]
  instanceTypes := #[]
  staticTypes := #[]
  resolved := Array.replicate 12 none
  statics := none }

def pool4 : Array CpInfo := pool [(2, .class_ 4), (1, u "java/lang/CharSequence"), (42, .class_ 48), (0, u "java/lang/CharSequence$1CodePointIterator"), (10, .class_ 60), (0, u "java/lang/CharSequence$1CharIterator"), (5, .class_ 67), (0, u "java/lang/Object")] 63

/-- java/lang/CharSequence -/
def k4 : Class := { plain "java/lang/CharSequence" (some 0) with
  accessFlags := 1537
  interfaces := #[]
  cf := some (fileOf pool4 2 #[.nestMembers #[47, 59]] #[] 1537 66 #[] #[])
  fields := #[]
  methods := #[]
  instanceTypes := #[]
  staticTypes := #[]
  resolved := Array.replicate 131 none
  statics := none }

def pool5 : Array CpInfo := pool [(1, .class_ 2), (0, u "java/lang/constant/Constable"), (0, .class_ 4), (0, u "java/lang/Object")] 6

/-- java/lang/constant/Constable -/
def k5 : Class := { plain "java/lang/constant/Constable" (some 0) with
  accessFlags := 1537
  interfaces := #[]
  cf := some (fileOf pool5 1 #[] #[] 1537 3 #[] #[])
  fields := #[]
  methods := #[]
  instanceTypes := #[]
  staticTypes := #[]
  resolved := Array.replicate 11 none
  statics := none }

def pool6 : Array CpInfo := pool [(1, .class_ 2), (0, u "java/lang/constant/ConstantDesc"), (0, .class_ 4), (0, u "java/lang/Object")] 32

/-- java/lang/constant/ConstantDesc -/
def k6 : Class := { plain "java/lang/constant/ConstantDesc" (some 0) with
  accessFlags := 1537
  interfaces := #[]
  cf := some (fileOf pool6 1 #[] #[] 1537 3 #[] #[])
  fields := #[]
  methods := #[]
  instanceTypes := #[]
  staticTypes := #[]
  resolved := Array.replicate 37 none
  statics := none }

def pool7 : Array CpInfo := pool [(1, .methodref 2 3), (0, .class_ 4), (0, .nameAndType 5 6), (0, u "java/lang/Object"), (0, u "<init>"), (0, u "()V"), (2, .fieldref 10 11), (0, .class_ 12), (0, .nameAndType 13 14), (0, u "java/lang/String"), (0, u "value"), (0, u "[B"), (0, .fieldref 10 16), (0, .nameAndType 17 18), (0, u "coder"), (0, u "B"), (2, u "hash"), (0, u "I"), (2, u "hashIsZero"), (0, u "Z"), (0, .methodref 10 28), (0, .nameAndType 5 29), (0, u "([CIILjava/lang/Void;)V"), (8, .fieldref 10 39), (0, .nameAndType 40 26), (0, u "COMPACT_STRINGS"), (1, .class_ 44), (1, u "java/lang/StringUTF16"), (0, u "compress"), (1, .methodref 42 48), (0, .nameAndType 49 50), (0, u "coderFromArrayLen"), (0, u "([BI)B"), (2, u "toBytes"), (53, .class_ 109), (1, u "java/lang/StringLatin1"), (32, u "()Z"), (34, .methodref 42 178), (0, .nameAndType 45 179), (0, u "([CII)[B"), (29, .methodref 10 210), (0, .nameAndType 5 211), (0, u "([BB)V"), (122, u "()I"), (0, .methodref 10 336), (0, .nameAndType 17 337), (0, u "()B"), (25, u "([BI)C"), (5, u "(C)Z"), (6, u "([BI[BII)I"), (14, u "(II)V"), (35, u "(I)C"), (64, .methodref 10 493), (0, .nameAndType 494 142), (0, u "isLatin1"), (0, .methodref 107 496), (0, .nameAndType 497 363), (0, u "charAt"), (3, u "checkIndex"), (3, .methodref 10 506), (0, .nameAndType 507 334), (0, u "length"), (5, u "checkFromToIndex"), (7, .methodref 10 522), (0, .nameAndType 523 524), (0, u "checkBoundsBeginEnd"), (0, u "(III)V"), (50, .class_ 576), (0, u "java/lang/CharSequence"), (22, u "CASE_INSENSITIVE_ORDER"), (0, u "Ljava/util/Comparator;"), (34, u "indexOf"), (17, .methodref 10 654), (0, .nameAndType 635 655), (0, u "([BBILjava/lang/String;I)I"), (3, .methodref 660 661), (0, .class_ 662), (0, .nameAndType 663 664), (0, u "java/lang/Math"), (0, u "clamp"), (0, u "(JII)I"), (0, .methodref 107 666), (0, .nameAndType 635 376), (5, u "(Ljava/lang/String;I)I"), (10, u "substring"), (0, u "(II)Ljava/lang/String;"), (0, .methodref 107 686), (0, .nameAndType 687 688), (0, u "newString"), (0, u "([BII)Ljava/lang/String;"), (93, u "valueOf"), (0, u "(C)Ljava/lang/String;"), (226, u "([C)V"), (4, .methodref 107 1016), (0, .nameAndType 1017 369), (0, u "canEncode"), (0, .methodref 107 1019), (0, .nameAndType 53 1020), (0, u "(C)[B"), (32, .fieldref 1054 1055), (0, .class_ 1056), (0, .nameAndType 1057 1058), (0, u "jdk/internal/util/Preconditions"), (0, u "SIOOBE_FORMATTER"), (0, u "Ljava/util/function/BiFunction;"), (0, .methodref 1054 1060), (0, .nameAndType 501 1061), (0, u "(IILjava/util/function/BiFunction;)I"), (0, .methodref 1054 1063), (0, .nameAndType 513 1064), (0, u "(IIILjava/util/function/BiFunction;)I"), (36, u "serialPersistentFields"), (0, u "[Ljava/io/ObjectStreamField;"), (0, .class_ 1104), (0, u "java/lang/String$CaseInsensitiveComparator"), (1, .class_ 1107), (0, u "java/io/Serializable"), (0, .class_ 1109), (0, u "java/lang/Comparable"), (0, .class_ 1111), (0, u "java/lang/constant/Constable"), (0, .class_ 1113), (0, u "java/lang/constant/ConstantDesc"), (2, u "serialVersionUID"), (0, u "J"), (3, u "REPL"), (0, u "C"), (2, u "LATIN1"), (1, u "UTF16")] 323

def k7m0 : Method := { name := "<init>", desc := "()V", sig := { parameters := [], returnType := none }, accessFlags := 1, code := none }
def k7c1 : Code := { maxStack := 5, maxLocals := 2, code := jdk_42_method_3_code, exceptionTable := #[], attributes := #[] }
def k7m1 : Method := { name := "<init>", desc := "([C)V", sig := { parameters := [(.array .char)], returnType := none }, accessFlags := 1, code := some k7c1 }
def k7c2 : Code := { maxStack := 2, maxLocals := 1, code := jdk_42_method_54_code, exceptionTable := #[], attributes := #[] }
def k7m2 : Method := { name := "length", desc := "()I", sig := { parameters := [], returnType := some .int }, accessFlags := 1, code := some k7c2 }
def k7c3 : Code := { maxStack := 2, maxLocals := 2, code := jdk_42_method_56_code, exceptionTable := #[], attributes := #[] }
def k7m3 : Method := { name := "charAt", desc := "(I)C", sig := { parameters := [.int], returnType := some .char }, accessFlags := 1, code := some k7c3 }
def k7c4 : Code := { maxStack := 5, maxLocals := 3, code := jdk_42_method_85_code, exceptionTable := #[], attributes := #[] }
def k7m4 : Method := { name := "indexOf", desc := "(Ljava/lang/String;I)I", sig := { parameters := [(.object "java/lang/String"), .int], returnType := some .int }, accessFlags := 1, code := some k7c4 }
def k7c5 : Code := { maxStack := 5, maxLocals := 8, code := jdk_42_method_87_code, exceptionTable := #[], attributes := #[] }
def k7m5 : Method := { name := "indexOf", desc := "([BBILjava/lang/String;I)I", sig := { parameters := [(.array .byte), .byte, .int, (.object "java/lang/String"), .int], returnType := some .int }, accessFlags := 8, code := some k7c5 }
def k7c6 : Code := { maxStack := 3, maxLocals := 5, code := jdk_42_method_92_code, exceptionTable := #[], attributes := #[] }
def k7m6 : Method := { name := "substring", desc := "(II)Ljava/lang/String;", sig := { parameters := [.int, .int], returnType := some (.object "java/lang/String") }, accessFlags := 1, code := some k7c6 }
def k7c7 : Code := { maxStack := 4, maxLocals := 1, code := jdk_42_method_139_code, exceptionTable := #[], attributes := #[] }
def k7m7 : Method := { name := "valueOf", desc := "(C)Ljava/lang/String;", sig := { parameters := [.char], returnType := some (.object "java/lang/String") }, accessFlags := 9, code := some k7c7 }
def k7c8 : Code := { maxStack := 4, maxLocals := 6, code := jdk_42_method_149_code, exceptionTable := #[], attributes := #[] }
def k7m8 : Method := { name := "<init>", desc := "([CIILjava/lang/Void;)V", sig := { parameters := [(.array .char), .int, .int, (.object "java/lang/Void")], returnType := none }, accessFlags := 2, code := some k7c8 }
def k7c9 : Code := { maxStack := 2, maxLocals := 3, code := jdk_42_method_151_code, exceptionTable := #[], attributes := #[] }
def k7m9 : Method := { name := "<init>", desc := "([BB)V", sig := { parameters := [(.array .byte), .byte], returnType := none }, accessFlags := 0, code := some k7c9 }
def k7c10 : Code := { maxStack := 1, maxLocals := 1, code := jdk_42_method_152_code, exceptionTable := #[], attributes := #[] }
def k7m10 : Method := { name := "coder", desc := "()B", sig := { parameters := [], returnType := some .byte }, accessFlags := 0, code := some k7c10 }
def k7c11 : Code := { maxStack := 1, maxLocals := 1, code := jdk_42_method_154_code, exceptionTable := #[], attributes := #[] }
def k7m11 : Method := { name := "isLatin1", desc := "()Z", sig := { parameters := [], returnType := some .boolean }, accessFlags := 0, code := some k7c11 }
def k7c12 : Code := { maxStack := 3, maxLocals := 2, code := jdk_42_method_155_code, exceptionTable := #[], attributes := #[] }
def k7m12 : Method := { name := "checkIndex", desc := "(II)V", sig := { parameters := [.int, .int], returnType := none }, accessFlags := 8, code := some k7c12 }
def k7c13 : Code := { maxStack := 4, maxLocals := 3, code := jdk_42_method_158_code, exceptionTable := #[], attributes := #[] }
def k7m13 : Method := { name := "checkBoundsBeginEnd", desc := "(III)V", sig := { parameters := [.int, .int, .int], returnType := none }, accessFlags := 8, code := some k7c13 }
/-- java/lang/String -/
def k7 : Class := { plain "java/lang/String" (some 0) with
  accessFlags := 49
  interfaces := #[2, 3, 4, 5, 6]
  cf := some (fileOf pool7 10 #[.nestMembers #[1103]] #[{ accessFlags := 1, nameIndex := 5, descriptorIndex := 6, attributes := #[] }, { accessFlags := 1, nameIndex := 5, descriptorIndex := 1010, attributes := #[] }, { accessFlags := 1, nameIndex := 507, descriptorIndex := 334, attributes := #[] }, { accessFlags := 1, nameIndex := 497, descriptorIndex := 427, attributes := #[] }, { accessFlags := 1, nameIndex := 635, descriptorIndex := 672, attributes := #[] }, { accessFlags := 8, nameIndex := 635, descriptorIndex := 655, attributes := #[] }, { accessFlags := 1, nameIndex := 683, descriptorIndex := 684, attributes := #[] }, { accessFlags := 9, nameIndex := 782, descriptorIndex := 783, attributes := #[] }, { accessFlags := 2, nameIndex := 5, descriptorIndex := 29, attributes := #[] }, { accessFlags := 0, nameIndex := 5, descriptorIndex := 211, attributes := #[] }, { accessFlags := 0, nameIndex := 17, descriptorIndex := 337, attributes := #[] }, { accessFlags := 0, nameIndex := 494, descriptorIndex := 142, attributes := #[] }, { accessFlags := 8, nameIndex := 501, descriptorIndex := 391, attributes := #[] }, { accessFlags := 8, nameIndex := 523, descriptorIndex := 524, attributes := #[] }] 49 2 #[1106, 1108, 575, 1110, 1112] #[{ accessFlags := 18, nameIndex := 13, descriptorIndex := 14, attributes := #[] }, { accessFlags := 18, nameIndex := 17, descriptorIndex := 18, attributes := #[] }, { accessFlags := 2, nameIndex := 21, descriptorIndex := 22, attributes := #[] }, { accessFlags := 2, nameIndex := 25, descriptorIndex := 26, attributes := #[] }, { accessFlags := 26, nameIndex := 1116, descriptorIndex := 1117, attributes := #[] }, { accessFlags := 24, nameIndex := 40, descriptorIndex := 26, attributes := #[] }, { accessFlags := 26, nameIndex := 1101, descriptorIndex := 1102, attributes := #[] }, { accessFlags := 26, nameIndex := 1121, descriptorIndex := 1122, attributes := #[] }, { accessFlags := 25, nameIndex := 599, descriptorIndex := 600, attributes := #[] }, { accessFlags := 24, nameIndex := 1125, descriptorIndex := 18, attributes := #[] }, { accessFlags := 24, nameIndex := 1127, descriptorIndex := 18, attributes := #[] }])
  fields := #[{ name := "value", type := (.array .byte), accessFlags := 18, slot := 0, constantValue := 0 }, { name := "coder", type := .byte, accessFlags := 18, slot := 1, constantValue := 0 }, { name := "hash", type := .int, accessFlags := 2, slot := 2, constantValue := 0 }, { name := "hashIsZero", type := .boolean, accessFlags := 2, slot := 3, constantValue := 0 }, { name := "serialVersionUID", type := .long, accessFlags := 26, slot := 0, constantValue := 0 }, { name := "COMPACT_STRINGS", type := .boolean, accessFlags := 24, slot := 1, constantValue := 0 }, { name := "serialPersistentFields", type := (.array (.object "java/io/ObjectStreamField")), accessFlags := 26, slot := 2, constantValue := 0 }, { name := "REPL", type := .char, accessFlags := 26, slot := 3, constantValue := 0 }, { name := "CASE_INSENSITIVE_ORDER", type := (.object "java/util/Comparator"), accessFlags := 25, slot := 4, constantValue := 0 }, { name := "LATIN1", type := .byte, accessFlags := 24, slot := 5, constantValue := 0 }, { name := "UTF16", type := .byte, accessFlags := 24, slot := 6, constantValue := 0 }]
  methods := #[k7m0, k7m1, k7m2, k7m3, k7m4, k7m5, k7m6, k7m7, k7m8, k7m9, k7m10, k7m11, k7m12, k7m13]
  instanceTypes := #[(.array .byte), .byte, .int, .boolean]
  staticTypes := #[.long, .boolean, (.array (.object "java/io/ObjectStreamField")), .char, (.object "java/util/Comparator"), .byte, .byte]
  resolved := Array.replicate 1451 none
  statics := some 0 }

def pool8 : Array CpInfo := pool [(1, .class_ 2), (0, u "java/lang/String"), (1, .class_ 6), (1, u "java/lang/Object"), (0, u "<init>"), (0, u "()V"), (0, .methodref 1 10), (0, .nameAndType 11 12), (0, u "checkIndex"), (0, u "(II)V"), (1, .class_ 16), (1, u "java/lang/StringLatin1"), (36, u "([BI)C"), (36, u "canEncode"), (10, u "indexOf"), (0, u "([BI[BII)I"), (2, u "(C)Z"), (6, .methodref 1 113), (0, .nameAndType 7 114), (0, u "([BB)V"), (6, u "$assertionsDisabled"), (0, u "Z"), (8, .class_ 133), (1, u "java/util/Arrays"), (17, .string 152), (0, u ""), (43, u "newString"), (0, u "([BII)Ljava/lang/String;"), (23, .class_ 223), (1, u "java/lang/StringLatin1$LinesSpliterator"), (8, .methodref 131 233), (0, .nameAndType 234 235), (0, u "copyOfRange"), (0, u "([BII)[B"), (16, u "charAt"), (127, u "toBytes"), (1, u "(C)[B"), (7, .class_ 391), (0, u "java/lang/StringLatin1$CharsSpliterator")] 3

def k8m0 : Method := { name := "<init>", desc := "()V", sig := { parameters := [], returnType := none }, accessFlags := 0, code := none }
def k8c1 : Code := { maxStack := 2, maxLocals := 2, code := jdk_43_method_2_code, exceptionTable := #[], attributes := #[] }
def k8m1 : Method := { name := "charAt", desc := "([BI)C", sig := { parameters := [(.array .byte), .int], returnType := some .char }, accessFlags := 9, code := some k8c1 }
def k8c2 : Code := { maxStack := 2, maxLocals := 1, code := jdk_43_method_3_code, exceptionTable := #[], attributes := #[] }
def k8m2 : Method := { name := "canEncode", desc := "(C)Z", sig := { parameters := [.char], returnType := some .boolean }, accessFlags := 9, code := some k8c2 }
def k8c3 : Code := { maxStack := 3, maxLocals := 11, code := jdk_43_method_25_code, exceptionTable := #[], attributes := #[] }
def k8m3 : Method := { name := "indexOf", desc := "([BI[BII)I", sig := { parameters := [(.array .byte), .int, (.array .byte), .int, .int], returnType := some .int }, accessFlags := 9, code := some k8c3 }
def k8c4 : Code := { maxStack := 4, maxLocals := 1, code := jdk_43_method_46_code, exceptionTable := #[], attributes := #[] }
def k8m4 : Method := { name := "toBytes", desc := "(C)[B", sig := { parameters := [.char], returnType := some (.array .byte) }, accessFlags := 9, code := some k8c4 }
def k8c5 : Code := { maxStack := 6, maxLocals := 3, code := jdk_43_method_47_code, exceptionTable := #[], attributes := #[] }
def k8m5 : Method := { name := "newString", desc := "([BII)Ljava/lang/String;", sig := { parameters := [(.array .byte), .int, .int], returnType := some (.object "java/lang/String") }, accessFlags := 9, code := some k8c5 }
/-- java/lang/StringLatin1 -/
def k8 : Class := { plain "java/lang/StringLatin1" (some 0) with
  accessFlags := 48
  interfaces := #[]
  cf := some (fileOf pool8 14 #[.nestMembers #[390, 221]] #[{ accessFlags := 0, nameIndex := 7, descriptorIndex := 8, attributes := #[] }, { accessFlags := 9, nameIndex := 252, descriptorIndex := 53, attributes := #[] }, { accessFlags := 9, nameIndex := 90, descriptorIndex := 105, attributes := #[] }, { accessFlags := 9, nameIndex := 101, descriptorIndex := 102, attributes := #[] }, { accessFlags := 9, nameIndex := 380, descriptorIndex := 382, attributes := #[] }, { accessFlags := 9, nameIndex := 196, descriptorIndex := 197, attributes := #[] }] 48 4 #[] #[{ accessFlags := 4120, nameIndex := 121, descriptorIndex := 122, attributes := #[] }])
  fields := #[{ name := "$assertionsDisabled", type := .boolean, accessFlags := 4120, slot := 0, constantValue := 0 }]
  methods := #[k8m0, k8m1, k8m2, k8m3, k8m4, k8m5]
  instanceTypes := #[]
  staticTypes := #[.boolean]
  resolved := Array.replicate 395 none
  statics := none }

def pool9 : Array CpInfo := pool [(6, .class_ 8), (1, u "java/lang/Object"), (0, u "<init>"), (0, u "()V"), (1, .class_ 14), (1, u "java/lang/StringUTF16"), (31, u "$assertionsDisabled"), (0, u "Z"), (13, u "HI_BYTE_SHIFT"), (0, u "I"), (2, u "LO_BYTE_SHIFT"), (49, .methodref 12 116), (0, .nameAndType 117 118), (0, u "compress"), (0, u "([CI[BII)I"), (3, u "([CII)[B"), (138, u "coderFromArrayLen"), (0, u "([BI)B"), (106, .class_ 371), (1, u "java/lang/StringUTF16$LinesSpliterator"), (58, u "MAX_LENGTH"), (196, .class_ 628), (0, u "java/lang/StringUTF16$CodePointsSpliterator"), (0, .class_ 630), (0, u "java/lang/StringUTF16$CharsSpliterator")] 4

def k9m0 : Method := { name := "<init>", desc := "()V", sig := { parameters := [], returnType := none }, accessFlags := 0, code := none }
def k9c1 : Code := { maxStack := 2, maxLocals := 2, code := jdk_52_method_15_code, exceptionTable := #[], attributes := #[] }
def k9m1 : Method := { name := "coderFromArrayLen", desc := "([BI)B", sig := { parameters := [(.array .byte), .int], returnType := some .byte }, accessFlags := 8, code := some k9c1 }
def k9c2 : Code := { maxStack := 5, maxLocals := 6, code := jdk_52_method_16_code, exceptionTable := #[], attributes := #[] }
def k9m2 : Method := { name := "compress", desc := "([CII)[B", sig := { parameters := [(.array .char), .int, .int], returnType := some (.array .byte) }, accessFlags := 9, code := some k9c2 }
def k9c3 : Code := { maxStack := 3, maxLocals := 7, code := jdk_52_method_21_code, exceptionTable := #[], attributes := #[] }
def k9m3 : Method := { name := "compress", desc := "([CI[BII)I", sig := { parameters := [(.array .char), .int, (.array .byte), .int, .int], returnType := some .int }, accessFlags := 9, code := some k9c3 }
/-- java/lang/StringUTF16 -/
def k9 : Class := { plain "java/lang/StringUTF16" (some 0) with
  accessFlags := 48
  interfaces := #[]
  cf := some (fileOf pool9 12 #[.nestMembers #[627, 629, 369]] #[{ accessFlags := 0, nameIndex := 9, descriptorIndex := 10, attributes := #[] }, { accessFlags := 8, nameIndex := 261, descriptorIndex := 262, attributes := #[] }, { accessFlags := 9, nameIndex := 117, descriptorIndex := 122, attributes := #[] }, { accessFlags := 9, nameIndex := 117, descriptorIndex := 118, attributes := #[] }] 48 6 #[] #[{ accessFlags := 26, nameIndex := 61, descriptorIndex := 62, attributes := #[] }, { accessFlags := 26, nameIndex := 65, descriptorIndex := 62, attributes := #[] }, { accessFlags := 24, nameIndex := 430, descriptorIndex := 62, attributes := #[] }, { accessFlags := 4120, nameIndex := 46, descriptorIndex := 47, attributes := #[] }])
  fields := #[{ name := "HI_BYTE_SHIFT", type := .int, accessFlags := 26, slot := 0, constantValue := 0 }, { name := "LO_BYTE_SHIFT", type := .int, accessFlags := 26, slot := 1, constantValue := 0 }, { name := "MAX_LENGTH", type := .int, accessFlags := 24, slot := 2, constantValue := 0 }, { name := "$assertionsDisabled", type := .boolean, accessFlags := 4120, slot := 3, constantValue := 0 }]
  methods := #[k9m0, k9m1, k9m2, k9m3]
  instanceTypes := #[]
  staticTypes := #[.int, .int, .int, .boolean]
  resolved := Array.replicate 635 none
  statics := none }

def pool10 : Array CpInfo := pool [(1, .methodref 2 3), (0, .class_ 4), (0, .nameAndType 5 6), (0, u "java/lang/Object"), (0, u "<init>"), (0, u "()V"), (0, .string 8), (0, u ""), (0, .fieldref 10 11), (0, .class_ 12), (0, .nameAndType 13 14), (0, u "com/example/onepass/onepass/model/Fields"), (0, u "line"), (0, u "Ljava/lang/String;"), (0, .fieldref 10 16), (0, .nameAndType 17 18), (0, u "starts"), (0, u "[I"), (0, .fieldref 10 20), (0, .nameAndType 21 18), (0, u "ends"), (0, .fieldref 10 23), (0, .nameAndType 24 14), (0, u "delimiter"), (0, .fieldref 10 26), (0, .nameAndType 27 28), (0, u "lastNeeded"), (0, u "I"), (21, u "()I"), (13, u "(Ljava/lang/String;I)V"), (0, .fieldref 10 66), (0, .nameAndType 67 28), (0, u "count"), (0, .methodref 69 70), (0, .class_ 71), (0, .nameAndType 72 73), (0, u "java/lang/String"), (0, u "indexOf"), (0, u "(Ljava/lang/String;I)I"), (5, u "(I)Ljava/lang/String;"), (6, u "(Ljava/lang/String;)V"), (0, .methodref 69 88), (0, .nameAndType 89 50), (0, u "length"), (0, .methodref 10 91), (0, .nameAndType 92 93), (0, u "add"), (0, u "(II)V"), (6, .methodref 69 101), (0, .nameAndType 102 103), (0, u "substring"), (0, u "(II)Ljava/lang/String;"), (6, u "QUOTED_CHARS"), (9, u "cut"), (0, u "get")] 21

def k10c0 : Code := { maxStack := 2, maxLocals := 3, code := prog_71_method_1_code, exceptionTable := #[], attributes := #[] }
def k10m0 : Method := { name := "<init>", desc := "(Ljava/lang/String;I)V", sig := { parameters := [(.object "java/lang/String"), .int], returnType := none }, accessFlags := 0, code := some k10c0 }
def k10c1 : Code := { maxStack := 6, maxLocals := 4, code := prog_71_method_3_code, exceptionTable := #[], attributes := #[] }
def k10m1 : Method := { name := "cut", desc := "(Ljava/lang/String;)V", sig := { parameters := [(.object "java/lang/String")], returnType := none }, accessFlags := 0, code := some k10c1 }
def k10c2 : Code := { maxStack := 4, maxLocals := 3, code := prog_71_method_4_code, exceptionTable := #[], attributes := #[] }
def k10m2 : Method := { name := "add", desc := "(II)V", sig := { parameters := [.int, .int], returnType := none }, accessFlags := 2, code := some k10c2 }
def k10c3 : Code := { maxStack := 5, maxLocals := 2, code := prog_71_method_5_code, exceptionTable := #[], attributes := #[] }
def k10m3 : Method := { name := "get", desc := "(I)Ljava/lang/String;", sig := { parameters := [.int], returnType := some (.object "java/lang/String") }, accessFlags := 0, code := some k10c3 }
/-- com/example/onepass/onepass/model/Fields -/
def k10 : Class := { plain "com/example/onepass/onepass/model/Fields" (some 0) with
  accessFlags := 48
  interfaces := #[]
  cf := some (fileOf pool10 10 #[] #[{ accessFlags := 0, nameIndex := 5, descriptorIndex := 64, attributes := #[] }, { accessFlags := 0, nameIndex := 120, descriptorIndex := 86, attributes := #[] }, { accessFlags := 2, nameIndex := 92, descriptorIndex := 93, attributes := #[] }, { accessFlags := 0, nameIndex := 121, descriptorIndex := 79, attributes := #[] }] 48 2 #[] #[{ accessFlags := 26, nameIndex := 110, descriptorIndex := 28, attributes := #[] }, { accessFlags := 18, nameIndex := 24, descriptorIndex := 14, attributes := #[] }, { accessFlags := 18, nameIndex := 27, descriptorIndex := 28, attributes := #[] }, { accessFlags := 2, nameIndex := 13, descriptorIndex := 14, attributes := #[] }, { accessFlags := 2, nameIndex := 17, descriptorIndex := 18, attributes := #[] }, { accessFlags := 2, nameIndex := 21, descriptorIndex := 18, attributes := #[] }, { accessFlags := 2, nameIndex := 67, descriptorIndex := 28, attributes := #[] }])
  fields := #[{ name := "QUOTED_CHARS", type := .int, accessFlags := 26, slot := 0, constantValue := 0 }, { name := "delimiter", type := (.object "java/lang/String"), accessFlags := 18, slot := 0, constantValue := 0 }, { name := "lastNeeded", type := .int, accessFlags := 18, slot := 1, constantValue := 0 }, { name := "line", type := (.object "java/lang/String"), accessFlags := 2, slot := 2, constantValue := 0 }, { name := "starts", type := (.array .int), accessFlags := 2, slot := 3, constantValue := 0 }, { name := "ends", type := (.array .int), accessFlags := 2, slot := 4, constantValue := 0 }, { name := "count", type := .int, accessFlags := 2, slot := 5, constantValue := 0 }]
  methods := #[k10m0, k10m1, k10m2, k10m3]
  instanceTypes := #[(.object "java/lang/String"), .int, (.object "java/lang/String"), (.array .int), (.array .int), .int]
  staticTypes := #[.int]
  resolved := Array.replicate 143 none
  statics := none }

def pool11 : Array CpInfo := pool [(1, .class_ 2), (0, u "java/lang/Math"), (1, .class_ 6), (1, u "java/lang/Object"), (0, u "<init>"), (0, u "()V"), (89, .class_ 100), (1, u "java/lang/Math$RandomNumberGeneratorHolder"), (20, u "(JJ)J"), (50, u "negativeZeroFloatBits"), (0, u "J"), (2, u "negativeZeroDoubleBits"), (19, .methodref 1 197), (0, .nameAndType 198 121), (0, u "max"), (0, .methodref 1 200), (0, .nameAndType 201 121), (0, u "min"), (43, u "$assertionsDisabled"), (0, u "Z"), (88, u "(II)I"), (2, u "twoToTheDoubleScaleDown"), (0, u "D"), (4, u "twoToTheDoubleScaleUp"), (9, u "E"), (3, u "PI"), (2, u "TAU"), (2, u "DEGREES_TO_RADIANS"), (0, u "RADIANS_TO_DEGREES"), (56, u "clamp"), (0, u "(JII)I")] 36

def k11m0 : Method := { name := "<init>", desc := "()V", sig := { parameters := [], returnType := none }, accessFlags := 2, code := none }
def k11c1 : Code := { maxStack := 4, maxLocals := 4, code := jdk_29_method_66_code, exceptionTable := #[], attributes := #[] }
def k11m1 : Method := { name := "max", desc := "(JJ)J", sig := { parameters := [.long, .long], returnType := some .long }, accessFlags := 9, code := some k11c1 }
def k11c2 : Code := { maxStack := 2, maxLocals := 2, code := jdk_29_method_69_code, exceptionTable := #[], attributes := #[] }
def k11m2 : Method := { name := "min", desc := "(II)I", sig := { parameters := [.int, .int], returnType := some .int }, accessFlags := 9, code := some k11c2 }
def k11c3 : Code := { maxStack := 4, maxLocals := 4, code := jdk_29_method_70_code, exceptionTable := #[], attributes := #[] }
def k11m3 : Method := { name := "min", desc := "(JJ)J", sig := { parameters := [.long, .long], returnType := some .long }, accessFlags := 9, code := some k11c3 }
def k11c4 : Code := { maxStack := 6, maxLocals := 4, code := jdk_29_method_73_code, exceptionTable := #[], attributes := #[] }
def k11m4 : Method := { name := "clamp", desc := "(JII)I", sig := { parameters := [.long, .int, .int], returnType := some .int }, accessFlags := 9, code := some k11c4 }
/-- java/lang/Math -/
def k11 : Class := { plain "java/lang/Math" (some 0) with
  accessFlags := 49
  interfaces := #[]
  cf := some (fileOf pool11 1 #[.nestMembers #[98]] #[{ accessFlags := 2, nameIndex := 7, descriptorIndex := 8, attributes := #[] }, { accessFlags := 9, nameIndex := 198, descriptorIndex := 121, attributes := #[] }, { accessFlags := 9, nameIndex := 201, descriptorIndex := 335, attributes := #[] }, { accessFlags := 9, nameIndex := 201, descriptorIndex := 121, attributes := #[] }, { accessFlags := 9, nameIndex := 422, descriptorIndex := 423, attributes := #[] }] 49 4 #[] #[{ accessFlags := 25, nameIndex := 354, descriptorIndex := 339, attributes := #[] }, { accessFlags := 25, nameIndex := 358, descriptorIndex := 339, attributes := #[] }, { accessFlags := 25, nameIndex := 361, descriptorIndex := 339, attributes := #[] }, { accessFlags := 26, nameIndex := 364, descriptorIndex := 339, attributes := #[] }, { accessFlags := 26, nameIndex := 365, descriptorIndex := 339, attributes := #[] }, { accessFlags := 26, nameIndex := 172, descriptorIndex := 173, attributes := #[] }, { accessFlags := 26, nameIndex := 176, descriptorIndex := 173, attributes := #[] }, { accessFlags := 8, nameIndex := 344, descriptorIndex := 339, attributes := #[] }, { accessFlags := 8, nameIndex := 338, descriptorIndex := 339, attributes := #[] }, { accessFlags := 4120, nameIndex := 245, descriptorIndex := 246, attributes := #[] }])
  fields := #[{ name := "E", type := .double, accessFlags := 25, slot := 0, constantValue := 0 }, { name := "PI", type := .double, accessFlags := 25, slot := 1, constantValue := 0 }, { name := "TAU", type := .double, accessFlags := 25, slot := 2, constantValue := 0 }, { name := "DEGREES_TO_RADIANS", type := .double, accessFlags := 26, slot := 3, constantValue := 0 }, { name := "RADIANS_TO_DEGREES", type := .double, accessFlags := 26, slot := 4, constantValue := 0 }, { name := "negativeZeroFloatBits", type := .long, accessFlags := 26, slot := 5, constantValue := 0 }, { name := "negativeZeroDoubleBits", type := .long, accessFlags := 26, slot := 6, constantValue := 0 }, { name := "twoToTheDoubleScaleUp", type := .double, accessFlags := 8, slot := 7, constantValue := 0 }, { name := "twoToTheDoubleScaleDown", type := .double, accessFlags := 8, slot := 8, constantValue := 0 }, { name := "$assertionsDisabled", type := .boolean, accessFlags := 4120, slot := 9, constantValue := 0 }]
  methods := #[k11m0, k11m1, k11m2, k11m3, k11m4]
  instanceTypes := #[]
  staticTypes := #[.double, .double, .double, .double, .double, .long, .long, .double, .double, .boolean]
  resolved := Array.replicate 460 none
  statics := none }

def pool12 : Array CpInfo := pool [(2, .class_ 4), (1, u "java/lang/Object"), (0, u "<init>"), (0, u "()V"), (17, .class_ 26), (1, u "jdk/internal/util/Preconditions"), (6, u "checkIndex"), (13, u "checkFromToIndex"), (7, .class_ 56), (0, u "jdk/internal/util/Preconditions$4"), (57, .class_ 115), (0, u "jdk/internal/util/Preconditions$1"), (7, u "SIOOBE_FORMATTER"), (0, u "Ljava/util/function/BiFunction;"), (0, .class_ 126), (0, u "jdk/internal/util/Preconditions$2"), (3, u "AIOOBE_FORMATTER"), (0, .class_ 132), (0, u "jdk/internal/util/Preconditions$3"), (3, u "IOOBE_FORMATTER"), (41, u "(IILjava/util/function/BiFunction;)I"), (4, u "(IIILjava/util/function/BiFunction;)I")] 10

def k12m0 : Method := { name := "<init>", desc := "()V", sig := { parameters := [], returnType := none }, accessFlags := 1, code := none }
def k12c1 : Code := { maxStack := 3, maxLocals := 3, code := jdk_41_method_11_code, exceptionTable := #[], attributes := #[] }
def k12m1 : Method := { name := "checkIndex", desc := "(IILjava/util/function/BiFunction;)I", sig := { parameters := [.int, .int, (.object "java/util/function/BiFunction")], returnType := some .int }, accessFlags := 9, code := some k12c1 }
def k12c2 : Code := { maxStack := 4, maxLocals := 4, code := jdk_41_method_12_code, exceptionTable := #[], attributes := #[] }
def k12m2 : Method := { name := "checkFromToIndex", desc := "(IIILjava/util/function/BiFunction;)I", sig := { parameters := [.int, .int, .int, (.object "java/util/function/BiFunction")], returnType := some .int }, accessFlags := 9, code := some k12c2 }
/-- jdk/internal/util/Preconditions -/
def k12 : Class := { plain "jdk/internal/util/Preconditions" (some 0) with
  accessFlags := 33
  interfaces := #[]
  cf := some (fileOf pool12 24 #[.nestMembers #[55, 131, 125, 114]] #[{ accessFlags := 1, nameIndex := 5, descriptorIndex := 6, attributes := #[] }, { accessFlags := 9, nameIndex := 33, descriptorIndex := 178, attributes := #[] }, { accessFlags := 9, nameIndex := 47, descriptorIndex := 183, attributes := #[] }] 33 2 #[] #[{ accessFlags := 25, nameIndex := 123, descriptorIndex := 124, attributes := #[] }, { accessFlags := 25, nameIndex := 130, descriptorIndex := 124, attributes := #[] }, { accessFlags := 25, nameIndex := 136, descriptorIndex := 124, attributes := #[] }])
  fields := #[{ name := "SIOOBE_FORMATTER", type := (.object "java/util/function/BiFunction"), accessFlags := 25, slot := 0, constantValue := 0 }, { name := "AIOOBE_FORMATTER", type := (.object "java/util/function/BiFunction"), accessFlags := 25, slot := 1, constantValue := 0 }, { name := "IOOBE_FORMATTER", type := (.object "java/util/function/BiFunction"), accessFlags := 25, slot := 2, constantValue := 0 }]
  methods := #[k12m0, k12m1, k12m2]
  instanceTypes := #[]
  staticTypes := #[(.object "java/util/function/BiFunction"), (.object "java/util/function/BiFunction"), (.object "java/util/function/BiFunction")]
  resolved := Array.replicate 194 none
  statics := some 1 }

def pool13 : Array CpInfo := pool [(2, .class_ 4), (1, u "java/lang/Object"), (0, u "<init>"), (0, u "()V"), (7, .class_ 16), (1, u "java/util/Arrays"), (57, .class_ 76), (1, u "java/util/Arrays$NaturalOrder"), (36, .class_ 115), (1, u "java/util/Arrays$LegacyMergeSort"), (1, u "Z"), (21, u "copyOfRange"), (10, .methodref 151 152), (0, .class_ 153), (0, .nameAndType 154 155), (0, u "java/lang/System"), (0, u "arraycopy"), (0, u "(Ljava/lang/Object;ILjava/lang/Object;II)V"), (148, .methodref 305 306), (0, .class_ 307), (0, .nameAndType 308 309), (0, u "java/lang/Math"), (0, u "min"), (0, u "(II)I"), (29, .methodref 14 340), (0, .nameAndType 341 342), (0, u "copyOfRangeByte"), (0, u "([BII)[B"), (0, .methodref 14 344), (0, .nameAndType 345 346), (0, u "checkLength"), (0, u "(II)V"), (28, .class_ 376), (0, u "java/util/Arrays$ArrayList"), (68, u "$assertionsDisabled"), (269, u "MIN_ARRAY_SORT_GRAN"), (0, u "I"), (2, u "INSERTIONSORT_THRESHOLD"), (255, .class_ 976), (0, u "java/util/Arrays$ArrayItr")] 52

def k13m0 : Method := { name := "<init>", desc := "()V", sig := { parameters := [], returnType := none }, accessFlags := 2, code := none }
def k13c1 : Code := { maxStack := 4, maxLocals := 2, code := jdk_65_method_131_code, exceptionTable := #[], attributes := #[] }
def k13m1 : Method := { name := "checkLength", desc := "(II)V", sig := { parameters := [.int, .int], returnType := none }, accessFlags := 10, code := some k13c1 }
def k13c2 : Code := { maxStack := 3, maxLocals := 3, code := jdk_65_method_132_code, exceptionTable := #[], attributes := #[] }
def k13m2 : Method := { name := "copyOfRange", desc := "([BII)[B", sig := { parameters := [(.array .byte), .int, .int], returnType := some (.array .byte) }, accessFlags := 9, code := some k13c2 }
def k13c3 : Code := { maxStack := 6, maxLocals := 5, code := jdk_65_method_133_code, exceptionTable := #[], attributes := #[] }
def k13m3 : Method := { name := "copyOfRangeByte", desc := "([BII)[B", sig := { parameters := [(.array .byte), .int, .int], returnType := some (.array .byte) }, accessFlags := 10, code := some k13c3 }
/-- java/util/Arrays -/
def k13 : Class := { plain "java/util/Arrays" (some 0) with
  accessFlags := 49
  interfaces := #[]
  cf := some (fileOf pool13 14 #[.nestMembers #[975, 375, 113, 74]] #[{ accessFlags := 2, nameIndex := 5, descriptorIndex := 6, attributes := #[] }, { accessFlags := 10, nameIndex := 345, descriptorIndex := 346, attributes := #[] }, { accessFlags := 9, nameIndex := 139, descriptorIndex := 342, attributes := #[] }, { accessFlags := 10, nameIndex := 341, descriptorIndex := 342, attributes := #[] }] 49 2 #[] #[{ accessFlags := 26, nameIndex := 715, descriptorIndex := 716, attributes := #[] }, { accessFlags := 26, nameIndex := 719, descriptorIndex := 716, attributes := #[] }, { accessFlags := 4120, nameIndex := 445, descriptorIndex := 117, attributes := #[] }])
  fields := #[{ name := "MIN_ARRAY_SORT_GRAN", type := .int, accessFlags := 26, slot := 0, constantValue := 0 }, { name := "INSERTIONSORT_THRESHOLD", type := .int, accessFlags := 26, slot := 1, constantValue := 0 }, { name := "$assertionsDisabled", type := .boolean, accessFlags := 4120, slot := 2, constantValue := 0 }]
  methods := #[k13m0, k13m1, k13m2, k13m3]
  instanceTypes := #[]
  staticTypes := #[.int, .int, .boolean]
  resolved := Array.replicate 1029 none
  statics := none }

def pool14 : Array CpInfo := pool [(2, .class_ 4), (1, u "java/lang/Object"), (0, u "<init>"), (0, u "()V"), (1, .class_ 10), (1, u "java/lang/System"), (0, u "allowSecurityManager"), (0, u "I"), (16, u "cons"), (0, u "Ljava/io/Console;"), (77, .class_ 110), (1, u "java/lang/System$CallersHolder"), (43, u "initialErrStream"), (0, u "Ljava/io/PrintStream;"), (19, u "security"), (0, u "Ljava/lang/SecurityManager;"), (31, .class_ 209), (0, u "java/lang/System$1"), (7, u "props"), (0, u "Ljava/util/Properties;"), (2, u "lineSeparator"), (0, u "Ljava/lang/String;"), (96, .class_ 321), (1, u "java/lang/System$LoggerFinder"), (5, .class_ 328), (0, u "java/lang/System$Logger"), (67, u "err"), (2, u "out"), (91, u "notSupportedJnuEncoding"), (15, u "in"), (17, u "initialIn"), (0, u "Ljava/io/InputStream;"), (35, u "bootLayer"), (0, u "Ljava/lang/ModuleLayer;"), (99, .class_ 664), (0, u "java/lang/System$2"), (9, u "NEVER"), (2, u "MAYBE"), (49, u "arraycopy"), (0, u "(Ljava/lang/Object;ILjava/lang/Object;II)V"), (72, .class_ 802), (0, u "java/lang/System$Logger$Level")] 31

def k14m0 : Method := { name := "<init>", desc := "()V", sig := { parameters := [], returnType := none }, accessFlags := 2, code := none }
def k14m1 : Method := { name := "arraycopy", desc := "(Ljava/lang/Object;ILjava/lang/Object;II)V", sig := { parameters := [(.object "java/lang/Object"), .int, (.object "java/lang/Object"), .int, .int], returnType := none }, accessFlags := 265, code := none }
/-- java/lang/System -/
def k14 : Class := { plain "java/lang/System" (some 0) with
  accessFlags := 49
  interfaces := #[]
  cf := some (fileOf pool14 8 #[.nestMembers #[319, 327, 801, 108, 663, 208]] #[{ accessFlags := 2, nameIndex := 5, descriptorIndex := 6, attributes := #[] }, { accessFlags := 265, nameIndex := 727, descriptorIndex := 728, attributes := #[] }] 49 2 #[] #[{ accessFlags := 25, nameIndex := 507, descriptorIndex := 526, attributes := #[] }, { accessFlags := 25, nameIndex := 399, descriptorIndex := 155, attributes := #[] }, { accessFlags := 25, nameIndex := 396, descriptorIndex := 155, attributes := #[] }, { accessFlags := 10, nameIndex := 525, descriptorIndex := 526, attributes := #[] }, { accessFlags := 26, nameIndex := 674, descriptorIndex := 12, attributes := #[] }, { accessFlags := 26, nameIndex := 677, descriptorIndex := 12, attributes := #[] }, { accessFlags := 10, nameIndex := 11, descriptorIndex := 12, attributes := #[] }, { accessFlags := 74, nameIndex := 175, descriptorIndex := 176, attributes := #[] }, { accessFlags := 10, nameIndex := 491, descriptorIndex := 222, attributes := #[] }, { accessFlags := 74, nameIndex := 29, descriptorIndex := 30, attributes := #[] }, { accessFlags := 74, nameIndex := 154, descriptorIndex := 155, attributes := #[] }, { accessFlags := 10, nameIndex := 217, descriptorIndex := 218, attributes := #[] }, { accessFlags := 10, nameIndex := 221, descriptorIndex := 222, attributes := #[] }, { accessFlags := 8, nameIndex := 562, descriptorIndex := 563, attributes := #[] }])
  fields := #[{ name := "in", type := (.object "java/io/InputStream"), accessFlags := 25, slot := 0, constantValue := 0 }, { name := "out", type := (.object "java/io/PrintStream"), accessFlags := 25, slot := 1, constantValue := 0 }, { name := "err", type := (.object "java/io/PrintStream"), accessFlags := 25, slot := 2, constantValue := 0 }, { name := "initialIn", type := (.object "java/io/InputStream"), accessFlags := 10, slot := 3, constantValue := 0 }, { name := "NEVER", type := .int, accessFlags := 26, slot := 4, constantValue := 0 }, { name := "MAYBE", type := .int, accessFlags := 26, slot := 5, constantValue := 0 }, { name := "allowSecurityManager", type := .int, accessFlags := 10, slot := 6, constantValue := 0 }, { name := "security", type := (.object "java/lang/SecurityManager"), accessFlags := 74, slot := 7, constantValue := 0 }, { name := "notSupportedJnuEncoding", type := (.object "java/lang/String"), accessFlags := 10, slot := 8, constantValue := 0 }, { name := "cons", type := (.object "java/io/Console"), accessFlags := 74, slot := 9, constantValue := 0 }, { name := "initialErrStream", type := (.object "java/io/PrintStream"), accessFlags := 74, slot := 10, constantValue := 0 }, { name := "props", type := (.object "java/util/Properties"), accessFlags := 10, slot := 11, constantValue := 0 }, { name := "lineSeparator", type := (.object "java/lang/String"), accessFlags := 10, slot := 12, constantValue := 0 }, { name := "bootLayer", type := (.object "java/lang/ModuleLayer"), accessFlags := 8, slot := 13, constantValue := 0 }]
  methods := #[k14m0, k14m1]
  instanceTypes := #[]
  staticTypes := #[(.object "java/io/InputStream"), (.object "java/io/PrintStream"), (.object "java/io/PrintStream"), (.object "java/io/InputStream"), .int, .int, .int, (.object "java/lang/SecurityManager"), (.object "java/lang/String"), (.object "java/io/Console"), (.object "java/io/PrintStream"), (.object "java/util/Properties"), (.object "java/lang/String"), (.object "java/lang/ModuleLayer")]
  resolved := Array.replicate 834 none
  statics := none }

def pool15 : Array CpInfo := pool [(9, u "<init>"), (6, .class_ 18), (1, u "java/lang/Object"), (0, u "()V"), (1, .class_ 23), (1, u "jdk/internal/util/ArraysSupport"), (0, u "LOG2_ARRAY_LONG_INDEX_SCALE"), (0, u "I"), (2, u "U"), (0, u "Ljdk/internal/misc/Unsafe;"), (8, u "BIG_ENDIAN"), (0, u "Z"), (8, u "LOG2_BYTE_BIT_SIZE"), (4, u "LOG2_ARRAY_INT_INDEX_SCALE"), (54, u "JLA"), (0, u "Ljdk/internal/access/JavaLangAccess;"), (11, u "LOG2_ARRAY_BOOLEAN_INDEX_SCALE"), (9, u "LOG2_ARRAY_BYTE_INDEX_SCALE"), (5, u "LOG2_ARRAY_CHAR_INDEX_SCALE"), (5, u "LOG2_ARRAY_SHORT_INDEX_SCALE"), (18, u "LOG2_ARRAY_FLOAT_INDEX_SCALE"), (24, u "LOG2_ARRAY_DOUBLE_INDEX_SCALE"), (89, u "T_BOOLEAN"), (2, u "T_CHAR"), (1, u "T_FLOAT"), (1, u "T_DOUBLE"), (1, u "T_BYTE"), (1, u "T_SHORT"), (1, u "T_INT"), (1, u "T_LONG"), (1, u "SOFT_MAX_ARRAY_LENGTH")] 83

def k15m0 : Method := { name := "<init>", desc := "()V", sig := { parameters := [], returnType := none }, accessFlags := 2, code := none }
/-- jdk/internal/util/ArraysSupport -/
def k15 : Class := { plain "jdk/internal/util/ArraysSupport" (some 0) with
  accessFlags := 33
  interfaces := #[]
  cf := some (fileOf pool15 21 #[] #[{ accessFlags := 2, nameIndex := 9, descriptorIndex := 19, attributes := #[] }] 33 16 #[] #[{ accessFlags := 24, nameIndex := 28, descriptorIndex := 29, attributes := #[] }, { accessFlags := 26, nameIndex := 38, descriptorIndex := 39, attributes := #[] }, { accessFlags := 25, nameIndex := 121, descriptorIndex := 25, attributes := #[] }, { accessFlags := 25, nameIndex := 131, descriptorIndex := 25, attributes := #[] }, { accessFlags := 25, nameIndex := 137, descriptorIndex := 25, attributes := #[] }, { accessFlags := 25, nameIndex := 143, descriptorIndex := 25, attributes := #[] }, { accessFlags := 25, nameIndex := 53, descriptorIndex := 25, attributes := #[] }, { accessFlags := 25, nameIndex := 24, descriptorIndex := 25, attributes := #[] }, { accessFlags := 25, nameIndex := 162, descriptorIndex := 25, attributes := #[] }, { accessFlags := 25, nameIndex := 187, descriptorIndex := 25, attributes := #[] }, { accessFlags := 26, nameIndex := 48, descriptorIndex := 25, attributes := #[] }, { accessFlags := 25, nameIndex := 277, descriptorIndex := 25, attributes := #[] }, { accessFlags := 25, nameIndex := 280, descriptorIndex := 25, attributes := #[] }, { accessFlags := 25, nameIndex := 282, descriptorIndex := 25, attributes := #[] }, { accessFlags := 25, nameIndex := 284, descriptorIndex := 25, attributes := #[] }, { accessFlags := 25, nameIndex := 286, descriptorIndex := 25, attributes := #[] }, { accessFlags := 25, nameIndex := 288, descriptorIndex := 25, attributes := #[] }, { accessFlags := 25, nameIndex := 290, descriptorIndex := 25, attributes := #[] }, { accessFlags := 25, nameIndex := 292, descriptorIndex := 25, attributes := #[] }, { accessFlags := 26, nameIndex := 108, descriptorIndex := 109, attributes := #[] }, { accessFlags := 25, nameIndex := 294, descriptorIndex := 25, attributes := #[] }])
  fields := #[{ name := "U", type := (.object "jdk/internal/misc/Unsafe"), accessFlags := 24, slot := 0, constantValue := 0 }, { name := "BIG_ENDIAN", type := .boolean, accessFlags := 26, slot := 1, constantValue := 0 }, { name := "LOG2_ARRAY_BOOLEAN_INDEX_SCALE", type := .int, accessFlags := 25, slot := 2, constantValue := 0 }, { name := "LOG2_ARRAY_BYTE_INDEX_SCALE", type := .int, accessFlags := 25, slot := 3, constantValue := 0 }, { name := "LOG2_ARRAY_CHAR_INDEX_SCALE", type := .int, accessFlags := 25, slot := 4, constantValue := 0 }, { name := "LOG2_ARRAY_SHORT_INDEX_SCALE", type := .int, accessFlags := 25, slot := 5, constantValue := 0 }, { name := "LOG2_ARRAY_INT_INDEX_SCALE", type := .int, accessFlags := 25, slot := 6, constantValue := 0 }, { name := "LOG2_ARRAY_LONG_INDEX_SCALE", type := .int, accessFlags := 25, slot := 7, constantValue := 0 }, { name := "LOG2_ARRAY_FLOAT_INDEX_SCALE", type := .int, accessFlags := 25, slot := 8, constantValue := 0 }, { name := "LOG2_ARRAY_DOUBLE_INDEX_SCALE", type := .int, accessFlags := 25, slot := 9, constantValue := 0 }, { name := "LOG2_BYTE_BIT_SIZE", type := .int, accessFlags := 26, slot := 10, constantValue := 0 }, { name := "T_BOOLEAN", type := .int, accessFlags := 25, slot := 11, constantValue := 0 }, { name := "T_CHAR", type := .int, accessFlags := 25, slot := 12, constantValue := 0 }, { name := "T_FLOAT", type := .int, accessFlags := 25, slot := 13, constantValue := 0 }, { name := "T_DOUBLE", type := .int, accessFlags := 25, slot := 14, constantValue := 0 }, { name := "T_BYTE", type := .int, accessFlags := 25, slot := 15, constantValue := 0 }, { name := "T_SHORT", type := .int, accessFlags := 25, slot := 16, constantValue := 0 }, { name := "T_INT", type := .int, accessFlags := 25, slot := 17, constantValue := 0 }, { name := "T_LONG", type := .int, accessFlags := 25, slot := 18, constantValue := 0 }, { name := "JLA", type := (.object "jdk/internal/access/JavaLangAccess"), accessFlags := 26, slot := 19, constantValue := 0 }, { name := "SOFT_MAX_ARRAY_LENGTH", type := .int, accessFlags := 25, slot := 20, constantValue := 0 }]
  methods := #[k15m0]
  instanceTypes := #[]
  staticTypes := #[(.object "jdk/internal/misc/Unsafe"), .boolean, .int, .int, .int, .int, .int, .int, .int, .int, .int, .int, .int, .int, .int, .int, .int, .int, .int, (.object "jdk/internal/access/JavaLangAccess"), .int]
  resolved := Array.replicate 378 none
  statics := none }

def pool16 : Array CpInfo := pool [(1, u "java/lang/Cloneable"), (0, .class_ 1), (0, u "java/lang/Object"), (0, .class_ 3)] 3

/-- java/lang/Cloneable -/
def k16 : Class := { plain "java/lang/Cloneable" (some 0) with
  accessFlags := 1537
  interfaces := #[]
  cf := some (fileOf pool16 2 #[] #[] 1537 4 #[] #[])
  fields := #[]
  methods := #[]
  instanceTypes := #[]
  staticTypes := #[]
  resolved := Array.replicate 8 none
  statics := none }

/-- the primitive byte -/
def k17 : Class := { plain "byte" none with kind := .primitive 'B', accessFlags := 0x411 }
/-- [B -/
def k18 : Class := { plain "[B" (some 0) with kind := .array 17 .byte, interfaces := #[16, 2], accessFlags := 1041 }

/-- the primitive char -/
def k19 : Class := { plain "char" none with kind := .primitive 'C', accessFlags := 0x411 }
/-- [C -/
def k20 : Class := { plain "[C" (some 0) with kind := .array 19 .char, interfaces := #[16, 2], accessFlags := 1041 }

/-- the primitive int -/
def k21 : Class := { plain "int" none with kind := .primitive 'I', accessFlags := 0x411 }
/-- [I -/
def k22 : Class := { plain "[I" (some 0) with kind := .array 21 .int, interfaces := #[16, 2], accessFlags := 1041 }

def heap : Heap := #[{ cls := 7, slots := #[.long 0, .int 1, .null, .int 0, .null, .int 0, .int 0], vm := .statics 7 },
  { cls := 12, slots := #[.null, .null, .null], vm := .statics 12 }]
def classes : Array Class := #[k0, k1, k2, k3, k4, k5, k6, k7, k8, k9, k10, k11, k12, k13, k14, k15, k16, k17, k18, k19, k20, k21, k22]
def interned : List (Array UInt16 × Addr) := []
def slotsUsed : Nat := 10
def theMethod : MethodId := ⟨1, 1⟩
def args0 : Array Value := #[.int 5, .int 3, .int 4, .long 77, .int 44]
def aboutOver (below : List Frame) : State where
  vm := { classes := classes, interned := interned.toArray }
  heap := heap
  slotsUsed := slotsUsed
  threads := #[{ frames := .invoking theMethod args0 :: below }]
def below0 : List Frame := [.native { method := ⟨0, 0⟩, args := #[] }]
def about1 : State := aboutOver below0
def p0 : Program := .bare "" "" ""
def e0 : Env := launch0.env 0 0 0
theorem w_frames : about1.frames = Frame.invoking theMethod args0 :: below0 := rfl
set_option maxRecDepth 65536 in
theorem w_args : argsFit about1.vm theMethod args0 = true := by decide +kernel
set_option maxRecDepth 65536 in
theorem w_heap : heapFits about1 = true := by decide +kernel
set_option maxRecDepth 65536 in
theorem w_runnable : about1.curStatus? = some .runnable := by decide +kernel
set_option maxRecDepth 65536 in
theorem w_alone : about1.alone = true := by decide +kernel
set_option maxRecDepth 65536 in
theorem w_named : about1.methodNamed? x = some theMethod := by decide +kernel
set_option maxRecDepth 65536 in
theorem w_hears : about1.hears theMethod below0 = true := by decide +kernel
set_option maxRecDepth 65536 in
theorem w_ripe : about1.ripe theMethod args0 below0 = true := by decide +kernel
theorem w_running : about1.status = .running := rfl
set_option maxRecDepth 65536 in
theorem w_room : about1.hasRoom e0.platform room_1 = true :=
  launch0.hasRoom_least _ room_1 (by decide +kernel) (by decide +kernel) (by decide +kernel) (by decide +kernel) (by decide +kernel) (by decide +kernel)
theorem allAtoms_all (ts : List Jvm.Cond) (a : Array Jvm.Value) (st : Jvm.State) : (allAtoms ts).before a st = ts.all (fun c => c.before a st) := by
  induction ts with
  | nil => rfl
  | cons c t ih =>
    show (Jvm.Cond.and c (allAtoms t)).before a st = _
    rw [Jvm.Cond.before_and, ih, List.all_cons]
def words1 : List Jvm.Cond := Jvm.Cond.code x code maxLocals ret :: tables_1
/-- a 'code' word, met by the world's own term for the bytes: nothing is compared byte by byte -/
theorem code_word {y : MethodName} {bytes : ByteArray} {mx : Nat} {rt : Option FieldType} {a : Array Value} {s : State} {m : MethodId} {meth : Method} {c : Code} (h1 : s.methodNamed? y = some m) (h2 : s.vm.method? m = some meth) (h3 : meth.code = some c) (h4 : c.code = bytes)
    (h5 : (c.maxLocals == mx && c.exceptionTable.isEmpty && decide (c.maxStack ≤ mostOperands) && decide (meth.sig.returnType = rt) && !meth.locks && decide (parseMethodDescriptor y.desc = some meth.sig)) = true) : (Jvm.Cond.code y bytes mx rt).before a s = true := by
  simp only [Bool.and_eq_true, beq_iff_eq, Bool.not_eq_true', decide_eq_true_eq] at h5
  obtain ⟨⟨⟨⟨⟨g1, g2⟩, g3⟩, g4⟩, g5⟩, g6⟩ := h5
  simp [Cond.before, Cond.holds, Cond.value, h1, h2, h3, h4, g1, g2, g3, g4, g5, g6]
def isCode : Jvm.Cond → Bool
  | .code _ _ _ _ => true
  | _ => false
theorem all_split {L : List Jvm.Cond} {P : Jvm.Cond → Bool} (h1 : L.all (fun c => isCode c || P c) = true) (h2 : ∀ c ∈ L.filter isCode, P c = true) : L.all P = true := by
  refine List.all_eq_true.mpr fun c hc => ?_
  have h := List.all_eq_true.mp h1 c hc
  rcases Bool.eq_false_or_eq_true (isCode c) with hi | hi
  · exact h2 c (List.mem_filter.mpr ⟨hc, hi⟩)
  · simpa [hi] using h
set_option maxRecDepth 65536 in
theorem w_c0 : (Jvm.Cond.code x code maxLocals ret).before args0 about1 = true := code_word (m := ⟨1, 1⟩) (meth := k1m1) (c := k1c1) (by decide +kernel) rfl rfl rfl (by decide +kernel)
set_option maxRecDepth 65536 in
theorem w_c1 : (Jvm.Cond.code ({ cls := "com/example/onepass/onepass/model/FieldsGetPinLaw", name := "cell", desc := "(IIIICCJI)C" } : Jvm.MethodName) method_5_code (11 : Nat) (Option.some Jvm.ClassFile.FieldType.char)).before args0 about1 = true := code_word (m := ⟨1, 4⟩) (meth := k1m4) (c := k1c4) (by decide +kernel) rfl rfl rfl (by decide +kernel)
set_option maxRecDepth 65536 in
theorem w_c2 : (Jvm.Cond.code ({ cls := "com/example/onepass/onepass/model/FieldsGetPinLaw", name := "pick", desc := "(ICC)C" } : Jvm.MethodName) method_4_code (4 : Nat) (Option.some Jvm.ClassFile.FieldType.char)).before args0 about1 = true := code_word (m := ⟨1, 3⟩) (meth := k1m3) (c := k1c3) (by decide +kernel) rfl rfl rfl (by decide +kernel)
set_option maxRecDepth 65536 in
theorem w_c3 : (Jvm.Cond.code ({ cls := "java/lang/String", name := "valueOf", desc := "(C)Ljava/lang/String;" } : Jvm.MethodName) jdk_42_method_139_code (1 : Nat) (Option.some (Jvm.ClassFile.FieldType.object "java/lang/String"))).before args0 about1 = true := code_word (m := ⟨7, 7⟩) (meth := k7m7) (c := k7c7) (by decide +kernel) rfl rfl rfl (by decide +kernel)
set_option maxRecDepth 65536 in
theorem w_c4 : (Jvm.Cond.code ({ cls := "java/lang/StringLatin1", name := "canEncode", desc := "(C)Z" } : Jvm.MethodName) jdk_43_method_3_code (1 : Nat) (Option.some Jvm.ClassFile.FieldType.boolean)).before args0 about1 = true := code_word (m := ⟨8, 2⟩) (meth := k8m2) (c := k8c2) (by decide +kernel) rfl rfl rfl (by decide +kernel)
set_option maxRecDepth 65536 in
theorem w_c5 : (Jvm.Cond.code ({ cls := "java/lang/StringLatin1", name := "toBytes", desc := "(C)[B" } : Jvm.MethodName) jdk_43_method_46_code (1 : Nat) (Option.some (Jvm.ClassFile.FieldType.array Jvm.ClassFile.FieldType.byte))).before args0 about1 = true := code_word (m := ⟨8, 4⟩) (meth := k8m4) (c := k8c4) (by decide +kernel) rfl rfl rfl (by decide +kernel)
set_option maxRecDepth 65536 in
theorem w_c6 : (Jvm.Cond.code ({ cls := "java/lang/String", name := "<init>", desc := "([BB)V" } : Jvm.MethodName) jdk_42_method_151_code (3 : Nat) (Option.none : Option Jvm.ClassFile.FieldType)).before args0 about1 = true := code_word (m := ⟨7, 9⟩) (meth := k7m9) (c := k7c9) (by decide +kernel) rfl rfl rfl (by decide +kernel)
set_option maxRecDepth 65536 in
theorem w_c7 : (Jvm.Cond.code ({ cls := "java/lang/Object", name := "<init>", desc := "()V" } : Jvm.MethodName) object_method_1_code (1 : Nat) (Option.none : Option Jvm.ClassFile.FieldType)).before args0 about1 = true := code_word (m := ⟨0, 0⟩) (meth := k0m0) (c := k0c0) (by decide +kernel) rfl rfl rfl (by decide +kernel)
set_option maxRecDepth 65536 in
theorem w_c8 : (Jvm.Cond.code ({ cls := "java/lang/String", name := "<init>", desc := "([C)V" } : Jvm.MethodName) jdk_42_method_3_code (2 : Nat) (Option.none : Option Jvm.ClassFile.FieldType)).before args0 about1 = true := code_word (m := ⟨7, 1⟩) (meth := k7m1) (c := k7c1) (by decide +kernel) rfl rfl rfl (by decide +kernel)
set_option maxRecDepth 65536 in
theorem w_c9 : (Jvm.Cond.code ({ cls := "java/lang/String", name := "<init>", desc := "([CIILjava/lang/Void;)V" } : Jvm.MethodName) jdk_42_method_149_code (6 : Nat) (Option.none : Option Jvm.ClassFile.FieldType)).before args0 about1 = true := code_word (m := ⟨7, 8⟩) (meth := k7m8) (c := k7c8) (by decide +kernel) rfl rfl rfl (by decide +kernel)
set_option maxRecDepth 65536 in
theorem w_c10 : (Jvm.Cond.code ({ cls := "java/lang/StringUTF16", name := "compress", desc := "([CII)[B" } : Jvm.MethodName) jdk_52_method_16_code (6 : Nat) (Option.some (Jvm.ClassFile.FieldType.array Jvm.ClassFile.FieldType.byte))).before args0 about1 = true := code_word (m := ⟨9, 2⟩) (meth := k9m2) (c := k9c2) (by decide +kernel) rfl rfl rfl (by decide +kernel)
set_option maxRecDepth 65536 in
theorem w_c11 : (Jvm.Cond.code ({ cls := "java/lang/StringUTF16", name := "compress", desc := "([CI[BII)I" } : Jvm.MethodName) jdk_52_method_21_code (7 : Nat) (Option.some Jvm.ClassFile.FieldType.int)).before args0 about1 = true := code_word (m := ⟨9, 3⟩) (meth := k9m3) (c := k9c3) (by decide +kernel) rfl rfl rfl (by decide +kernel)
set_option maxRecDepth 65536 in
theorem w_c12 : (Jvm.Cond.code ({ cls := "java/lang/StringUTF16", name := "coderFromArrayLen", desc := "([BI)B" } : Jvm.MethodName) jdk_52_method_15_code (2 : Nat) (Option.some Jvm.ClassFile.FieldType.byte)).before args0 about1 = true := code_word (m := ⟨9, 1⟩) (meth := k9m1) (c := k9c1) (by decide +kernel) rfl rfl rfl (by decide +kernel)
set_option maxRecDepth 65536 in
theorem w_c13 : (Jvm.Cond.code ({ cls := "com/example/onepass/onepass/model/Fields", name := "<init>", desc := "(Ljava/lang/String;I)V" } : Jvm.MethodName) prog_71_method_1_code (3 : Nat) (Option.none : Option Jvm.ClassFile.FieldType)).before args0 about1 = true := code_word (m := ⟨10, 0⟩) (meth := k10m0) (c := k10c0) (by decide +kernel) rfl rfl rfl (by decide +kernel)
set_option maxRecDepth 65536 in
theorem w_c14 : (Jvm.Cond.code ({ cls := "com/example/onepass/onepass/model/Fields", name := "cut", desc := "(Ljava/lang/String;)V" } : Jvm.MethodName) prog_71_method_3_code (4 : Nat) (Option.none : Option Jvm.ClassFile.FieldType)).before args0 about1 = true := code_word (m := ⟨10, 1⟩) (meth := k10m1) (c := k10c1) (by decide +kernel) rfl rfl rfl (by decide +kernel)
set_option maxRecDepth 65536 in
theorem w_c15 : (Jvm.Cond.code ({ cls := "java/lang/String", name := "indexOf", desc := "(Ljava/lang/String;I)I" } : Jvm.MethodName) jdk_42_method_85_code (3 : Nat) (Option.some Jvm.ClassFile.FieldType.int)).before args0 about1 = true := code_word (m := ⟨7, 4⟩) (meth := k7m4) (c := k7c4) (by decide +kernel) rfl rfl rfl (by decide +kernel)
set_option maxRecDepth 65536 in
theorem w_c16 : (Jvm.Cond.code ({ cls := "java/lang/String", name := "coder", desc := "()B" } : Jvm.MethodName) jdk_42_method_152_code (1 : Nat) (Option.some Jvm.ClassFile.FieldType.byte)).before args0 about1 = true := code_word (m := ⟨7, 10⟩) (meth := k7m10) (c := k7c10) (by decide +kernel) rfl rfl rfl (by decide +kernel)
set_option maxRecDepth 65536 in
theorem w_c17 : (Jvm.Cond.code ({ cls := "java/lang/String", name := "length", desc := "()I" } : Jvm.MethodName) jdk_42_method_54_code (1 : Nat) (Option.some Jvm.ClassFile.FieldType.int)).before args0 about1 = true := code_word (m := ⟨7, 2⟩) (meth := k7m2) (c := k7c2) (by decide +kernel) rfl rfl rfl (by decide +kernel)
set_option maxRecDepth 65536 in
theorem w_c18 : (Jvm.Cond.code ({ cls := "java/lang/String", name := "indexOf", desc := "([BBILjava/lang/String;I)I" } : Jvm.MethodName) jdk_42_method_87_code (8 : Nat) (Option.some Jvm.ClassFile.FieldType.int)).before args0 about1 = true := code_word (m := ⟨7, 5⟩) (meth := k7m5) (c := k7c5) (by decide +kernel) rfl rfl rfl (by decide +kernel)
set_option maxRecDepth 65536 in
theorem w_c19 : (Jvm.Cond.code ({ cls := "java/lang/Math", name := "clamp", desc := "(JII)I" } : Jvm.MethodName) jdk_29_method_73_code (4 : Nat) (Option.some Jvm.ClassFile.FieldType.int)).before args0 about1 = true := code_word (m := ⟨11, 4⟩) (meth := k11m4) (c := k11c4) (by decide +kernel) rfl rfl rfl (by decide +kernel)
set_option maxRecDepth 65536 in
theorem w_c20 : (Jvm.Cond.code ({ cls := "java/lang/Math", name := "max", desc := "(JJ)J" } : Jvm.MethodName) jdk_29_method_66_code (4 : Nat) (Option.some Jvm.ClassFile.FieldType.long)).before args0 about1 = true := code_word (m := ⟨11, 1⟩) (meth := k11m1) (c := k11c1) (by decide +kernel) rfl rfl rfl (by decide +kernel)
set_option maxRecDepth 65536 in
theorem w_c21 : (Jvm.Cond.code ({ cls := "java/lang/Math", name := "min", desc := "(JJ)J" } : Jvm.MethodName) jdk_29_method_70_code (4 : Nat) (Option.some Jvm.ClassFile.FieldType.long)).before args0 about1 = true := code_word (m := ⟨11, 3⟩) (meth := k11m3) (c := k11c3) (by decide +kernel) rfl rfl rfl (by decide +kernel)
set_option maxRecDepth 65536 in
theorem w_c22 : (Jvm.Cond.code ({ cls := "java/lang/StringLatin1", name := "indexOf", desc := "([BI[BII)I" } : Jvm.MethodName) jdk_43_method_25_code (11 : Nat) (Option.some Jvm.ClassFile.FieldType.int)).before args0 about1 = true := code_word (m := ⟨8, 3⟩) (meth := k8m3) (c := k8c3) (by decide +kernel) rfl rfl rfl (by decide +kernel)
set_option maxRecDepth 65536 in
theorem w_c23 : (Jvm.Cond.code ({ cls := "com/example/onepass/onepass/model/Fields", name := "add", desc := "(II)V" } : Jvm.MethodName) prog_71_method_4_code (3 : Nat) (Option.none : Option Jvm.ClassFile.FieldType)).before args0 about1 = true := code_word (m := ⟨10, 2⟩) (meth := k10m2) (c := k10c2) (by decide +kernel) rfl rfl rfl (by decide +kernel)
set_option maxRecDepth 65536 in
theorem w_c24 : (Jvm.Cond.code ({ cls := "com/example/onepass/onepass/model/Fields", name := "get", desc := "(I)Ljava/lang/String;" } : Jvm.MethodName) prog_71_method_5_code (2 : Nat) (Option.some (Jvm.ClassFile.FieldType.object "java/lang/String"))).before args0 about1 = true := code_word (m := ⟨10, 3⟩) (meth := k10m3) (c := k10c3) (by decide +kernel) rfl rfl rfl (by decide +kernel)
set_option maxRecDepth 65536 in
theorem w_c25 : (Jvm.Cond.code ({ cls := "java/lang/String", name := "substring", desc := "(II)Ljava/lang/String;" } : Jvm.MethodName) jdk_42_method_92_code (5 : Nat) (Option.some (Jvm.ClassFile.FieldType.object "java/lang/String"))).before args0 about1 = true := code_word (m := ⟨7, 6⟩) (meth := k7m6) (c := k7c6) (by decide +kernel) rfl rfl rfl (by decide +kernel)
set_option maxRecDepth 65536 in
theorem w_c26 : (Jvm.Cond.code ({ cls := "java/lang/String", name := "checkBoundsBeginEnd", desc := "(III)V" } : Jvm.MethodName) jdk_42_method_158_code (3 : Nat) (Option.none : Option Jvm.ClassFile.FieldType)).before args0 about1 = true := code_word (m := ⟨7, 13⟩) (meth := k7m13) (c := k7c13) (by decide +kernel) rfl rfl rfl (by decide +kernel)
set_option maxRecDepth 65536 in
theorem w_c27 : (Jvm.Cond.code ({ cls := "jdk/internal/util/Preconditions", name := "checkFromToIndex", desc := "(IIILjava/util/function/BiFunction;)I" } : Jvm.MethodName) jdk_41_method_12_code (4 : Nat) (Option.some Jvm.ClassFile.FieldType.int)).before args0 about1 = true := code_word (m := ⟨12, 2⟩) (meth := k12m2) (c := k12c2) (by decide +kernel) rfl rfl rfl (by decide +kernel)
set_option maxRecDepth 65536 in
theorem w_c28 : (Jvm.Cond.code ({ cls := "java/lang/String", name := "isLatin1", desc := "()Z" } : Jvm.MethodName) jdk_42_method_154_code (1 : Nat) (Option.some Jvm.ClassFile.FieldType.boolean)).before args0 about1 = true := code_word (m := ⟨7, 11⟩) (meth := k7m11) (c := k7c11) (by decide +kernel) rfl rfl rfl (by decide +kernel)
set_option maxRecDepth 65536 in
theorem w_c29 : (Jvm.Cond.code ({ cls := "java/lang/StringLatin1", name := "newString", desc := "([BII)Ljava/lang/String;" } : Jvm.MethodName) jdk_43_method_47_code (3 : Nat) (Option.some (Jvm.ClassFile.FieldType.object "java/lang/String"))).before args0 about1 = true := code_word (m := ⟨8, 5⟩) (meth := k8m5) (c := k8c5) (by decide +kernel) rfl rfl rfl (by decide +kernel)
set_option maxRecDepth 65536 in
theorem w_c30 : (Jvm.Cond.code ({ cls := "java/util/Arrays", name := "copyOfRange", desc := "([BII)[B" } : Jvm.MethodName) jdk_65_method_132_code (3 : Nat) (Option.some (Jvm.ClassFile.FieldType.array Jvm.ClassFile.FieldType.byte))).before args0 about1 = true := code_word (m := ⟨13, 2⟩) (meth := k13m2) (c := k13c2) (by decide +kernel) rfl rfl rfl (by decide +kernel)
set_option maxRecDepth 65536 in
theorem w_c31 : (Jvm.Cond.code ({ cls := "java/util/Arrays", name := "copyOfRangeByte", desc := "([BII)[B" } : Jvm.MethodName) jdk_65_method_133_code (5 : Nat) (Option.some (Jvm.ClassFile.FieldType.array Jvm.ClassFile.FieldType.byte))).before args0 about1 = true := code_word (m := ⟨13, 3⟩) (meth := k13m3) (c := k13c3) (by decide +kernel) rfl rfl rfl (by decide +kernel)
set_option maxRecDepth 65536 in
theorem w_c32 : (Jvm.Cond.code ({ cls := "java/util/Arrays", name := "checkLength", desc := "(II)V" } : Jvm.MethodName) jdk_65_method_131_code (2 : Nat) (Option.none : Option Jvm.ClassFile.FieldType)).before args0 about1 = true := code_word (m := ⟨13, 1⟩) (meth := k13m1) (c := k13c1) (by decide +kernel) rfl rfl rfl (by decide +kernel)
set_option maxRecDepth 65536 in
theorem w_c33 : (Jvm.Cond.code ({ cls := "java/lang/Math", name := "min", desc := "(II)I" } : Jvm.MethodName) jdk_29_method_69_code (2 : Nat) (Option.some Jvm.ClassFile.FieldType.int)).before args0 about1 = true := code_word (m := ⟨11, 2⟩) (meth := k11m2) (c := k11c2) (by decide +kernel) rfl rfl rfl (by decide +kernel)
set_option maxRecDepth 65536 in
theorem w_c34 : (Jvm.Cond.code ({ cls := "com/example/onepass/onepass/model/FieldsGetPinLaw", name := "same", desc := "(Ljava/lang/String;[CII)Z" } : Jvm.MethodName) method_3_code (4 : Nat) (Option.some Jvm.ClassFile.FieldType.boolean)).before args0 about1 = true := code_word (m := ⟨1, 2⟩) (meth := k1m2) (c := k1c2) (by decide +kernel) rfl rfl rfl (by decide +kernel)
set_option maxRecDepth 65536 in
theorem w_c35 : (Jvm.Cond.code ({ cls := "java/lang/String", name := "charAt", desc := "(I)C" } : Jvm.MethodName) jdk_42_method_56_code (2 : Nat) (Option.some Jvm.ClassFile.FieldType.char)).before args0 about1 = true := code_word (m := ⟨7, 3⟩) (meth := k7m3) (c := k7c3) (by decide +kernel) rfl rfl rfl (by decide +kernel)
set_option maxRecDepth 65536 in
theorem w_c36 : (Jvm.Cond.code ({ cls := "java/lang/StringLatin1", name := "charAt", desc := "([BI)C" } : Jvm.MethodName) jdk_43_method_2_code (2 : Nat) (Option.some Jvm.ClassFile.FieldType.char)).before args0 about1 = true := code_word (m := ⟨8, 1⟩) (meth := k8m1) (c := k8c1) (by decide +kernel) rfl rfl rfl (by decide +kernel)
set_option maxRecDepth 65536 in
theorem w_c37 : (Jvm.Cond.code ({ cls := "java/lang/String", name := "checkIndex", desc := "(II)V" } : Jvm.MethodName) jdk_42_method_155_code (2 : Nat) (Option.none : Option Jvm.ClassFile.FieldType)).before args0 about1 = true := code_word (m := ⟨7, 12⟩) (meth := k7m12) (c := k7c12) (by decide +kernel) rfl rfl rfl (by decide +kernel)
set_option maxRecDepth 65536 in
theorem w_c38 : (Jvm.Cond.code ({ cls := "jdk/internal/util/Preconditions", name := "checkIndex", desc := "(IILjava/util/function/BiFunction;)I" } : Jvm.MethodName) jdk_41_method_11_code (3 : Nat) (Option.some Jvm.ClassFile.FieldType.int)).before args0 about1 = true := code_word (m := ⟨12, 1⟩) (meth := k12m1) (c := k12c1) (by decide +kernel) rfl rfl rfl (by decide +kernel)
def codes1 : List Jvm.Cond := [Jvm.Cond.code x code maxLocals ret, Jvm.Cond.code ({ cls := "com/example/onepass/onepass/model/FieldsGetPinLaw", name := "cell", desc := "(IIIICCJI)C" } : Jvm.MethodName) method_5_code (11 : Nat) (Option.some Jvm.ClassFile.FieldType.char), Jvm.Cond.code ({ cls := "com/example/onepass/onepass/model/FieldsGetPinLaw", name := "pick", desc := "(ICC)C" } : Jvm.MethodName) method_4_code (4 : Nat) (Option.some Jvm.ClassFile.FieldType.char), Jvm.Cond.code ({ cls := "java/lang/String", name := "valueOf", desc := "(C)Ljava/lang/String;" } : Jvm.MethodName) jdk_42_method_139_code (1 : Nat) (Option.some (Jvm.ClassFile.FieldType.object "java/lang/String")), Jvm.Cond.code ({ cls := "java/lang/StringLatin1", name := "canEncode", desc := "(C)Z" } : Jvm.MethodName) jdk_43_method_3_code (1 : Nat) (Option.some Jvm.ClassFile.FieldType.boolean), Jvm.Cond.code ({ cls := "java/lang/StringLatin1", name := "toBytes", desc := "(C)[B" } : Jvm.MethodName) jdk_43_method_46_code (1 : Nat) (Option.some (Jvm.ClassFile.FieldType.array Jvm.ClassFile.FieldType.byte)), Jvm.Cond.code ({ cls := "java/lang/String", name := "<init>", desc := "([BB)V" } : Jvm.MethodName) jdk_42_method_151_code (3 : Nat) (Option.none : Option Jvm.ClassFile.FieldType), Jvm.Cond.code ({ cls := "java/lang/Object", name := "<init>", desc := "()V" } : Jvm.MethodName) object_method_1_code (1 : Nat) (Option.none : Option Jvm.ClassFile.FieldType), Jvm.Cond.code ({ cls := "java/lang/String", name := "<init>", desc := "([C)V" } : Jvm.MethodName) jdk_42_method_3_code (2 : Nat) (Option.none : Option Jvm.ClassFile.FieldType), Jvm.Cond.code ({ cls := "java/lang/String", name := "<init>", desc := "([CIILjava/lang/Void;)V" } : Jvm.MethodName) jdk_42_method_149_code (6 : Nat) (Option.none : Option Jvm.ClassFile.FieldType), Jvm.Cond.code ({ cls := "java/lang/StringUTF16", name := "compress", desc := "([CII)[B" } : Jvm.MethodName) jdk_52_method_16_code (6 : Nat) (Option.some (Jvm.ClassFile.FieldType.array Jvm.ClassFile.FieldType.byte)), Jvm.Cond.code ({ cls := "java/lang/StringUTF16", name := "compress", desc := "([CI[BII)I" } : Jvm.MethodName) jdk_52_method_21_code (7 : Nat) (Option.some Jvm.ClassFile.FieldType.int), Jvm.Cond.code ({ cls := "java/lang/StringUTF16", name := "coderFromArrayLen", desc := "([BI)B" } : Jvm.MethodName) jdk_52_method_15_code (2 : Nat) (Option.some Jvm.ClassFile.FieldType.byte), Jvm.Cond.code ({ cls := "com/example/onepass/onepass/model/Fields", name := "<init>", desc := "(Ljava/lang/String;I)V" } : Jvm.MethodName) prog_71_method_1_code (3 : Nat) (Option.none : Option Jvm.ClassFile.FieldType), Jvm.Cond.code ({ cls := "com/example/onepass/onepass/model/Fields", name := "cut", desc := "(Ljava/lang/String;)V" } : Jvm.MethodName) prog_71_method_3_code (4 : Nat) (Option.none : Option Jvm.ClassFile.FieldType), Jvm.Cond.code ({ cls := "java/lang/String", name := "indexOf", desc := "(Ljava/lang/String;I)I" } : Jvm.MethodName) jdk_42_method_85_code (3 : Nat) (Option.some Jvm.ClassFile.FieldType.int), Jvm.Cond.code ({ cls := "java/lang/String", name := "coder", desc := "()B" } : Jvm.MethodName) jdk_42_method_152_code (1 : Nat) (Option.some Jvm.ClassFile.FieldType.byte), Jvm.Cond.code ({ cls := "java/lang/String", name := "length", desc := "()I" } : Jvm.MethodName) jdk_42_method_54_code (1 : Nat) (Option.some Jvm.ClassFile.FieldType.int), Jvm.Cond.code ({ cls := "java/lang/String", name := "indexOf", desc := "([BBILjava/lang/String;I)I" } : Jvm.MethodName) jdk_42_method_87_code (8 : Nat) (Option.some Jvm.ClassFile.FieldType.int), Jvm.Cond.code ({ cls := "java/lang/Math", name := "clamp", desc := "(JII)I" } : Jvm.MethodName) jdk_29_method_73_code (4 : Nat) (Option.some Jvm.ClassFile.FieldType.int), Jvm.Cond.code ({ cls := "java/lang/Math", name := "max", desc := "(JJ)J" } : Jvm.MethodName) jdk_29_method_66_code (4 : Nat) (Option.some Jvm.ClassFile.FieldType.long), Jvm.Cond.code ({ cls := "java/lang/Math", name := "min", desc := "(JJ)J" } : Jvm.MethodName) jdk_29_method_70_code (4 : Nat) (Option.some Jvm.ClassFile.FieldType.long), Jvm.Cond.code ({ cls := "java/lang/StringLatin1", name := "indexOf", desc := "([BI[BII)I" } : Jvm.MethodName) jdk_43_method_25_code (11 : Nat) (Option.some Jvm.ClassFile.FieldType.int), Jvm.Cond.code ({ cls := "com/example/onepass/onepass/model/Fields", name := "add", desc := "(II)V" } : Jvm.MethodName) prog_71_method_4_code (3 : Nat) (Option.none : Option Jvm.ClassFile.FieldType), Jvm.Cond.code ({ cls := "com/example/onepass/onepass/model/Fields", name := "get", desc := "(I)Ljava/lang/String;" } : Jvm.MethodName) prog_71_method_5_code (2 : Nat) (Option.some (Jvm.ClassFile.FieldType.object "java/lang/String")), Jvm.Cond.code ({ cls := "java/lang/String", name := "substring", desc := "(II)Ljava/lang/String;" } : Jvm.MethodName) jdk_42_method_92_code (5 : Nat) (Option.some (Jvm.ClassFile.FieldType.object "java/lang/String")), Jvm.Cond.code ({ cls := "java/lang/String", name := "checkBoundsBeginEnd", desc := "(III)V" } : Jvm.MethodName) jdk_42_method_158_code (3 : Nat) (Option.none : Option Jvm.ClassFile.FieldType), Jvm.Cond.code ({ cls := "jdk/internal/util/Preconditions", name := "checkFromToIndex", desc := "(IIILjava/util/function/BiFunction;)I" } : Jvm.MethodName) jdk_41_method_12_code (4 : Nat) (Option.some Jvm.ClassFile.FieldType.int), Jvm.Cond.code ({ cls := "java/lang/String", name := "isLatin1", desc := "()Z" } : Jvm.MethodName) jdk_42_method_154_code (1 : Nat) (Option.some Jvm.ClassFile.FieldType.boolean), Jvm.Cond.code ({ cls := "java/lang/StringLatin1", name := "newString", desc := "([BII)Ljava/lang/String;" } : Jvm.MethodName) jdk_43_method_47_code (3 : Nat) (Option.some (Jvm.ClassFile.FieldType.object "java/lang/String")), Jvm.Cond.code ({ cls := "java/util/Arrays", name := "copyOfRange", desc := "([BII)[B" } : Jvm.MethodName) jdk_65_method_132_code (3 : Nat) (Option.some (Jvm.ClassFile.FieldType.array Jvm.ClassFile.FieldType.byte)), Jvm.Cond.code ({ cls := "java/util/Arrays", name := "copyOfRangeByte", desc := "([BII)[B" } : Jvm.MethodName) jdk_65_method_133_code (5 : Nat) (Option.some (Jvm.ClassFile.FieldType.array Jvm.ClassFile.FieldType.byte)), Jvm.Cond.code ({ cls := "java/util/Arrays", name := "checkLength", desc := "(II)V" } : Jvm.MethodName) jdk_65_method_131_code (2 : Nat) (Option.none : Option Jvm.ClassFile.FieldType), Jvm.Cond.code ({ cls := "java/lang/Math", name := "min", desc := "(II)I" } : Jvm.MethodName) jdk_29_method_69_code (2 : Nat) (Option.some Jvm.ClassFile.FieldType.int), Jvm.Cond.code ({ cls := "com/example/onepass/onepass/model/FieldsGetPinLaw", name := "same", desc := "(Ljava/lang/String;[CII)Z" } : Jvm.MethodName) method_3_code (4 : Nat) (Option.some Jvm.ClassFile.FieldType.boolean), Jvm.Cond.code ({ cls := "java/lang/String", name := "charAt", desc := "(I)C" } : Jvm.MethodName) jdk_42_method_56_code (2 : Nat) (Option.some Jvm.ClassFile.FieldType.char), Jvm.Cond.code ({ cls := "java/lang/StringLatin1", name := "charAt", desc := "([BI)C" } : Jvm.MethodName) jdk_43_method_2_code (2 : Nat) (Option.some Jvm.ClassFile.FieldType.char), Jvm.Cond.code ({ cls := "java/lang/String", name := "checkIndex", desc := "(II)V" } : Jvm.MethodName) jdk_42_method_155_code (2 : Nat) (Option.none : Option Jvm.ClassFile.FieldType), Jvm.Cond.code ({ cls := "jdk/internal/util/Preconditions", name := "checkIndex", desc := "(IILjava/util/function/BiFunction;)I" } : Jvm.MethodName) jdk_41_method_11_code (3 : Nat) (Option.some Jvm.ClassFile.FieldType.int)]
set_option maxRecDepth 65536 in
theorem codes_eq : words1.filter isCode = codes1 := rfl
theorem w_codes : ∀ c ∈ words1.filter isCode, c.before args0 about1 = true := by
  rw [codes_eq]
  intro c hc
  simp only [codes1, List.mem_cons, List.not_mem_nil, or_false] at hc
  rcases hc with rfl | rfl | rfl | rfl | rfl | rfl | rfl | rfl | rfl | rfl | rfl | rfl | rfl | rfl | rfl | rfl | rfl | rfl | rfl | rfl | rfl | rfl | rfl | rfl | rfl | rfl | rfl | rfl | rfl | rfl | rfl | rfl | rfl | rfl | rfl | rfl | rfl | rfl | rfl
  · exact w_c0
  · exact w_c1
  · exact w_c2
  · exact w_c3
  · exact w_c4
  · exact w_c5
  · exact w_c6
  · exact w_c7
  · exact w_c8
  · exact w_c9
  · exact w_c10
  · exact w_c11
  · exact w_c12
  · exact w_c13
  · exact w_c14
  · exact w_c15
  · exact w_c16
  · exact w_c17
  · exact w_c18
  · exact w_c19
  · exact w_c20
  · exact w_c21
  · exact w_c22
  · exact w_c23
  · exact w_c24
  · exact w_c25
  · exact w_c26
  · exact w_c27
  · exact w_c28
  · exact w_c29
  · exact w_c30
  · exact w_c31
  · exact w_c32
  · exact w_c33
  · exact w_c34
  · exact w_c35
  · exact w_c36
  · exact w_c37
  · exact w_c38
set_option maxRecDepth 65536 in
theorem w_t1 : (words1.take 24).all (fun c => isCode c || c.before args0 about1) = true := by decide +kernel
set_option maxRecDepth 65536 in
theorem w_t2 : ((words1.drop 24).take 24).all (fun c => isCode c || c.before args0 about1) = true := by decide +kernel
set_option maxRecDepth 65536 in
theorem w_t3 : (((words1.drop 24).drop 24).take 24).all (fun c => isCode c || c.before args0 about1) = true := by decide +kernel
set_option maxRecDepth 65536 in
theorem w_t4 : ((((words1.drop 24).drop 24).drop 24).take 24).all (fun c => isCode c || c.before args0 about1) = true := by decide +kernel
set_option maxRecDepth 65536 in
theorem w_t5 : (((((words1.drop 24).drop 24).drop 24).drop 24).take 24).all (fun c => isCode c || c.before args0 about1) = true := by decide +kernel
set_option maxRecDepth 65536 in
theorem w_t6 : ((((((words1.drop 24).drop 24).drop 24).drop 24).drop 24).take 24).all (fun c => isCode c || c.before args0 about1) = true := by decide +kernel
set_option maxRecDepth 65536 in
theorem w_t7 : (((((((words1.drop 24).drop 24).drop 24).drop 24).drop 24).drop 24).take 24).all (fun c => isCode c || c.before args0 about1) = true := by decide +kernel
set_option maxRecDepth 65536 in
theorem w_t8 : (((((((words1.drop 24).drop 24).drop 24).drop 24).drop 24).drop 24).drop 24).all (fun c => isCode c || c.before args0 about1) = true := by decide +kernel
theorem w_tables : (allAtoms (Jvm.Cond.code x code maxLocals ret :: tables_1)).before args0 about1 = true := by
  rw [allAtoms_all]
  show words1.all (fun c => c.before args0 about1) = true
  refine all_split ?_ w_codes
  rw [← List.take_append_drop 24 words1, List.all_append, w_t1, ← List.take_append_drop 24 (words1.drop 24), List.all_append, w_t2, ← List.take_append_drop 24 ((words1.drop 24).drop 24), List.all_append, w_t3, ← List.take_append_drop 24 (((words1.drop 24).drop 24).drop 24), List.all_append, w_t4, ← List.take_append_drop 24 ((((words1.drop 24).drop 24).drop 24).drop 24), List.all_append, w_t5, ← List.take_append_drop 24 (((((words1.drop 24).drop 24).drop 24).drop 24).drop 24), List.all_append, w_t6, ← List.take_append_drop 24 ((((((words1.drop 24).drop 24).drop 24).drop 24).drop 24).drop 24), List.all_append, w_t7, w_t8]
  rfl
set_option maxRecDepth 65536 in
theorem w_rest : rest_1_c.before args0 about1 = true := by decide +kernel
set_option maxRecDepth 65536 in
theorem w_case : (Jvm.Cond.and given_1 narrow_1).before args0 about1 = true := by decide +kernel
set_option maxRecDepth 65536 in
theorem w_consts : constsHeld consts_1 about1 := Jvm.Lit.constsHeldB_iff.mp (by decide +kernel)
theorem w_applies : (headSpec (Jvm.Cond.code x code maxLocals ret :: tables_1) room_1).applies x e0.platform about1 = true :=
  (Spec.applies_iff w_frames).mpr ⟨w_running, w_runnable, w_alone, w_named, w_hears, w_ripe, w_room, w_tables⟩
theorem atStart : AtStart classFile x code maxLocals ret World_1 tables_1 room_1 Calls_1 rest_1 Pre_1 launch0 p0 e0 about1 theMethod args0 below0 :=
  ⟨lists_1, trivial, launch0.admits_env _ _ _, launch0.least_env, fairChoices_fair.cas, fairChoices_fair.clock, w_frames, w_args, w_heap, w_applies, ⟨w_consts, trivial⟩, w_rest, w_case⟩
end start1
theorem witness_1 : WitnessClaimed_1 := ⟨start1.p0, start1.e0, start1.about1, start1.theMethod, start1.args0, start1.below0, start1.atStart⟩
end Jvm.Pilot.@@N@@
