import JvmDerived
import JvmDerived.Pilot.@@N@@Statement
import JvmDerived.Pilot.@@N@@Code
set_option linter.unusedVariables false
set_option linter.unusedSimpArgs false
namespace Jvm.Pilot.@@N@@
open Jvm Jvm.ClassFile Sem Op Lib Jvm.Free Jvm.Stand Jvm.LawKit Jvm.RoadKit Bundle Jvm.Pilot.@@N@@.Jvm.D

/-! a segment of plain instructions, run by evaluation -/
abbrev PI := Nat × Instr × Nat × Int32
def getK {ρ : Type} : List Slot → Nat → (Slot → Option ρ) → Option ρ
  | [], _, _ => none
  | a :: _, 0, κ => κ a
  | _ :: l, i + 1, κ => getK l i κ
def setK {ρ : Type} : List Slot → Nat → Slot → (List Slot → Option ρ) → Option ρ
  | [], _, _, _ => none
  | _ :: l, 0, x, κ => κ (x :: l)
  | a :: l, i + 1, x, κ => setK l i x (fun l' => κ (a :: l'))
def stK {ρ : Type} (l : List Slot) (i : Nat) (v : Value) (κ : List Slot → Option ρ) : Option ρ :=
  getK l i fun
    | .unset => setK l i (.val v) κ
    | .val (.int _) => setK l i (.val v) κ
    | .val .null => setK l i (.val v) κ
    | .val (.ref _) => setK l i (.val v) κ
    | .val (.long _) => setK l (i + 1) .unset fun l' => setK l' i (.val v) κ
    | _ => none
def stKL {ρ : Type} (l : List Slot) (i : Nat) (v : Int64) (κ : List Slot → Option ρ) : Option ρ :=
  getK l i fun
    | .unset => getK l (i + 1) fun
      | .unset => setK l i (.val (.long v)) fun l' => setK l' (i + 1) .second κ
      | .val (.int _) => setK l i (.val (.long v)) fun l' => setK l' (i + 1) .second κ
      | .val .null => setK l i (.val (.long v)) fun l' => setK l' (i + 1) .second κ
      | .val (.ref _) => setK l i (.val (.long v)) fun l' => setK l' (i + 1) .second κ
      | _ => none
    | .val (.int _) => getK l (i + 1) fun
      | .unset => setK l i (.val (.long v)) fun l' => setK l' (i + 1) .second κ
      | .val (.int _) => setK l i (.val (.long v)) fun l' => setK l' (i + 1) .second κ
      | .val .null => setK l i (.val (.long v)) fun l' => setK l' (i + 1) .second κ
      | .val (.ref _) => setK l i (.val (.long v)) fun l' => setK l' (i + 1) .second κ
      | _ => none
    | .val (.ref _) => getK l (i + 1) fun
      | .unset => setK l i (.val (.long v)) fun l' => setK l' (i + 1) .second κ
      | .val (.int _) => setK l i (.val (.long v)) fun l' => setK l' (i + 1) .second κ
      | .val .null => setK l i (.val (.long v)) fun l' => setK l' (i + 1) .second κ
      | .val (.ref _) => setK l i (.val (.long v)) fun l' => setK l' (i + 1) .second κ
      | _ => none
    | .val (.long _) => getK l (i + 1) fun
      | .second => setK l i (.val (.long v)) κ
      | _ => none
    | _ => none
def pst {ρ : Type} (i : Instr) (v : Int32) (ls : List Slot) (st : List Value) (κ : List Slot → List Value → Option ρ) : Option ρ :=
  match i with
  | .aload_n k => getK ls k.val fun
    | .val (.ref a) => κ ls (.ref a :: st)
    | .val .null => κ ls (.null :: st)
    | _ => none
  | .aload k => getK ls k fun
    | .val (.ref a) => κ ls (.ref a :: st)
    | .val .null => κ ls (.null :: st)
    | _ => none
  | .iload_n k => getK ls k.val fun
    | .val (.int x) => κ ls (.int x :: st)
    | _ => none
  | .iload k => getK ls k fun
    | .val (.int x) => κ ls (.int x :: st)
    | _ => none
  | .lload_n k => getK ls k.val fun
    | .val (.long x) => κ ls (.long x :: st)
    | _ => none
  | .lload k => getK ls k fun
    | .val (.long x) => κ ls (.long x :: st)
    | _ => none
  | .iconst c => κ ls (.int v :: st)
  | .bipush c => κ ls (.int v :: st)
  | .sipush c => κ ls (.int v :: st)
  | .lconst c => κ ls (.long (Int64.ofNat c.val) :: st)
  | .aconst_null => κ ls (.null :: st)
  | .iadd => match st with
    | .int y :: .int x :: r => κ ls (.int (x + y) :: r)
    | _ => none
  | .isub => match st with
    | .int y :: .int x :: r => κ ls (.int (x - y) :: r)
    | _ => none
  | .imul => match st with
    | .int y :: .int x :: r => κ ls (.int (x * y) :: r)
    | _ => none
  | .iand => match st with
    | .int y :: .int x :: r => κ ls (.int (x &&& y) :: r)
    | _ => none
  | .ior => match st with
    | .int y :: .int x :: r => κ ls (.int (x ||| y) :: r)
    | _ => none
  | .ixor => match st with
    | .int y :: .int x :: r => κ ls (.int (x ^^^ y) :: r)
    | _ => none
  | .ishl => match st with
    | .int y :: .int x :: r => κ ls (.int (x <<< (y &&& 31)) :: r)
    | _ => none
  | .ishr => match st with
    | .int y :: .int x :: r => κ ls (.int (x >>> (y &&& 31)) :: r)
    | _ => none
  | .iushr => match st with
    | .int y :: .int x :: r => κ ls (.int (XT.ushr x y) :: r)
    | _ => none
  | .ladd => match st with
    | .long y :: .long x :: r => κ ls (.long (x + y) :: r)
    | _ => none
  | .lsub => match st with
    | .long y :: .long x :: r => κ ls (.long (x - y) :: r)
    | _ => none
  | .lmul => match st with
    | .long y :: .long x :: r => κ ls (.long (x * y) :: r)
    | _ => none
  | .land => match st with
    | .long y :: .long x :: r => κ ls (.long (x &&& y) :: r)
    | _ => none
  | .lor => match st with
    | .long y :: .long x :: r => κ ls (.long (x ||| y) :: r)
    | _ => none
  | .lxor => match st with
    | .long y :: .long x :: r => κ ls (.long (x ^^^ y) :: r)
    | _ => none
  | .lshl => match st with
    | .int y :: .long x :: r => κ ls (.long (x <<< (y.toInt64 &&& 63)) :: r)
    | _ => none
  | .lshr => match st with
    | .int y :: .long x :: r => κ ls (.long (x >>> (y.toInt64 &&& 63)) :: r)
    | _ => none
  | .lushr => match st with
    | .int y :: .long x :: r => κ ls (.long (XT.ushrL x y) :: r)
    | _ => none
  | .ineg => match st with
    | .int x :: r => κ ls (.int (-x) :: r)
    | _ => none
  | .lneg => match st with
    | .long x :: r => κ ls (.long (-x) :: r)
    | _ => none
  | .i2l => match st with
    | .int x :: r => κ ls (.long (x.toInt64) :: r)
    | _ => none
  | .l2i => match st with
    | .long x :: r => κ ls (.int (x.toInt32) :: r)
    | _ => none
  | .i2b => match st with
    | .int x :: r => κ ls (.int (x.toInt8.toInt32) :: r)
    | _ => none
  | .i2c => match st with
    | .int x :: r => κ ls (.int (x.toUInt32.toUInt16.toUInt32.toInt32) :: r)
    | _ => none
  | .i2s => match st with
    | .int x :: r => κ ls (.int (x.toInt16.toInt32) :: r)
    | _ => none
  | .lcmp => match st with
    | .long y :: .long x :: r => κ ls (.int (XT.cmpL x y) :: r)
    | _ => none
  | .pop => match st with
    | .int x :: r => κ ls (r)
    | .ref x :: r => κ ls (r)
    | .null :: r => κ ls (r)
    | _ => none
  | .dup => match st with
    | .int x :: r => κ ls (.int x :: .int x :: r)
    | .ref x :: r => κ ls (.ref x :: .ref x :: r)
    | .null :: r => κ ls (.null :: .null :: r)
    | _ => none
  | .dup_x1 => match st with
    | .int x :: .int y :: r => κ ls (.int x :: .int y :: .int x :: r)
    | .int x :: .ref y :: r => κ ls (.int x :: .ref y :: .int x :: r)
    | .int x :: .null :: r => κ ls (.int x :: .null :: .int x :: r)
    | .ref x :: .int y :: r => κ ls (.ref x :: .int y :: .ref x :: r)
    | .ref x :: .ref y :: r => κ ls (.ref x :: .ref y :: .ref x :: r)
    | .ref x :: .null :: r => κ ls (.ref x :: .null :: .ref x :: r)
    | .null :: .int y :: r => κ ls (.null :: .int y :: .null :: r)
    | .null :: .ref y :: r => κ ls (.null :: .ref y :: .null :: r)
    | .null :: .null :: r => κ ls (.null :: .null :: .null :: r)
    | _ => none
  | .dup2 => match st with
    | .long x :: r => κ ls (.long x :: .long x :: r)
    | .int x :: .int y :: r => κ ls (.int x :: .int y :: .int x :: .int y :: r)
    | .int x :: .ref y :: r => κ ls (.int x :: .ref y :: .int x :: .ref y :: r)
    | .ref x :: .int y :: r => κ ls (.ref x :: .int y :: .ref x :: .int y :: r)
    | .ref x :: .ref y :: r => κ ls (.ref x :: .ref y :: .ref x :: .ref y :: r)
    | _ => none
  | .istore_n k => match st with
    | .int x :: r => stK ls k.val (.int x) fun ls' => κ ls' r
    | _ => none
  | .istore k => match st with
    | .int x :: r => stK ls k (.int x) fun ls' => κ ls' r
    | _ => none
  | .astore_n k => match st with
    | .ref x :: r => stK ls k.val (.ref x) fun ls' => κ ls' r
    | .null :: r => stK ls k.val .null fun ls' => κ ls' r
    | _ => none
  | .astore k => match st with
    | .ref x :: r => stK ls k (.ref x) fun ls' => κ ls' r
    | .null :: r => stK ls k .null fun ls' => κ ls' r
    | _ => none
  | .lstore_n k => match st with
    | .long x :: r => stKL ls k.val x fun ls' => κ ls' r
    | _ => none
  | .lstore k => match st with
    | .long x :: r => stKL ls k x fun ls' => κ ls' r
    | _ => none
  | .iinc k c => getK ls k fun
    | .val (.int x) => stK ls k (.int (x + v)) fun ls' => κ ls' st
    | _ => none
  | .goto _ => κ ls st
  | _ => none
def ilen : Instr → Nat
  | .aload _ => 2
  | .iload _ => 2
  | .lload _ => 2
  | .astore _ => 2
  | .istore _ => 2
  | .lstore _ => 2
  | .bipush _ => 2
  | .iinc _ _ => 3
  | .sipush _ => 3
  | .goto _ => 3
  | _ => 1
def ival (v : Int32) : Instr → Prop
  | .iconst c => Int32.ofInt c = v
  | .bipush c => (Int8.ofInt c).toInt32 = v
  | .sipush c => (Int16.ofInt c).toInt32 = v
  | .iinc _ c => Int32.ofInt c = v
  | _ => True
instance {v : Int32} {i : Instr} : Decidable (ival v i) := by unfold ival; split <;> infer_instance
def inxt (pc nx : Nat) : Instr → Prop
  | .goto o => 0 ≤ (pc : Int) + o ∧ ((pc : Int) + o).toNat = nx
  | i => pc + ilen i = nx
instance {pc nx : Nat} {i : Instr} : Decidable (inxt pc nx i) := by unfold inxt; split <;> infer_instance
def segOk (code : ByteArray) : Nat → List PI → Nat → Bool
  | pc, [], pe => decide (pc = pe)
  | pc, (q, i, nx, v) :: r, pe => decide (q = pc) && decide (decode code pc = .ok (i, ilen i)) && decide (ival v i) && decide (inxt pc nx i) && segOk code nx r pe
def prun : List PI → List Slot → List Value → Option (List Slot × List Value)
  | [], ls, st => some (ls, st)
  | (_, i, _, v) :: r, ls, st => pst i v ls st fun ls' st' => prun r ls' st'
theorem getK_some {ρ : Type} {κ : Slot → Option ρ} {r : ρ} : ∀ {l : List Slot} {i : Nat}, getK l i κ = some r → ∃ a, l[i]? = some a ∧ κ a = some r
  | [], _, h => by cases h
  | a :: _, 0, h => ⟨a, rfl, h⟩
  | _ :: l, i + 1, h => by obtain ⟨a, h1, h2⟩ := getK_some (l := l) h; exact ⟨a, by simpa using h1, h2⟩
theorem setK_some {ρ : Type} {x : Slot} {r : ρ} : ∀ {l : List Slot} {i : Nat} {κ : List Slot → Option ρ}, setK l i x κ = some r → i < l.length ∧ κ (l.set i x) = some r
  | [], _, _, h => by cases h
  | a :: _, 0, _, h => ⟨by simp, h⟩
  | _ :: l, i + 1, _, h => by obtain ⟨h1, h2⟩ := setK_some (l := l) h; exact ⟨by simpa using h1, by simpa using h2⟩
theorem setAt_list {l : List Slot} {i : Nat} {x : Slot} (h : i < l.length) : setAt l.toArray i x = some (l.set i x).toArray := by simp [setAt, h]
theorem cat_i (x : Int32) : (Value.int x).category = 1 := rfl
theorem cat_l (x : Int64) : (Value.long x).category = 2 := rfl
theorem cat_r (x : Addr) : (Value.ref x).category = 1 := rfl
theorem cat_n : Value.null.category = 1 := rfl
theorem stK_some {ρ : Type} {r : ρ} {v : Value} (hv : v.category = 1) {l : List Slot} {i : Nat} {κ : List Slot → Option ρ} (h : stK l i v κ = some r) : ∃ l', storeLocals l.toArray i v = some l'.toArray ∧ l'.length = l.length ∧ κ l' = some r := by
  obtain ⟨a, h1, h2⟩ := getK_some h
  have e : l.toArray[i]? = some a := by simpa using h1
  split at h2
  all_goals first
    | (cases h2; done)
    | (obtain ⟨h3, h4⟩ := setK_some h2; exact ⟨l.set i (.val v), by simp [storeLocals, storeSelf, e, h1, setAt_list h3, hv, cat_i, cat_l, cat_r, cat_n], by simp, h4⟩)
    | (obtain ⟨h3, h4⟩ := setK_some h2; obtain ⟨h5, h6⟩ := setK_some h4; exact ⟨(l.set (i + 1) .unset).set i (.val v), by simp [storeLocals, storeSelf, e, h1, setAt_list h3, setAt_list h5, hv, cat_i, cat_l, cat_r, cat_n], by simp, h6⟩)
theorem stKL_one {ρ : Type} {r : ρ} {v : Int64} {l : List Slot} {i : Nat} {κ : List Slot → Option ρ} {a : Slot} (h1 : l[i]? = some a) (ha : a = .unset ∨ ∃ w, a = .val w ∧ w.category = 1)
    (h2 : (getK l (i + 1) fun
      | .unset => setK l i (.val (.long v)) fun l' => setK l' (i + 1) .second κ
      | .val (.int _) => setK l i (.val (.long v)) fun l' => setK l' (i + 1) .second κ
      | .val .null => setK l i (.val (.long v)) fun l' => setK l' (i + 1) .second κ
      | .val (.ref _) => setK l i (.val (.long v)) fun l' => setK l' (i + 1) .second κ
      | _ => none) = some r) : ∃ l', storeLocals l.toArray i (.long v) = some l'.toArray ∧ l'.length = l.length ∧ κ l' = some r := by
  obtain ⟨b, h3, h4⟩ := getK_some h2
  have e : l.toArray[i]? = some a := by simpa using h1
  have e' : (l.set i (.val (.long v))).toArray[i + 1]? = some b := by simpa [List.getElem?_set] using h3
  have hs : storeSelf l.toArray i (.long v) = storeLocals l.toArray i (.long v) := by
    rcases ha with rfl | ⟨w, rfl, hw⟩ <;> simp [storeLocals, h1, *]
  rw [← hs]
  split at h4
  all_goals first
    | (cases h4; done)
    | (obtain ⟨h5, h6⟩ := setK_some h4; obtain ⟨h7, h8⟩ := setK_some h6
       refine ⟨(l.set i (.val (.long v))).set (i + 1) .second, ?_, by simp, h8⟩
       simp only [storeSelf, setAt_list h5, setAt_list h7, e', cat_i, cat_l, cat_r, cat_n, Option.bind_eq_bind, Option.bind_some, if_true, if_false, reduceIte, Nat.reduceEqDiff])
theorem stKL_some {ρ : Type} {r : ρ} {v : Int64} {l : List Slot} {i : Nat} {κ : List Slot → Option ρ} (h : stKL l i v κ = some r) : ∃ l', storeLocals l.toArray i (.long v) = some l'.toArray ∧ l'.length = l.length ∧ κ l' = some r := by
  obtain ⟨a, h1, h2⟩ := getK_some h
  have e : l.toArray[i]? = some a := by simpa using h1
  split at h2
  · exact stKL_one h1 (Or.inl rfl) h2
  · exact stKL_one h1 (Or.inr ⟨_, rfl, rfl⟩) h2
  · exact stKL_one h1 (Or.inr ⟨_, rfl, rfl⟩) h2
  · obtain ⟨b, h3, h4⟩ := getK_some h2
    split at h4
    · obtain ⟨h5, h6⟩ := setK_some h4
      have h7 : i + 1 < l.length := (List.getElem?_eq_some_iff.mp h3).1
      have q : ((l.set (i + 1) .unset).set i (.val (.long v))).set (i + 1) .second = l.set i (.val (.long v)) := by
        apply List.ext_getElem?; intro j
        simp only [List.getElem?_set, List.length_set]
        by_cases e1 : i + 1 = j
        · subst e1; obtain ⟨_, h8⟩ := List.getElem?_eq_some_iff.mp h3; simp [h7, h8]
        · simp [e1]
      refine ⟨l.set i (.val (.long v)), ?_, by simp, h6⟩
      rw [← q]
      have a1 : setAt l.toArray (i + 1) .unset = some (l.set (i + 1) .unset).toArray := setAt_list h7
      have a2 : setAt (l.set (i + 1) .unset).toArray i (.val (.long v)) = some ((l.set (i + 1) .unset).set i (.val (.long v))).toArray := setAt_list (by simpa using h5)
      have a3 : setAt ((l.set (i + 1) .unset).set i (.val (.long v))).toArray (i + 1) .second = some (((l.set (i + 1) .unset).set i (.val (.long v))).set (i + 1) .second).toArray := setAt_list (by simpa using h7)
      have a4 : ((l.set (i + 1) .unset).set i (.val (.long v))).toArray[i + 1]? = some .unset := by simp [List.getElem?_set, h7]
      simp only [storeLocals, storeSelf, e, a1, a2, a3, a4, cat_l, Option.bind_eq_bind, Option.bind_some, if_true]
    · cases h4
  · cases h2

theorem pst_sound {ρ : Type} {r : ρ} {tb : Tables} [Ours tb] {e : Env} {below : List Frame} {T : State} {m : MethodId} {c : Code} {code : ByteArray} (hA : At T m c below) (hx : tb.exec = Jvm.exec) (hc : c.code = code) {i : Instr} {v : Int32} {pc nx : Nat} {ls : List Slot} {st : List Value} {κ : List Slot → List Value → Option ρ}
    (hd : decode code pc = .ok (i, ilen i)) (hv : ival v i) (hn : inxt pc nx i) (h : pst i v ls st κ = some r) :
    ∃ ls' st', ls'.length = ls.length ∧ κ ls' st' = some r ∧ ∀ t, Steps tb e below (T.setTop (mkF m nx ls'.toArray st')) t → Steps tb e below (T.setTop (mkF m pc ls.toArray st)) t := by
  cases i
  case goto o => exact ⟨_, _, rfl, h, fun t hr => XS.goto hA hx rfl rfl (hb hc hd) hn.1 hn.2 hr⟩
  all_goals first
    | exact nomatch (show none = some _ from h)
    | (change _ = nx at hn; subst hn)
  case aload_n k => 
    obtain ⟨a, h1, h2⟩ := getK_some h
    split at h2
    · exact ⟨_, _, rfl, h2, fun t hr => XS.aloadN hA hx rfl (hb hc hd) (by simpa using h1) rfl hr⟩
    · exact ⟨_, _, rfl, h2, fun t hr => XS.aloadN hA hx rfl (hb hc hd) (by simpa using h1) rfl hr⟩
    · cases h2
  case aload k => 
    obtain ⟨a, h1, h2⟩ := getK_some h
    split at h2
    · exact ⟨_, _, rfl, h2, fun t hr => XS.aload hA hx rfl (hb hc hd) (by simpa using h1) rfl hr⟩
    · exact ⟨_, _, rfl, h2, fun t hr => XS.aload hA hx rfl (hb hc hd) (by simpa using h1) rfl hr⟩
    · cases h2
  case iload_n k => 
    obtain ⟨a, h1, h2⟩ := getK_some h
    split at h2
    · exact ⟨_, _, rfl, h2, fun t hr => XS.iloadN hA hx rfl (hb hc hd) (by simpa using h1) hr⟩
    · cases h2
  case iload k => 
    obtain ⟨a, h1, h2⟩ := getK_some h
    split at h2
    · exact ⟨_, _, rfl, h2, fun t hr => XS.iload hA hx rfl (hb hc hd) (by simpa using h1) hr⟩
    · cases h2
  case lload_n k => 
    obtain ⟨a, h1, h2⟩ := getK_some h
    split at h2
    · exact ⟨_, _, rfl, h2, fun t hr => XT.lloadN hA hx rfl (hb hc hd) (by simpa using h1) hr⟩
    · cases h2
  case lload k => 
    obtain ⟨a, h1, h2⟩ := getK_some h
    split at h2
    · exact ⟨_, _, rfl, h2, fun t hr => XT.lload hA hx rfl (hb hc hd) (by simpa using h1) hr⟩
    · cases h2
  case iconst c => exact ⟨_, _, rfl, h, fun t hr => XS.iconst hA hx rfl (hb hc hd) (by rw [hv]; exact hr)⟩
  case bipush c => exact ⟨_, _, rfl, h, fun t hr => XS.bipush hA hx rfl (hb hc hd) (by rw [hv]; exact hr)⟩
  case sipush c => exact ⟨_, _, rfl, h, fun t hr => XS.sipush hA hx rfl (hb hc hd) (by rw [hv]; exact hr)⟩
  case lconst c => exact ⟨_, _, rfl, h, fun t hr => XT.lconst hA hx rfl (hb hc hd) hr⟩
  case aconst_null => exact ⟨_, _, rfl, h, fun t hr => XS.aconstNull hA hx rfl (hb hc hd) hr⟩
  case iadd => 
    simp only [pst] at h
    split at h
    · exact ⟨_, _, rfl, h, fun t hr => XS.iadd hA hx rfl (hb hc hd) rfl hr⟩
    · cases h
  case isub => 
    simp only [pst] at h
    split at h
    · exact ⟨_, _, rfl, h, fun t hr => XS.isub hA hx rfl (hb hc hd) rfl hr⟩
    · cases h
  case imul => 
    simp only [pst] at h
    split at h
    · exact ⟨_, _, rfl, h, fun t hr => XS.imul hA hx rfl (hb hc hd) rfl hr⟩
    · cases h
  case iand => 
    simp only [pst] at h
    split at h
    · exact ⟨_, _, rfl, h, fun t hr => XS.iand hA hx rfl (hb hc hd) rfl hr⟩
    · cases h
  case ior => 
    simp only [pst] at h
    split at h
    · exact ⟨_, _, rfl, h, fun t hr => XT.ior hA hx rfl (hb hc hd) rfl hr⟩
    · cases h
  case ixor => 
    simp only [pst] at h
    split at h
    · exact ⟨_, _, rfl, h, fun t hr => XT.ixor hA hx rfl (hb hc hd) rfl hr⟩
    · cases h
  case ishl => 
    simp only [pst] at h
    split at h
    · exact ⟨_, _, rfl, h, fun t hr => XT.ishl hA hx rfl (hb hc hd) rfl hr⟩
    · cases h
  case ishr => 
    simp only [pst] at h
    split at h
    · exact ⟨_, _, rfl, h, fun t hr => XT.ishr hA hx rfl (hb hc hd) rfl hr⟩
    · cases h
  case iushr => 
    simp only [pst] at h
    split at h
    · exact ⟨_, _, rfl, h, fun t hr => XT.iushr hA hx rfl (hb hc hd) rfl hr⟩
    · cases h
  case ladd => 
    simp only [pst] at h
    split at h
    · exact ⟨_, _, rfl, h, fun t hr => XT.ladd hA hx rfl (hb hc hd) rfl hr⟩
    · cases h
  case lsub => 
    simp only [pst] at h
    split at h
    · exact ⟨_, _, rfl, h, fun t hr => XT.lsub hA hx rfl (hb hc hd) rfl hr⟩
    · cases h
  case lmul => 
    simp only [pst] at h
    split at h
    · exact ⟨_, _, rfl, h, fun t hr => XT.lmul hA hx rfl (hb hc hd) rfl hr⟩
    · cases h
  case land => 
    simp only [pst] at h
    split at h
    · exact ⟨_, _, rfl, h, fun t hr => XT.land hA hx rfl (hb hc hd) rfl hr⟩
    · cases h
  case lor => 
    simp only [pst] at h
    split at h
    · exact ⟨_, _, rfl, h, fun t hr => XT.lor hA hx rfl (hb hc hd) rfl hr⟩
    · cases h
  case lxor => 
    simp only [pst] at h
    split at h
    · exact ⟨_, _, rfl, h, fun t hr => XT.lxor hA hx rfl (hb hc hd) rfl hr⟩
    · cases h
  case lshl => 
    simp only [pst] at h
    split at h
    · exact ⟨_, _, rfl, h, fun t hr => XT.lshl hA hx rfl (hb hc hd) rfl hr⟩
    · cases h
  case lshr => 
    simp only [pst] at h
    split at h
    · exact ⟨_, _, rfl, h, fun t hr => XT.lshr hA hx rfl (hb hc hd) rfl hr⟩
    · cases h
  case lushr => 
    simp only [pst] at h
    split at h
    · exact ⟨_, _, rfl, h, fun t hr => XT.lushr hA hx rfl (hb hc hd) rfl hr⟩
    · cases h
  case ineg => 
    simp only [pst] at h
    split at h
    · exact ⟨_, _, rfl, h, fun t hr => XS.ineg hA hx rfl (hb hc hd) rfl hr⟩
    · cases h
  case lneg => 
    simp only [pst] at h
    split at h
    · exact ⟨_, _, rfl, h, fun t hr => XT.lneg hA hx rfl (hb hc hd) rfl hr⟩
    · cases h
  case i2l => 
    simp only [pst] at h
    split at h
    · exact ⟨_, _, rfl, h, fun t hr => XT.i2l hA hx rfl (hb hc hd) rfl hr⟩
    · cases h
  case l2i => 
    simp only [pst] at h
    split at h
    · exact ⟨_, _, rfl, h, fun t hr => XT.l2i hA hx rfl (hb hc hd) rfl hr⟩
    · cases h
  case i2b => 
    simp only [pst] at h
    split at h
    · exact ⟨_, _, rfl, h, fun t hr => XT.i2b hA hx rfl (hb hc hd) rfl hr⟩
    · cases h
  case i2c => 
    simp only [pst] at h
    split at h
    · exact ⟨_, _, rfl, h, fun t hr => XT.i2c hA hx rfl (hb hc hd) rfl hr⟩
    · cases h
  case i2s => 
    simp only [pst] at h
    split at h
    · exact ⟨_, _, rfl, h, fun t hr => XT.i2s hA hx rfl (hb hc hd) rfl hr⟩
    · cases h
  case lcmp => 
    simp only [pst] at h
    split at h
    · exact ⟨_, _, rfl, h, fun t hr => XT.lcmp hA hx rfl (hb hc hd) rfl hr⟩
    · cases h
  case pop => 
    simp only [pst] at h
    split at h
    · exact ⟨_, _, rfl, h, fun t hr => XT.pop hA hx rfl (hb hc hd) rfl rfl hr⟩
    · exact ⟨_, _, rfl, h, fun t hr => XT.pop hA hx rfl (hb hc hd) rfl rfl hr⟩
    · exact ⟨_, _, rfl, h, fun t hr => XT.pop hA hx rfl (hb hc hd) rfl rfl hr⟩
    · cases h
  case dup => 
    simp only [pst] at h
    split at h
    · exact ⟨_, _, rfl, h, fun t hr => XS.dup hA hx rfl (hb hc hd) rfl rfl hr⟩
    · exact ⟨_, _, rfl, h, fun t hr => XS.dup hA hx rfl (hb hc hd) rfl rfl hr⟩
    · exact ⟨_, _, rfl, h, fun t hr => XS.dup hA hx rfl (hb hc hd) rfl rfl hr⟩
    · cases h
  case dup_x1 => 
    simp only [pst] at h
    split at h
    · exact ⟨_, _, rfl, h, fun t hr => XT.dupX1 hA hx rfl (hb hc hd) rfl rfl rfl hr⟩
    · exact ⟨_, _, rfl, h, fun t hr => XT.dupX1 hA hx rfl (hb hc hd) rfl rfl rfl hr⟩
    · exact ⟨_, _, rfl, h, fun t hr => XT.dupX1 hA hx rfl (hb hc hd) rfl rfl rfl hr⟩
    · exact ⟨_, _, rfl, h, fun t hr => XT.dupX1 hA hx rfl (hb hc hd) rfl rfl rfl hr⟩
    · exact ⟨_, _, rfl, h, fun t hr => XT.dupX1 hA hx rfl (hb hc hd) rfl rfl rfl hr⟩
    · exact ⟨_, _, rfl, h, fun t hr => XT.dupX1 hA hx rfl (hb hc hd) rfl rfl rfl hr⟩
    · exact ⟨_, _, rfl, h, fun t hr => XT.dupX1 hA hx rfl (hb hc hd) rfl rfl rfl hr⟩
    · exact ⟨_, _, rfl, h, fun t hr => XT.dupX1 hA hx rfl (hb hc hd) rfl rfl rfl hr⟩
    · exact ⟨_, _, rfl, h, fun t hr => XT.dupX1 hA hx rfl (hb hc hd) rfl rfl rfl hr⟩
    · cases h
  case dup2 => 
    simp only [pst] at h
    split at h
    · exact ⟨_, _, rfl, h, fun t hr => XT.dup2L hA hx rfl (hb hc hd) rfl hr⟩
    · exact ⟨_, _, rfl, h, fun t hr => XT.dup2 hA hx rfl (hb hc hd) rfl rfl rfl hr⟩
    · exact ⟨_, _, rfl, h, fun t hr => XT.dup2 hA hx rfl (hb hc hd) rfl rfl rfl hr⟩
    · exact ⟨_, _, rfl, h, fun t hr => XT.dup2 hA hx rfl (hb hc hd) rfl rfl rfl hr⟩
    · exact ⟨_, _, rfl, h, fun t hr => XT.dup2 hA hx rfl (hb hc hd) rfl rfl rfl hr⟩
    · cases h
  case istore_n k => 
    simp only [pst] at h
    split at h
    · obtain ⟨l', h1, h2, h3⟩ := stK_some rfl h
      exact ⟨_, _, h2, h3, fun t hr => XS.istoreN hA hx rfl (hb hc hd) rfl h1 hr⟩
    · cases h
  case istore k => 
    simp only [pst] at h
    split at h
    · obtain ⟨l', h1, h2, h3⟩ := stK_some rfl h
      exact ⟨_, _, h2, h3, fun t hr => XS.istore hA hx rfl (hb hc hd) rfl h1 hr⟩
    · cases h
  case astore_n k => 
    simp only [pst] at h
    split at h
    · obtain ⟨l', h1, h2, h3⟩ := stK_some rfl h
      exact ⟨_, _, h2, h3, fun t hr => XS.astoreN hA hx rfl (hb hc hd) rfl rfl h1 hr⟩
    · obtain ⟨l', h1, h2, h3⟩ := stK_some rfl h
      exact ⟨_, _, h2, h3, fun t hr => XS.astoreN hA hx rfl (hb hc hd) rfl rfl h1 hr⟩
    · cases h
  case astore k => 
    simp only [pst] at h
    split at h
    · obtain ⟨l', h1, h2, h3⟩ := stK_some rfl h
      exact ⟨_, _, h2, h3, fun t hr => XS.astore hA hx rfl (hb hc hd) rfl rfl h1 hr⟩
    · obtain ⟨l', h1, h2, h3⟩ := stK_some rfl h
      exact ⟨_, _, h2, h3, fun t hr => XS.astore hA hx rfl (hb hc hd) rfl rfl h1 hr⟩
    · cases h
  case lstore_n k => 
    simp only [pst] at h
    split at h
    · obtain ⟨l', h1, h2, h3⟩ := stKL_some h
      exact ⟨_, _, h2, h3, fun t hr => XT.lstoreN hA hx rfl (hb hc hd) rfl h1 hr⟩
    · cases h
  case lstore k => 
    simp only [pst] at h
    split at h
    · obtain ⟨l', h1, h2, h3⟩ := stKL_some h
      exact ⟨_, _, h2, h3, fun t hr => XT.lstore hA hx rfl (hb hc hd) rfl h1 hr⟩
    · cases h
  case iinc k c => 
    obtain ⟨a, h1, h2⟩ := getK_some h
    split at h2
    · obtain ⟨l', h3, h4, h5⟩ := stK_some rfl h2
      exact ⟨_, _, h4, h5, fun t hr => XS.iinc hA hx rfl (hb hc hd) (by simpa using h1) (by rw [hv]; exact h3) hr⟩
    · cases h2
theorem prun_sound {tb : Tables} [Ours tb] {e : Env} {below : List Frame} {T : State} {m : MethodId} {c : Code} {code : ByteArray} (hA : At T m c below) (hx : tb.exec = Jvm.exec) (hc : c.code = code) : ∀ (seg : List PI) {pc pe : Nat} {ls ls' : List Slot} {st st' : List Value}, segOk code pc seg pe = true → prun seg ls st = some (ls', st') →
    ls'.length = ls.length ∧ ∀ t, Steps tb e below (T.setTop (mkF m pe ls'.toArray st')) t → Steps tb e below (T.setTop (mkF m pc ls.toArray st)) t
  | [], pc, pe, ls, ls', st, st', h1, h2 => by
    have e1 : pc = pe := by simpa [segOk] using h1
    have e2 : (ls, st) = (ls', st') := Option.some.inj h2
    cases e1; cases e2
    exact ⟨rfl, fun t hr => hr⟩
  | (q, i, nx, v) :: r, pc, pe, ls, ls', st, st', h1, h2 => by
    simp only [segOk, Bool.and_eq_true, decide_eq_true_eq] at h1
    obtain ⟨⟨⟨⟨rfl, hd⟩, hv⟩, hn⟩, hr⟩ := h1
    obtain ⟨l1, s1, e1, h3, k1⟩ := pst_sound (κ := fun ls' st' => prun r ls' st') hA hx hc hd hv hn h2
    obtain ⟨e2, k2⟩ := prun_sound hA hx hc r hr h3
    exact ⟨e2.trans e1, fun t ht => k1 _ (k2 _ ht)⟩

abbrev HP := Heap × (Addr → Prop)
abbrev Dyn := Program × Env × State × MethodId × Array Value × List Frame × Method × Code × State × HP
def GI (Z : State) (EL : List (String × Nat)) (vm : Vm) (H : HP) : Prop :=
  Ext Z.heap H.1 ∧ ∀ y, H.2 y → Z.heap.size ≤ y ∧ y < H.1.size
def Kp (H H' : HP) (ws : List Addr) : Prop := Keep H.1 H'.1 ws ∧ ∀ x, H.2 x → H'.2 x
def Wk (l : Launch) (Z : State) (a0 : Array Value) (EL : List (String × Nat)) (own : String) (code : ByteArray) (ml : Nat) (nm : String) (rt : Option FieldType) (R : Room) (D : Dyn) (pc : Nat) (ls : List Slot) (st : List Value) (H : HP) (k n : Nat) : Prop :=
  D.1.tables.exec = Jvm.exec ∧ D.2.2.1.vm.findClass own = some D.2.2.2.1.cls ∧ D.2.2.2.2.2.2.2.1.code = code ∧ D.2.2.2.2.2.2.2.1.maxLocals = ml ∧ D.2.2.2.2.2.2.1.name = nm ∧ D.2.2.2.2.2.2.1.sig.returnType = rt ∧ D.2.2.2.2.2.2.1.locks = false ∧ ls.length = ml ∧
  ∃ T L, Stand D.1 l D.2.1 R D.2.2.1 D.2.2.2.1 D.2.2.2.2.1 D.2.2.2.2.2.1 D.2.2.2.2.2.2.1 D.2.2.2.2.2.2.2.1 T L k n ∧ T.heap = H.1 ∧ Z.Warmed39 D.2.2.1.vm ∧ GI Z EL D.2.2.1.vm H ∧ Fr Z.heap.size L ∧
    ((∀ x, D.2.2.2.2.2.2.2.2.2.2 x → H.2 x) ∧ D.2.2.2.2.2.2.2.2.2.1.size ≤ H.1.size) ∧ Steps D.1.tables D.2.1 D.2.2.2.2.2.1 D.2.2.2.2.2.2.2.2.1 (T.setTop (mkF D.2.2.2.1 pc ls.toArray st))
/-- the method has returned v -/
def Rt (Z : State) (EL : List (String × Nat)) (D : Dyn) (v : Option Value) (H : HP) (k n : Nat) : Prop :=
  ∃ s₂ L, Steps D.1.tables D.2.1 D.2.2.2.2.2.1 D.2.2.2.2.2.2.2.2.1 s₂ ∧ s₂.status = .running ∧ Ended s₂ D.2.2.2.2.2.1 (.returned v) ∧ s₂.heap = H.1 ∧ ((∀ x, D.2.2.2.2.2.2.2.2.2.2 x → H.2 x) ∧ D.2.2.2.2.2.2.2.2.2.1.size ≤ H.1.size) ∧ GI Z EL s₂.vm H ∧ Fr Z.heap.size L ∧ FrameEnd D.2.2.1 (.returned v) s₂ L k n
/-- a contract: y, called with as in the heap H, comes back with Q -/
def Ct (l : Launch) (Z : State) (EL : List (String × Nat)) (y : MethodName) (bytes : ByteArray) (ml : Nat) (ret : Option FieldType) (rm : Room) (ws : List Jvm.Cond) (as : List Value) (H : HP) (Q : Option Value → HP → Prop) : Prop :=
  MetFree l y (head1 (Jvm.Cond.code y bytes ml ret :: ws) rm) (fun a U => a = as.toArray ∧ Z.Warmed39 U.vm ∧ U.heap = H.1 ∧ GI Z EL U.vm H) (fun _ _ _ _ _ => True)
    (fun _ U o U' => ∃ v L O, o = .returned v ∧ Q v (U'.heap, O) ∧ ((∀ x, H.2 x → O x) ∧ H.1.size ≤ U'.heap.size) ∧ GI Z EL U'.vm (U'.heap, O) ∧ Fr Z.heap.size L ∧ FrameEnd U o U' L rm.cells rm.slots)
def locsOf : List Value → Nat → List Slot
  | [], n => List.replicate n .unset
  | v :: r, n => match v with
    | .long x => .val (.long x) :: .second :: locsOf r (n - 2)
    | .double x => .val (.double x) :: .second :: locsOf r (n - 2)
    | .int x => .val (.int x) :: locsOf r (n - 1)
    | .float x => .val (.float x) :: locsOf r (n - 1)
    | .null => .val .null :: locsOf r (n - 1)
    | .ref x => .val (.ref x) :: locsOf r (n - 1)
    | .retAddr x => .val (.retAddr x) :: locsOf r (n - 1)
def slotsOf : List Value → List Slot
  | [] => []
  | v :: r => if v.category = 2 then .val v :: .second :: slotsOf r else .val v :: slotsOf r
theorem locsOf_eq : ∀ (as : List Value) (n : Nat), locsOf as n = slotsOf as ++ List.replicate (n - (slotsOf as).length) .unset
  | [], n => by simp [locsOf, slotsOf]
  | v :: r, n => by
    have e1 : n - 1 - (slotsOf r).length = n - ((slotsOf r).length + 1) := by omega
    have e2 : n - 2 - (slotsOf r).length = n - ((slotsOf r).length + 1 + 1) := by omega
    cases v <;> simp [locsOf, slotsOf, Value.category, locsOf_eq r, e1, e2]
theorem fold_slots : ∀ (as : List Value) (acc : Array Slot), as.foldl (fun acc v => if v.category = 2 then (acc.push (.val v)).push .second else acc.push (.val v)) acc = acc ++ (slotsOf as).toArray
  | [], acc => by simp [slotsOf]
  | v :: r, acc => by
    rw [List.foldl_cons, fold_slots r]
    by_cases h : v.category = 2
    · simp only [h, if_true, slotsOf]; apply Array.ext'; simp
    · simp only [h, if_false, slotsOf]; apply Array.ext'; simp
theorem entry_locs (m : MethodId) (as : List Value) (ml : Nat) : entryFrame m as.toArray ml = mkF m 0 (locsOf as ml).toArray [] := by
  have q : argsToLocals as.toArray ml = (locsOf as ml).toArray := by
    unfold argsToLocals
    simp only [List.foldl_toArray, fold_slots]
    rw [locsOf_eq]
    apply Array.ext'; simp
  simp only [entryFrame, q]
theorem retV {p : Program} {l : Launch} {e : Env} {R : Room} {s : State} {m : MethodId} {args : Array Value} {below : List Frame} {meth : Method} {c : Code} {T : State} {locs : List Loc} {cells slots : Nat} (X : Stand p l e R s m args below meth c T locs cells slots) (hx : p.tables.exec = Jvm.exec) {pc : Nat} {Ls : Array Slot} {st : List Value} (hret : meth.sig.returnType = none) (hd : decode c.code pc = .ok (.return_, 1)) {fs : List Frame}
    (hl : ∀ (f : JFrame) (acts : List Action), f.method = m → f.locked = none → f.entered = [] → (doReturn e (T.setTop f) acts none).1 = T.setFrames fs) : Steps p.tables e below (T.setTop (mkF m pc Ls st)) (T.setFrames fs) := by
  have hm' : T.vm.method? m = some meth := X.method'
  show Steps p.tables e below (T.setTop { method := m, pc := pc, locals := Ls, stack := st, locked := none }) _
  jvm_step X.here [X.here.top, hx, hd, hm', hret]
  first | (intro acts; rw [hl _ acts rfl rfl rfl]) | rw [hl _ _ rfl rfl rfl]
  exact Steps.refl _
section Laws
variable {l : Launch} {Z : State} {a0 : Array Value} {EL : List (String × Nat)} {own : String} {code : ByteArray} {ml : Nat} {nm : String} {rt : Option FieldType} {R : Room} {D : Dyn} {pc : Nat} {ls : List Slot} {st : List Value} {H H' : HP} {k n : Nat} {vm vm0 : Vm} {ws ws' : List Addr} {a b : Addr} {C nn d : String} {v w : Value} {sl : Nat} {ty : FieldType} {vs : List Value}
theorem Kp.refl (H : HP) : Kp H H [] := ⟨Keep.refl _ _, fun _ h => h⟩
theorem Kp.size (K : Kp H H' ws) : H.1.size ≤ H'.1.size := K.1.1
theorem Kp.trans {H2 : HP} (K : Kp H H' ws) (K' : Kp H' H2 ws') (q : ∀ x ∈ ws', x ∈ ws ∨ H.1.size ≤ x) : Kp H H2 ws := ⟨K.1.trans K'.1 q, fun x h => K'.2 x (K.2 x h)⟩
theorem Kp.tr {H2 : HP} (K : Kp H H' []) (K' : Kp H' H2 []) : Kp H H2 [] := K.trans K' (fun x h => nomatch h)
theorem Kp.wide (K : Kp H H' ws) (q : ∀ x ∈ ws, x ∈ ws' ∨ H.1.size ≤ x) : Kp H H' ws' := Kp.trans (H' := H) ⟨Keep.refl _ _, fun _ h => h⟩ K q
/-- all that was written is new since H: so H stands whole -/
theorem Kp.new (K : Kp H H' ws) (q : ∀ x ∈ ws, H.1.size ≤ x) : Kp H H' [] := K.wide fun x h => Or.inr (q x h)
end Laws
end Jvm.Pilot.@@N@@
namespace Jvm.RoadKit
open Jvm.Pilot.@@N@@
theorem Fld.ky {Z : State} {H H' : HP} {ws : List Addr} {a : Addr} {C nn d : String} {v : Value} (F : Fld Z H.1 a C nn d v) (K : Jvm.Pilot.@@N@@.Kp H H' ws) (q : a ∉ ws := by exact List.not_mem_nil) : Fld Z H'.1 a C nn d v := F.keep K.1 q
theorem Exa.ky {Z : State} {H H' : HP} {ws : List Addr} {a : Addr} {C : String} (F : Exa Z H.1 a C) (K : Jvm.Pilot.@@N@@.Kp H H' ws) : Exa Z H'.1 a C := F.keep K.1
end Jvm.RoadKit
namespace Jvm.Pilot.@@N@@
open Jvm Jvm.ClassFile Sem Op Lib Jvm.Free Jvm.Stand Jvm.LawKit Jvm.RoadKit Bundle Jvm.Pilot.@@N@@.Jvm.D
section Laws
variable {l : Launch} {Z : State} {a0 : Array Value} {EL : List (String × Nat)} {own : String} {code : ByteArray} {ml : Nat} {nm : String} {rt : Option FieldType} {R : Room} {D : Dyn} {pc : Nat} {ls : List Slot} {st : List Value} {H H' : HP} {k n : Nat} {vm vm0 : Vm} {ws ws' : List Addr} {a b : Addr} {C nn d : String} {v w : Value} {sl : Nat} {ty : FieldType} {vs : List Value}
def Ar (Z : State) (H : HP) (a : Addr) (ty : FieldType) (vs : List Value) : Prop := ∃ c : Cell, Arr Z H.1 a c ty ∧ c.slots = vs.toArray ∧ vs.length < 2 ^ 31 ∧ ∀ v ∈ vs, fits ty v = true
theorem Ar.ky (F : Ar Z H a ty vs) (K : Kp H H' ws) (q : a ∉ ws := by exact List.not_mem_nil) : Ar Z H' a ty vs := by
  obtain ⟨c, A, r⟩ := F; exact ⟨c, ⟨K.1.2.1 a c A.1 q, A.2⟩, r⟩
theorem Ar.lt (F : Ar Z H a ty vs) : a < H.1.size := by obtain ⟨c, A, -⟩ := F; exact A.lt
theorem Ar.len (F : Ar Z H a ty vs) : vs.length < 2 ^ 31 := by obtain ⟨c, A, -, h, -⟩ := F; exact h
theorem Ar.fits (F : Ar Z H a ty vs) : ∀ v ∈ vs, fits ty v = true := by obtain ⟨c, A, -, -, h⟩ := F; exact h
theorem clamp_nat {i : Nat} (h : i < 2 ^ 31) : i.toInt32.toNatClampNeg = i := by
  have h1 : (i.toInt32).toInt = i := by simp [Nat.toInt32, Int32.toInt_ofNat_of_lt h]
  simp [Int32.toNatClampNeg, h1]
theorem nonneg_nat {i : Nat} (h : i < 2 ^ 31) : ¬ i.toInt32 < 0 := by
  have h1 : (i.toInt32).toInt = i := by simp [Nat.toInt32, Int32.toInt_ofNat_of_lt h]
  rw [Int32.lt_iff_toInt_lt, h1]; simp
theorem Ar.arv (F : Ar Z H a ty vs) (dv : Value) : ∃ kc, Arv Z H.1 a kc ty vs.length.toInt32 vs dv := by
  obtain ⟨c, A, e, h, g⟩ := F
  have hs : c.slots.size = vs.length := by rw [e]; simp
  refine ⟨c.cls, c, A, rfl, by rw [hs, clamp_nat h], nonneg_nat h, fun k hk => ?_, fun i hi => ?_⟩
  · rw [hs] at hk; rw [e]; simp [hk]
  · rw [hs] at hi
    have : vs.getD i dv = vs[i] := by simp [hi]
    rw [this]; exact g _ (List.getElem_mem hi)
theorem Ar.of_arv {kc : ClassId} {z : Int32} {dv : Value} (F : Arv Z H.1 a kc ty z vs dv) (hl : z.toNatClampNeg = vs.length) : Ar Z H a ty vs := by
  obtain ⟨c, A, -, S, M, Hs, G⟩ := F
  have hs : c.slots.size = vs.length := by rw [S, hl]
  have hb : vs.length < 2 ^ 31 := by rw [← hl]; exact (back32 M).2
  refine ⟨c, A, ?_, hb, fun v hv => ?_⟩
  · apply Array.ext_getElem?; intro i
    by_cases hi : i < c.slots.size
    · rw [Hs i hi]; have hi' := hi; rw [hs] at hi'; simp [hi']
    · rw [Array.getElem?_eq_none (Nat.le_of_not_lt hi)]; rw [hs] at hi; simp; omega
  · obtain ⟨i, hi, rfl⟩ := List.getElem_of_mem hv
    have := G i (by rw [hs]; exact hi)
    rw [show vs.getD i dv = vs[i] by simp [hi]] at this
    exact this
theorem GI.wr (G : GI Z EL vm H) {h' : Heap} (W : Wr H.1 h' a sl v) (o : H.2 a) : GI Z EL vm (h', H.2) := by
  obtain ⟨g1, g2⟩ := G
  refine ⟨?_, fun y hy => ?_⟩
  · obtain ⟨cell, h1, h2, h3, e⟩ := W
    refine ⟨by rw [show (h', H.2).1 = h' from rfl, e]; simpa using g1.1, fun x cx q => ?_⟩
    have hx := (Array.getElem?_eq_some_iff.mp q).1
    have hne : a ≠ x := fun e1 => by subst e1; have := (g2 a o).1; omega
    show h'[x]? = _
    rw [e, Array.getElem?_setIfInBounds_ne hne]; exact g1.2 x cx q
  · have := g2 y hy; exact ⟨this.1, by rw [show (h', H.2).1 = h' from rfl, W.size]; exact this.2⟩
theorem GI.ext (G : GI Z EL vm H) {h' : Heap} (E : Ext H.1 h') (hlt : H.1.size < h'.size) : GI Z EL vm (h', fun y => H.2 y ∨ y = H.1.size) := by
  obtain ⟨g1, g2⟩ := G
  refine ⟨⟨Nat.le_trans g1.1 E.1, fun x cx q => E.2 x cx (g1.2 x cx q)⟩, fun y hy => ?_⟩
  rcases hy with hy | rfl
  · have := g2 y hy; exact ⟨this.1, Nat.lt_of_lt_of_le this.2 E.1⟩
  · exact ⟨g1.1, hlt⟩
theorem GI.keep (G : GI Z EL vm H) {h' : Heap} (K : Keep H.1 h' ws) (o : ∀ x ∈ ws, H.2 x) : GI Z EL vm (h', H.2) := by
  obtain ⟨g1, g2⟩ := G
  refine ⟨⟨Nat.le_trans g1.1 K.1, fun x cx q => K.2.1 x cx (g1.2 x cx q) fun hx => ?_⟩, fun y hy => ?_⟩
  · have := (g2 x (o x hx)).1; have := (Array.getElem?_eq_some_iff.mp q).1; omega
  · have := g2 y hy; exact ⟨this.1, Nat.lt_of_lt_of_le this.2 K.1⟩
theorem ext_refl (h : Heap) : Ext h h := ⟨Nat.le_refl _, fun _ _ q => q⟩
theorem Wk.run (A : Wk l Z a0 EL own code ml nm rt R D pc ls st H k n) (seg : List PI) {pe : Nat} (hok : segOk code pc seg pe = true) {ls' : List Slot} {st' : List Value} (hr : prun seg ls st = some (ls', st')) :
    Wk l Z a0 EL own code ml nm rt R D pe ls' st' H k n := by
  obtain ⟨p, e, s, m, args, below, meth, c, s0, H0⟩ := D
  obtain ⟨hx, hown, hc, hml, hnm, hrt, hlk, hls, T, L, X, eT, hZ, hG, hF, hMo, hst⟩ := A
  dsimp only at hx hown hc hml hnm hrt hlk X hZ hG hMo hst
  have hown' := hown
  have hZ' := hZ
  obtain ⟨h1, h2⟩ := prun_sound (e := e) X.here hx hc seg hok hr
  exact ⟨hx, hown, hc, hml, hnm, hrt, hlk, (h1.trans hls), T, L, X, eT, hZ, hG, hF, hMo, hst.trans (h2 _ (Steps.refl _))⟩
theorem Wk.idiv {x y : Int32} (A : Wk l Z a0 EL own code ml nm rt R D pc ls (.int y :: .int x :: st) H k n) (hd : decode code pc = .ok (.idiv, 1)) (hy : y ≠ 0) :
    Wk l Z a0 EL own code ml nm rt R D (pc + 1) ls (.int (x / y) :: st) H k n := by
  obtain ⟨p, e, s, m, args, below, meth, c, s0, H0⟩ := D
  obtain ⟨hx, hown, hc, hml, hnm, hrt, hlk, hls, T, L, X, eT, hZ, hG, hF, hMo, hst⟩ := A
  dsimp only at hx hown hc hml hnm hrt hlk X hZ hG hMo hst
  have hown' := hown
  have hZ' := hZ
  exact ⟨hx, hown, hc, hml, hnm, hrt, hlk, hls, T, L, X, eT, hZ, hG, hF, hMo, hst.trans (XS.idiv X.here hx rfl (hb hc hd) rfl hy (Steps.refl _))⟩
theorem Wk.irem {x y : Int32} (A : Wk l Z a0 EL own code ml nm rt R D pc ls (.int y :: .int x :: st) H k n) (hd : decode code pc = .ok (.irem, 1)) (hy : y ≠ 0) :
    Wk l Z a0 EL own code ml nm rt R D (pc + 1) ls (.int (x % y) :: st) H k n := by
  obtain ⟨p, e, s, m, args, below, meth, c, s0, H0⟩ := D
  obtain ⟨hx, hown, hc, hml, hnm, hrt, hlk, hls, T, L, X, eT, hZ, hG, hF, hMo, hst⟩ := A
  dsimp only at hx hown hc hml hnm hrt hlk X hZ hG hMo hst
  have hown' := hown
  have hZ' := hZ
  exact ⟨hx, hown, hc, hml, hnm, hrt, hlk, hls, T, L, X, eT, hZ, hG, hF, hMo, hst.trans (iremM X hx rfl (hb hc hd) rfl hy (Steps.refl _))⟩
theorem Wk.ldiv {x y : Int64} (A : Wk l Z a0 EL own code ml nm rt R D pc ls (.long y :: .long x :: st) H k n) (hd : decode code pc = .ok (.ldiv, 1)) (hy : y ≠ 0) :
    Wk l Z a0 EL own code ml nm rt R D (pc + 1) ls (.long (x / y) :: st) H k n := by
  obtain ⟨p, e, s, m, args, below, meth, c, s0, H0⟩ := D
  obtain ⟨hx, hown, hc, hml, hnm, hrt, hlk, hls, T, L, X, eT, hZ, hG, hF, hMo, hst⟩ := A
  dsimp only at hx hown hc hml hnm hrt hlk X hZ hG hMo hst
  have hown' := hown
  have hZ' := hZ
  exact ⟨hx, hown, hc, hml, hnm, hrt, hlk, hls, T, L, X, eT, hZ, hG, hF, hMo, hst.trans (XT.ldiv X.here hx rfl (hb hc hd) rfl hy (Steps.refl _))⟩
theorem Wk.lrem {x y : Int64} (A : Wk l Z a0 EL own code ml nm rt R D pc ls (.long y :: .long x :: st) H k n) (hd : decode code pc = .ok (.lrem, 1)) (hy : y ≠ 0) :
    Wk l Z a0 EL own code ml nm rt R D (pc + 1) ls (.long (x % y) :: st) H k n := by
  obtain ⟨p, e, s, m, args, below, meth, c, s0, H0⟩ := D
  obtain ⟨hx, hown, hc, hml, hnm, hrt, hlk, hls, T, L, X, eT, hZ, hG, hF, hMo, hst⟩ := A
  dsimp only at hx hown hc hml hnm hrt hlk X hZ hG hMo hst
  have hown' := hown
  have hZ' := hZ
  exact ⟨hx, hown, hc, hml, hnm, hrt, hlk, hls, T, L, X, eT, hZ, hG, hF, hMo, hst.trans (XT.lrem X.here hx rfl (hb hc hd) rfl hy (by rw [lrem_mod]; exact Steps.refl _))⟩
/-- the condition of a comparison -/
def cP : ClassFile.Cond → Int32 → Int32 → Prop
  | .eq, x, y => x = y
  | .ne, x, y => ¬ x = y
  | .lt, x, y => x < y
  | .ge, x, y => ¬ x < y
  | .gt, x, y => y < x
  | .le, x, y => ¬ y < x
theorem cP_t {cd : ClassFile.Cond} {x y : Int32} (h : cP cd x y) : if_icmp.holds cd x y = true := by
  cases cd
  · exact (teq h).1
  · exact (feq h).2
  · exact (tlt h).1
  · exact (flt h).2.1
  · exact (tlt h).2.2.1
  · exact (flt h).2.2.2
theorem cP_f {cd : ClassFile.Cond} {x y : Int32} (h : ¬ cP cd x y) : if_icmp.holds cd x y = false := by
  cases cd
  · exact (feq h).1
  · exact (teq (Decidable.not_not.mp h)).2
  · exact (flt h).1
  · exact (tlt (Decidable.not_not.mp h)).2.1
  · exact (flt h).2.2.1
  · exact (tlt (Decidable.not_not.mp h)).2.2.2
theorem Wk.ifT {cd : ClassFile.Cond} {x : Int32} {o : Int} (A : Wk l Z a0 EL own code ml nm rt R D pc ls (.int x :: st) H k n) (hd : decode code pc = .ok (.ifCond cd o, 3)) (h : cP cd x 0) {pe : Nat} (hp : 0 ≤ (pc : Int) + o ∧ ((pc : Int) + o).toNat = pe) :
    Wk l Z a0 EL own code ml nm rt R D pe ls st H k n := by
  obtain ⟨p, e, s, m, args, below, meth, c, s0, H0⟩ := D
  obtain ⟨hx, hown, hc, hml, hnm, hrt, hlk, hls, T, L, X, eT, hZ, hG, hF, hMo, hst⟩ := A
  dsimp only at hx hown hc hml hnm hrt hlk X hZ hG hMo hst
  have hown' := hown
  have hZ' := hZ
  exact ⟨hx, hown, hc, hml, hnm, hrt, hlk, hls, T, L, X, eT, hZ, hG, hF, hMo, hst.trans (XS.ifYes X.here hx rfl rfl (hb hc hd) rfl (by rw [if0]; exact cP_t h) hp.1 hp.2 (Steps.refl _))⟩
theorem Wk.ifF {cd : ClassFile.Cond} {x : Int32} {o : Int} (A : Wk l Z a0 EL own code ml nm rt R D pc ls (.int x :: st) H k n) (hd : decode code pc = .ok (.ifCond cd o, 3)) (h : ¬ cP cd x 0) :
    Wk l Z a0 EL own code ml nm rt R D (pc + 3) ls st H k n := by
  obtain ⟨p, e, s, m, args, below, meth, c, s0, H0⟩ := D
  obtain ⟨hx, hown, hc, hml, hnm, hrt, hlk, hls, T, L, X, eT, hZ, hG, hF, hMo, hst⟩ := A
  dsimp only at hx hown hc hml hnm hrt hlk X hZ hG hMo hst
  have hown' := hown
  have hZ' := hZ
  exact ⟨hx, hown, hc, hml, hnm, hrt, hlk, hls, T, L, X, eT, hZ, hG, hF, hMo, hst.trans (XS.ifNo X.here hx rfl (hb hc hd) rfl (by rw [if0]; exact cP_f h) (Steps.refl _))⟩
theorem Wk.icT {cd : ClassFile.Cond} {x y : Int32} {o : Int} (A : Wk l Z a0 EL own code ml nm rt R D pc ls (.int y :: .int x :: st) H k n) (hd : decode code pc = .ok (.if_icmp cd o, 3)) (h : cP cd x y) {pe : Nat} (hp : 0 ≤ (pc : Int) + o ∧ ((pc : Int) + o).toNat = pe) :
    Wk l Z a0 EL own code ml nm rt R D pe ls st H k n := by
  obtain ⟨p, e, s, m, args, below, meth, c, s0, H0⟩ := D
  obtain ⟨hx, hown, hc, hml, hnm, hrt, hlk, hls, T, L, X, eT, hZ, hG, hF, hMo, hst⟩ := A
  dsimp only at hx hown hc hml hnm hrt hlk X hZ hG hMo hst
  have hown' := hown
  have hZ' := hZ
  exact ⟨hx, hown, hc, hml, hnm, hrt, hlk, hls, T, L, X, eT, hZ, hG, hF, hMo, hst.trans (XS.icmpYes X.here hx rfl rfl (hb hc hd) rfl (cP_t h) hp.1 hp.2 (Steps.refl _))⟩
theorem Wk.icF {cd : ClassFile.Cond} {x y : Int32} {o : Int} (A : Wk l Z a0 EL own code ml nm rt R D pc ls (.int y :: .int x :: st) H k n) (hd : decode code pc = .ok (.if_icmp cd o, 3)) (h : ¬ cP cd x y) :
    Wk l Z a0 EL own code ml nm rt R D (pc + 3) ls st H k n := by
  obtain ⟨p, e, s, m, args, below, meth, c, s0, H0⟩ := D
  obtain ⟨hx, hown, hc, hml, hnm, hrt, hlk, hls, T, L, X, eT, hZ, hG, hF, hMo, hst⟩ := A
  dsimp only at hx hown hc hml hnm hrt hlk X hZ hG hMo hst
  have hown' := hown
  have hZ' := hZ
  exact ⟨hx, hown, hc, hml, hnm, hrt, hlk, hls, T, L, X, eT, hZ, hG, hF, hMo, hst.trans (XS.icmpNo X.here hx rfl (hb hc hd) rfl (cP_f h) (Steps.refl _))⟩
theorem Wk.nullT {o : Int} (A : Wk l Z a0 EL own code ml nm rt R D pc ls (.null :: st) H k n) (hd : decode code pc = .ok (.ifnull o, 3)) {pe : Nat} (hp : 0 ≤ (pc : Int) + o ∧ ((pc : Int) + o).toNat = pe) :
    Wk l Z a0 EL own code ml nm rt R D pe ls st H k n := by
  obtain ⟨p, e, s, m, args, below, meth, c, s0, H0⟩ := D
  obtain ⟨hx, hown, hc, hml, hnm, hrt, hlk, hls, T, L, X, eT, hZ, hG, hF, hMo, hst⟩ := A
  dsimp only at hx hown hc hml hnm hrt hlk X hZ hG hMo hst
  have hown' := hown
  have hZ' := hZ
  exact ⟨hx, hown, hc, hml, hnm, hrt, hlk, hls, T, L, X, eT, hZ, hG, hF, hMo, hst.trans (XS.ifnullYes X.here hx rfl rfl (hb hc hd) rfl hp.1 hp.2 (Steps.refl _))⟩
theorem Wk.nullF {o : Int} (A : Wk l Z a0 EL own code ml nm rt R D pc ls (.ref a :: st) H k n) (hd : decode code pc = .ok (.ifnull o, 3)) :
    Wk l Z a0 EL own code ml nm rt R D (pc + 3) ls st H k n := by
  obtain ⟨p, e, s, m, args, below, meth, c, s0, H0⟩ := D
  obtain ⟨hx, hown, hc, hml, hnm, hrt, hlk, hls, T, L, X, eT, hZ, hG, hF, hMo, hst⟩ := A
  dsimp only at hx hown hc hml hnm hrt hlk X hZ hG hMo hst
  have hown' := hown
  have hZ' := hZ
  exact ⟨hx, hown, hc, hml, hnm, hrt, hlk, hls, T, L, X, eT, hZ, hG, hF, hMo, hst.trans (XS.ifnullNo X.here hx rfl (hb hc hd) rfl (Steps.refl _))⟩
theorem Wk.nnullT {o : Int} (A : Wk l Z a0 EL own code ml nm rt R D pc ls (.ref a :: st) H k n) (hd : decode code pc = .ok (.ifnonnull o, 3)) {pe : Nat} (hp : 0 ≤ (pc : Int) + o ∧ ((pc : Int) + o).toNat = pe) :
    Wk l Z a0 EL own code ml nm rt R D pe ls st H k n := by
  obtain ⟨p, e, s, m, args, below, meth, c, s0, H0⟩ := D
  obtain ⟨hx, hown, hc, hml, hnm, hrt, hlk, hls, T, L, X, eT, hZ, hG, hF, hMo, hst⟩ := A
  dsimp only at hx hown hc hml hnm hrt hlk X hZ hG hMo hst
  have hown' := hown
  have hZ' := hZ
  exact ⟨hx, hown, hc, hml, hnm, hrt, hlk, hls, T, L, X, eT, hZ, hG, hF, hMo, hst.trans (XT.ifnonnullYes X.here hx rfl rfl (hb hc hd) rfl hp.1 hp.2 (Steps.refl _))⟩
theorem Wk.nnullF {o : Int} (A : Wk l Z a0 EL own code ml nm rt R D pc ls (.null :: st) H k n) (hd : decode code pc = .ok (.ifnonnull o, 3)) :
    Wk l Z a0 EL own code ml nm rt R D (pc + 3) ls st H k n := by
  obtain ⟨p, e, s, m, args, below, meth, c, s0, H0⟩ := D
  obtain ⟨hx, hown, hc, hml, hnm, hrt, hlk, hls, T, L, X, eT, hZ, hG, hF, hMo, hst⟩ := A
  dsimp only at hx hown hc hml hnm hrt hlk X hZ hG hMo hst
  have hown' := hown
  have hZ' := hZ
  exact ⟨hx, hown, hc, hml, hnm, hrt, hlk, hls, T, L, X, eT, hZ, hG, hF, hMo, hst.trans (XT.ifnonnullNo X.here hx rfl (hb hc hd) rfl (Steps.refl _))⟩
theorem Wk.acmp (A : Wk l Z a0 EL own code ml nm rt R D pc ls (w :: v :: st) H k n) {cd : ClassFile.ACond} {o : Int} (hd : decode code pc = .ok (.if_acmp cd o, 3)) (h1 : v.isRef = true) (h2 : w.isRef = true) {same : Bool} (hq : decide (v = w) = same) {pe : Nat} (ho : 0 ≤ (pc : Int) + o) (hp : pe = if acV cd same = true then ((pc : Int) + o).toNat else pc + 3) :
    Wk l Z a0 EL own code ml nm rt R D pe ls st H k n := by
  obtain ⟨p, e, s, m, args, below, meth, c, s0, H0⟩ := D
  obtain ⟨hx, hown, hc, hml, hnm, hrt, hlk, hls, T, L, X, eT, hZ, hG, hF, hMo, hst⟩ := A
  dsimp only at hx hown hc hml hnm hrt hlk X hZ hG hMo hst
  have hown' := hown
  have hZ' := hZ
  exact ⟨hx, hown, hc, hml, hnm, hrt, hlk, hls, T, L, X, eT, hZ, hG, hF, hMo, hst.trans (acmp X hx rfl h1 h2 rfl (hb hc hd) rfl hq ho hp (Steps.refl _))⟩
theorem Wk.tsw {x : Int32} (A : Wk l Z a0 EL own code ml nm rt R D pc ls (.int x :: st) H k n) :
    Wk l Z a0 EL own code ml nm rt R D pc ls (.int x :: st) H k n := by
  obtain ⟨p, e, s, m, args, below, meth, c, s0, H0⟩ := D
  obtain ⟨hx, hown, hc, hml, hnm, hrt, hlk, hls, T, L, X, eT, hZ, hG, hF, hMo, hst⟩ := A
  dsimp only at hx hown hc hml hnm hrt hlk X hZ hG hMo hst
  have hown' := hown
  have hZ' := hZ
  exact ⟨hx, hown, hc, hml, hnm, hrt, hlk, hls, T, L, X, eT, hZ, hG, hF, hMo, hst⟩
theorem Wk.getF {R0 O : String} {index : Nat} (A : Wk l Z a0 EL own code ml nm rt R D pc ls (.ref a :: st) H k n) (w : (Jvm.Cond.fieldLink own index R0 nn d).before a0 Z = true) (F : Fld Z H.1 a O nn d v) (hd : decode code pc = .ok (.getfield index, 3)) (via : Via Z R0 O nn d := by exact Via.refl) :
    Wk l Z a0 EL own code ml nm rt R D (pc + 3) ls (v :: st) H k n := by
  obtain ⟨p, e, s, m, args, below, meth, c, s0, H0⟩ := D
  obtain ⟨hx, hown, hc, hml, hnm, hrt, hlk, hls, T, L, X, eT, hZ, hG, hF, hMo, hst⟩ := A
  dsimp only at hx hown hc hml hnm hrt hlk X hZ hG hMo hst
  have hown' := hown
  have hZ' := hZ
  obtain ⟨T', X', e', st'⟩ := RoadKit.getF (host := "") X hx hZ' hown' (Or.inl w) via eT F (g := mkF m pc ls.toArray (.ref a :: st)) rfl rfl (hb hc hd)
  exact ⟨hx, hown, hc, hml, hnm, hrt, hlk, hls, T', L, X', e', hZ, hG, hF, hMo, hst.trans (st' _ (Steps.refl _))⟩
theorem Wk.getFN {R0 O host : String} {index : Nat} (A : Wk l Z a0 EL own code ml nm rt R D pc ls (.ref a :: st) H k n) (w : (Jvm.Cond.fieldLinkNest own index R0 nn d host).before a0 Z = true) (F : Fld Z H.1 a O nn d v) (hd : decode code pc = .ok (.getfield index, 3)) (via : Via Z R0 O nn d := by exact Via.refl) :
    Wk l Z a0 EL own code ml nm rt R D (pc + 3) ls (v :: st) H k n := by
  obtain ⟨p, e, s, m, args, below, meth, c, s0, H0⟩ := D
  obtain ⟨hx, hown, hc, hml, hnm, hrt, hlk, hls, T, L, X, eT, hZ, hG, hF, hMo, hst⟩ := A
  dsimp only at hx hown hc hml hnm hrt hlk X hZ hG hMo hst
  have hown' := hown
  have hZ' := hZ
  obtain ⟨T', X', e', st'⟩ := RoadKit.getF X hx hZ' hown' (Or.inr w) via eT F (g := mkF m pc ls.toArray (.ref a :: st)) rfl rfl (hb hc hd)
  exact ⟨hx, hown, hc, hml, hnm, hrt, hlk, hls, T', L, X', e', hZ, hG, hF, hMo, hst.trans (st' _ (Steps.refl _))⟩
theorem Wk.getS {R0 O : String} {index : Nat} (A : Wk l Z a0 EL own code ml nm rt R D pc ls st H k n) (w : (Jvm.Cond.fieldLink own index R0 nn d).before a0 Z = true) (F : Sta Z Z.heap O nn d v) (hd : decode code pc = .ok (.getstatic index, 3)) (via : Via Z R0 O nn d := by exact Via.refl) :
    Wk l Z a0 EL own code ml nm rt R D (pc + 3) ls (v :: st) H k n := by
  obtain ⟨p, e, s, m, args, below, meth, c, s0, H0⟩ := D
  obtain ⟨hx, hown, hc, hml, hnm, hrt, hlk, hls, T, L, X, eT, hZ, hG, hF, hMo, hst⟩ := A
  dsimp only at hx hown hc hml hnm hrt hlk X hZ hG hMo hst
  have hown' := hown
  have hZ' := hZ
  obtain ⟨T', X', e', st'⟩ := RoadKit.getS (host := "") X hx hZ' hown' w via eT (F.ext hG.1) (g := mkF m pc ls.toArray st) rfl (hb hc hd)
  exact ⟨hx, hown, hc, hml, hnm, hrt, hlk, hls, T', L, X', e', hZ, hG, hF, hMo, hst.trans (st' _ (Steps.refl _))⟩
theorem Wk.putF {R0 O : String} {index kk : Nat} {old : Value} (A : Wk l Z a0 EL own code ml nm rt R D pc ls (v :: .ref a :: st) H k n) (w : (Jvm.Cond.fieldLink own index R0 nn d).before a0 Z = true) (F : Fld Z H.1 a O nn d old) (E : Exa Z H.1 a C) (wl : (Jvm.Cond.lays C O nn d).before a0 Z = true) (wi : (Jvm.Cond.instantiable C kk).before a0 Z = true) (o : H.2 a) (hd : decode code pc = .ok (.putfield index, 3)) (hty : parseFieldDescriptor d = some ty) (hn : narrow ty v = v) (hf : fits ty v = true) (via : Via Z R0 O nn d := by exact Via.refl) :
    ∃ H' : HP, Wk l Z a0 EL own code ml nm rt R D (pc + 3) ls st H' k n ∧ Kp H H' [a] ∧ Wr H.1 H'.1 a (Jvm.RoadKit.slotOf Z O nn d) v := by
  obtain ⟨p, e, s, m, args, below, meth, c, s0, H0⟩ := D
  obtain ⟨hx, hown, hc, hml, hnm, hrt, hlk, hls, T, L, X, eT, hZ, hG, hF, hMo, hst⟩ := A
  dsimp only at hx hown hc hml hnm hrt hlk X hZ hG hMo hst
  have hown' := hown
  have hZ' := hZ
  obtain ⟨T', h', X', e', Wr1, st'⟩ := RoadKit.putF (host := "") X hx hZ' hown' (Or.inl w) via eT F E (Or.inl wl) wi hty hn hf (g := mkF m pc ls.toArray (v :: .ref a :: st)) rfl rfl (hb hc hd)
  have o2 := hG.2 a o
  refine ⟨(h', H.2), ⟨hx, hown, hc, hml, hnm, hrt, hlk, hls, T', (L ++ [_]), X', e', hZ, (hG.wr Wr1 o), (hF.app fun y hy => by cases List.mem_singleton.mp hy; exact o2.1), ⟨hMo.1, by show _ ≤ h'.size; rw [Wr1.size]; exact hMo.2⟩, hst.trans (st' _ (Steps.refl _))⟩, ⟨Keep.of_wr Wr1, fun _ q => q⟩, Wr1⟩
theorem Wk.putFin {R0 O : String} {index kk : Nat} {old : Value} (A : Wk l Z a0 EL own code ml nm rt R D pc ls (v :: .ref a :: st) H k n) (w : (Jvm.Cond.fieldLink own index R0 nn d).before a0 Z = true) (F : Fld Z H.1 a O nn d old) (E : Exa Z H.1 a C) (wl : (Jvm.Cond.laysFinal C O nn d).before a0 Z = true) (ho : own = O) (hi : nm = "<init>") (wi : (Jvm.Cond.instantiable C kk).before a0 Z = true) (o : H.2 a) (hd : decode code pc = .ok (.putfield index, 3)) (hty : parseFieldDescriptor d = some ty) (hn : narrow ty v = v) (hf : fits ty v = true) (via : Via Z R0 O nn d := by exact Via.refl) :
    ∃ H' : HP, Wk l Z a0 EL own code ml nm rt R D (pc + 3) ls st H' k n ∧ Kp H H' [a] ∧ Wr H.1 H'.1 a (Jvm.RoadKit.slotOf Z O nn d) v := by
  obtain ⟨p, e, s, m, args, below, meth, c, s0, H0⟩ := D
  obtain ⟨hx, hown, hc, hml, hnm, hrt, hlk, hls, T, L, X, eT, hZ, hG, hF, hMo, hst⟩ := A
  dsimp only at hx hown hc hml hnm hrt hlk X hZ hG hMo hst
  have hown' := hown
  have hZ' := hZ
  obtain ⟨T', h', X', e', Wr1, st'⟩ := RoadKit.putF (host := "") X hx hZ' hown' (Or.inl w) via eT F E (Or.inr ⟨wl, ho, hnm.trans hi⟩) wi hty hn hf (g := mkF m pc ls.toArray (v :: .ref a :: st)) rfl rfl (hb hc hd)
  have o2 := hG.2 a o
  refine ⟨(h', H.2), ⟨hx, hown, hc, hml, hnm, hrt, hlk, hls, T', (L ++ [_]), X', e', hZ, (hG.wr Wr1 o), (hF.app fun y hy => by cases List.mem_singleton.mp hy; exact o2.1), ⟨hMo.1, by show _ ≤ h'.size; rw [Wr1.size]; exact hMo.2⟩, hst.trans (st' _ (Steps.refl _))⟩, ⟨Keep.of_wr Wr1, fun _ q => q⟩, Wr1⟩
theorem Wk.newO {index q : Nat} (A : Wk l Z a0 EL own code ml nm rt R D pc ls st H k n) (w : (Jvm.Cond.classLink own index C).before a0 Z = true) (wi : (Jvm.Cond.instantiable C q).before a0 Z = true) (wz : (Jvm.Cond.initialized C).before a0 Z = true) (hd : decode code pc = .ok (.new index, 3)) (hcl : k + 1 ≤ R.cells) (hsl : n + q ≤ R.slots) :
    ∃ (a : Addr) (H' : HP), Wk l Z a0 EL own code ml nm rt R D (pc + 3) ls (.ref a :: st) H' (k + 1) (n + q) ∧ H.1.size ≤ a ∧ Kp H H' [] ∧ Exa Z H'.1 a C ∧ H'.2 a ∧ ∀ {O fn fd : String} {t : FieldType}, Laid Z a0 C O fn fd → parseFieldDescriptor fd = some t → Fld Z H'.1 a O fn fd (defaultValue t) := by
  obtain ⟨p, e, s, m, args, below, meth, c, s0, H0⟩ := D
  obtain ⟨hx, hown, hc, hml, hnm, hrt, hlk, hls, T, L, X, eT, hZ, hG, hF, hMo, hst⟩ := A
  dsimp only at hx hown hc hml hnm hrt hlk X hZ hG hMo hst
  have hown' := hown
  have hZ' := hZ
  obtain ⟨T', h', X', e', E, Ex, Fl, -, st'⟩ := RoadKit.newO X hx hZ' hown' w wi wz eT (g := mkF m pc ls.toArray st) rfl (hb hc hd) hcl hsl
  exact ⟨H.1.size, (h', fun y => H.2 y ∨ y = H.1.size), ⟨hx, hown, hc, hml, hnm, hrt, hlk, hls, T', L, X', e', hZ, (hG.ext E Ex.lt), hF, ⟨fun x q => Or.inl (hMo.1 x q), Nat.le_trans hMo.2 E.1⟩, hst.trans (st' _ (Steps.refl _))⟩, Nat.le_refl _, ⟨(Keep.refl _ _).ext E, fun _ q => Or.inl q⟩, Ex, Or.inr rfl, Fl⟩
theorem Wk.newA {aty : ArrayType} {z : Int32} (A : Wk l Z a0 EL own code ml nm rt R D pc ls (.int z :: st) H k n) (w : (Jvm.Cond.arrayClass (newarray.typeOf aty)).before a0 Z = true) (hd : decode code pc = .ok (.newarray aty, 2)) {N : Nat} (hN : N.toInt32 = z) {cap : Nat} (hcap : N ≤ cap) (hbg : cap * 8 ≤ 536870912) (hcl : k + 1 ≤ R.cells) (hsl : n + cap ≤ R.slots) :
    ∃ (a : Addr) (H' : HP), Wk l Z a0 EL own code ml nm rt R D (pc + 2) ls (.ref a :: st) H' (k + 1) (n + cap) ∧ H.1.size ≤ a ∧ Kp H H' [] ∧ Ar Z H' a (newarray.typeOf aty) (List.replicate N (defaultValue (newarray.typeOf aty))) ∧ H'.2 a := by
  obtain ⟨p, e, s, m, args, below, meth, c, s0, H0⟩ := D
  obtain ⟨hx, hown, hc, hml, hnm, hrt, hlk, hls, T, L, X, eT, hZ, hG, hF, hMo, hst⟩ := A
  dsimp only at hx hown hc hml hnm hrt hlk X hZ hG hMo hst
  have hown' := hown
  have hZ' := hZ
  subst hN
  have hN2 : N < 2 ^ 31 := by omega
  obtain ⟨T', h', cA, X', e', E, Ex, st'⟩ := RoadKit.newP X hx hZ' w eT (g := mkF m pc ls.toArray (.int N.toInt32 :: st)) rfl (hb hc hd) rfl (nonneg_nat hN2) (cap := cap) (by rw [clamp_nat hN2]; exact hcap) hbg hcl hsl
  refine ⟨H.1.size, (h', fun y => H.2 y ∨ y = H.1.size), ⟨hx, hown, hc, hml, hnm, hrt, hlk, hls, T', L, X', e', hZ, (hG.ext E Ex.lt), hF, ⟨fun x q => Or.inl (hMo.1 x q), Nat.le_trans hMo.2 E.1⟩, hst.trans (st' _ (Steps.refl _))⟩, Nat.le_refl _, ⟨(Keep.refl _ _).ext E, fun _ q => Or.inl q⟩, ⟨_, Ex, by simp [newA, clamp_nat hN2], by simpa using hN2, fun v hv => ?_⟩, Or.inr rfl⟩
  obtain ⟨-, rfl⟩ := List.mem_replicate.mp hv
  cases aty <;> rfl
theorem Wk.alen (A : Wk l Z a0 EL own code ml nm rt R D pc ls (.ref a :: st) H k n) (F : Ar Z H a ty vs) (hd : decode code pc = .ok (.arraylength, 1)) {z : Int32} (hz : vs.length.toInt32 = z) :
    Wk l Z a0 EL own code ml nm rt R D (pc + 1) ls (.int z :: st) H k n := by
  obtain ⟨p, e, s, m, args, below, meth, c, s0, H0⟩ := D
  obtain ⟨hx, hown, hc, hml, hnm, hrt, hlk, hls, T, L, X, eT, hZ, hG, hF, hMo, hst⟩ := A
  dsimp only at hx hown hc hml hnm hrt hlk X hZ hG hMo hst
  have hown' := hown
  have hZ' := hZ
  obtain ⟨cl, Aq, hsl, -, -⟩ := F
  have hsz : cl.slots.size = vs.length := by rw [hsl]; simp
  exact ⟨hx, hown, hc, hml, hnm, hrt, hlk, hls, T, L, X, eT, hZ, hG, hF, hMo, hst.trans (X.arraylength hx (by rw [eT]; exact Aq.1) (State.isArrayOf_alike hZ'.alike Aq.2.1) (g := mkF m pc ls.toArray (.ref a :: st)) rfl rfl (hb hc hd) _ (by rw [hsz, hz]; exact Steps.refl _))⟩
theorem Wk.caload {i : Nat} {j : Int32} (A : Wk l Z a0 EL own code ml nm rt R D pc ls (.int j :: .ref a :: st) H k n) (F : Ar Z H a .char vs) (hd : decode code pc = .ok (.caload, 1)) (hj : i.toInt32 = j) (hv : vs[i]? = some v) :
    Wk l Z a0 EL own code ml nm rt R D (pc + 1) ls (v :: st) H k n := by
  obtain ⟨p, e, s, m, args, below, meth, c, s0, H0⟩ := D
  obtain ⟨hx, hown, hc, hml, hnm, hrt, hlk, hls, T, L, X, eT, hZ, hG, hF, hMo, hst⟩ := A
  dsimp only at hx hown hc hml hnm hrt hlk X hZ hG hMo hst
  have hown' := hown
  have hZ' := hZ
  subst hj
  obtain ⟨cl, Aq, hsl, hlen, -⟩ := F
  have hi : i < vs.length := (List.getElem?_eq_some_iff.mp hv).1
  have hsz : cl.slots.size = vs.length := by rw [hsl]; simp
  exact ⟨hx, hown, hc, hml, hnm, hrt, hlk, hls, T, L, X, eT, hZ, hG, hF, hMo, hst.trans (X.caload hx (by rw [eT]; exact Aq.1) (State.isArrayOf_alike hZ'.alike Aq.2.1) Aq.2.2 (by rw [hsz]; exact idx_in hi hlen) (by rw [clamp_nat (Nat.lt_trans hi hlen), hsl]; simpa using hv) (g := mkF m pc ls.toArray (.int i.toInt32 :: .ref a :: st)) rfl rfl (hb hc hd) _ (Steps.refl _))⟩
theorem Wk.baload {i : Nat} {j : Int32} (A : Wk l Z a0 EL own code ml nm rt R D pc ls (.int j :: .ref a :: st) H k n) (F : Ar Z H a .byte vs) (hd : decode code pc = .ok (.baload, 1)) (hj : i.toInt32 = j) (hv : vs[i]? = some v) :
    Wk l Z a0 EL own code ml nm rt R D (pc + 1) ls (v :: st) H k n := by
  obtain ⟨p, e, s, m, args, below, meth, c, s0, H0⟩ := D
  obtain ⟨hx, hown, hc, hml, hnm, hrt, hlk, hls, T, L, X, eT, hZ, hG, hF, hMo, hst⟩ := A
  dsimp only at hx hown hc hml hnm hrt hlk X hZ hG hMo hst
  have hown' := hown
  have hZ' := hZ
  subst hj
  obtain ⟨cl, Aq, hsl, hlen, -⟩ := F
  have hi : i < vs.length := (List.getElem?_eq_some_iff.mp hv).1
  have hsz : cl.slots.size = vs.length := by rw [hsl]; simp
  exact ⟨hx, hown, hc, hml, hnm, hrt, hlk, hls, T, L, X, eT, hZ, hG, hF, hMo, hst.trans (X.baloadBytes hx (by rw [eT]; exact Aq.1) (State.isArrayOf_alike hZ'.alike Aq.2.1) Aq.2.2 (by rw [hsz]; exact idx_in hi hlen) (by rw [clamp_nat (Nat.lt_trans hi hlen), hsl]; simpa using hv) (g := mkF m pc ls.toArray (.int i.toInt32 :: .ref a :: st)) rfl rfl (hb hc hd) _ (Steps.refl _))⟩
theorem Wk.zaload {i : Nat} {j : Int32} (A : Wk l Z a0 EL own code ml nm rt R D pc ls (.int j :: .ref a :: st) H k n) (F : Ar Z H a .boolean vs) (hd : decode code pc = .ok (.baload, 1)) (hj : i.toInt32 = j) (hv : vs[i]? = some v) :
    Wk l Z a0 EL own code ml nm rt R D (pc + 1) ls (v :: st) H k n := by
  obtain ⟨p, e, s, m, args, below, meth, c, s0, H0⟩ := D
  obtain ⟨hx, hown, hc, hml, hnm, hrt, hlk, hls, T, L, X, eT, hZ, hG, hF, hMo, hst⟩ := A
  dsimp only at hx hown hc hml hnm hrt hlk X hZ hG hMo hst
  have hown' := hown
  have hZ' := hZ
  subst hj
  obtain ⟨cl, Aq, hsl, hlen, -⟩ := F
  have hi : i < vs.length := (List.getElem?_eq_some_iff.mp hv).1
  have hsz : cl.slots.size = vs.length := by rw [hsl]; simp
  exact ⟨hx, hown, hc, hml, hnm, hrt, hlk, hls, T, L, X, eT, hZ, hG, hF, hMo, hst.trans (X.baloadBooleans hx (by rw [eT]; exact Aq.1) (State.isArrayOf_alike hZ'.alike Aq.2.1) Aq.2.2 (by rw [hsz]; exact idx_in hi hlen) (by rw [clamp_nat (Nat.lt_trans hi hlen), hsl]; simpa using hv) (g := mkF m pc ls.toArray (.int i.toInt32 :: .ref a :: st)) rfl rfl (hb hc hd) _ (Steps.refl _))⟩
theorem Wk.iaload {i : Nat} {j : Int32} (A : Wk l Z a0 EL own code ml nm rt R D pc ls (.int j :: .ref a :: st) H k n) (F : Ar Z H a .int vs) (hd : decode code pc = .ok (.iaload, 1)) (hj : i.toInt32 = j) (hv : vs[i]? = some v) :
    Wk l Z a0 EL own code ml nm rt R D (pc + 1) ls (v :: st) H k n := by
  obtain ⟨p, e, s, m, args, below, meth, c, s0, H0⟩ := D
  obtain ⟨hx, hown, hc, hml, hnm, hrt, hlk, hls, T, L, X, eT, hZ, hG, hF, hMo, hst⟩ := A
  dsimp only at hx hown hc hml hnm hrt hlk X hZ hG hMo hst
  have hown' := hown
  have hZ' := hZ
  subst hj
  obtain ⟨cl, Aq, hsl, hlen, -⟩ := F
  have hi : i < vs.length := (List.getElem?_eq_some_iff.mp hv).1
  have hsz : cl.slots.size = vs.length := by rw [hsl]; simp
  exact ⟨hx, hown, hc, hml, hnm, hrt, hlk, hls, T, L, X, eT, hZ, hG, hF, hMo, hst.trans (X.iaload hx (by rw [eT]; exact Aq.1) (State.isArrayOf_alike hZ'.alike Aq.2.1) Aq.2.2 (by rw [hsz]; exact idx_in hi hlen) (by rw [clamp_nat (Nat.lt_trans hi hlen), hsl]; simpa using hv) (g := mkF m pc ls.toArray (.int i.toInt32 :: .ref a :: st)) rfl rfl (hb hc hd) _ (Steps.refl _))⟩
theorem Wk.laload {i : Nat} {j : Int32} (A : Wk l Z a0 EL own code ml nm rt R D pc ls (.int j :: .ref a :: st) H k n) (F : Ar Z H a .long vs) (hd : decode code pc = .ok (.laload, 1)) (hj : i.toInt32 = j) (hv : vs[i]? = some v) :
    Wk l Z a0 EL own code ml nm rt R D (pc + 1) ls (v :: st) H k n := by
  obtain ⟨p, e, s, m, args, below, meth, c, s0, H0⟩ := D
  obtain ⟨hx, hown, hc, hml, hnm, hrt, hlk, hls, T, L, X, eT, hZ, hG, hF, hMo, hst⟩ := A
  dsimp only at hx hown hc hml hnm hrt hlk X hZ hG hMo hst
  have hown' := hown
  have hZ' := hZ
  subst hj
  obtain ⟨cl, Aq, hsl, hlen, -⟩ := F
  have hi : i < vs.length := (List.getElem?_eq_some_iff.mp hv).1
  have hsz : cl.slots.size = vs.length := by rw [hsl]; simp
  exact ⟨hx, hown, hc, hml, hnm, hrt, hlk, hls, T, L, X, eT, hZ, hG, hF, hMo, hst.trans (X.laload hx (by rw [eT]; exact Aq.1) (State.isArrayOf_alike hZ'.alike Aq.2.1) Aq.2.2 (by rw [hsz]; exact idx_in hi hlen) (by rw [clamp_nat (Nat.lt_trans hi hlen), hsl]; simpa using hv) (g := mkF m pc ls.toArray (.int i.toInt32 :: .ref a :: st)) rfl rfl (hb hc hd) _ (Steps.refl _))⟩
theorem Wk.aaload {i : Nat} {j : Int32} (A : Wk l Z a0 EL own code ml nm rt R D pc ls (.int j :: .ref a :: st) H k n) (F : Ar Z H a ty vs) (hd : decode code pc = .ok (.aaload, 1)) (hj : i.toInt32 = j) (hv : vs[i]? = some v) (hty : ty.isReference = true) :
    Wk l Z a0 EL own code ml nm rt R D (pc + 1) ls (v :: st) H k n := by
  obtain ⟨p, e, s, m, args, below, meth, c, s0, H0⟩ := D
  obtain ⟨hx, hown, hc, hml, hnm, hrt, hlk, hls, T, L, X, eT, hZ, hG, hF, hMo, hst⟩ := A
  dsimp only at hx hown hc hml hnm hrt hlk X hZ hG hMo hst
  have hown' := hown
  have hZ' := hZ
  subst hj
  obtain ⟨cl, Aq, hsl, hlen, -⟩ := F
  have hi : i < vs.length := (List.getElem?_eq_some_iff.mp hv).1
  have hsz : cl.slots.size = vs.length := by rw [hsl]; simp
  exact ⟨hx, hown, hc, hml, hnm, hrt, hlk, hls, T, L, X, eT, hZ, hG, hF, hMo, hst.trans (X.aaload hx (by rw [eT]; exact Aq.1) (State.isArrayOf_alike hZ'.alike Aq.2.1) hty Aq.2.2 (by rw [hsz]; exact idx_in hi hlen) (by rw [clamp_nat (Nat.lt_trans hi hlen), hsl]; simpa using hv) (g := mkF m pc ls.toArray (.int i.toInt32 :: .ref a :: st)) rfl rfl (hb hc hd) _ (Steps.refl _))⟩
theorem Wk.castore {i : Nat} {j : Int32} {x x2 : Int32} (A : Wk l Z a0 EL own code ml nm rt R D pc ls (.int x :: .int j :: .ref a :: st) H k n) (F : Ar Z H a .char vs) (o : H.2 a) (hd : decode code pc = .ok (.castore, 1)) (hj : i.toInt32 = j) (hi : i < vs.length) (hx2 : nar .char x = x2) :
    ∃ H' : HP, Wk l Z a0 EL own code ml nm rt R D (pc + 1) ls st H' k n ∧ Kp H H' [a] ∧ Ar Z H' a .char (vs.set i (.int x2)) := by
  obtain ⟨p, e, s, m, args, below, meth, c, s0, H0⟩ := D
  obtain ⟨hx, hown, hc, hml, hnm, hrt, hlk, hls, T, L, X, eT, hZ, hG, hF, hMo, hst⟩ := A
  dsimp only at hx hown hc hml hnm hrt hlk X hZ hG hMo hst
  have hown' := hown
  have hZ' := hZ
  subst hj
  obtain ⟨cl, Aq, hsl, hlen, hft⟩ := F
  have hsz : cl.slots.size = vs.length := by rw [hsl]; simp
  have hi2 : i < 2 ^ 31 := Nat.lt_trans hi hlen
  obtain ⟨T', h', X', e', Wr1, st'⟩ := stC X hx hZ' eT Aq (by rw [hsz]; exact idx_in hi hlen) (g := mkF m pc ls.toArray (.int x :: .int i.toInt32 :: .ref a :: st)) rfl rfl (hb hc hd)
  have o2 := hG.2 a o
  refine ⟨(h', H.2), ⟨hx, hown, hc, hml, hnm, hrt, hlk, hls, T', (L ++ [_]), X', e', hZ, (hG.wr Wr1 o), (hF.app fun y hy => by cases List.mem_singleton.mp hy; exact o2.1), ⟨hMo.1, by show _ ≤ h'.size; rw [Wr1.size]; exact hMo.2⟩, hst.trans (st' _ (Steps.refl _))⟩, ⟨Keep.of_wr Wr1, fun _ q => q⟩, ⟨_, Aq.same Wr1, ?_, by simpa using hlen, fun v hv => ?_⟩⟩
  · rw [clamp_nat hi2]; show cl.slots.setIfInBounds i _ = _; rw [hsl]; subst hx2; simp
  · rcases List.mem_or_eq_of_mem_set hv with q | rfl
    · exact hft v q
    · rw [← hx2]; exact fits_nar_char x
theorem Wk.bastore {i : Nat} {j : Int32} {x x2 : Int32} (A : Wk l Z a0 EL own code ml nm rt R D pc ls (.int x :: .int j :: .ref a :: st) H k n) (F : Ar Z H a .byte vs) (o : H.2 a) (hd : decode code pc = .ok (.bastore, 1)) (hj : i.toInt32 = j) (hi : i < vs.length) (hx2 : nar .byte x = x2) :
    ∃ H' : HP, Wk l Z a0 EL own code ml nm rt R D (pc + 1) ls st H' k n ∧ Kp H H' [a] ∧ Ar Z H' a .byte (vs.set i (.int x2)) := by
  obtain ⟨p, e, s, m, args, below, meth, c, s0, H0⟩ := D
  obtain ⟨hx, hown, hc, hml, hnm, hrt, hlk, hls, T, L, X, eT, hZ, hG, hF, hMo, hst⟩ := A
  dsimp only at hx hown hc hml hnm hrt hlk X hZ hG hMo hst
  have hown' := hown
  have hZ' := hZ
  subst hj
  obtain ⟨cl, Aq, hsl, hlen, hft⟩ := F
  have hsz : cl.slots.size = vs.length := by rw [hsl]; simp
  have hi2 : i < 2 ^ 31 := Nat.lt_trans hi hlen
  obtain ⟨T', h', X', e', Wr1, st'⟩ := stB X hx hZ' eT Aq (by rw [hsz]; exact idx_in hi hlen) (g := mkF m pc ls.toArray (.int x :: .int i.toInt32 :: .ref a :: st)) rfl rfl (hb hc hd)
  have o2 := hG.2 a o
  refine ⟨(h', H.2), ⟨hx, hown, hc, hml, hnm, hrt, hlk, hls, T', (L ++ [_]), X', e', hZ, (hG.wr Wr1 o), (hF.app fun y hy => by cases List.mem_singleton.mp hy; exact o2.1), ⟨hMo.1, by show _ ≤ h'.size; rw [Wr1.size]; exact hMo.2⟩, hst.trans (st' _ (Steps.refl _))⟩, ⟨Keep.of_wr Wr1, fun _ q => q⟩, ⟨_, Aq.same Wr1, ?_, by simpa using hlen, fun v hv => ?_⟩⟩
  · rw [clamp_nat hi2]; show cl.slots.setIfInBounds i _ = _; rw [hsl]; subst hx2; simp
  · rcases List.mem_or_eq_of_mem_set hv with q | rfl
    · exact hft v q
    · rw [← hx2]; exact fits_nar_byte x
theorem Wk.zastore {i : Nat} {j : Int32} {x x2 : Int32} (A : Wk l Z a0 EL own code ml nm rt R D pc ls (.int x :: .int j :: .ref a :: st) H k n) (F : Ar Z H a .boolean vs) (o : H.2 a) (hd : decode code pc = .ok (.bastore, 1)) (hj : i.toInt32 = j) (hi : i < vs.length) (hx2 : nar .boolean x = x2) :
    ∃ H' : HP, Wk l Z a0 EL own code ml nm rt R D (pc + 1) ls st H' k n ∧ Kp H H' [a] ∧ Ar Z H' a .boolean (vs.set i (.int x2)) := by
  obtain ⟨p, e, s, m, args, below, meth, c, s0, H0⟩ := D
  obtain ⟨hx, hown, hc, hml, hnm, hrt, hlk, hls, T, L, X, eT, hZ, hG, hF, hMo, hst⟩ := A
  dsimp only at hx hown hc hml hnm hrt hlk X hZ hG hMo hst
  have hown' := hown
  have hZ' := hZ
  subst hj
  obtain ⟨cl, Aq, hsl, hlen, hft⟩ := F
  have hsz : cl.slots.size = vs.length := by rw [hsl]; simp
  have hi2 : i < 2 ^ 31 := Nat.lt_trans hi hlen
  obtain ⟨T', h', X', e', Wr1, st'⟩ := stZ X hx hZ' eT Aq (by rw [hsz]; exact idx_in hi hlen) (g := mkF m pc ls.toArray (.int x :: .int i.toInt32 :: .ref a :: st)) rfl rfl (hb hc hd)
  have o2 := hG.2 a o
  refine ⟨(h', H.2), ⟨hx, hown, hc, hml, hnm, hrt, hlk, hls, T', (L ++ [_]), X', e', hZ, (hG.wr Wr1 o), (hF.app fun y hy => by cases List.mem_singleton.mp hy; exact o2.1), ⟨hMo.1, by show _ ≤ h'.size; rw [Wr1.size]; exact hMo.2⟩, hst.trans (st' _ (Steps.refl _))⟩, ⟨Keep.of_wr Wr1, fun _ q => q⟩, ⟨_, Aq.same Wr1, ?_, by simpa using hlen, fun v hv => ?_⟩⟩
  · rw [clamp_nat hi2]; show cl.slots.setIfInBounds i _ = _; rw [hsl]; subst hx2; simp
  · rcases List.mem_or_eq_of_mem_set hv with q | rfl
    · exact hft v q
    · rw [← hx2]; exact fits_nar_bool x
theorem Wk.iastore {i : Nat} {j : Int32} {x : Int32} (A : Wk l Z a0 EL own code ml nm rt R D pc ls (.int x :: .int j :: .ref a :: st) H k n) (F : Ar Z H a .int vs) (o : H.2 a) (hd : decode code pc = .ok (.iastore, 1)) (hj : i.toInt32 = j) (hi : i < vs.length) :
    ∃ H' : HP, Wk l Z a0 EL own code ml nm rt R D (pc + 1) ls st H' k n ∧ Kp H H' [a] ∧ Ar Z H' a .int (vs.set i (.int x)) := by
  obtain ⟨p, e, s, m, args, below, meth, c, s0, H0⟩ := D
  obtain ⟨hx, hown, hc, hml, hnm, hrt, hlk, hls, T, L, X, eT, hZ, hG, hF, hMo, hst⟩ := A
  dsimp only at hx hown hc hml hnm hrt hlk X hZ hG hMo hst
  have hown' := hown
  have hZ' := hZ
  subst hj
  obtain ⟨cl, Aq, hsl, hlen, hft⟩ := F
  have hsz : cl.slots.size = vs.length := by rw [hsl]; simp
  have hi2 : i < 2 ^ 31 := Nat.lt_trans hi hlen
  obtain ⟨T', h', X', e', Wr1, st'⟩ := stI X hx hZ' eT Aq (by rw [hsz]; exact idx_in hi hlen) (g := mkF m pc ls.toArray (.int x :: .int i.toInt32 :: .ref a :: st)) rfl rfl (hb hc hd)
  have o2 := hG.2 a o
  refine ⟨(h', H.2), ⟨hx, hown, hc, hml, hnm, hrt, hlk, hls, T', (L ++ [_]), X', e', hZ, (hG.wr Wr1 o), (hF.app fun y hy => by cases List.mem_singleton.mp hy; exact o2.1), ⟨hMo.1, by show _ ≤ h'.size; rw [Wr1.size]; exact hMo.2⟩, hst.trans (st' _ (Steps.refl _))⟩, ⟨Keep.of_wr Wr1, fun _ q => q⟩, ⟨_, Aq.same Wr1, ?_, by simpa using hlen, fun v hv => ?_⟩⟩
  · rw [clamp_nat hi2]; show cl.slots.setIfInBounds i _ = _; rw [hsl]; simp
  · rcases List.mem_or_eq_of_mem_set hv with q | rfl
    · exact hft v q
    · rfl
theorem Wk.lastore {i : Nat} {j : Int32} {x : Int64} (A : Wk l Z a0 EL own code ml nm rt R D pc ls (.long x :: .int j :: .ref a :: st) H k n) (F : Ar Z H a .long vs) (o : H.2 a) (hd : decode code pc = .ok (.lastore, 1)) (hj : i.toInt32 = j) (hi : i < vs.length) :
    ∃ H' : HP, Wk l Z a0 EL own code ml nm rt R D (pc + 1) ls st H' k n ∧ Kp H H' [a] ∧ Ar Z H' a .long (vs.set i (.long x)) := by
  obtain ⟨p, e, s, m, args, below, meth, c, s0, H0⟩ := D
  obtain ⟨hx, hown, hc, hml, hnm, hrt, hlk, hls, T, L, X, eT, hZ, hG, hF, hMo, hst⟩ := A
  dsimp only at hx hown hc hml hnm hrt hlk X hZ hG hMo hst
  have hown' := hown
  have hZ' := hZ
  subst hj
  obtain ⟨cl, Aq, hsl, hlen, hft⟩ := F
  have hsz : cl.slots.size = vs.length := by rw [hsl]; simp
  have hi2 : i < 2 ^ 31 := Nat.lt_trans hi hlen
  obtain ⟨T', h', X', e', Wr1, st'⟩ := stJ X hx hZ' eT Aq (by rw [hsz]; exact idx_in hi hlen) (g := mkF m pc ls.toArray (.long x :: .int i.toInt32 :: .ref a :: st)) rfl rfl (hb hc hd)
  have o2 := hG.2 a o
  refine ⟨(h', H.2), ⟨hx, hown, hc, hml, hnm, hrt, hlk, hls, T', (L ++ [_]), X', e', hZ, (hG.wr Wr1 o), (hF.app fun y hy => by cases List.mem_singleton.mp hy; exact o2.1), ⟨hMo.1, by show _ ≤ h'.size; rw [Wr1.size]; exact hMo.2⟩, hst.trans (st' _ (Steps.refl _))⟩, ⟨Keep.of_wr Wr1, fun _ q => q⟩, ⟨_, Aq.same Wr1, ?_, by simpa using hlen, fun v hv => ?_⟩⟩
  · rw [clamp_nat hi2]; show cl.slots.setIfInBounds i _ = _; rw [hsl]; simp
  · rcases List.mem_or_eq_of_mem_set hv with q | rfl
    · exact hft v q
    · rfl
theorem Wk.initO {idx Wd : Nat} (A : Wk l Z a0 EL own code ml nm rt R D pc ls (.ref a :: st) H k n) (w1 : (Jvm.Cond.methodLink own idx Lib.objectInit).before a0 Z = true) (w2 : (Jvm.Cond.instanceMethod Lib.objectInit).before a0 Z = true) (w3 : (Jvm.Cond.code Lib.objectInit ⟨#[0xb1]⟩ 1 none).before a0 Z = true) (hd : decode code pc = .ok (.invokespecial idx, 3)) (hf : 1 ≤ R.frames) (hW : (st.map fun v => v.category).sum ≤ Wd) (hlo : Wd + 12 ≤ R.locals) :
    Wk l Z a0 EL own code ml nm rt R D (pc + 3) ls st H k n := by
  obtain ⟨p, e, s, m, args, below, meth, c, s0, H0⟩ := D
  obtain ⟨hx, hown, hc, hml, hnm, hrt, hlk, hls, T, L, X, eT, hZ, hG, hF, hMo, hst⟩ := A
  dsimp only at hx hown hc hml hnm hrt hlk X hZ hG hMo hst
  have hown' := hown
  have hZ' := hZ
  obtain ⟨T', X', e', st'⟩ := RoadKit.initO X hx hZ' hown' w1 w2 w3 eT (g := mkF m pc ls.toArray (.ref a :: st)) rfl (by simp [hls, hml]) rfl (hb hc hd) hf (W := Wd) (by simpa using hW) hlo
  exact ⟨hx, hown, hc, hml, hnm, hrt, hlk, hls, T', L, X', e', hZ, hG, hF, hMo, hst.trans (st' _ (Steps.refl _))⟩
theorem Wk.instY {K : String} {index : Nat} (A : Wk l Z a0 EL own code ml nm rt R D pc ls (.ref a :: st) H k n) (w : (Jvm.Cond.classLink own index K).before a0 Z = true) (F : Ins Z H.1 a K true) (hd : decode code pc = .ok (.instanceof index, 3)) :
    Wk l Z a0 EL own code ml nm rt R D (pc + 3) ls (.int 1 :: st) H k n := by
  obtain ⟨p, e, s, m, args, below, meth, c, s0, H0⟩ := D
  obtain ⟨hx, hown, hc, hml, hnm, hrt, hlk, hls, T, L, X, eT, hZ, hG, hF, hMo, hst⟩ := A
  dsimp only at hx hown hc hml hnm hrt hlk X hZ hG hMo hst
  have hown' := hown
  have hZ' := hZ
  obtain ⟨T', X', e', st'⟩ := RoadKit.instY X hx hZ' hown' w eT F (g := mkF m pc ls.toArray (.ref a :: st)) rfl rfl (hb hc hd)
  exact ⟨hx, hown, hc, hml, hnm, hrt, hlk, hls, T', L, X', e', hZ, hG, hF, hMo, hst.trans (st' _ (Steps.refl _))⟩
theorem Wk.instN {K : String} {index : Nat} (A : Wk l Z a0 EL own code ml nm rt R D pc ls (.ref a :: st) H k n) (w : (Jvm.Cond.classLink own index K).before a0 Z = true) (E : Exa Z H.1 a C) (F : ∃ c t, Z.vm.findClass C = some c ∧ Z.vm.findClass K = some t ∧ Z.vm.assignable c t = false) (hd : decode code pc = .ok (.instanceof index, 3)) :
    Wk l Z a0 EL own code ml nm rt R D (pc + 3) ls (.int 0 :: st) H k n := by
  obtain ⟨p, e, s, m, args, below, meth, c, s0, H0⟩ := D
  obtain ⟨hx, hown, hc, hml, hnm, hrt, hlk, hls, T, L, X, eT, hZ, hG, hF, hMo, hst⟩ := A
  dsimp only at hx hown hc hml hnm hrt hlk X hZ hG hMo hst
  have hown' := hown
  have hZ' := hZ
  obtain ⟨T', X', e', st'⟩ := RoadKit.instNo X hx hZ' hown' w eT E F (g := mkF m pc ls.toArray (.ref a :: st)) rfl rfl (hb hc hd)
  exact ⟨hx, hown, hc, hml, hnm, hrt, hlk, hls, T', L, X', e', hZ, hG, hF, hMo, hst.trans (st' _ (Steps.refl _))⟩
theorem Wk.castY {K : String} {index : Nat} (A : Wk l Z a0 EL own code ml nm rt R D pc ls (.ref a :: st) H k n) (w : (Jvm.Cond.classLink own index K).before a0 Z = true) (F : Ins Z H.1 a K true) (hd : decode code pc = .ok (.checkcast index, 3)) :
    Wk l Z a0 EL own code ml nm rt R D (pc + 3) ls (.ref a :: st) H k n := by
  obtain ⟨p, e, s, m, args, below, meth, c, s0, H0⟩ := D
  obtain ⟨hx, hown, hc, hml, hnm, hrt, hlk, hls, T, L, X, eT, hZ, hG, hF, hMo, hst⟩ := A
  dsimp only at hx hown hc hml hnm hrt hlk X hZ hG hMo hst
  have hown' := hown
  have hZ' := hZ
  obtain ⟨T', X', e', st'⟩ := RoadKit.castY X hx hZ' hown' w eT F (g := mkF m pc ls.toArray (.ref a :: st)) rfl rfl (hb hc hd)
  exact ⟨hx, hown, hc, hml, hnm, hrt, hlk, hls, T', L, X', e', hZ, hG, hF, hMo, hst.trans (st' _ (Steps.refl _))⟩
theorem Wk.instNull {index : Nat} (A : Wk l Z a0 EL own code ml nm rt R D pc ls (.null :: st) H k n) (hd : decode code pc = .ok (.instanceof index, 3)) :
    Wk l Z a0 EL own code ml nm rt R D (pc + 3) ls (.int 0 :: st) H k n := by
  obtain ⟨p, e, s, m, args, below, meth, c, s0, H0⟩ := D
  obtain ⟨hx, hown, hc, hml, hnm, hrt, hlk, hls, T, L, X, eT, hZ, hG, hF, hMo, hst⟩ := A
  dsimp only at hx hown hc hml hnm hrt hlk X hZ hG hMo hst
  have hown' := hown
  have hZ' := hZ
  exact ⟨hx, hown, hc, hml, hnm, hrt, hlk, hls, T, L, X, eT, hZ, hG, hF, hMo, hst.trans (X.instanceofNull hx (g := mkF m pc ls.toArray (.null :: st)) rfl rfl (hb hc hd) _ (Steps.refl _))⟩
theorem Wk.castNull {index : Nat} (A : Wk l Z a0 EL own code ml nm rt R D pc ls (.null :: st) H k n) (hd : decode code pc = .ok (.checkcast index, 3)) :
    Wk l Z a0 EL own code ml nm rt R D (pc + 3) ls (.null :: st) H k n := by
  obtain ⟨p, e, s, m, args, below, meth, c, s0, H0⟩ := D
  obtain ⟨hx, hown, hc, hml, hnm, hrt, hlk, hls, T, L, X, eT, hZ, hG, hF, hMo, hst⟩ := A
  dsimp only at hx hown hc hml hnm hrt hlk X hZ hG hMo hst
  have hown' := hown
  have hZ' := hZ
  exact ⟨hx, hown, hc, hml, hnm, hrt, hlk, hls, T, L, X, eT, hZ, hG, hF, hMo, hst.trans (X.checkcastNull hx (g := mkF m pc ls.toArray (.null :: st)) rfl rfl (hb hc hd) _ (Steps.refl _))⟩
theorem no_asg {K : String} {q : Nat} (w : (Jvm.Cond.superclass C "java/lang/Object").before a0 Z = true) (w2 : (Jvm.Cond.noSuperclass "java/lang/Object").before a0 Z = true) (wi : (Jvm.Cond.instantiable K q).before a0 Z = true) (h1 : C ≠ K) (h2 : "java/lang/Object" ≠ K) : ∃ c t, Z.vm.findClass C = some c ∧ Z.vm.findClass K = some t ∧ Z.vm.assignable c t = false := by
  obtain ⟨co, ko, o1, o2, o3, -, -⟩ := Cond.noSuperclass_spec w2
  obtain ⟨t, kt, g0, g2, g5, g7, -⟩ := Cond.instantiable_spec wi
  obtain ⟨c, h0⟩ := found_sup w
  obtain ⟨p, k, kp, p1, p2, p3, p4, p5, -, -⟩ := Cond.superclass_spec h0 w
  cases o1.symm.trans p1
  have ne := ids_ne h0 g0 h1
  have ne2 := ids_ne o1 g0 h2
  have g8 : kt.isInterface = false := by cases hq : kt.isInterface <;> simp [hq] at g7 ⊢
  have n3 : ∀ fuel, Z.vm.isSubclassAux fuel co t = false := fun fuel => by
    cases fuel with
    | zero => rfl
    | succ f => simp [Vm.isSubclassAux, ne2, o2, o3]
  have n4 : ∀ fuel, Z.vm.isSubclassAux fuel c t = false := fun fuel => by
    cases fuel with
    | zero => rfl
    | succ f => simp [Vm.isSubclassAux, ne, p2, p4, n3]
  refine ⟨c, t, h0, g0, ?_⟩
  show Z.vm.assignableAux (255 + 1) c t = false
  simp [Vm.assignableAux, ne, p2, g2, p5, g5, g8, Vm.isSubclass, n4]
theorem Wk.ldcI {index : Nat} {x : Int32} (A : Wk l Z a0 EL own code ml nm rt R D pc ls st H k n) (w : (Jvm.Cond.constant own index x).before a0 Z = true) (hd : decode code pc = .ok (.ldc index, 2)) :
    Wk l Z a0 EL own code ml nm rt R D (pc + 2) ls (.int x :: st) H k n := by
  obtain ⟨p, e, s, m, args, below, meth, c, s0, H0⟩ := D
  obtain ⟨hx, hown, hc, hml, hnm, hrt, hlk, hls, T, L, X, eT, hZ, hG, hF, hMo, hst⟩ := A
  dsimp only at hx hown hc hml hnm hrt hlk X hZ hG hMo hst
  have hown' := hown
  have hZ' := hZ
  exact ⟨hx, hown, hc, hml, hnm, hrt, hlk, hls, T, L, X, eT, hZ, hG, hF, hMo, hst.trans (X.ldcI hx hown' (mvT hZ' w) (g := mkF m pc ls.toArray st) rfl (hb hc hd) (Steps.refl _))⟩
theorem Wk.ldcJ {index : Nat} {x : Int64} (A : Wk l Z a0 EL own code ml nm rt R D pc ls st H k n) (w : (Jvm.Cond.constantLong own index x).before a0 Z = true) (hd : decode code pc = .ok (.ldc2_w index, 3)) :
    Wk l Z a0 EL own code ml nm rt R D (pc + 3) ls (.long x :: st) H k n := by
  obtain ⟨p, e, s, m, args, below, meth, c, s0, H0⟩ := D
  obtain ⟨hx, hown, hc, hml, hnm, hrt, hlk, hls, T, L, X, eT, hZ, hG, hF, hMo, hst⟩ := A
  dsimp only at hx hown hc hml hnm hrt hlk X hZ hG hMo hst
  have hown' := hown
  have hZ' := hZ
  exact ⟨hx, hown, hc, hml, hnm, hrt, hlk, hls, T, L, X, eT, hZ, hG, hF, hMo, hst.trans (X.ldc2J hx hown' (mvT hZ' w) (g := mkF m pc ls.toArray st) rfl (hb hc hd) (Steps.refl _))⟩
theorem Wk.more (A : Wk l Z a0 EL own code ml nm rt R D pc ls st H k n) {k' n' : Nat} (h1 : k ≤ k') (h2 : n ≤ n') :
    Wk l Z a0 EL own code ml nm rt R D pc ls st H k' n' := by
  obtain ⟨p, e, s, m, args, below, meth, c, s0, H0⟩ := D
  obtain ⟨hx, hown, hc, hml, hnm, hrt, hlk, hls, T, L, X, eT, hZ, hG, hF, hMo, hst⟩ := A
  dsimp only at hx hown hc hml hnm hrt hlk X hZ hG hMo hst
  have hown' := hown
  have hZ' := hZ
  exact ⟨hx, hown, hc, hml, hnm, hrt, hlk, hls, T, L, (X.more h1 h2), eT, hZ, hG, hF, hMo, hst⟩
theorem Wk.ret  (A : Wk l Z a0 EL own code ml nm none R D pc ls st H k n) (hd : decode code pc = .ok (.return_, 1)) :
    Rt Z EL D none H k n := by
  obtain ⟨p, e, s, m, args, below, meth, c, s0, H0⟩ := D
  obtain ⟨hx, hown, hc, hml, hnm, hrt, hlk, hls, T, L, X, eT, hZ, hG, hF, hMo, hst⟩ := A
  dsimp only at hx hown hc hml hnm hrt hlk X hZ hG hMo hst
  have hown' := hown
  have hZ' := hZ
  obtain ⟨fs, hr, hrun, hended, hW, hsame⟩ := X.leave (v := none) (fun _ => rfl) hlk
  exact ⟨_, L, hst.trans (retV X hx hrt (hb hc hd) hr), hrun, hended, eT, hMo, hG, hF, ⟨_, rfl⟩, hW, hsame⟩
theorem Wk.retZ {x x2 : Int32} (A : Wk l Z a0 EL own code ml nm (some .boolean) R D pc ls (.int x :: st) H k n) (hd : decode code pc = .ok (.ireturn, 1)) (hx2 : nar .boolean x = x2) :
    Rt Z EL D (some (.int x2)) H k n := by
  obtain ⟨p, e, s, m, args, below, meth, c, s0, H0⟩ := D
  obtain ⟨hx, hown, hc, hml, hnm, hrt, hlk, hls, T, L, X, eT, hZ, hG, hF, hMo, hst⟩ := A
  dsimp only at hx hown hc hml hnm hrt hlk X hZ hG hMo hst
  have hown' := hown
  have hZ' := hZ
  subst hx2
  obtain ⟨fs, hr, hrun, hended, hW, hsame⟩ := X.leave (v := some (.int (nar .boolean x))) (fun h => by rw [hrt] at h; cases h) hlk
  exact ⟨_, L, hst.trans (retN X hx (t := .boolean) hrt (by simp) (hb hc hd) hr), hrun, hended, eT, hMo, hG, hF, ⟨_, rfl⟩, hW, hsame⟩
theorem Wk.retB {x x2 : Int32} (A : Wk l Z a0 EL own code ml nm (some .byte) R D pc ls (.int x :: st) H k n) (hd : decode code pc = .ok (.ireturn, 1)) (hx2 : nar .byte x = x2) :
    Rt Z EL D (some (.int x2)) H k n := by
  obtain ⟨p, e, s, m, args, below, meth, c, s0, H0⟩ := D
  obtain ⟨hx, hown, hc, hml, hnm, hrt, hlk, hls, T, L, X, eT, hZ, hG, hF, hMo, hst⟩ := A
  dsimp only at hx hown hc hml hnm hrt hlk X hZ hG hMo hst
  have hown' := hown
  have hZ' := hZ
  subst hx2
  obtain ⟨fs, hr, hrun, hended, hW, hsame⟩ := X.leave (v := some (.int (nar .byte x))) (fun h => by rw [hrt] at h; cases h) hlk
  exact ⟨_, L, hst.trans (retN X hx (t := .byte) hrt (by simp) (hb hc hd) hr), hrun, hended, eT, hMo, hG, hF, ⟨_, rfl⟩, hW, hsame⟩
theorem Wk.retC {x x2 : Int32} (A : Wk l Z a0 EL own code ml nm (some .char) R D pc ls (.int x :: st) H k n) (hd : decode code pc = .ok (.ireturn, 1)) (hx2 : nar .char x = x2) :
    Rt Z EL D (some (.int x2)) H k n := by
  obtain ⟨p, e, s, m, args, below, meth, c, s0, H0⟩ := D
  obtain ⟨hx, hown, hc, hml, hnm, hrt, hlk, hls, T, L, X, eT, hZ, hG, hF, hMo, hst⟩ := A
  dsimp only at hx hown hc hml hnm hrt hlk X hZ hG hMo hst
  have hown' := hown
  have hZ' := hZ
  subst hx2
  obtain ⟨fs, hr, hrun, hended, hW, hsame⟩ := X.leave (v := some (.int (nar .char x))) (fun h => by rw [hrt] at h; cases h) hlk
  exact ⟨_, L, hst.trans (retN X hx (t := .char) hrt (by simp) (hb hc hd) hr), hrun, hended, eT, hMo, hG, hF, ⟨_, rfl⟩, hW, hsame⟩
theorem Wk.retS {x x2 : Int32} (A : Wk l Z a0 EL own code ml nm (some .short) R D pc ls (.int x :: st) H k n) (hd : decode code pc = .ok (.ireturn, 1)) (hx2 : nar .short x = x2) :
    Rt Z EL D (some (.int x2)) H k n := by
  obtain ⟨p, e, s, m, args, below, meth, c, s0, H0⟩ := D
  obtain ⟨hx, hown, hc, hml, hnm, hrt, hlk, hls, T, L, X, eT, hZ, hG, hF, hMo, hst⟩ := A
  dsimp only at hx hown hc hml hnm hrt hlk X hZ hG hMo hst
  have hown' := hown
  have hZ' := hZ
  subst hx2
  obtain ⟨fs, hr, hrun, hended, hW, hsame⟩ := X.leave (v := some (.int (nar .short x))) (fun h => by rw [hrt] at h; cases h) hlk
  exact ⟨_, L, hst.trans (retN X hx (t := .short) hrt (by simp) (hb hc hd) hr), hrun, hended, eT, hMo, hG, hF, ⟨_, rfl⟩, hW, hsame⟩
theorem Wk.retI {x : Int32} (A : Wk l Z a0 EL own code ml nm (some .int) R D pc ls (.int x :: st) H k n) (hd : decode code pc = .ok (.ireturn, 1)) :
    Rt Z EL D (some (.int x)) H k n := by
  obtain ⟨p, e, s, m, args, below, meth, c, s0, H0⟩ := D
  obtain ⟨hx, hown, hc, hml, hnm, hrt, hlk, hls, T, L, X, eT, hZ, hG, hF, hMo, hst⟩ := A
  dsimp only at hx hown hc hml hnm hrt hlk X hZ hG hMo hst
  have hown' := hown
  have hZ' := hZ
  obtain ⟨fs, hr, hrun, hended, hW, hsame⟩ := X.leave (v := (some (.int x))) (fun h => by rw [hrt] at h; cases h) hlk
  exact ⟨_, L, hst.trans (retOut X hx hrt rfl (Or.inl ⟨rfl, Or.inl rfl, x, rfl⟩) (hb hc hd) hr), hrun, hended, eT, hMo, hG, hF, ⟨_, rfl⟩, hW, hsame⟩
theorem Wk.retJ {x : Int64} (A : Wk l Z a0 EL own code ml nm (some .long) R D pc ls (.long x :: st) H k n) (hd : decode code pc = .ok (.lreturn, 1)) :
    Rt Z EL D (some (.long x)) H k n := by
  obtain ⟨p, e, s, m, args, below, meth, c, s0, H0⟩ := D
  obtain ⟨hx, hown, hc, hml, hnm, hrt, hlk, hls, T, L, X, eT, hZ, hG, hF, hMo, hst⟩ := A
  dsimp only at hx hown hc hml hnm hrt hlk X hZ hG hMo hst
  have hown' := hown
  have hZ' := hZ
  obtain ⟨fs, hr, hrun, hended, hW, hsame⟩ := X.leave (v := (some (.long x))) (fun h => by rw [hrt] at h; cases h) hlk
  exact ⟨_, L, hst.trans (retOut X hx hrt rfl (Or.inr (Or.inl ⟨rfl, rfl, x, rfl⟩)) (hb hc hd) hr), hrun, hended, eT, hMo, hG, hF, ⟨_, rfl⟩, hW, hsame⟩
theorem Wk.retA {t : FieldType} (A : Wk l Z a0 EL own code ml nm (some t) R D pc ls (v :: st) H k n) (hd : decode code pc = .ok (.areturn, 1)) (ht : t.isReference = true) (hv : v.isRef = true) :
    Rt Z EL D (some v) H k n := by
  obtain ⟨p, e, s, m, args, below, meth, c, s0, H0⟩ := D
  obtain ⟨hx, hown, hc, hml, hnm, hrt, hlk, hls, T, L, X, eT, hZ, hG, hF, hMo, hst⟩ := A
  dsimp only at hx hown hc hml hnm hrt hlk X hZ hG hMo hst
  have hown' := hown
  have hZ' := hZ
  obtain ⟨fs, hr, hrun, hended, hW, hsame⟩ := X.leave (v := some v) (fun h => by rw [hrt] at h; cases h) hlk
  have hn : narrow t v = v := by rcases ref_cases hv with rfl | ⟨z, rfl⟩ <;> cases t <;> first | rfl | cases ht
  exact ⟨_, L, hst.trans (retOut X hx hrt hn (Or.inr (Or.inr (Or.inr (Or.inr ⟨rfl, ht, hv⟩)))) (hb hc hd) hr), hrun, hended, eT, hMo, hG, hF, ⟨_, rfl⟩, hW, hsame⟩
theorem Ct.intro {y : MethodName} {bytes : ByteArray} {ret : Option FieldType} {rm : Room} {wz : List Jvm.Cond} {as : List Value} {Q : Option Value → HP → Prop} (hpl : plainFor y = true) (hls : locsOf as ml = ls) (hlen : ls.length = ml)
    (body : ∀ D, Wk l Z a0 EL y.cls bytes ml y.name ret rm D 0 ls [] H 0 0 → ∃ v H' k n, Rt Z EL D v H' k n ∧ Q v H' ∧ k ≤ rm.cells ∧ n ≤ rm.slots) : Ct l Z EL y bytes ml ret rm wz as H Q := by
  refine MetFree.of_bodySF hpl hisR ?_
  intro p e s m args below meth c s₁ Bd hml0 hP hK
  obtain ⟨rfl, hZ, hh, hG⟩ := hP
  have hx := Bd.exec
  have hown : s.vm.findClass y.cls = some m.cls := findClass_of_methodNamed Bd.named
  have hnm := (name_of_methodNamed Bd.named Bd.method).1
  have X0 : Stand p l e rm s m as.toArray below meth c s₁ [] 0 0 := Stand.of_body Bd
  have e0 : s₁.heap = H.1 := by rw [← hh, Bd.state]; rfl
  have hst : Steps p.tables e below (s₁.setTop (entryFrame m as.toArray ml)) (s₁.setTop (mkF m 0 ls.toArray [])) := by rw [entry_locs, hls]; exact Steps.refl _
  obtain ⟨v, H', k, n, ⟨s₂, L, h1, h2, h3, h4, h5, h6, h7, h8⟩, hQ, hk, hn⟩ := body (p, e, s, m, as.toArray, below, meth, c, s₁.setTop (entryFrame m as.toArray ml), H) ⟨hx, hown, Bd.bytes, hml0, hnm, Bd.returns, Bd.notSynchronized, hlen, s₁, [], X0, e0, hZ, hG, Fr.nil _, ⟨fun _ q => q, Nat.le_refl _⟩, hst⟩
  obtain ⟨hp, O⟩ := H'
  have h4 : s₂.heap = hp := h4
  subst h4
  obtain ⟨g1, g2, g4⟩ := h8
  exact ⟨s₂, _, h1, h2, h3, v, L, O, rfl, hQ, h5, h6, h7, g1, g2, g4.mono hk hn⟩
theorem Ct.mono {y : MethodName} {bytes : ByteArray} {ret : Option FieldType} {rm : Room} {wz : List Jvm.Cond} {as : List Value} {Q Q' : Option Value → HP → Prop} (h : Ct l Z EL y bytes ml ret rm wz as H Q) (q : ∀ v H', Q v H' → Q' v H') : Ct l Z EL y bytes ml ret rm wz as H Q' :=
  MetFree.mono h (fun _ _ h => h) (fun _ _ _ _ _ h => h) fun _ _ _ _ _ ⟨v, L, O, h1, h2, h3⟩ => ⟨v, L, O, h1, q _ _ h2, h3⟩
theorem ctBack {p : Program} {e : Env} {s : State} {args : Array Value} {below : List Frame} {y : MethodName} {bytes : ByteArray} {ret : Option FieldType} {rm : Room} {as : List Value} {Q : Option Value → HP → Prop} {len Wd : Nat}
    (hM : Ct l Z EL y bytes ml ret rm [] as H Q) (hZ : Z.Warmed39 s.vm) (wc : (Jvm.Cond.code y bytes ml ret).before a0 Z = true) (wz : (Jvm.Cond.initialized y.cls).before a0 Z = true) (hf : rm.frames + 1 ≤ R.frames) (hl : Wd + (ml + 11) + rm.locals ≤ R.locals) (hG : GI Z EL s.vm H) :
    Back l R p e below s args y len Wd (fun A a => a = as.toArray ∧ A.U.heap = H.1 ∧ A.cells + rm.cells ≤ R.cells ∧ A.slots + rm.slots ≤ R.slots)
      (fun A _ v B => ∃ L O, Q v (B.U.heap, O) ∧ ((∀ x, H.2 x → O x) ∧ H.1.size ≤ B.U.heap.size) ∧ GI Z EL B.U.vm (B.U.heap, O) ∧ Fr Z.heap.size L ∧ B.locs = A.locs ++ L ∧ B.cells = A.cells + rm.cells ∧ B.slots = A.slots + rm.slots) :=
  Back.of_free (bytes := bytes) (maxL := ml) (ret := ret) (E := fun _ first o t L k n => k = rm.cells ∧ n = rm.slots ∧ ∃ v O, o = .returned v ∧ Q v (t.heap, O) ∧ ((∀ x, H.2 x → O x) ∧ H.1.size ≤ t.heap.size) ∧ GI Z EL t.vm (t.heap, O) ∧ Fr Z.heap.size L) hM hf hl
    (fun m meth c A a Y hp => have hU : Z.Warmed39 A.U.vm := wtrans (s := s) hZ Y.warmed
      ⟨by show (Jvm.Cond.and _ .tt).before a A.U = true; rw [Cond.before_and, mv hU wc]; rfl, mv hU wc, mv hU wz, hp.2.2.1, hp.2.2.2⟩)
    (fun m meth c A a g mk Y hp => ⟨hp.1, wtrans (s := s) hZ Y.warmed, hp.2.1, hG⟩) (fun _ _ _ _ _ _ _ _ _ => trivial)
    (fun _ _ _ _ ⟨v, L, O, h1, h2, h3, h4, h5, h6⟩ => ⟨L, _, _, h6, rfl, rfl, v, O, h1, h2, h3, h4, h5⟩)
    (fun m meth c A a g mk v t L k n Y hp _ _ ⟨e1, e2, v', O, e3, e4, e5, e6, e7⟩ => by cases e3; subst e1 e2; exact ⟨L, O, e4, e5, e6, e7, rfl, rfl, rfl⟩)
theorem Wk.callS {y : MethodName} {bytes : ByteArray} {ret : Option FieldType} {cml : Nat} {rm : Room} {Q : Option Value → HP → Prop} {argsL : List Value} {index Wd : Nat} (A : Wk l Z a0 EL own code ml nm rt R D pc ls (argsL.reverse ++ st) H k n) (w1 : (Jvm.Cond.methodLink own index y).before a0 Z = true) (w2 : (Jvm.Cond.static y).before a0 Z = true) (wz : (Jvm.Cond.initialized y.cls).before a0 Z = true) (wc : (Jvm.Cond.code y bytes cml ret).before a0 Z = true) (hM : Ct l Z EL y bytes cml ret rm [] argsL H Q) (hy : y.cls ≠ "java/lang/invoke/MethodHandle" ∧ y.cls ≠ "java/lang/invoke/VarHandle") (hlen : ∃ ps r, parseMethodDescriptor y.desc = some ⟨ps, r⟩ ∧ argsL.length = ps.length) (hd : decode code pc = .ok (.invokestatic index, 3)) (hf : rm.frames + 1 ≤ R.frames) (hW : (st.map fun v => v.category).sum ≤ Wd) (hlo : Wd + (cml + 11) + rm.locals ≤ R.locals) (hcl : k + rm.cells ≤ R.cells) (hsl : n + rm.slots ≤ R.slots) :
    ∃ (v : Option Value) (H' : HP), Q v H' ∧ Wk l Z a0 EL own code ml nm rt R D (pc + 3) ls (v.toList ++ st) H' (k + rm.cells) (n + rm.slots) ∧ (∀ x, H.2 x → H'.2 x) ∧ H.1.size ≤ H'.1.size := by
  obtain ⟨p, e, s, m, args, below, meth, c, s0, H0⟩ := D
  obtain ⟨hx, hown, hc, hml, hnm, hrt, hlk, hls, T, L, X, eT, hZ, hG, hF, hMo, hst⟩ := A
  dsimp only at hx hown hc hml hnm hrt hlk X hZ hG hMo hst
  have hown' := hown
  have hZ' := hZ
  obtain ⟨v, vm1, ⟨T', L', c', n'⟩, -, X', ⟨Lc, O, hQ, hmo, hG', hFc, l1, l2, l3⟩, st'⟩ := Jvm.LawKit.callS X hx hown' (mvT hZ' w1) (mvT hZ' w2) (mvT hZ' wz) (mvT hZ' wc) hy (ctBack hM hZ wc wz hf hlo hG) (g := mkF m pc ls.toArray (argsL.reverse ++ st)) rfl (by simp [hls, hml]) (by obtain ⟨ps, r, q1, q2⟩ := hlen; exact lenOf q1 q2) rfl (by simpa using hW) (hb hc hd) (fun _ _ => ⟨rfl, eT, hcl, hsl⟩)
  dsimp only [Pt.U, Pt.locs, Pt.cells, Pt.slots] at X' hQ hmo hG' l1 l2 l3 st'
  subst l1 l2 l3
  exact ⟨v, (T'.heap, O), hQ, ⟨hx, hown, hc, hml, hnm, hrt, hlk, hls, T', _, X', rfl, hZ, hG', (hF.app hFc), ⟨fun x q => hmo.1 x (hMo.1 x q), Nat.le_trans hMo.2 hmo.2⟩, hst.trans (st' _ (Steps.refl _))⟩, hmo.1, hmo.2⟩
theorem Wk.callI {y : MethodName} {bytes : ByteArray} {cml : Nat} {rm : Room} {Q : Option Value → HP → Prop} {argsL : List Value} {index Wd : Nat} (A : Wk l Z a0 EL own code ml nm rt R D pc ls (argsL.reverse ++ .ref a :: st) H k n) (hy1 : y.name = "<init>") (w1 : (Jvm.Cond.methodLink own index y).before a0 Z = true) (w2 : (Jvm.Cond.instanceMethod y).before a0 Z = true) (wz : (Jvm.Cond.initialized y.cls).before a0 Z = true) (wc : (Jvm.Cond.code y bytes cml none).before a0 Z = true) (hM : Ct l Z EL y bytes cml none rm [] (.ref a :: argsL) H Q) (hy : y.cls ≠ "java/lang/invoke/MethodHandle" ∧ y.cls ≠ "java/lang/invoke/VarHandle") (hlen : ∃ ps r, parseMethodDescriptor y.desc = some ⟨ps, r⟩ ∧ argsL.length = ps.length) (hd : decode code pc = .ok (.invokespecial index, 3)) (hf : rm.frames + 1 ≤ R.frames) (hW : (st.map fun v => v.category).sum ≤ Wd) (hlo : Wd + (cml + 11) + rm.locals ≤ R.locals) (hcl : k + rm.cells ≤ R.cells) (hsl : n + rm.slots ≤ R.slots) :
    ∃ (v : Option Value) (H' : HP), Q v H' ∧ Wk l Z a0 EL own code ml nm rt R D (pc + 3) ls (v.toList ++ st) H' (k + rm.cells) (n + rm.slots) ∧ (∀ x, H.2 x → H'.2 x) ∧ H.1.size ≤ H'.1.size := by
  obtain ⟨p, e, s, m, args, below, meth, c, s0, H0⟩ := D
  obtain ⟨hx, hown, hc, hml, hnm, hrt, hlk, hls, T, L, X, eT, hZ, hG, hF, hMo, hst⟩ := A
  dsimp only at hx hown hc hml hnm hrt hlk X hZ hG hMo hst
  have hown' := hown
  have hZ' := hZ
  obtain ⟨v, vm1, ⟨T', L', c', n'⟩, -, X', ⟨Lc, O, hQ, hmo, hG', hFc, l1, l2, l3⟩, st'⟩ := X.specialBack hx hy1 hown' (mvT hZ' w1) (mvT hZ' w2) (mvT hZ' wc) hy (ctBack hM hZ wc wz hf hlo hG) (g := mkF m pc ls.toArray (argsL.reverse ++ .ref a :: st)) rfl (by simp [hls, hml]) (Steps.refl _) (by obtain ⟨ps, r, q1, q2⟩ := hlen; exact lenOf q1 q2) rfl (by simpa using hW) (hb hc hd) (fun _ _ => ⟨rfl, eT, hcl, hsl⟩)
  dsimp only [Pt.U, Pt.locs, Pt.cells, Pt.slots] at X' hQ hmo hG' l1 l2 l3 st'
  subst l1 l2 l3
  exact ⟨v, (T'.heap, O), hQ, ⟨hx, hown, hc, hml, hnm, hrt, hlk, hls, T', _, X', rfl, hZ, hG', (hF.app hFc), ⟨fun x q => hmo.1 x (hMo.1 x q), Nat.le_trans hMo.2 hmo.2⟩, hst.trans st'⟩, hmo.1, hmo.2⟩
theorem Wk.callV {y z : MethodName} {bytes : ByteArray} {ret : Option FieldType} {cml : Nat} {rm : Room} {Q : Option Value → HP → Prop} {argsL : List Value} {index Wd : Nat} (A : Wk l Z a0 EL own code ml nm rt R D pc ls (argsL.reverse ++ .ref a :: st) H k n) (w1 : (Jvm.Cond.methodLink own index y).before a0 Z = true) (w2 : (Jvm.Cond.declares y).before a0 Z = true) {C' : String} (w3 : (Jvm.Cond.selects C' y y).before a0 Z = true) (w4 : (Jvm.Cond.selects C y z).before a0 Z = true) (w5 : (Jvm.Cond.instanceMethod z).before a0 Z = true) (wz : (Jvm.Cond.initialized z.cls).before a0 Z = true) (wc : (Jvm.Cond.code z bytes cml ret).before a0 Z = true) (E : Exa Z H.1 a C) (hM : Ct l Z EL z bytes cml ret rm [] (.ref a :: argsL) H Q) (hy : y.cls ≠ "java/lang/invoke/MethodHandle" ∧ y.cls ≠ "java/lang/invoke/VarHandle") (hlen : ∃ ps r, parseMethodDescriptor y.desc = some ⟨ps, r⟩ ∧ argsL.length = ps.length) (hd : decode code pc = .ok (.invokevirtual index, 3)) (hf : rm.frames + 1 ≤ R.frames) (hW : (st.map fun v => v.category).sum ≤ Wd) (hlo : Wd + (cml + 11) + rm.locals ≤ R.locals) (hcl : k + rm.cells ≤ R.cells) (hsl : n + rm.slots ≤ R.slots) :
    ∃ (v : Option Value) (H' : HP), Q v H' ∧ Wk l Z a0 EL own code ml nm rt R D (pc + 3) ls (v.toList ++ st) H' (k + rm.cells) (n + rm.slots) ∧ (∀ x, H.2 x → H'.2 x) ∧ H.1.size ≤ H'.1.size := by
  obtain ⟨p, e, s, m, args, below, meth, c, s0, H0⟩ := D
  obtain ⟨hx, hown, hc, hml, hnm, hrt, hlk, hls, T, L, X, eT, hZ, hG, hF, hMo, hst⟩ := A
  dsimp only at hx hown hc hml hnm hrt hlk X hZ hG hMo hst
  have hown' := hown
  have hZ' := hZ
  obtain ⟨cB, kB, i1, i2, i3⟩ := isOf (s := s) hZ' eT E
  obtain ⟨v, vm1, ⟨T', L', c', n'⟩, -, X', ⟨Lc, O, hQ, hmo, hG', hFc, l1, l2, l3⟩, st'⟩ := X.virtualBack hx hown' (mvT hZ' w1) (mvT hZ' w2) (notFace_of_selects (args := #[]) (mvT hZ' w3)) (mvT hZ' w4) (mvT hZ' w5) hy (ctBack hM hZ wc wz hf hlo hG) i1 i3 (g := mkF m pc ls.toArray (argsL.reverse ++ .ref a :: st)) rfl (by simp [hls, hml]) (Steps.refl _) (by obtain ⟨ps, r, q1, q2⟩ := hlen; exact lenOf q1 q2) rfl (by simpa using hW) (hb hc hd) (fun _ _ => ⟨rfl, eT, hcl, hsl⟩)
  dsimp only [Pt.U, Pt.locs, Pt.cells, Pt.slots] at X' hQ hmo hG' l1 l2 l3 st'
  subst l1 l2 l3
  exact ⟨v, (T'.heap, O), hQ, ⟨hx, hown, hc, hml, hnm, hrt, hlk, hls, T', _, X', rfl, hZ, hG', (hF.app hFc), ⟨fun x q => hmo.1 x (hMo.1 x q), Nat.le_trans hMo.2 hmo.2⟩, hst.trans st'⟩, hmo.1, hmo.2⟩
theorem Wk.callF {xi y : MethodName} {bytes : ByteArray} {ret : Option FieldType} {cml : Nat} {rm : Room} {Q : Option Value → HP → Prop} {argsL : List Value} {index Wd : Nat} {count : Nat} (A : Wk l Z a0 EL own code ml nm rt R D pc ls (argsL.reverse ++ .ref a :: st) H k n) (w1 : (Jvm.Cond.methodLink own index xi).before a0 Z = true) (w2 : (Jvm.Cond.declares xi).before a0 Z = true) (w3 : (Jvm.Cond.interfaceMethod xi.cls xi.cls xi.name xi.desc).before a0 Z = true) (w4 : (Jvm.Cond.selects C xi y).before a0 Z = true) (w5 : (Jvm.Cond.instanceMethod y).before a0 Z = true) (w6 : (Jvm.Cond.publicMethod y).before a0 Z = true) (w7 : (Jvm.Cond.unhidden C xi.name xi.desc).before a0 Z = true) (w8 : (Jvm.Cond.castable C xi.cls).before a0 Z = true) (wz : (Jvm.Cond.initialized y.cls).before a0 Z = true) (wc : (Jvm.Cond.code y bytes cml ret).before a0 Z = true) (E : Exa Z H.1 a C) (hM : Ct l Z EL y bytes cml ret rm [] (.ref a :: argsL) H Q) (hy : xi.cls ≠ "java/lang/invoke/MethodHandle" ∧ xi.cls ≠ "java/lang/invoke/VarHandle") (hlen : ∃ ps r, parseMethodDescriptor xi.desc = some ⟨ps, r⟩ ∧ argsL.length = ps.length) (hd : decode code pc = .ok (.invokeinterface index count, 5)) (hf : rm.frames + 1 ≤ R.frames) (hW : (st.map fun v => v.category).sum ≤ Wd) (hlo : Wd + (cml + 11) + rm.locals ≤ R.locals) (hcl : k + rm.cells ≤ R.cells) (hsl : n + rm.slots ≤ R.slots) :
    ∃ (v : Option Value) (H' : HP), Q v H' ∧ Wk l Z a0 EL own code ml nm rt R D (pc + 5) ls (v.toList ++ st) H' (k + rm.cells) (n + rm.slots) ∧ (∀ x, H.2 x → H'.2 x) ∧ H.1.size ≤ H'.1.size := by
  obtain ⟨p, e, s, m, args, below, meth, c, s0, H0⟩ := D
  obtain ⟨hx, hown, hc, hml, hnm, hrt, hlk, hls, T, L, X, eT, hZ, hG, hF, hMo, hst⟩ := A
  dsimp only at hx hown hc hml hnm hrt hlk X hZ hG hMo hst
  have hown' := hown
  have hZ' := hZ
  obtain ⟨cB, kB, i1, i2, i3⟩ := isOf (s := s) hZ' eT E
  obtain ⟨v, vm1, ⟨T', L', c', n'⟩, -, X', ⟨Lc, O, hQ, hmo, hG', hFc, l1, l2, l3⟩, st'⟩ := X.interfaceBack hx hown' (mvT hZ' w1) (mvT hZ' w2) (mvT hZ' w3 (by simp [Cond.onTables, Cond.keepsFace, Cond.keeps, Cond.steady, Cond.faceAtom, hy.1, hy.2])) (mvT hZ' w4) (mvT hZ' w5) (mvT hZ' w6) (mvT hZ' w7) (mvT hZ' w8) hy (ctBack hM hZ wc wz hf hlo hG) i1 i2 i3 (g := mkF m pc ls.toArray (argsL.reverse ++ .ref a :: st)) rfl (by simp [hls, hml]) (Steps.refl _) (by obtain ⟨ps, r, q1, q2⟩ := hlen; exact lenOf q1 q2) rfl (by simpa using hW) (hb hc hd) (fun _ _ => ⟨rfl, eT, hcl, hsl⟩)
  dsimp only [Pt.U, Pt.locs, Pt.cells, Pt.slots] at X' hQ hmo hG' l1 l2 l3 st'
  subst l1 l2 l3
  exact ⟨v, (T'.heap, O), hQ, ⟨hx, hown, hc, hml, hnm, hrt, hlk, hls, T', _, X', rfl, hZ, hG', (hF.app hFc), ⟨fun x q => hmo.1 x (hMo.1 x q), Nat.le_trans hMo.2 hmo.2⟩, hst.trans st'⟩, hmo.1, hmo.2⟩
theorem Wk.getSN {R0 O host : String} {index : Nat} (A : Wk l Z a0 EL own code ml nm rt R D pc ls st H k n) (w : (Jvm.Cond.fieldLinkNest own index R0 nn d host).before a0 Z = true) (F : Sta Z Z.heap O nn d v) (hd : decode code pc = .ok (.getstatic index, 3)) (via : Via Z R0 O nn d := by exact Via.refl) :
    Wk l Z a0 EL own code ml nm rt R D (pc + 3) ls (v :: st) H k n := by
  obtain ⟨p, e, s, m, args, below, meth, c, s0, H0⟩ := D
  obtain ⟨hx, hown, hc, hml, hnm, hrt, hlk, hls, T, L, X, eT, hZ, hG, hF, hMo, hst⟩ := A
  dsimp only at hx hown hc hml hnm hrt hlk X hZ hG hMo hst
  have hown' := hown
  have hZ' := hZ
  obtain ⟨T', X', e', st'⟩ := RoadKit.getS2 X hx hZ' hown' (Or.inr w) via eT (F.ext hG.1) (g := mkF m pc ls.toArray st) rfl (hb hc hd)
  exact ⟨hx, hown, hc, hml, hnm, hrt, hlk, hls, T', L, X', e', hZ, hG, hF, hMo, hst.trans (st' _ (Steps.refl _))⟩
end Laws

abbrev EL0 : List (String × Nat) := []
def Glb (Z : State) (a0 : Array Value) : Prop := (∀ d ∈ tables_1, d.before a0 Z = true) ∧ (∀ d ∈ jdkStatics_1, d.before a0 Z = true) ∧ Fit Z ∧ narrow_1.value a0 Z none Z [] = some true
def txtAt (k : Nat) : String := match tables_1[k]? with
  | some (.stringLink _ _ t) => t
  | _ => ""
theorem wd_0 {Z : State} {a0 : Array Value} (G : Glb Z a0) : (Jvm.Cond.arrayClass Jvm.ClassFile.FieldType.char).before a0 Z = true := G.1 _ (List.mem_of_getElem? (i := 0) rfl)
theorem wd_1 {Z : State} {a0 : Array Value} (G : Glb Z a0) : (Jvm.Cond.classLink "com/example/termwise/termwise/core/ContractRecognizedKindPinLaw" (7 : Nat) "java/lang/String").before a0 Z = true := G.1 _ (List.mem_of_getElem? (i := 1) rfl)
theorem wd_2 {Z : State} {a0 : Array Value} (G : Glb Z a0) : (Jvm.Cond.instantiable "java/lang/String" (4 : Nat)).before a0 Z = true := G.1 _ (List.mem_of_getElem? (i := 2) rfl)
theorem wd_3 {Z : State} {a0 : Array Value} (G : Glb Z a0) : (Jvm.Cond.initialized "java/lang/String").before a0 Z = true := G.1 _ (List.mem_of_getElem? (i := 3) rfl)
theorem wd_4 {Z : State} {a0 : Array Value} (G : Glb Z a0) : (Jvm.Cond.methodLink "com/example/termwise/termwise/core/ContractRecognizedKindPinLaw" (9 : Nat) ({ cls := "java/lang/String", name := "<init>", desc := "([C)V" } : Jvm.MethodName)).before a0 Z = true := G.1 _ (List.mem_of_getElem? (i := 4) rfl)
theorem wd_5 {Z : State} {a0 : Array Value} (G : Glb Z a0) : (Jvm.Cond.instanceMethod ({ cls := "java/lang/String", name := "<init>", desc := "([C)V" } : Jvm.MethodName)).before a0 Z = true := G.1 _ (List.mem_of_getElem? (i := 5) rfl)
theorem wd_6 {Z : State} {a0 : Array Value} (G : Glb Z a0) : (Jvm.Cond.code ({ cls := "java/lang/String", name := "<init>", desc := "([C)V" } : Jvm.MethodName) jdk_42_method_3_code (2 : Nat) (Option.none : Option Jvm.ClassFile.FieldType)).before a0 Z = true := G.1 _ (List.mem_of_getElem? (i := 6) rfl)
theorem wd_7 {Z : State} {a0 : Array Value} (G : Glb Z a0) : (Jvm.Cond.methodLink "java/lang/String" (27 : Nat) ({ cls := "java/lang/String", name := "<init>", desc := "([CIILjava/lang/Void;)V" } : Jvm.MethodName)).before a0 Z = true := G.1 _ (List.mem_of_getElem? (i := 7) rfl)
theorem wd_8 {Z : State} {a0 : Array Value} (G : Glb Z a0) : (Jvm.Cond.instanceMethod ({ cls := "java/lang/String", name := "<init>", desc := "([CIILjava/lang/Void;)V" } : Jvm.MethodName)).before a0 Z = true := G.1 _ (List.mem_of_getElem? (i := 8) rfl)
theorem wd_10 {Z : State} {a0 : Array Value} (G : Glb Z a0) : (Jvm.Cond.code ({ cls := "java/lang/String", name := "<init>", desc := "([CIILjava/lang/Void;)V" } : Jvm.MethodName) jdk_42_method_149_code (6 : Nat) (Option.none : Option Jvm.ClassFile.FieldType)).before a0 Z = true := G.1 _ (List.mem_of_getElem? (i := 10) rfl)
theorem wd_11 {Z : State} {a0 : Array Value} (G : Glb Z a0) : (Jvm.Cond.methodLink "java/lang/String" (1 : Nat) ({ cls := "java/lang/Object", name := "<init>", desc := "()V" } : Jvm.MethodName)).before a0 Z = true := G.1 _ (List.mem_of_getElem? (i := 11) rfl)
theorem wd_12 {Z : State} {a0 : Array Value} (G : Glb Z a0) : (Jvm.Cond.instanceMethod ({ cls := "java/lang/Object", name := "<init>", desc := "()V" } : Jvm.MethodName)).before a0 Z = true := G.1 _ (List.mem_of_getElem? (i := 12) rfl)
theorem wd_13 {Z : State} {a0 : Array Value} (G : Glb Z a0) : (Jvm.Cond.code ({ cls := "java/lang/Object", name := "<init>", desc := "()V" } : Jvm.MethodName) object_method_1_code (1 : Nat) (Option.none : Option Jvm.ClassFile.FieldType)).before a0 Z = true := G.1 _ (List.mem_of_getElem? (i := 13) rfl)
theorem wd_14 {Z : State} {a0 : Array Value} (G : Glb Z a0) : (Jvm.Cond.fieldLink "java/lang/String" (38 : Nat) "java/lang/String" "COMPACT_STRINGS" "Z").before a0 Z = true := G.1 _ (List.mem_of_getElem? (i := 14) rfl)
theorem wd_15 {Z : State} {a0 : Array Value} (G : Glb Z a0) : (Jvm.Cond.methodLink "java/lang/String" (177 : Nat) ({ cls := "java/lang/StringUTF16", name := "compress", desc := "([CII)[B" } : Jvm.MethodName)).before a0 Z = true := G.1 _ (List.mem_of_getElem? (i := 15) rfl)
theorem wd_16 {Z : State} {a0 : Array Value} (G : Glb Z a0) : (Jvm.Cond.static ({ cls := "java/lang/StringUTF16", name := "compress", desc := "([CII)[B" } : Jvm.MethodName)).before a0 Z = true := G.1 _ (List.mem_of_getElem? (i := 16) rfl)
theorem wd_17 {Z : State} {a0 : Array Value} (G : Glb Z a0) : (Jvm.Cond.initialized "java/lang/StringUTF16").before a0 Z = true := G.1 _ (List.mem_of_getElem? (i := 17) rfl)
theorem wd_18 {Z : State} {a0 : Array Value} (G : Glb Z a0) : (Jvm.Cond.code ({ cls := "java/lang/StringUTF16", name := "compress", desc := "([CII)[B" } : Jvm.MethodName) jdk_52_method_16_code (6 : Nat) (Option.some (Jvm.ClassFile.FieldType.array Jvm.ClassFile.FieldType.byte))).before a0 Z = true := G.1 _ (List.mem_of_getElem? (i := 18) rfl)
theorem wd_19 {Z : State} {a0 : Array Value} (G : Glb Z a0) : (Jvm.Cond.arrayClass Jvm.ClassFile.FieldType.byte).before a0 Z = true := G.1 _ (List.mem_of_getElem? (i := 19) rfl)
theorem wd_20 {Z : State} {a0 : Array Value} (G : Glb Z a0) : (Jvm.Cond.methodLink "java/lang/StringUTF16" (115 : Nat) ({ cls := "java/lang/StringUTF16", name := "compress", desc := "([CI[BII)I" } : Jvm.MethodName)).before a0 Z = true := G.1 _ (List.mem_of_getElem? (i := 20) rfl)
theorem wd_21 {Z : State} {a0 : Array Value} (G : Glb Z a0) : (Jvm.Cond.static ({ cls := "java/lang/StringUTF16", name := "compress", desc := "([CI[BII)I" } : Jvm.MethodName)).before a0 Z = true := G.1 _ (List.mem_of_getElem? (i := 21) rfl)
theorem wd_22 {Z : State} {a0 : Array Value} (G : Glb Z a0) : (Jvm.Cond.code ({ cls := "java/lang/StringUTF16", name := "compress", desc := "([CI[BII)I" } : Jvm.MethodName) jdk_52_method_21_code (7 : Nat) (Option.some Jvm.ClassFile.FieldType.int)).before a0 Z = true := G.1 _ (List.mem_of_getElem? (i := 22) rfl)
theorem wd_23 {Z : State} {a0 : Array Value} (G : Glb Z a0) : (Jvm.Cond.methodLink "java/lang/String" (47 : Nat) ({ cls := "java/lang/StringUTF16", name := "coderFromArrayLen", desc := "([BI)B" } : Jvm.MethodName)).before a0 Z = true := G.1 _ (List.mem_of_getElem? (i := 23) rfl)
theorem wd_24 {Z : State} {a0 : Array Value} (G : Glb Z a0) : (Jvm.Cond.static ({ cls := "java/lang/StringUTF16", name := "coderFromArrayLen", desc := "([BI)B" } : Jvm.MethodName)).before a0 Z = true := G.1 _ (List.mem_of_getElem? (i := 24) rfl)
theorem wd_25 {Z : State} {a0 : Array Value} (G : Glb Z a0) : (Jvm.Cond.code ({ cls := "java/lang/StringUTF16", name := "coderFromArrayLen", desc := "([BI)B" } : Jvm.MethodName) jdk_52_method_15_code (2 : Nat) (Option.some Jvm.ClassFile.FieldType.byte)).before a0 Z = true := G.1 _ (List.mem_of_getElem? (i := 25) rfl)
theorem wd_26 {Z : State} {a0 : Array Value} (G : Glb Z a0) : (Jvm.Cond.fieldLink "java/lang/String" (15 : Nat) "java/lang/String" "coder" "B").before a0 Z = true := G.1 _ (List.mem_of_getElem? (i := 26) rfl)
theorem wd_27 {Z : State} {a0 : Array Value} (G : Glb Z a0) : (Jvm.Cond.laysFinal "java/lang/String" "java/lang/String" "coder" "B").before a0 Z = true := G.1 _ (List.mem_of_getElem? (i := 27) rfl)
theorem wd_28 {Z : State} {a0 : Array Value} (G : Glb Z a0) : (Jvm.Cond.fieldLink "java/lang/String" (9 : Nat) "java/lang/String" "value" "[B").before a0 Z = true := G.1 _ (List.mem_of_getElem? (i := 28) rfl)
theorem wd_29 {Z : State} {a0 : Array Value} (G : Glb Z a0) : (Jvm.Cond.laysFinal "java/lang/String" "java/lang/String" "value" "[B").before a0 Z = true := G.1 _ (List.mem_of_getElem? (i := 29) rfl)
theorem wd_30 {Z : State} {a0 : Array Value} (G : Glb Z a0) : (Jvm.Cond.classLink "com/example/termwise/termwise/core/ContractRecognizedKindPinLaw" (12 : Nat) "java/util/ArrayList").before a0 Z = true := G.1 _ (List.mem_of_getElem? (i := 30) rfl)
theorem wd_31 {Z : State} {a0 : Array Value} (G : Glb Z a0) : (Jvm.Cond.instantiable "java/util/ArrayList" (3 : Nat)).before a0 Z = true := G.1 _ (List.mem_of_getElem? (i := 31) rfl)
theorem wd_32 {Z : State} {a0 : Array Value} (G : Glb Z a0) : (Jvm.Cond.initialized "java/util/ArrayList").before a0 Z = true := G.1 _ (List.mem_of_getElem? (i := 32) rfl)
theorem wd_33 {Z : State} {a0 : Array Value} (G : Glb Z a0) : (Jvm.Cond.methodLink "com/example/termwise/termwise/core/ContractRecognizedKindPinLaw" (14 : Nat) ({ cls := "java/util/ArrayList", name := "<init>", desc := "()V" } : Jvm.MethodName)).before a0 Z = true := G.1 _ (List.mem_of_getElem? (i := 33) rfl)
theorem wd_34 {Z : State} {a0 : Array Value} (G : Glb Z a0) : (Jvm.Cond.instanceMethod ({ cls := "java/util/ArrayList", name := "<init>", desc := "()V" } : Jvm.MethodName)).before a0 Z = true := G.1 _ (List.mem_of_getElem? (i := 34) rfl)
theorem wd_35 {Z : State} {a0 : Array Value} (G : Glb Z a0) : (Jvm.Cond.code ({ cls := "java/util/ArrayList", name := "<init>", desc := "()V" } : Jvm.MethodName) jdk_38_method_2_code (1 : Nat) (Option.none : Option Jvm.ClassFile.FieldType)).before a0 Z = true := G.1 _ (List.mem_of_getElem? (i := 35) rfl)
theorem wd_36 {Z : State} {a0 : Array Value} (G : Glb Z a0) : (Jvm.Cond.methodLink "java/util/ArrayList" (1 : Nat) ({ cls := "java/util/AbstractList", name := "<init>", desc := "()V" } : Jvm.MethodName)).before a0 Z = true := G.1 _ (List.mem_of_getElem? (i := 36) rfl)
theorem wd_37 {Z : State} {a0 : Array Value} (G : Glb Z a0) : (Jvm.Cond.instanceMethod ({ cls := "java/util/AbstractList", name := "<init>", desc := "()V" } : Jvm.MethodName)).before a0 Z = true := G.1 _ (List.mem_of_getElem? (i := 37) rfl)
theorem wd_40 {Z : State} {a0 : Array Value} (G : Glb Z a0) : (Jvm.Cond.initialized "java/util/AbstractList").before a0 Z = true := G.1 _ (List.mem_of_getElem? (i := 40) rfl)
theorem wd_41 {Z : State} {a0 : Array Value} (G : Glb Z a0) : (Jvm.Cond.code ({ cls := "java/util/AbstractList", name := "<init>", desc := "()V" } : Jvm.MethodName) jdk_39_method_1_code (1 : Nat) (Option.none : Option Jvm.ClassFile.FieldType)).before a0 Z = true := G.1 _ (List.mem_of_getElem? (i := 41) rfl)
theorem wd_42 {Z : State} {a0 : Array Value} (G : Glb Z a0) : (Jvm.Cond.methodLink "java/util/AbstractList" (1 : Nat) ({ cls := "java/util/AbstractCollection", name := "<init>", desc := "()V" } : Jvm.MethodName)).before a0 Z = true := G.1 _ (List.mem_of_getElem? (i := 42) rfl)
theorem wd_43 {Z : State} {a0 : Array Value} (G : Glb Z a0) : (Jvm.Cond.instanceMethod ({ cls := "java/util/AbstractCollection", name := "<init>", desc := "()V" } : Jvm.MethodName)).before a0 Z = true := G.1 _ (List.mem_of_getElem? (i := 43) rfl)
theorem wd_46 {Z : State} {a0 : Array Value} (G : Glb Z a0) : (Jvm.Cond.initialized "java/util/AbstractCollection").before a0 Z = true := G.1 _ (List.mem_of_getElem? (i := 46) rfl)
theorem wd_47 {Z : State} {a0 : Array Value} (G : Glb Z a0) : (Jvm.Cond.code ({ cls := "java/util/AbstractCollection", name := "<init>", desc := "()V" } : Jvm.MethodName) jdk_22_method_1_code (1 : Nat) (Option.none : Option Jvm.ClassFile.FieldType)).before a0 Z = true := G.1 _ (List.mem_of_getElem? (i := 47) rfl)
theorem wd_48 {Z : State} {a0 : Array Value} (G : Glb Z a0) : (Jvm.Cond.methodLink "java/util/AbstractCollection" (1 : Nat) ({ cls := "java/lang/Object", name := "<init>", desc := "()V" } : Jvm.MethodName)).before a0 Z = true := G.1 _ (List.mem_of_getElem? (i := 48) rfl)
theorem wd_49 {Z : State} {a0 : Array Value} (G : Glb Z a0) : (Jvm.Cond.fieldLink "java/util/AbstractList" (7 : Nat) "java/util/AbstractList" "modCount" "I").before a0 Z = true := G.1 _ (List.mem_of_getElem? (i := 49) rfl)
theorem wd_50 {Z : State} {a0 : Array Value} (G : Glb Z a0) : (Jvm.Cond.lays "java/util/ArrayList" "java/util/AbstractList" "modCount" "I").before a0 Z = true := G.1 _ (List.mem_of_getElem? (i := 50) rfl)
theorem wd_51 {Z : State} {a0 : Array Value} (G : Glb Z a0) : (Jvm.Cond.fieldLink "java/util/ArrayList" (39 : Nat) "java/util/ArrayList" "DEFAULTCAPACITY_EMPTY_ELEMENTDATA" "[Ljava/lang/Object;").before a0 Z = true := G.1 _ (List.mem_of_getElem? (i := 51) rfl)
theorem wd_52 {Z : State} {a0 : Array Value} (G : Glb Z a0) : (Jvm.Cond.fieldLink "java/util/ArrayList" (9 : Nat) "java/util/ArrayList" "elementData" "[Ljava/lang/Object;").before a0 Z = true := G.1 _ (List.mem_of_getElem? (i := 52) rfl)
theorem wd_53 {Z : State} {a0 : Array Value} (G : Glb Z a0) : (Jvm.Cond.lays "java/util/ArrayList" "java/util/ArrayList" "elementData" "[Ljava/lang/Object;").before a0 Z = true := G.1 _ (List.mem_of_getElem? (i := 53) rfl)
theorem wd_54 {Z : State} {a0 : Array Value} (G : Glb Z a0) : (Jvm.Cond.classLink "com/example/termwise/termwise/core/ContractRecognizedKindPinLaw" (15 : Nat) "com/example/termwise/termwise/core/Contract").before a0 Z = true := G.1 _ (List.mem_of_getElem? (i := 54) rfl)
theorem wd_55 {Z : State} {a0 : Array Value} (G : Glb Z a0) : (Jvm.Cond.instantiable "com/example/termwise/termwise/core/Contract" (5 : Nat)).before a0 Z = true := G.1 _ (List.mem_of_getElem? (i := 55) rfl)
theorem wd_56 {Z : State} {a0 : Array Value} (G : Glb Z a0) : (Jvm.Cond.initialized "com/example/termwise/termwise/core/Contract").before a0 Z = true := G.1 _ (List.mem_of_getElem? (i := 56) rfl)
theorem wd_57 {Z : State} {a0 : Array Value} (G : Glb Z a0) : (Jvm.Cond.methodLink "com/example/termwise/termwise/core/ContractRecognizedKindPinLaw" (17 : Nat) ({ cls := "com/example/termwise/termwise/core/Contract", name := "<init>", desc := "(Ljava/lang/String;Ljava/lang/String;IZLjava/util/List;)V" } : Jvm.MethodName)).before a0 Z = true := G.1 _ (List.mem_of_getElem? (i := 57) rfl)
theorem wd_58 {Z : State} {a0 : Array Value} (G : Glb Z a0) : (Jvm.Cond.instanceMethod ({ cls := "com/example/termwise/termwise/core/Contract", name := "<init>", desc := "(Ljava/lang/String;Ljava/lang/String;IZLjava/util/List;)V" } : Jvm.MethodName)).before a0 Z = true := G.1 _ (List.mem_of_getElem? (i := 58) rfl)
theorem wd_59 {Z : State} {a0 : Array Value} (G : Glb Z a0) : (Jvm.Cond.code ({ cls := "com/example/termwise/termwise/core/Contract", name := "<init>", desc := "(Ljava/lang/String;Ljava/lang/String;IZLjava/util/List;)V" } : Jvm.MethodName) prog_34_method_1_code (6 : Nat) (Option.none : Option Jvm.ClassFile.FieldType)).before a0 Z = true := G.1 _ (List.mem_of_getElem? (i := 59) rfl)
theorem wd_60 {Z : State} {a0 : Array Value} (G : Glb Z a0) : (Jvm.Cond.methodLink "com/example/termwise/termwise/core/Contract" (1 : Nat) ({ cls := "java/lang/Record", name := "<init>", desc := "()V" } : Jvm.MethodName)).before a0 Z = true := G.1 _ (List.mem_of_getElem? (i := 60) rfl)
theorem wd_61 {Z : State} {a0 : Array Value} (G : Glb Z a0) : (Jvm.Cond.instanceMethod ({ cls := "java/lang/Record", name := "<init>", desc := "()V" } : Jvm.MethodName)).before a0 Z = true := G.1 _ (List.mem_of_getElem? (i := 61) rfl)
theorem wd_63 {Z : State} {a0 : Array Value} (G : Glb Z a0) : (Jvm.Cond.initialized "java/lang/Record").before a0 Z = true := G.1 _ (List.mem_of_getElem? (i := 63) rfl)
theorem wd_64 {Z : State} {a0 : Array Value} (G : Glb Z a0) : (Jvm.Cond.code ({ cls := "java/lang/Record", name := "<init>", desc := "()V" } : Jvm.MethodName) jdk_30_method_1_code (1 : Nat) (Option.none : Option Jvm.ClassFile.FieldType)).before a0 Z = true := G.1 _ (List.mem_of_getElem? (i := 64) rfl)
theorem wd_65 {Z : State} {a0 : Array Value} (G : Glb Z a0) : (Jvm.Cond.methodLink "java/lang/Record" (1 : Nat) ({ cls := "java/lang/Object", name := "<init>", desc := "()V" } : Jvm.MethodName)).before a0 Z = true := G.1 _ (List.mem_of_getElem? (i := 65) rfl)
theorem wd_66 {Z : State} {a0 : Array Value} (G : Glb Z a0) : (Jvm.Cond.fieldLink "com/example/termwise/termwise/core/Contract" (7 : Nat) "com/example/termwise/termwise/core/Contract" "id" "Ljava/lang/String;").before a0 Z = true := G.1 _ (List.mem_of_getElem? (i := 66) rfl)
theorem wd_67 {Z : State} {a0 : Array Value} (G : Glb Z a0) : (Jvm.Cond.laysFinal "com/example/termwise/termwise/core/Contract" "com/example/termwise/termwise/core/Contract" "id" "Ljava/lang/String;").before a0 Z = true := G.1 _ (List.mem_of_getElem? (i := 67) rfl)
theorem wd_68 {Z : State} {a0 : Array Value} (G : Glb Z a0) : (Jvm.Cond.fieldLink "com/example/termwise/termwise/core/Contract" (13 : Nat) "com/example/termwise/termwise/core/Contract" "currency" "Ljava/lang/String;").before a0 Z = true := G.1 _ (List.mem_of_getElem? (i := 68) rfl)
theorem wd_69 {Z : State} {a0 : Array Value} (G : Glb Z a0) : (Jvm.Cond.laysFinal "com/example/termwise/termwise/core/Contract" "com/example/termwise/termwise/core/Contract" "currency" "Ljava/lang/String;").before a0 Z = true := G.1 _ (List.mem_of_getElem? (i := 69) rfl)
theorem wd_70 {Z : State} {a0 : Array Value} (G : Glb Z a0) : (Jvm.Cond.fieldLink "com/example/termwise/termwise/core/Contract" (16 : Nat) "com/example/termwise/termwise/core/Contract" "decimals" "I").before a0 Z = true := G.1 _ (List.mem_of_getElem? (i := 70) rfl)
theorem wd_71 {Z : State} {a0 : Array Value} (G : Glb Z a0) : (Jvm.Cond.laysFinal "com/example/termwise/termwise/core/Contract" "com/example/termwise/termwise/core/Contract" "decimals" "I").before a0 Z = true := G.1 _ (List.mem_of_getElem? (i := 71) rfl)
theorem wd_72 {Z : State} {a0 : Array Value} (G : Glb Z a0) : (Jvm.Cond.fieldLink "com/example/termwise/termwise/core/Contract" (20 : Nat) "com/example/termwise/termwise/core/Contract" "separateRevenue" "Z").before a0 Z = true := G.1 _ (List.mem_of_getElem? (i := 72) rfl)
theorem wd_73 {Z : State} {a0 : Array Value} (G : Glb Z a0) : (Jvm.Cond.laysFinal "com/example/termwise/termwise/core/Contract" "com/example/termwise/termwise/core/Contract" "separateRevenue" "Z").before a0 Z = true := G.1 _ (List.mem_of_getElem? (i := 73) rfl)
theorem wd_74 {Z : State} {a0 : Array Value} (G : Glb Z a0) : (Jvm.Cond.fieldLink "com/example/termwise/termwise/core/Contract" (24 : Nat) "com/example/termwise/termwise/core/Contract" "lines" "Ljava/util/List;").before a0 Z = true := G.1 _ (List.mem_of_getElem? (i := 74) rfl)
theorem wd_75 {Z : State} {a0 : Array Value} (G : Glb Z a0) : (Jvm.Cond.laysFinal "com/example/termwise/termwise/core/Contract" "com/example/termwise/termwise/core/Contract" "lines" "Ljava/util/List;").before a0 Z = true := G.1 _ (List.mem_of_getElem? (i := 75) rfl)
theorem wd_76 {Z : State} {a0 : Array Value} (G : Glb Z a0) : (Jvm.Cond.methodLink "com/example/termwise/termwise/core/ContractRecognizedKindPinLaw" (20 : Nat) ({ cls := "com/example/termwise/termwise/core/Contract", name := "recognizedKind", desc := "()Lcom/example/termwise/termwise/core/LimitKind;" } : Jvm.MethodName)).before a0 Z = true := G.1 _ (List.mem_of_getElem? (i := 76) rfl)
theorem wd_77 {Z : State} {a0 : Array Value} (G : Glb Z a0) : (Jvm.Cond.declares ({ cls := "com/example/termwise/termwise/core/Contract", name := "recognizedKind", desc := "()Lcom/example/termwise/termwise/core/LimitKind;" } : Jvm.MethodName)).before a0 Z = true := G.1 _ (List.mem_of_getElem? (i := 77) rfl)
theorem wd_78 {Z : State} {a0 : Array Value} (G : Glb Z a0) : (Jvm.Cond.instanceMethod ({ cls := "com/example/termwise/termwise/core/Contract", name := "recognizedKind", desc := "()Lcom/example/termwise/termwise/core/LimitKind;" } : Jvm.MethodName)).before a0 Z = true := G.1 _ (List.mem_of_getElem? (i := 78) rfl)
theorem wd_79 {Z : State} {a0 : Array Value} (G : Glb Z a0) : (Jvm.Cond.selects "com/example/termwise/termwise/core/Contract" ({ cls := "com/example/termwise/termwise/core/Contract", name := "recognizedKind", desc := "()Lcom/example/termwise/termwise/core/LimitKind;" } : Jvm.MethodName) ({ cls := "com/example/termwise/termwise/core/Contract", name := "recognizedKind", desc := "()Lcom/example/termwise/termwise/core/LimitKind;" } : Jvm.MethodName)).before a0 Z = true := G.1 _ (List.mem_of_getElem? (i := 79) rfl)
theorem wd_80 {Z : State} {a0 : Array Value} (G : Glb Z a0) : (Jvm.Cond.code ({ cls := "com/example/termwise/termwise/core/Contract", name := "recognizedKind", desc := "()Lcom/example/termwise/termwise/core/LimitKind;" } : Jvm.MethodName) prog_34_method_4_code (1 : Nat) (Option.some (Jvm.ClassFile.FieldType.object "com/example/termwise/termwise/core/LimitKind"))).before a0 Z = true := G.1 _ (List.mem_of_getElem? (i := 80) rfl)
theorem wd_81 {Z : State} {a0 : Array Value} (G : Glb Z a0) : (Jvm.Cond.fieldLink "com/example/termwise/termwise/core/Contract" (56 : Nat) "com/example/termwise/termwise/core/LimitKind" "BILLING" "Lcom/example/termwise/termwise/core/LimitKind;").before a0 Z = true := G.1 _ (List.mem_of_getElem? (i := 81) rfl)
theorem wd_82 {Z : State} {a0 : Array Value} (G : Glb Z a0) : (Jvm.Cond.initialized "com/example/termwise/termwise/core/LimitKind").before a0 Z = true := G.1 _ (List.mem_of_getElem? (i := 82) rfl)
theorem wd_83 {Z : State} {a0 : Array Value} (G : Glb Z a0) : (Jvm.Cond.laysStatic "com/example/termwise/termwise/core/LimitKind" "BILLING" "Lcom/example/termwise/termwise/core/LimitKind;").before a0 Z = true := G.1 _ (List.mem_of_getElem? (i := 83) rfl)
theorem wd_84 {Z : State} {a0 : Array Value} (G : Glb Z a0) : (Jvm.Cond.fieldLink "com/example/termwise/termwise/core/ContractRecognizedKindPinLaw" (30 : Nat) "com/example/termwise/termwise/core/LimitKind" "BILLING" "Lcom/example/termwise/termwise/core/LimitKind;").before a0 Z = true := G.1 _ (List.mem_of_getElem? (i := 84) rfl)
theorem wd_85 {Z : State} {a0 : Array Value} (G : Glb Z a0) : (Jvm.Cond.methodLink "com/example/termwise/termwise/core/ContractRecognizedKindPinLaw" (33 : Nat) ({ cls := "com/example/termwise/termwise/core/Contract", name := "limitKinds", desc := "()Ljava/util/List;" } : Jvm.MethodName)).before a0 Z = true := G.1 _ (List.mem_of_getElem? (i := 85) rfl)
theorem wd_86 {Z : State} {a0 : Array Value} (G : Glb Z a0) : (Jvm.Cond.declares ({ cls := "com/example/termwise/termwise/core/Contract", name := "limitKinds", desc := "()Ljava/util/List;" } : Jvm.MethodName)).before a0 Z = true := G.1 _ (List.mem_of_getElem? (i := 86) rfl)
theorem wd_87 {Z : State} {a0 : Array Value} (G : Glb Z a0) : (Jvm.Cond.instanceMethod ({ cls := "com/example/termwise/termwise/core/Contract", name := "limitKinds", desc := "()Ljava/util/List;" } : Jvm.MethodName)).before a0 Z = true := G.1 _ (List.mem_of_getElem? (i := 87) rfl)
theorem wd_88 {Z : State} {a0 : Array Value} (G : Glb Z a0) : (Jvm.Cond.selects "com/example/termwise/termwise/core/Contract" ({ cls := "com/example/termwise/termwise/core/Contract", name := "limitKinds", desc := "()Ljava/util/List;" } : Jvm.MethodName) ({ cls := "com/example/termwise/termwise/core/Contract", name := "limitKinds", desc := "()Ljava/util/List;" } : Jvm.MethodName)).before a0 Z = true := G.1 _ (List.mem_of_getElem? (i := 88) rfl)
theorem wd_89 {Z : State} {a0 : Array Value} (G : Glb Z a0) : (Jvm.Cond.code ({ cls := "com/example/termwise/termwise/core/Contract", name := "limitKinds", desc := "()Ljava/util/List;" } : Jvm.MethodName) prog_34_method_3_code (1 : Nat) (Option.some (Jvm.ClassFile.FieldType.object "java/util/List"))).before a0 Z = true := G.1 _ (List.mem_of_getElem? (i := 89) rfl)
theorem wd_90 {Z : State} {a0 : Array Value} (G : Glb Z a0) : (Jvm.Cond.methodLink "com/example/termwise/termwise/core/Contract" (69 : Nat) ({ cls := "java/util/List", name := "of", desc := "(Ljava/lang/Object;)Ljava/util/List;" } : Jvm.MethodName)).before a0 Z = true := G.1 _ (List.mem_of_getElem? (i := 90) rfl)
theorem wd_91 {Z : State} {a0 : Array Value} (G : Glb Z a0) : (Jvm.Cond.static ({ cls := "java/util/List", name := "of", desc := "(Ljava/lang/Object;)Ljava/util/List;" } : Jvm.MethodName)).before a0 Z = true := G.1 _ (List.mem_of_getElem? (i := 91) rfl)
theorem wd_92 {Z : State} {a0 : Array Value} (G : Glb Z a0) : (Jvm.Cond.initialized "java/util/List").before a0 Z = true := G.1 _ (List.mem_of_getElem? (i := 92) rfl)
theorem wd_93 {Z : State} {a0 : Array Value} (G : Glb Z a0) : (Jvm.Cond.code ({ cls := "java/util/List", name := "of", desc := "(Ljava/lang/Object;)Ljava/util/List;" } : Jvm.MethodName) jdk_40_method_37_code (1 : Nat) (Option.some (Jvm.ClassFile.FieldType.object "java/util/List"))).before a0 Z = true := G.1 _ (List.mem_of_getElem? (i := 93) rfl)
theorem wd_94 {Z : State} {a0 : Array Value} (G : Glb Z a0) : (Jvm.Cond.classLink "java/util/List" (96 : Nat) "java/util/ImmutableCollections$List12").before a0 Z = true := G.1 _ (List.mem_of_getElem? (i := 94) rfl)
theorem wd_95 {Z : State} {a0 : Array Value} (G : Glb Z a0) : (Jvm.Cond.instantiable "java/util/ImmutableCollections$List12" (2 : Nat)).before a0 Z = true := G.1 _ (List.mem_of_getElem? (i := 95) rfl)
theorem wd_96 {Z : State} {a0 : Array Value} (G : Glb Z a0) : (Jvm.Cond.initialized "java/util/ImmutableCollections$List12").before a0 Z = true := G.1 _ (List.mem_of_getElem? (i := 96) rfl)
theorem wd_97 {Z : State} {a0 : Array Value} (G : Glb Z a0) : (Jvm.Cond.methodLink "java/util/List" (98 : Nat) ({ cls := "java/util/ImmutableCollections$List12", name := "<init>", desc := "(Ljava/lang/Object;)V" } : Jvm.MethodName)).before a0 Z = true := G.1 _ (List.mem_of_getElem? (i := 97) rfl)
theorem wd_98 {Z : State} {a0 : Array Value} (G : Glb Z a0) : (Jvm.Cond.instanceMethod ({ cls := "java/util/ImmutableCollections$List12", name := "<init>", desc := "(Ljava/lang/Object;)V" } : Jvm.MethodName)).before a0 Z = true := G.1 _ (List.mem_of_getElem? (i := 98) rfl)
theorem wd_100 {Z : State} {a0 : Array Value} (G : Glb Z a0) : (Jvm.Cond.code ({ cls := "java/util/ImmutableCollections$List12", name := "<init>", desc := "(Ljava/lang/Object;)V" } : Jvm.MethodName) jdk_44_method_1_code (2 : Nat) (Option.none : Option Jvm.ClassFile.FieldType)).before a0 Z = true := G.1 _ (List.mem_of_getElem? (i := 100) rfl)
theorem wd_101 {Z : State} {a0 : Array Value} (G : Glb Z a0) : (Jvm.Cond.methodLink "java/util/ImmutableCollections$List12" (1 : Nat) ({ cls := "java/util/ImmutableCollections$AbstractImmutableList", name := "<init>", desc := "()V" } : Jvm.MethodName)).before a0 Z = true := G.1 _ (List.mem_of_getElem? (i := 101) rfl)
theorem wd_102 {Z : State} {a0 : Array Value} (G : Glb Z a0) : (Jvm.Cond.instanceMethod ({ cls := "java/util/ImmutableCollections$AbstractImmutableList", name := "<init>", desc := "()V" } : Jvm.MethodName)).before a0 Z = true := G.1 _ (List.mem_of_getElem? (i := 102) rfl)
theorem wd_105 {Z : State} {a0 : Array Value} (G : Glb Z a0) : (Jvm.Cond.initialized "java/util/ImmutableCollections$AbstractImmutableList").before a0 Z = true := G.1 _ (List.mem_of_getElem? (i := 105) rfl)
theorem wd_106 {Z : State} {a0 : Array Value} (G : Glb Z a0) : (Jvm.Cond.code ({ cls := "java/util/ImmutableCollections$AbstractImmutableList", name := "<init>", desc := "()V" } : Jvm.MethodName) jdk_46_method_1_code (1 : Nat) (Option.none : Option Jvm.ClassFile.FieldType)).before a0 Z = true := G.1 _ (List.mem_of_getElem? (i := 106) rfl)
theorem wd_107 {Z : State} {a0 : Array Value} (G : Glb Z a0) : (Jvm.Cond.methodLink "java/util/ImmutableCollections$AbstractImmutableList" (1 : Nat) ({ cls := "java/util/ImmutableCollections$AbstractImmutableCollection", name := "<init>", desc := "()V" } : Jvm.MethodName)).before a0 Z = true := G.1 _ (List.mem_of_getElem? (i := 107) rfl)
theorem wd_108 {Z : State} {a0 : Array Value} (G : Glb Z a0) : (Jvm.Cond.instanceMethod ({ cls := "java/util/ImmutableCollections$AbstractImmutableCollection", name := "<init>", desc := "()V" } : Jvm.MethodName)).before a0 Z = true := G.1 _ (List.mem_of_getElem? (i := 108) rfl)
theorem wd_111 {Z : State} {a0 : Array Value} (G : Glb Z a0) : (Jvm.Cond.initialized "java/util/ImmutableCollections$AbstractImmutableCollection").before a0 Z = true := G.1 _ (List.mem_of_getElem? (i := 111) rfl)
theorem wd_112 {Z : State} {a0 : Array Value} (G : Glb Z a0) : (Jvm.Cond.code ({ cls := "java/util/ImmutableCollections$AbstractImmutableCollection", name := "<init>", desc := "()V" } : Jvm.MethodName) jdk_47_method_1_code (1 : Nat) (Option.none : Option Jvm.ClassFile.FieldType)).before a0 Z = true := G.1 _ (List.mem_of_getElem? (i := 112) rfl)
theorem wd_113 {Z : State} {a0 : Array Value} (G : Glb Z a0) : (Jvm.Cond.methodLink "java/util/ImmutableCollections$AbstractImmutableCollection" (1 : Nat) ({ cls := "java/util/AbstractCollection", name := "<init>", desc := "()V" } : Jvm.MethodName)).before a0 Z = true := G.1 _ (List.mem_of_getElem? (i := 113) rfl)
theorem wd_115 {Z : State} {a0 : Array Value} (G : Glb Z a0) : (Jvm.Cond.methodLink "java/util/ImmutableCollections$List12" (7 : Nat) ({ cls := "java/util/Objects", name := "requireNonNull", desc := "(Ljava/lang/Object;)Ljava/lang/Object;" } : Jvm.MethodName)).before a0 Z = true := G.1 _ (List.mem_of_getElem? (i := 115) rfl)
theorem wd_116 {Z : State} {a0 : Array Value} (G : Glb Z a0) : (Jvm.Cond.static ({ cls := "java/util/Objects", name := "requireNonNull", desc := "(Ljava/lang/Object;)Ljava/lang/Object;" } : Jvm.MethodName)).before a0 Z = true := G.1 _ (List.mem_of_getElem? (i := 116) rfl)
theorem wd_117 {Z : State} {a0 : Array Value} (G : Glb Z a0) : (Jvm.Cond.initialized "java/util/Objects").before a0 Z = true := G.1 _ (List.mem_of_getElem? (i := 117) rfl)
theorem wd_118 {Z : State} {a0 : Array Value} (G : Glb Z a0) : (Jvm.Cond.code ({ cls := "java/util/Objects", name := "requireNonNull", desc := "(Ljava/lang/Object;)Ljava/lang/Object;" } : Jvm.MethodName) jdk_31_method_10_code (1 : Nat) (Option.some (Jvm.ClassFile.FieldType.object "java/lang/Object"))).before a0 Z = true := G.1 _ (List.mem_of_getElem? (i := 118) rfl)
theorem wd_119 {Z : State} {a0 : Array Value} (G : Glb Z a0) : (Jvm.Cond.fieldLink "java/util/ImmutableCollections$List12" (13 : Nat) "java/util/ImmutableCollections$List12" "e0" "Ljava/lang/Object;").before a0 Z = true := G.1 _ (List.mem_of_getElem? (i := 119) rfl)
theorem wd_120 {Z : State} {a0 : Array Value} (G : Glb Z a0) : (Jvm.Cond.laysFinal "java/util/ImmutableCollections$List12" "java/util/ImmutableCollections$List12" "e0" "Ljava/lang/Object;").before a0 Z = true := G.1 _ (List.mem_of_getElem? (i := 120) rfl)
theorem wd_121 {Z : State} {a0 : Array Value} (G : Glb Z a0) : (Jvm.Cond.fieldLinkNest "java/util/ImmutableCollections$List12" (19 : Nat) "java/util/ImmutableCollections" "EMPTY" "Ljava/lang/Object;" "java/util/ImmutableCollections").before a0 Z = true := G.1 _ (List.mem_of_getElem? (i := 121) rfl)
theorem wd_123 {Z : State} {a0 : Array Value} (G : Glb Z a0) : (Jvm.Cond.fieldLink "java/util/ImmutableCollections$List12" (24 : Nat) "java/util/ImmutableCollections$List12" "e1" "Ljava/lang/Object;").before a0 Z = true := G.1 _ (List.mem_of_getElem? (i := 123) rfl)
theorem wd_124 {Z : State} {a0 : Array Value} (G : Glb Z a0) : (Jvm.Cond.laysFinal "java/util/ImmutableCollections$List12" "java/util/ImmutableCollections$List12" "e1" "Ljava/lang/Object;").before a0 Z = true := G.1 _ (List.mem_of_getElem? (i := 124) rfl)
theorem wd_125 {Z : State} {a0 : Array Value} (G : Glb Z a0) : (Jvm.Cond.methodLink "com/example/termwise/termwise/core/ContractRecognizedKindPinLaw" (37 : Nat) ({ cls := "java/util/List", name := "size", desc := "()I" } : Jvm.MethodName)).before a0 Z = true := G.1 _ (List.mem_of_getElem? (i := 125) rfl)
theorem wd_126 {Z : State} {a0 : Array Value} (G : Glb Z a0) : (Jvm.Cond.declares ({ cls := "java/util/List", name := "size", desc := "()I" } : Jvm.MethodName)).before a0 Z = true := G.1 _ (List.mem_of_getElem? (i := 126) rfl)
theorem wd_127 {Z : State} {a0 : Array Value} (G : Glb Z a0) : (Jvm.Cond.interfaceMethod "java/util/List" "java/util/List" "size" "()I").before a0 Z = true := G.1 _ (List.mem_of_getElem? (i := 127) rfl)
theorem wd_128 {Z : State} {a0 : Array Value} (G : Glb Z a0) : (Jvm.Cond.selects "java/util/ImmutableCollections$List12" ({ cls := "java/util/List", name := "size", desc := "()I" } : Jvm.MethodName) ({ cls := "java/util/ImmutableCollections$List12", name := "size", desc := "()I" } : Jvm.MethodName)).before a0 Z = true := G.1 _ (List.mem_of_getElem? (i := 128) rfl)
theorem wd_129 {Z : State} {a0 : Array Value} (G : Glb Z a0) : (Jvm.Cond.instanceMethod ({ cls := "java/util/ImmutableCollections$List12", name := "size", desc := "()I" } : Jvm.MethodName)).before a0 Z = true := G.1 _ (List.mem_of_getElem? (i := 129) rfl)
theorem wd_130 {Z : State} {a0 : Array Value} (G : Glb Z a0) : (Jvm.Cond.publicMethod ({ cls := "java/util/ImmutableCollections$List12", name := "size", desc := "()I" } : Jvm.MethodName)).before a0 Z = true := G.1 _ (List.mem_of_getElem? (i := 130) rfl)
theorem wd_131 {Z : State} {a0 : Array Value} (G : Glb Z a0) : (Jvm.Cond.unhidden "java/util/ImmutableCollections$List12" "size" "()I").before a0 Z = true := G.1 _ (List.mem_of_getElem? (i := 131) rfl)
theorem wd_132 {Z : State} {a0 : Array Value} (G : Glb Z a0) : (Jvm.Cond.castable "java/util/ImmutableCollections$List12" "java/util/List").before a0 Z = true := G.1 _ (List.mem_of_getElem? (i := 132) rfl)
theorem wd_133 {Z : State} {a0 : Array Value} (G : Glb Z a0) : (Jvm.Cond.code ({ cls := "java/util/ImmutableCollections$List12", name := "size", desc := "()I" } : Jvm.MethodName) jdk_44_method_3_code (1 : Nat) (Option.some Jvm.ClassFile.FieldType.int)).before a0 Z = true := G.1 _ (List.mem_of_getElem? (i := 133) rfl)
theorem wd_134 {Z : State} {a0 : Array Value} (G : Glb Z a0) : (Jvm.Cond.methodLink "com/example/termwise/termwise/core/ContractRecognizedKindPinLaw" (43 : Nat) ({ cls := "java/util/List", name := "get", desc := "(I)Ljava/lang/Object;" } : Jvm.MethodName)).before a0 Z = true := G.1 _ (List.mem_of_getElem? (i := 134) rfl)
theorem wd_135 {Z : State} {a0 : Array Value} (G : Glb Z a0) : (Jvm.Cond.declares ({ cls := "java/util/List", name := "get", desc := "(I)Ljava/lang/Object;" } : Jvm.MethodName)).before a0 Z = true := G.1 _ (List.mem_of_getElem? (i := 135) rfl)
theorem wd_136 {Z : State} {a0 : Array Value} (G : Glb Z a0) : (Jvm.Cond.interfaceMethod "java/util/List" "java/util/List" "get" "(I)Ljava/lang/Object;").before a0 Z = true := G.1 _ (List.mem_of_getElem? (i := 136) rfl)
theorem wd_137 {Z : State} {a0 : Array Value} (G : Glb Z a0) : (Jvm.Cond.selects "java/util/ImmutableCollections$List12" ({ cls := "java/util/List", name := "get", desc := "(I)Ljava/lang/Object;" } : Jvm.MethodName) ({ cls := "java/util/ImmutableCollections$List12", name := "get", desc := "(I)Ljava/lang/Object;" } : Jvm.MethodName)).before a0 Z = true := G.1 _ (List.mem_of_getElem? (i := 137) rfl)
theorem wd_138 {Z : State} {a0 : Array Value} (G : Glb Z a0) : (Jvm.Cond.instanceMethod ({ cls := "java/util/ImmutableCollections$List12", name := "get", desc := "(I)Ljava/lang/Object;" } : Jvm.MethodName)).before a0 Z = true := G.1 _ (List.mem_of_getElem? (i := 138) rfl)
theorem wd_139 {Z : State} {a0 : Array Value} (G : Glb Z a0) : (Jvm.Cond.publicMethod ({ cls := "java/util/ImmutableCollections$List12", name := "get", desc := "(I)Ljava/lang/Object;" } : Jvm.MethodName)).before a0 Z = true := G.1 _ (List.mem_of_getElem? (i := 139) rfl)
theorem wd_140 {Z : State} {a0 : Array Value} (G : Glb Z a0) : (Jvm.Cond.unhidden "java/util/ImmutableCollections$List12" "get" "(I)Ljava/lang/Object;").before a0 Z = true := G.1 _ (List.mem_of_getElem? (i := 140) rfl)
theorem wd_141 {Z : State} {a0 : Array Value} (G : Glb Z a0) : (Jvm.Cond.code ({ cls := "java/util/ImmutableCollections$List12", name := "get", desc := "(I)Ljava/lang/Object;" } : Jvm.MethodName) jdk_44_method_5_code (2 : Nat) (Option.some (Jvm.ClassFile.FieldType.object "java/lang/Object"))).before a0 Z = true := G.1 _ (List.mem_of_getElem? (i := 141) rfl)
theorem wd_142 {Z : State} {a0 : Array Value} (G : Glb Z a0) : (Jvm.Cond.fieldLink "com/example/termwise/termwise/core/Contract" (62 : Nat) "com/example/termwise/termwise/core/LimitKind" "REVENUE" "Lcom/example/termwise/termwise/core/LimitKind;").before a0 Z = true := G.1 _ (List.mem_of_getElem? (i := 142) rfl)
theorem wd_143 {Z : State} {a0 : Array Value} (G : Glb Z a0) : (Jvm.Cond.laysStatic "com/example/termwise/termwise/core/LimitKind" "REVENUE" "Lcom/example/termwise/termwise/core/LimitKind;").before a0 Z = true := G.1 _ (List.mem_of_getElem? (i := 143) rfl)
theorem wd_144 {Z : State} {a0 : Array Value} (G : Glb Z a0) : (Jvm.Cond.fieldLink "com/example/termwise/termwise/core/ContractRecognizedKindPinLaw" (24 : Nat) "com/example/termwise/termwise/core/LimitKind" "REVENUE" "Lcom/example/termwise/termwise/core/LimitKind;").before a0 Z = true := G.1 _ (List.mem_of_getElem? (i := 144) rfl)
theorem wd_145 {Z : State} {a0 : Array Value} (G : Glb Z a0) : (Jvm.Cond.methodLink "com/example/termwise/termwise/core/Contract" (65 : Nat) ({ cls := "java/util/List", name := "of", desc := "(Ljava/lang/Object;Ljava/lang/Object;)Ljava/util/List;" } : Jvm.MethodName)).before a0 Z = true := G.1 _ (List.mem_of_getElem? (i := 145) rfl)
theorem wd_146 {Z : State} {a0 : Array Value} (G : Glb Z a0) : (Jvm.Cond.static ({ cls := "java/util/List", name := "of", desc := "(Ljava/lang/Object;Ljava/lang/Object;)Ljava/util/List;" } : Jvm.MethodName)).before a0 Z = true := G.1 _ (List.mem_of_getElem? (i := 146) rfl)
theorem wd_147 {Z : State} {a0 : Array Value} (G : Glb Z a0) : (Jvm.Cond.code ({ cls := "java/util/List", name := "of", desc := "(Ljava/lang/Object;Ljava/lang/Object;)Ljava/util/List;" } : Jvm.MethodName) jdk_40_method_38_code (2 : Nat) (Option.some (Jvm.ClassFile.FieldType.object "java/util/List"))).before a0 Z = true := G.1 _ (List.mem_of_getElem? (i := 147) rfl)
theorem wd_148 {Z : State} {a0 : Array Value} (G : Glb Z a0) : (Jvm.Cond.methodLink "java/util/List" (100 : Nat) ({ cls := "java/util/ImmutableCollections$List12", name := "<init>", desc := "(Ljava/lang/Object;Ljava/lang/Object;)V" } : Jvm.MethodName)).before a0 Z = true := G.1 _ (List.mem_of_getElem? (i := 148) rfl)
theorem wd_149 {Z : State} {a0 : Array Value} (G : Glb Z a0) : (Jvm.Cond.instanceMethod ({ cls := "java/util/ImmutableCollections$List12", name := "<init>", desc := "(Ljava/lang/Object;Ljava/lang/Object;)V" } : Jvm.MethodName)).before a0 Z = true := G.1 _ (List.mem_of_getElem? (i := 149) rfl)
theorem wd_150 {Z : State} {a0 : Array Value} (G : Glb Z a0) : (Jvm.Cond.code ({ cls := "java/util/ImmutableCollections$List12", name := "<init>", desc := "(Ljava/lang/Object;Ljava/lang/Object;)V" } : Jvm.MethodName) jdk_44_method_2_code (3 : Nat) (Option.none : Option Jvm.ClassFile.FieldType)).before a0 Z = true := G.1 _ (List.mem_of_getElem? (i := 150) rfl)
theorem Ct.in {l : Launch} {Z : State} {a0 : Array Value} (G : Glb Z a0) {ml : Nat} {H : HP} {ls : List Slot} {y : MethodName} {bytes : ByteArray} {ret : Option FieldType} {rm : Room} {wz : List Jvm.Cond} {as : List Value} {Q : Option Value → HP → Prop} (hpl : plainFor y = true) (hls : locsOf as ml = ls) (hlen : ls.length = ml)
    (body : ∀ D, Wk l Z a0 EL0 y.cls bytes ml y.name ret rm D 0 ls [] H 0 0 → ∃ v H' k n, Rt Z EL0 D v H' k n ∧ Q v H' ∧ k ≤ rm.cells ∧ n ≤ rm.slots) : Ct l Z EL0 y bytes ml ret rm wz as H Q := Ct.intro hpl hls hlen body

/-! numbers -/
theorem n32_toInt {i : Nat} (h : i < 2 ^ 31) : (i.toInt32).toInt = i := by simp [Nat.toInt32, Int32.toInt_ofNat_of_lt h]
theorem n32_lt {i j : Nat} (hi : i < 2 ^ 31) (hj : j < 2 ^ 31) : i.toInt32 < j.toInt32 ↔ i < j := by
  rw [Int32.lt_iff_toInt_lt, n32_toInt hi, n32_toInt hj]; omega
theorem n32_inj {i j : Nat} (hi : i < 2 ^ 31) (hj : j < 2 ^ 31) : i.toInt32 = j.toInt32 ↔ i = j := by
  constructor
  · intro h; have := congrArg Int32.toInt h; rw [n32_toInt hi, n32_toInt hj] at this; omega
  · rintro rfl; rfl
theorem n32_succ (i : Nat) : i.toInt32 + 1 = (i + 1).toInt32 := by
  show Int32.ofNat i + Int32.ofNat 1 = Int32.ofNat (i + 1)
  rw [Int32.ofNat_add]
theorem n32_add (i j : Nat) : i.toInt32 + j.toInt32 = (i + j).toInt32 := by
  show Int32.ofNat i + Int32.ofNat j = Int32.ofNat (i + j)
  rw [Int32.ofNat_add]

theorem G_compact {Z : State} {a0 : Array Value} (G : Glb Z a0) : ∃ x : Int32, ¬ x = 0 ∧ Sta Z Z.heap "java/lang/String" "COMPACT_STRINGS" "Z" (.int x) := by
  obtain ⟨x, e⟩ := is_v (Cond.before_iff.mp (G.2.1 _ (List.mem_of_getElem? (i := 1) rfl)))
  have n := not_v (Cond.before_iff.mp (G.2.1 _ (List.mem_of_getElem? (i := 2) rfl)))
  exact ⟨x, gotF (Cond.eq_ints e (Term.int_eval 0)) n, Sta.start e (Or.inl (G.2.1 _ (List.mem_of_getElem? (i := 0) rfl)))⟩


/-! ## new String(char[]) -/
abbrev chs (cs : List Int32) : List Value := cs.map Value.int
abbrev b8 (c : Int32) : Int32 := c.toInt8.toInt32
abbrev lo8 (cs : List Int32) : List Value := cs.map fun c => Value.int (b8 c)
def pfx : List Int32 → Nat
  | [] => 0
  | c :: r => if (255 : Int32) < c then 0 else pfx r + 1
theorem pfx_le : ∀ cs, pfx cs ≤ cs.length
  | [] => Nat.le_refl _
  | c :: r => by unfold pfx; split <;> simp [pfx_le r]
theorem pfx_all : ∀ {cs}, (∀ c ∈ cs, ¬ (255 : Int32) < c) → pfx cs = cs.length
  | [], _ => rfl
  | c :: r, h => by
    unfold pfx
    rw [if_neg (h c (List.mem_cons_self ..)), pfx_all fun x hx => h x (List.mem_cons_of_mem _ hx)]; rfl
section JStr
variable {l : Launch} {Z : State} {a0 : Array Value} {D : Dyn} {H : HP}
set_option maxRecDepth 65536 in
theorem l_cmp5 (G : Glb Z a0) {s t : Addr} {cs : List Int32} {vs : List Value} (F : Ar Z H s .char (chs cs)) (hl : vs.length = cs.length) (hne : s ≠ t) :
    ∀ (q : List Int32) (i : Nat) (H1 : HP) (s6 : Slot), cs.drop i = q → i ≤ cs.length → Kp H H1 [t] → H1.2 t → Ar Z H1 t .byte (lo8 (cs.take i) ++ vs.drop i) → (s6 = .unset ∨ ∃ x, s6 = .val (.int x)) →
      Wk l Z a0 EL0 "java/lang/StringUTF16" jdk_52_method_21_code 7 "compress" (some .int) ({ frames := 0, cells := 0, slots := 0, locals := 0 } : Room) D 3 [.val (.ref s), .val (.int i.toInt32), .val (.ref t), .val (.int i.toInt32), .val (.int cs.length.toInt32), .val (.int i.toInt32), s6] [] H1 0 0 →
      ∃ H', Rt Z EL0 D (some (.int (i + pfx q).toInt32)) H' 0 0 ∧ Kp H H' [t] ∧ Ar Z H' t .byte (lo8 (cs.take (i + pfx q)) ++ vs.drop (i + pfx q)) := by
  have hn : cs.length < 2 ^ 31 := by simpa using F.len
  intro q
  induction q with
  | nil =>
    intro i H1 s6 hd hi K o T h6 A0
    have e : i = cs.length := by have := List.drop_eq_nil_iff.mp hd; omega
    subst e
    have A1 := A0.run [(3, .iload 5, 5, 0), (5, .iload 4, 7, 0)] (pe := 7) (by decide +kernel) rfl
    have A2 := A1.icT (cd := .ge) (o := 37) (by decide +kernel) Int32.lt_irrefl (pe := 44) (by decide)
    have A3 := A2.run [(44, .iload 4, 46, 0)] (pe := 46) (by decide +kernel) rfl
    have A4 := A3.retI (by decide +kernel)
    exact ⟨_, A4, K, T⟩
  | cons c r ih =>
    intro i H1 s6 hd hi K o T h6 A0
    have hlt : i < cs.length := by
      rcases Nat.lt_or_ge i cs.length with h | h
      · exact h
      · rw [List.drop_eq_nil_of_le h] at hd; cases hd
    have hc : cs[i]? = some c := by have := congrArg List.head? hd; simpa [List.head?_drop] using this
    have hr : cs.drop (i + 1) = r := by have := congrArg List.tail hd; simpa using this
    have A1 := A0.run [(3, .iload 5, 5, 0), (5, .iload 4, 7, 0)] (pe := 7) (by decide +kernel) rfl
    have A2 := A1.icF (cd := .ge) (o := 37) (by decide +kernel) (by show ¬ ¬ _ < _; exact not_not_intro ((n32_lt (by omega) hn).mpr hlt))
    have A3 := A2.run [(10, .aload_n 0, 11, 0), (11, .iload_n 1, 12, 0)] (pe := 12) (by decide +kernel) rfl
    have A4 := A3.caload (F.ky K (by simpa using hne)) (by decide +kernel) rfl (v := .int c) (by simp [hc])
    have A6 : Wk l Z a0 EL0 "java/lang/StringUTF16" jdk_52_method_21_code 7 "compress" (some .int) ({ frames := 0, cells := 0, slots := 0, locals := 0 } : Room) D 20 [.val (.ref s), .val (.int i.toInt32), .val (.ref t), .val (.int i.toInt32), .val (.int cs.length.toInt32), .val (.int i.toInt32), .val (.int c)] [.int 255, .int c] H1 0 0 := by
      rcases h6 with rfl | ⟨x, rfl⟩
      · exact A4.run [(13, .istore 6, 15, 0), (15, .iload 6, 17, 0), (17, .sipush 255, 20, 255)] (pe := 20) (by decide +kernel) rfl
      · exact A4.run [(13, .istore 6, 15, 0), (15, .iload 6, 17, 0), (17, .sipush 255, 20, 255)] (pe := 20) (by decide +kernel) rfl
    by_cases h255 : (255 : Int32) < c
    · have A7 := A6.icF (cd := .le) (o := 6) (by decide +kernel) (by show ¬ ¬ _ < _; exact not_not_intro h255)
      have A8 := A7.run [(23, .iload 5, 25, 0)] (pe := 25) (by decide +kernel) rfl
      have A9 := A8.retI (by decide +kernel)
      have e : pfx (c :: r) = 0 := by simp [pfx, h255]
      rw [e]
      exact ⟨_, A9, K, T⟩
    · have A7 := A6.icT (cd := .le) (o := 6) (by decide +kernel) (by show ¬ _ < _; exact h255) (pe := 26) (by decide)
      have A8 := A7.run [(26, .aload_n 2, 27, 0), (27, .iload_n 3, 28, 0), (28, .iload 6, 30, 0), (30, .i2b, 31, 0)] (pe := 31) (by decide +kernel) rfl
      obtain ⟨H2, A9, K2, T2⟩ := A8.bastore T o (by decide +kernel) rfl (by simp; omega) (x2 := b8 c) (by simp [nar])
      have A10 := A9.run [(32, .iinc 1 1, 35, 1), (35, .iinc 3 1, 38, 1), (38, .iinc 5 1, 41, 1), (41, .goto (-38), 3, 0)] (pe := 3) (by decide +kernel) rfl
      have e : pfx (c :: r) = pfx r + 1 := by simp [pfx, h255]
      have hl2 : (lo8 (cs.take i) ++ vs.drop i).set i (.int (b8 c)) = lo8 (cs.take (i + 1)) ++ vs.drop (i + 1) := by
        have h1 : (lo8 (cs.take i)).length = i := by simp; omega
        have h2 : vs.drop i = vs[i]'(by omega) :: vs.drop (i + 1) := by rw [List.drop_eq_getElem_cons]
        rw [List.set_append_right _ _ (by omega), h1, Nat.sub_self, h2, List.set_cons_zero]
        rw [List.take_add_one, hc]
        simp
      rw [hl2] at T2
      rw [n32_succ] at A10
      obtain ⟨H', B1, B2, B3⟩ := ih (i + 1) H2 _ hr hlt (K.trans K2 fun x hx => Or.inl hx) (K2.2 _ o) T2 (Or.inr ⟨c, rfl⟩) A10
      rw [e]
      rw [show i + (pfx r + 1) = i + 1 + pfx r by omega]
      exact ⟨H', B1, B2, B3⟩
theorem c_cmp5 (G : Glb Z a0) {s t : Addr} {cs : List Int32} {vs : List Value} (F : Ar Z H s .char (chs cs)) (T : Ar Z H t .byte vs) (o : H.2 t) (hl : vs.length = cs.length) (hne : s ≠ t) :
    Ct l Z EL0 (⟨"java/lang/StringUTF16", "compress", "([CI[BII)I"⟩ : MethodName) jdk_52_method_21_code 7 ((some .int)) ({ frames := 0, cells := 0, slots := 0, locals := 0 } : Room) [] [.ref s, .int 0, .ref t, .int 0, .int cs.length.toInt32] H (fun v H' => v = some (.int (pfx cs).toInt32) ∧ Kp H H' [t] ∧ Ar Z H' t .byte (lo8 (cs.take (pfx cs)) ++ vs.drop (pfx cs))) := by
  refine Ct.in G (by first | exact plainFor_of_name (by simp [plainName, overriddenIn]; done) | decide +kernel) (ls := [.val (.ref s), .val (.int 0), .val (.ref t), .val (.int 0), .val (.int cs.length.toInt32), .unset, .unset]) rfl rfl fun D A0 => ?_
  have A1 := A0.run [(0, .iconst 0, 1, 0), (1, .istore 5, 3, 0)] (pe := 3) (by decide +kernel) rfl
  obtain ⟨H', B1, B2, B3⟩ := l_cmp5 G F hl hne cs 0 H .unset rfl (Nat.zero_le _) (Kp.refl H |>.wide fun x hx => nomatch hx) o (by simpa using T) (Or.inl rfl) A1
  rw [Nat.zero_add] at B1 B3
  exact ⟨_, H', 0, 0, B1, ⟨rfl, B2, B3⟩, Nat.le_refl _, Nat.le_refl _⟩
/-- all chars below 256 -/
abbrev Lat (cs : List Int32) : Prop := ∀ c ∈ cs, ¬ (255 : Int32) < c
theorem c_cmp3 (G : Glb Z a0) {s : Addr} {cs : List Int32} (F : Ar Z H s .char (chs cs)) (hn : cs.length ≤ 1) (hla : Lat cs) :
    Ct l Z EL0 (⟨"java/lang/StringUTF16", "compress", "([CII)[B"⟩ : MethodName) jdk_52_method_16_code 6 ((some (.array .byte))) ({ frames := 1, cells := 1, slots := 1, locals := 18 } : Room) [] [.ref s, .int 0, .int cs.length.toInt32] H (fun v H' => ∃ t, v = some (.ref t) ∧ H.1.size ≤ t ∧ Kp H H' [] ∧ Ar Z H' t .byte (lo8 cs) ∧ H'.2 t) := by
  refine Ct.in G (by first | exact plainFor_of_name (by simp [plainName, overriddenIn]; done) | decide +kernel) (ls := [.val (.ref s), .val (.int 0), .val (.int cs.length.toInt32), .unset, .unset, .unset]) rfl rfl fun D A0 => ?_
  have A1 := A0.run [(0, .iload_n 2, 1, 0)] (pe := 1) (by decide +kernel) rfl
  obtain ⟨t, H1, A2, hge, K1, T1, o1⟩ := A1.newA (aty := .byte) (wd_19 G) (by decide +kernel) rfl (cap := 1) hn (by decide) (by decide) (by decide)
  have A3 := A2.run [(3, .astore_n 3, 4, 0), (4, .aload_n 0, 5, 0), (5, .iload_n 1, 6, 0), (6, .aload_n 3, 7, 0), (7, .iconst 0, 8, 0), (8, .iload_n 2, 9, 0)] (pe := 9) (by decide +kernel) rfl
  have hne : s ≠ t := Nat.ne_of_lt (Nat.lt_of_lt_of_le F.lt hge)
  obtain ⟨_, HA4, qA4, A4, moA4, szA4⟩ := A3.callS (argsL := [.ref s, .int 0, .ref t, .int 0, .int cs.length.toInt32]) (wd_20 G) (wd_21 G) (wd_17 G) (wd_22 G) (c_cmp5 G (F.ky K1) T1 o1 (by simp) hne) (by decide) ⟨_, _, (by decide +kernel : parseMethodDescriptor "([CI[BII)I" = some ⟨[(.array .char), .int, (.array .byte), .int, .int], some .int⟩), rfl⟩ (by decide +kernel) (Wd := 0) (by decide) (Nat.le_of_ble_eq_true rfl) (by decide) (by decide) (by decide)
  obtain ⟨rfl, K2, T2⟩ := qA4
  rw [pfx_all hla] at T2 A4
  have A5 := A4.run [(12, .istore 4, 14, 0), (14, .iload 4, 16, 0), (16, .iload_n 2, 17, 0)] (pe := 17) (by decide +kernel) rfl
  have A6 := A5.icT (cd := .eq) (o := 40) (by decide +kernel) rfl (pe := 57) (by decide)
  have A7 := A6.run [(57, .aload_n 3, 58, 0)] (pe := 58) (by decide +kernel) rfl
  have A8 := A7.retA (by decide +kernel) rfl rfl
  refine ⟨_, _, _, _, A8, ⟨t, rfl, hge, K1.trans K2 (fun x hx => Or.inr ?_), by simpa using T2, moA4 _ o1⟩, by decide, by decide⟩
  cases List.mem_singleton.mp hx; exact hge
theorem c_cfa (G : Glb Z a0) {t : Addr} {n : Nat} {vs : List Value} (F : Ar Z H t .byte vs) (hl : vs.length = n) :
    Ct l Z EL0 (⟨"java/lang/StringUTF16", "coderFromArrayLen", "([BI)B"⟩ : MethodName) jdk_52_method_15_code 2 ((some .byte)) ({ frames := 0, cells := 0, slots := 0, locals := 0 } : Room) [] [.ref t, .int n.toInt32] H (fun v H' => v = some (.int 0) ∧ H = H') := by
  refine Ct.in G (by first | exact plainFor_of_name (by simp [plainName, overriddenIn]; done) | decide +kernel) (ls := [.val (.ref t), .val (.int n.toInt32)]) rfl rfl fun D A0 => ?_
  have A1 := A0.run [(0, .iload_n 1, 1, 0), (1, .aload_n 0, 2, 0)] (pe := 2) (by decide +kernel) rfl
  have A2 := A1.alen F (by decide +kernel) (z := n.toInt32) (by rw [hl])
  have A3 := A2.run [(3, .isub, 4, 0), (4, .bipush 31, 6, 31), (6, .iushr, 7, 0), (7, .i2b, 8, 0)] (pe := 8) (by decide +kernel) rfl
  have A4 := A3.retB (by decide +kernel) (x2 := 0) (by rw [Int32.sub_self]; decide)
  exact ⟨_, _, _, _, A4, ⟨rfl, rfl⟩, Nat.le_refl _, Nat.le_refl _⟩
/-- a char's value -/
abbrev isC (c : Int32) : Prop := 0 ≤ c.toInt ∧ c.toInt < 65536
abbrev e16 (c : Int32) : List Value := [.int (b8 c), .int (b8 (c >>> (8 &&& 31)))]
abbrev enc16 (cs : List Int32) : List Value := cs.flatMap e16
/-- the String a says cs -/
def Str (Z : State) (H : HP) (a : Addr) (cs : List Int32) : Prop := Exa Z H.1 a "java/lang/String" ∧ (∀ c ∈ cs, isC c) ∧ ∃ t, Fld Z H.1 a "java/lang/String" "value" "[B" (.ref t) ∧
  (Lat cs ∧ Fld Z H.1 a "java/lang/String" "coder" "B" (.int 0) ∧ Ar Z H t .byte (lo8 cs) ∨ ¬ Lat cs ∧ Fld Z H.1 a "java/lang/String" "coder" "B" (.int 1) ∧ Ar Z H t .byte (enc16 cs))
theorem Str.ky {H H' : HP} {a : Addr} {cs : List Int32} (S : Str Z H a cs) (K : Kp H H' []) : Str Z H' a cs := by
  obtain ⟨h1, h2, t, h3, h4⟩ := S
  exact ⟨h1.ky K, h2, t, h3.ky K, h4.imp (fun ⟨q1, q2, q3⟩ => ⟨q1, q2.ky K, q3.ky K⟩) (fun ⟨q1, q2, q3⟩ => ⟨q1, q2.ky K, q3.ky K⟩)⟩
theorem Ar.kyE {H H' : HP} {t x : Addr} {ty : FieldType} {vs : List Value} {C : String} {q : Nat} (F : Ar Z H t ty vs) (K : Kp H H' [x]) (E : Exa Z H.1 x C) (wi : (Jvm.Cond.instantiable C q).before a0 Z = true) : Ar Z H' t ty vs :=
  F.ky K (by obtain ⟨c, A, -⟩ := F; simpa using Ne.symm (ne_arr E wi A))
theorem Str.kyE {H H' : HP} {a x : Addr} {cs : List Int32} {C : String} {q : Nat} (S : Str Z H a cs) (K : Kp H H' [x]) (E : Exa Z H.1 x C) (hC : C ≠ "java/lang/String") (wi : (Jvm.Cond.instantiable C q).before a0 Z = true) : Str Z H' a cs := by
  obtain ⟨h1, h2, t, h3, h4⟩ := S
  have ha : a ∉ [x] := by simpa using Ne.symm (ne_exa E h1 hC)
  exact ⟨h1.ky K, h2, t, h3.ky K ha, h4.imp (fun ⟨q1, q2, q3⟩ => ⟨q1, q2.ky K ha, q3.kyE K E wi⟩) (fun ⟨q1, q2, q3⟩ => ⟨q1, q2.ky K ha, q3.kyE K E wi⟩)⟩
theorem Str.lt {H : HP} {a : Addr} {cs : List Int32} (S : Str Z H a cs) : a < H.1.size := S.1.lt
theorem Str.opL {H : HP} {a : Addr} {cs : List Int32} (S : Str Z H a cs) (h : Lat cs) : Exa Z H.1 a "java/lang/String" ∧ ∃ t, Fld Z H.1 a "java/lang/String" "value" "[B" (.ref t) ∧ Fld Z H.1 a "java/lang/String" "coder" "B" (.int 0) ∧ Ar Z H t .byte (lo8 cs) := by
  obtain ⟨h1, h2, t, h3, h4⟩ := S
  rcases h4 with ⟨-, q⟩ | ⟨q, -⟩
  · exact ⟨h1, t, h3, q⟩
  · exact absurd h q
theorem Str.opU {H : HP} {a : Addr} {cs : List Int32} (S : Str Z H a cs) (h : ¬ Lat cs) : Exa Z H.1 a "java/lang/String" ∧ ∃ t, Fld Z H.1 a "java/lang/String" "value" "[B" (.ref t) ∧ Fld Z H.1 a "java/lang/String" "coder" "B" (.int 1) ∧ Ar Z H t .byte (enc16 cs) := by
  obtain ⟨h1, h2, t, h3, h4⟩ := S
  rcases h4 with ⟨q, -⟩ | ⟨-, q⟩
  · exact absurd q h
  · exact ⟨h1, t, h3, q⟩
theorem isC_of {H : HP} {s : Addr} {cs : List Int32} (F : Ar Z H s .char (chs cs)) : ∀ c ∈ cs, isC c := fun c hc => by
  have h := rng_char (F.fits (.int c) (List.mem_map_of_mem hc))
  rw [Int32.lt_iff_toInt_lt, Int32.lt_iff_toInt_lt] at h
  have e1 : (0 : Int32).toInt = 0 := by decide
  have e2 : (65535 : Int32).toInt = 65535 := by decide
  omega
set_option maxRecDepth 65536 in
theorem c_sI4L (G : Glb Z a0) {x s : Addr} {cs : List Int32} (F : Ar Z H s .char (chs cs)) (hn : cs.length ≤ 1) (h0 : cs ≠ []) (hla : Lat cs) (E : Exa Z H.1 x "java/lang/String") (V : Fld Z H.1 x "java/lang/String" "value" "[B" .null) (C : Fld Z H.1 x "java/lang/String" "coder" "B" (.int 0)) (o : H.2 x) :
    Ct l Z EL0 (⟨"java/lang/String", "<init>", "([CIILjava/lang/Void;)V"⟩ : MethodName) jdk_42_method_149_code 6 (none) ({ frames := 2, cells := 1, slots := 1, locals := 35 } : Room) [] [.ref x, .ref s, .int 0, .int cs.length.toInt32, .null] H (fun v H' => v = none ∧ Kp H H' [x] ∧ Str Z H' x cs) := by
  refine Ct.in G (by first | exact plainFor_of_name (by simp [plainName, overriddenIn]; done) | decide +kernel) (ls := [.val (.ref x), .val (.ref s), .val (.int 0), .val (.int cs.length.toInt32), .val .null, .unset]) rfl rfl fun D A0 => ?_
  have hn31 : cs.length < 2 ^ 31 := by omega
  obtain ⟨cz, hcz, cS⟩ := G_compact G
  have A1 := A0.run [(0, .aload_n 0, 1, 0)] (pe := 1) (by decide +kernel) rfl
  have A2 := A1.initO (wd_11 G) (wd_12 G) (wd_13 G) (by decide +kernel) (Wd := 0) (by decide) (Nat.le_of_ble_eq_true rfl) (by decide)
  have A3 := A2.run [(4, .iload_n 3, 5, 0)] (pe := 5) (by decide +kernel) rfl
  have A4 := A3.ifT (cd := .ne) (o := 22) (by decide +kernel) (by show ¬ _ = _; exact fun e => h0 (List.length_eq_zero_iff.mp ((n32_inj (j := 0) hn31 (by decide)).mp e))) (pe := 27) (by decide)
  have A5 := A4.getS (wd_14 G) cS (by decide +kernel)
  have A6 := A5.ifF (cd := .eq) (o := 28) (by decide +kernel) hcz
  have A7 := A6.run [(33, .aload_n 1, 34, 0), (34, .iload_n 2, 35, 0), (35, .iload_n 3, 36, 0)] (pe := 36) (by decide +kernel) rfl
  obtain ⟨_, HA8, qA8, A8, moA8, szA8⟩ := A7.callS (argsL := [.ref s, .int 0, .int cs.length.toInt32]) (wd_15 G) (wd_16 G) (wd_17 G) (wd_18 G) (c_cmp3 G F hn hla) (by decide) ⟨_, _, (by decide +kernel : parseMethodDescriptor "([CII)[B" = some ⟨[(.array .char), .int, .int], some (.array .byte)⟩), rfl⟩ (by decide +kernel) (Wd := 0) (by decide) (Nat.le_of_ble_eq_true rfl) (by decide) (by decide) (by decide)
  obtain ⟨t, rfl, hge, K1, T1, o1⟩ := qA8
  have A9 := A8.run [(39, .astore 5, 41, 0), (41, .aload_n 0, 42, 0), (42, .aload 5, 44, 0), (44, .iload_n 3, 45, 0)] (pe := 45) (by decide +kernel) rfl
  obtain ⟨_, HA10, qA10, A10, moA10, szA10⟩ := A9.callS (argsL := [.ref t, .int cs.length.toInt32]) (wd_23 G) (wd_24 G) (wd_17 G) (wd_25 G) (c_cfa G T1 (by simp)) (by decide) ⟨_, _, (by decide +kernel : parseMethodDescriptor "([BI)B" = some ⟨[(.array .byte), .int], some .byte⟩), rfl⟩ (by decide +kernel) (Wd := 1) (by decide) (Nat.le_of_ble_eq_true rfl) (by decide) (by decide) (by decide)
  obtain ⟨rfl, rfl⟩ := qA10
  obtain ⟨H2, A11, K2, W2⟩ := A10.putFin (wd_26 G) (C.ky K1) (E.ky K1) (wd_27 G) rfl rfl (wd_2 G) (K1.2 _ o) (by decide +kernel) (ty := .byte) (by decide) rfl rfl
  have A12 := A11.run [(51, .aload_n 0, 52, 0), (52, .aload 5, 54, 0)] (pe := 54) (by decide +kernel) rfl
  have V2 := (V.ky K1).other W2 (Or.inr (slot_ne (Or.inr (wd_29 G)) (Or.inr (wd_27 G)) (by decide) (t := .array .byte) (by decide) (t' := .byte) (by decide)))
  obtain ⟨H3, A13, K3, W3⟩ := A12.putFin (wd_28 G) V2 ((E.ky K1).ky K2) (wd_29 G) rfl rfl (wd_2 G) (K2.2 _ (K1.2 _ o)) (by decide +kernel) (ty := .array .byte) (by decide) rfl rfl
  have A14 := A13.ret (by decide +kernel)
  have hxt : t ≠ x := Nat.ne_of_gt (Nat.lt_of_lt_of_le E.lt hge)
  have C3 := ((C.ky K1).same W2).other W3 (Or.inr (slot_ne (Or.inr (wd_27 G)) (Or.inr (wd_29 G)) (by decide) (t := .byte) (by decide) (t' := .array .byte) (by decide)))
  refine ⟨_, _, _, _, A14, ⟨rfl, (K1.wide fun x hx => nomatch hx).trans (K2.trans K3 fun x hx => Or.inl hx) fun x hx => Or.inl hx, (((E.ky K1).ky K2).ky K3), isC_of F, t, V2.same W3, Or.inl ⟨hla, C3, (T1.ky K2 (by simpa using hxt)).ky K3 (by simpa using hxt)⟩⟩, by decide, by decide⟩
theorem c_sI1 (G : Glb Z a0) {x s : Addr} {cs : List Int32} (F : Ar Z H s .char (chs cs)) (M : Ct l Z EL0 (⟨"java/lang/String", "<init>", "([CIILjava/lang/Void;)V"⟩ : MethodName) jdk_42_method_149_code 6 (none) ({ frames := 2, cells := 1, slots := 1, locals := 35 } : Room) [] [.ref x, .ref s, .int 0, .int cs.length.toInt32, .null] H (fun v H' => v = none ∧ Kp H H' [x] ∧ Str Z H' x cs)) :
    Ct l Z EL0 (⟨"java/lang/String", "<init>", "([C)V"⟩ : MethodName) jdk_42_method_3_code 2 (none) ({ frames := 3, cells := 1, slots := 1, locals := 52 } : Room) [] [.ref x, .ref s] H (fun v H' => v = none ∧ Kp H H' [x] ∧ Str Z H' x cs) := by
  refine Ct.in G (by first | exact plainFor_of_name (by simp [plainName, overriddenIn]; done) | decide +kernel) (ls := [.val (.ref x), .val (.ref s)]) rfl rfl fun D A0 => ?_
  have A1 := A0.run [(0, .aload_n 0, 1, 0), (1, .aload_n 1, 2, 0), (2, .iconst 0, 3, 0), (3, .aload_n 1, 4, 0)] (pe := 4) (by decide +kernel) rfl
  have A2 := A1.alen F (by decide +kernel) (z := cs.length.toInt32) (by simp)
  have A3 := A2.run [(5, .aconst_null, 6, 0)] (pe := 6) (by decide +kernel) rfl
  obtain ⟨_, HA4, qA4, A4, moA4, szA4⟩ := A3.callI (argsL := [.ref s, .int 0, .int cs.length.toInt32, .null]) rfl (wd_7 G) (wd_8 G) (wd_3 G) (wd_10 G) (M) (by decide) ⟨_, _, (by decide +kernel : parseMethodDescriptor "([CIILjava/lang/Void;)V" = some ⟨[(.array .char), .int, .int, (.object "java/lang/Void")], none⟩), rfl⟩ (by decide +kernel) (Wd := 0) (by decide) (Nat.le_of_ble_eq_true rfl) (by decide) (by decide) (by decide)
  obtain ⟨rfl, K1, S1⟩ := qA4
  have A5 := A4.ret (by decide +kernel)
  exact ⟨_, _, _, _, A5, ⟨rfl, K1, S1⟩, by decide, by decide⟩
end JStr

theorem b8_back {c : Int32} (h : isC c) (h2 : ¬ (255 : Int32) < c) : (b8 c &&& 255).toUInt32.toUInt16.toUInt32.toInt32 = c := by
  rw [i2c_mask]
  apply Int32.toInt_inj.mp
  rw [c_mask _ 255 8 (by decide) (by decide)]
  have h3 := c_i2b c
  show (b8 c).toInt % _ = _
  simp only [b8] at *
  rw [Int32.lt_iff_toInt_lt, show (255 : Int32).toInt = 255 by decide] at h2
  omega
theorem isC_nar {c : Int32} (h : isC c) : nar .char c = c := by
  apply Int32.toInt_inj.mp
  have := c_i2c c
  show (c.toUInt32.toUInt16.toUInt32.toInt32).toInt = _
  omega
theorem okc_mask (i : Int32) : isC (i &&& 255) ∧ ¬ (255 : Int32) < i &&& 255 := by
  have h := c_and i 255 (by decide)
  have e : (255 : Int32).toInt = 255 := by decide
  rw [Int32.lt_iff_toInt_lt]
  simp only [isC]; omega
theorem okc_i2c (i : Int32) : (i &&& 255).toUInt32.toUInt16.toUInt32.toInt32 = i &&& 255 := i2c_mask i
theorem lat1 {a : Int32} (ha : ¬ (255 : Int32) < a) : Lat [a] := fun e he => by simp at he; subst he; exact ha
theorem latC {a : Int32} {cs : List Int32} (ha : ¬ (255 : Int32) < a) (h : Lat cs) : Lat (a :: cs) := fun e he => by
  rcases List.mem_cons.mp he with rfl | he
  · exact ha
  · exact h e he
theorem lat2 {a b : Int32} (ha : ¬ (255 : Int32) < a) (hb : ¬ (255 : Int32) < b) : Lat [a, b] := latC ha (lat1 hb)
theorem lat3 {a b c : Int32} (ha : ¬ (255 : Int32) < a) (hb : ¬ (255 : Int32) < b) (hc : ¬ (255 : Int32) < c) : Lat [a, b, c] := latC ha (lat2 hb hc)

def isB (b : Int32) : Prop := b = 0 ∨ b = 1
theorem isB.fits {b : Int32} (h : isB b) : fits .boolean (.int b) = true := by rcases h with rfl | rfl <;> decide
theorem isB.nar {b : Int32} (h : isB b) : nar .boolean b = b := by rcases h with rfl | rfl <;> decide
theorem isB.narrow {b : Int32} (h : isB b) : narrow .boolean (.int b) = .int b := by rcases h with rfl | rfl <;> decide


abbrev LK : String := "com/example/termwise/termwise/core/LimitKind"
abbrev LKd : String := "Lcom/example/termwise/termwise/core/LimitKind;"
abbrev CT : String := "com/example/termwise/termwise/core/Contract"
abbrev L12 : String := "java/util/ImmutableCollections$List12"
abbrev Od : String := "Ljava/lang/Object;"
theorem G_bil {Z : State} {a0 : Array Value} (G : Glb Z a0) : ∃ a, Sta Z Z.heap LK "BILLING" LKd (.ref a) ∧ Exa Z Z.heap a LK := by
  have h := (and_e G.2.2.2).1
  obtain ⟨a, e⟩ := exa_v h
  exact ⟨a, Sta.start e (Or.inr ⟨(wd_82 G), (wd_83 G)⟩), Exa.start e h⟩
theorem G_rev {Z : State} {a0 : Array Value} (G : Glb Z a0) : ∃ a, Sta Z Z.heap LK "REVENUE" LKd (.ref a) ∧ Exa Z Z.heap a LK := by
  have h := (and_e G.2.2.2).2
  obtain ⟨a, e⟩ := exa_v h
  exact ⟨a, Sta.start e (Or.inr ⟨(wd_82 G), (wd_143 G)⟩), Exa.start e h⟩
theorem G_emp {Z : State} {a0 : Array Value} (G : Glb Z a0) : ∃ a, Sta Z Z.heap "java/util/ImmutableCollections" "EMPTY" Od (.ref a) ∧ Exa Z Z.heap a "java/lang/Object" := by
  have h := Cond.before_iff.mp (G.2.1 _ (List.mem_of_getElem? (i := 20) rfl))
  obtain ⟨a, e⟩ := exa_v h
  exact ⟨a, Sta.start e (Or.inl (G.2.1 _ (List.mem_of_getElem? (i := 19) rfl))), Exa.start e h⟩
theorem G_dce {Z : State} {a0 : Array Value} (G : Glb Z a0) : ∃ a, Sta Z Z.heap "java/util/ArrayList" "DEFAULTCAPACITY_EMPTY_ELEMENTDATA" "[Ljava/lang/Object;" (.ref a) := by
  have h := Cond.before_iff.mp (G.2.1 _ (List.mem_of_getElem? (i := 16) rfl))
  obtain ⟨a, e⟩ := exa_v h
  exact ⟨a, Sta.start e (Or.inr ⟨(wd_32 G), (G.2.1 _ (List.mem_of_getElem? (i := 11) rfl))⟩)⟩
section LawC
variable {l : Launch} {Z : State} {a0 : Array Value} {D : Dyn} {H : HP}
theorem c_recI (G : Glb Z a0) {x : Addr} : Ct l Z EL0 (⟨"java/lang/Record", "<init>", "()V"⟩ : MethodName) jdk_30_method_1_code 1 (none) ({ frames := 1, cells := 0, slots := 0, locals := 12 } : Room) [] [.ref x] H (fun v H' => v = none ∧ H = H') := by
  refine Ct.in G (by first | exact plainFor_of_name (by simp [plainName, overriddenIn]; done) | decide +kernel) (ls := [.val (.ref x)]) rfl rfl fun D A0 => ?_
  have A1 := A0.run [(0, .aload_n 0, 1, 0)] (pe := 1) (by decide +kernel) rfl
  have A2 := A1.initO (wd_65 G) (wd_12 G) (wd_13 G) (by decide +kernel) (Wd := 0) (by decide) (Nat.le_of_ble_eq_true rfl) (by decide)
  exact ⟨_, _, _, _, A2.ret (by decide +kernel), ⟨rfl, rfl⟩, Nat.le_refl _, Nat.le_refl _⟩
theorem c_abC (G : Glb Z a0) {x : Addr} : Ct l Z EL0 (⟨"java/util/AbstractCollection", "<init>", "()V"⟩ : MethodName) jdk_22_method_1_code 1 (none) ({ frames := 1, cells := 0, slots := 0, locals := 12 } : Room) [] [.ref x] H (fun v H' => v = none ∧ H = H') := by
  refine Ct.in G (by first | exact plainFor_of_name (by simp [plainName, overriddenIn]; done) | decide +kernel) (ls := [.val (.ref x)]) rfl rfl fun D A0 => ?_
  have A1 := A0.run [(0, .aload_n 0, 1, 0)] (pe := 1) (by decide +kernel) rfl
  have A2 := A1.initO (wd_48 G) (wd_12 G) (wd_13 G) (by decide +kernel) (Wd := 0) (by decide) (Nat.le_of_ble_eq_true rfl) (by decide)
  exact ⟨_, _, _, _, A2.ret (by decide +kernel), ⟨rfl, rfl⟩, Nat.le_refl _, Nat.le_refl _⟩
theorem c_aiC (G : Glb Z a0) {x : Addr} : Ct l Z EL0 (⟨"java/util/ImmutableCollections$AbstractImmutableCollection", "<init>", "()V"⟩ : MethodName) jdk_47_method_1_code 1 (none) ({ frames := 2, cells := 0, slots := 0, locals := 24 } : Room) [] [.ref x] H (fun v H' => v = none ∧ H = H') := by
  refine Ct.in G (by first | exact plainFor_of_name (by simp [plainName, overriddenIn]; done) | decide +kernel) (ls := [.val (.ref x)]) rfl rfl fun D A0 => ?_
  have A1 := A0.run [(0, .aload_n 0, 1, 0)] (pe := 1) (by decide +kernel) rfl
  obtain ⟨_, HA2, qA2, A2, moA2, szA2⟩ := A1.callI (argsL := []) rfl (wd_113 G) (wd_43 G) (wd_46 G) (wd_47 G) (c_abC G) (by decide) ⟨_, _, (by decide +kernel : parseMethodDescriptor "()V" = some ⟨[], none⟩), rfl⟩ (by decide +kernel) (Wd := 0) (by decide) (Nat.le_of_ble_eq_true rfl) (by decide) (by decide) (by decide)
  obtain ⟨rfl, rfl⟩ := qA2
  exact ⟨_, _, _, _, A2.ret (by decide +kernel), ⟨rfl, rfl⟩, Nat.le_refl _, Nat.le_refl _⟩
theorem c_aiL (G : Glb Z a0) {x : Addr} : Ct l Z EL0 (⟨"java/util/ImmutableCollections$AbstractImmutableList", "<init>", "()V"⟩ : MethodName) jdk_46_method_1_code 1 (none) ({ frames := 3, cells := 0, slots := 0, locals := 36 } : Room) [] [.ref x] H (fun v H' => v = none ∧ H = H') := by
  refine Ct.in G (by first | exact plainFor_of_name (by simp [plainName, overriddenIn]; done) | decide +kernel) (ls := [.val (.ref x)]) rfl rfl fun D A0 => ?_
  have A1 := A0.run [(0, .aload_n 0, 1, 0)] (pe := 1) (by decide +kernel) rfl
  obtain ⟨_, HA2, qA2, A2, moA2, szA2⟩ := A1.callI (argsL := []) rfl (wd_107 G) (wd_108 G) (wd_111 G) (wd_112 G) (c_aiC G) (by decide) ⟨_, _, (by decide +kernel : parseMethodDescriptor "()V" = some ⟨[], none⟩), rfl⟩ (by decide +kernel) (Wd := 0) (by decide) (Nat.le_of_ble_eq_true rfl) (by decide) (by decide) (by decide)
  obtain ⟨rfl, rfl⟩ := qA2
  exact ⟨_, _, _, _, A2.ret (by decide +kernel), ⟨rfl, rfl⟩, Nat.le_refl _, Nat.le_refl _⟩
theorem c_abL (G : Glb Z a0) {x : Addr} (E : Exa Z H.1 x "java/util/ArrayList") (M : Fld Z H.1 x "java/util/AbstractList" "modCount" "I" (.int 0)) (o : H.2 x) : Ct l Z EL0 (⟨"java/util/AbstractList", "<init>", "()V"⟩ : MethodName) jdk_39_method_1_code 1 (none) ({ frames := 2, cells := 0, slots := 0, locals := 24 } : Room) [] [.ref x] H (fun v H' => v = none ∧ Kp H H' [x] ∧ Wr H.1 H'.1 x (Jvm.RoadKit.slotOf Z "java/util/AbstractList" "modCount" "I") (.int 0)) := by
  refine Ct.in G (by first | exact plainFor_of_name (by simp [plainName, overriddenIn]; done) | decide +kernel) (ls := [.val (.ref x)]) rfl rfl fun D A0 => ?_
  have A1 := A0.run [(0, .aload_n 0, 1, 0)] (pe := 1) (by decide +kernel) rfl
  obtain ⟨_, HA2, qA2, A2, moA2, szA2⟩ := A1.callI (argsL := []) rfl (wd_42 G) (wd_43 G) (wd_46 G) (wd_47 G) (c_abC G) (by decide) ⟨_, _, (by decide +kernel : parseMethodDescriptor "()V" = some ⟨[], none⟩), rfl⟩ (by decide +kernel) (Wd := 0) (by decide) (Nat.le_of_ble_eq_true rfl) (by decide) (by decide) (by decide)
  obtain ⟨rfl, rfl⟩ := qA2
  have A3 := A2.run [(4, .aload_n 0, 5, 0), (5, .iconst 0, 6, 0)] (pe := 6) (by decide +kernel) rfl
  obtain ⟨H4, A4, K4, W4⟩ := A3.putF (wd_49 G) M E (wd_50 G) (wd_31 G) o (by decide +kernel) (ty := .int) (by decide) rfl rfl
  exact ⟨_, _, _, _, A4.ret (by decide +kernel), ⟨rfl, K4, W4⟩, Nat.le_refl _, Nat.le_refl _⟩
theorem c_alI (G : Glb Z a0) {x : Addr} (E : Exa Z H.1 x "java/util/ArrayList") (M : Fld Z H.1 x "java/util/AbstractList" "modCount" "I" (.int 0)) (F : Fld Z H.1 x "java/util/ArrayList" "elementData" "[Ljava/lang/Object;" .null) (o : H.2 x) : Ct l Z EL0 (⟨"java/util/ArrayList", "<init>", "()V"⟩ : MethodName) jdk_38_method_2_code 1 (none) ({ frames := 3, cells := 0, slots := 0, locals := 36 } : Room) [] [.ref x] H (fun v H' => v = none ∧ Kp H H' [x]) := by
  refine Ct.in G (by first | exact plainFor_of_name (by simp [plainName, overriddenIn]; done) | decide +kernel) (ls := [.val (.ref x)]) rfl rfl fun D A0 => ?_
  obtain ⟨dc, dS⟩ := G_dce G
  have A1 := A0.run [(0, .aload_n 0, 1, 0)] (pe := 1) (by decide +kernel) rfl
  obtain ⟨_, HA2, qA2, A2, moA2, szA2⟩ := A1.callI (argsL := []) rfl (wd_36 G) (wd_37 G) (wd_40 G) (wd_41 G) (c_abL G E M o) (by decide) ⟨_, _, (by decide +kernel : parseMethodDescriptor "()V" = some ⟨[], none⟩), rfl⟩ (by decide +kernel) (Wd := 0) (by decide) (Nat.le_of_ble_eq_true rfl) (by decide) (by decide) (by decide)
  obtain ⟨rfl, K2, W2⟩ := qA2
  have A3 := A2.run [(4, .aload_n 0, 5, 0)] (pe := 5) (by decide +kernel) rfl
  have A4 := A3.getS (wd_51 G) dS (by decide +kernel)
  have F2 := F.other W2 (Or.inr (slot_ne (Or.inl (wd_53 G)) (Or.inl (wd_50 G)) (by decide) (t := .array (.object "java/lang/Object")) (by decide) (t' := .int) (by decide)))
  obtain ⟨H5, A5, K5, W5⟩ := A4.putF (wd_52 G) F2 (E.ky K2) (wd_53 G) (wd_31 G) (K2.2 _ o) (by decide +kernel) (ty := .array (.object "java/lang/Object")) (by decide) rfl rfl
  exact ⟨_, _, _, _, A5.ret (by decide +kernel), ⟨rfl, K2.trans K5 fun x hx => Or.inl hx⟩, Nat.le_refl _, Nat.le_refl _⟩
set_option maxRecDepth 65536 in
theorem c_ctI (G : Glb Z a0) {x s t u : Addr} {d b : Int32} (hb : isB b) (E : Exa Z H.1 x CT) (F1 : Fld Z H.1 x CT "id" "Ljava/lang/String;" .null) (F2 : Fld Z H.1 x CT "currency" "Ljava/lang/String;" .null) (F3 : Fld Z H.1 x CT "decimals" "I" (.int 0)) (F4 : Fld Z H.1 x CT "separateRevenue" "Z" (.int 0)) (F5 : Fld Z H.1 x CT "lines" "Ljava/util/List;" .null) (o : H.2 x) :
    Ct l Z EL0 (⟨"com/example/termwise/termwise/core/Contract", "<init>", "(Ljava/lang/String;Ljava/lang/String;IZLjava/util/List;)V"⟩ : MethodName) prog_34_method_1_code 6 (none) ({ frames := 2, cells := 0, slots := 0, locals := 24 } : Room) [] [.ref x, .ref s, .ref t, .int d, .int b, .ref u] H (fun v H' => v = none ∧ Kp H H' [x] ∧ Fld Z H'.1 x CT "separateRevenue" "Z" (.int b)) := by
  refine Ct.in G (by first | exact plainFor_of_name (by simp [plainName, overriddenIn]; done) | decide +kernel) (ls := [.val (.ref x), .val (.ref s), .val (.ref t), .val (.int d), .val (.int b), .val (.ref u)]) rfl rfl fun D A0 => ?_
  have w1 := Or.inr (a := (Jvm.Cond.lays CT CT "id" "Ljava/lang/String;").before a0 Z = true) (wd_67 G)
  have w2 := Or.inr (a := (Jvm.Cond.lays CT CT "currency" "Ljava/lang/String;").before a0 Z = true) (wd_69 G)
  have w3 := Or.inr (a := (Jvm.Cond.lays CT CT "decimals" "I").before a0 Z = true) (wd_71 G)
  have w4 := Or.inr (a := (Jvm.Cond.lays CT CT "separateRevenue" "Z").before a0 Z = true) (wd_73 G)
  have w5 := Or.inr (a := (Jvm.Cond.lays CT CT "lines" "Ljava/util/List;").before a0 Z = true) (wd_75 G)
  have wi := (wd_55 G)
  have tS : parseFieldDescriptor "Ljava/lang/String;" = some (.object "java/lang/String") := by decide
  have tI : parseFieldDescriptor "I" = some .int := by decide
  have tZ : parseFieldDescriptor "Z" = some .boolean := by decide
  have tL : parseFieldDescriptor "Ljava/util/List;" = some (.object "java/util/List") := by decide
  have n2_1 := slot_ne (Z := Z) w2 w1 (by decide) tS tS
  have n3_1 := slot_ne (Z := Z) w3 w1 (by decide) tI tS
  have n3_2 := slot_ne (Z := Z) w3 w2 (by decide) tI tS
  have n4_1 := slot_ne (Z := Z) w4 w1 (by decide) tZ tS
  have n4_2 := slot_ne (Z := Z) w4 w2 (by decide) tZ tS
  have n4_3 := slot_ne (Z := Z) w4 w3 (by decide) tZ tI
  have n5_1 := slot_ne (Z := Z) w5 w1 (by decide) tL tS
  have n5_2 := slot_ne (Z := Z) w5 w2 (by decide) tL tS
  have n5_3 := slot_ne (Z := Z) w5 w3 (by decide) tL tI
  have n5_4 := slot_ne (Z := Z) w5 w4 (by decide) tL tZ
  have A1 := A0.run [(0, .aload_n 0, 1, 0)] (pe := 1) (by decide +kernel) rfl
  obtain ⟨_, HA2, qA2, A2, moA2, szA2⟩ := A1.callI (argsL := []) rfl (wd_60 G) (wd_61 G) (wd_63 G) (wd_64 G) (c_recI G) (by decide) ⟨_, _, (by decide +kernel : parseMethodDescriptor "()V" = some ⟨[], none⟩), rfl⟩ (by decide +kernel) (Wd := 0) (by decide) (Nat.le_of_ble_eq_true rfl) (by decide) (by decide) (by decide)
  obtain ⟨rfl, rfl⟩ := qA2
  have A3 := A2.run [(4, .aload_n 0, 5, 0), (5, .aload_n 1, 6, 0)] (pe := 6) (by decide +kernel) rfl
  obtain ⟨H4, A4, K4, W4⟩ := A3.putFin (wd_66 G) F1 E (wd_67 G) rfl rfl wi o (by decide +kernel) tS rfl rfl
  have A5 := A4.run [(9, .aload_n 0, 10, 0), (10, .aload_n 2, 11, 0)] (pe := 11) (by decide +kernel) rfl
  obtain ⟨H6, A6, K6, W6⟩ := A5.putFin (wd_68 G) (F2.other W4 (Or.inr n2_1)) (E.ky K4) (wd_69 G) rfl rfl wi (K4.2 _ o) (by decide +kernel) tS rfl rfl
  have A7 := A6.run [(14, .aload_n 0, 15, 0), (15, .iload_n 3, 16, 0)] (pe := 16) (by decide +kernel) rfl
  obtain ⟨H8, A8, K8, W8⟩ := A7.putFin (wd_70 G) ((F3.other W4 (Or.inr n3_1)).other W6 (Or.inr n3_2)) ((E.ky K4).ky K6) (wd_71 G) rfl rfl wi (K6.2 _ (K4.2 _ o)) (by decide +kernel) tI rfl rfl
  have A9 := A8.run [(19, .aload_n 0, 20, 0), (20, .iload 4, 22, 0)] (pe := 22) (by decide +kernel) rfl
  have G4 := ((F4.other W4 (Or.inr n4_1)).other W6 (Or.inr n4_2)).other W8 (Or.inr n4_3)
  obtain ⟨H10, A10, K10, W10⟩ := A9.putFin (wd_72 G) G4 (((E.ky K4).ky K6).ky K8) (wd_73 G) rfl rfl wi (K8.2 _ (K6.2 _ (K4.2 _ o))) (by decide +kernel) tZ hb.narrow hb.fits
  have A11 := A10.run [(25, .aload_n 0, 26, 0), (26, .aload 5, 28, 0)] (pe := 28) (by decide +kernel) rfl
  obtain ⟨H12, A12, K12, W12⟩ := A11.putFin (wd_74 G) ((((F5.other W4 (Or.inr n5_1)).other W6 (Or.inr n5_2)).other W8 (Or.inr n5_3)).other W10 (Or.inr n5_4)) ((((E.ky K4).ky K6).ky K8).ky K10) (wd_75 G) rfl rfl wi (K10.2 _ (K8.2 _ (K6.2 _ (K4.2 _ o)))) (by decide +kernel) tL rfl rfl
  have S12 := (G4.same W10).other W12 (Or.inr (Ne.symm n5_4))
  exact ⟨_, _, _, _, A12.ret (by decide +kernel), ⟨rfl, (((K4.trans K6 fun x hx => Or.inl hx).trans K8 fun x hx => Or.inl hx).trans K10 fun x hx => Or.inl hx).trans K12 fun x hx => Or.inl hx, S12⟩, by decide, by decide⟩
theorem c_rk (G : Glb Z a0) {x b r : Addr} {e : Int32} (he : isB e) (sB : Sta Z Z.heap LK "BILLING" LKd (.ref b)) (sR : Sta Z Z.heap LK "REVENUE" LKd (.ref r)) (F : Fld Z H.1 x CT "separateRevenue" "Z" (.int e)) : Ct l Z EL0 (⟨"com/example/termwise/termwise/core/Contract", "recognizedKind", "()Lcom/example/termwise/termwise/core/LimitKind;"⟩ : MethodName) prog_34_method_4_code 1 ((some (.object "com/example/termwise/termwise/core/LimitKind"))) ({ frames := 0, cells := 0, slots := 0, locals := 0 } : Room) [] [.ref x] H (fun v H' => v = some (.ref (if e = 0 then b else r)) ∧ H = H') := by
  refine Ct.in G (by first | exact plainFor_of_name (by simp [plainName, overriddenIn]; done) | decide +kernel) (ls := [.val (.ref x)]) rfl rfl fun D A0 => ?_
  have A1 := A0.run [(0, .aload_n 0, 1, 0)] (pe := 1) (by decide +kernel) rfl
  have A2 := A1.getF (wd_72 G) F (by decide +kernel)
  by_cases h : e = 0
  · have A3 := A2.ifT (cd := .eq) (o := 9) (by decide +kernel) h (pe := 13) (by decide)
    have A4 := A3.getS (wd_81 G) sB (by decide +kernel)
    exact ⟨_, _, _, _, A4.retA (by decide +kernel) rfl rfl, ⟨by rw [if_pos h], rfl⟩, by decide, by decide⟩
  · have A3 := A2.ifF (cd := .eq) (o := 9) (by decide +kernel) h
    have A4 := A3.getS (wd_142 G) sR (by decide +kernel)
    have A5 := A4.run [(10, .goto 6, 16, 0)] (pe := 16) (by decide +kernel) rfl
    exact ⟨_, _, _, _, A5.retA (by decide +kernel) rfl rfl, ⟨by rw [if_neg h], rfl⟩, by decide, by decide⟩
theorem c_rnn1 (G : Glb Z a0) {s : Addr} : Ct l Z EL0 (⟨"java/util/Objects", "requireNonNull", "(Ljava/lang/Object;)Ljava/lang/Object;"⟩ : MethodName) jdk_31_method_10_code 1 ((some (.object "java/lang/Object"))) ({ frames := 0, cells := 0, slots := 0, locals := 0 } : Room) [] [.ref s] H (fun v H' => v = some (.ref s) ∧ H = H') := by
  refine Ct.in G (by first | exact plainFor_of_name (by simp [plainName, overriddenIn]; done) | decide +kernel) (ls := [.val (.ref s)]) rfl rfl fun D A0 => ?_
  have A1 := A0.run [(0, .aload_n 0, 1, 0)] (pe := 1) (by decide +kernel) rfl
  have A2 := A1.nnullT (o := 11) (by decide +kernel) (pe := 12) (by decide)
  have A3 := A2.run [(12, .aload_n 0, 13, 0)] (pe := 13) (by decide +kernel) rfl
  exact ⟨_, _, _, _, A3.retA (by decide +kernel) rfl rfl, ⟨rfl, rfl⟩, by decide, by decide⟩
def LiAt (Z : State) (H : HP) (a e0 e1 : Addr) : Prop := Exa Z H.1 a L12 ∧ Fld Z H.1 a L12 "e0" Od (.ref e0) ∧ Fld Z H.1 a L12 "e1" Od (.ref e1)
theorem c_l1I (G : Glb Z a0) {x b m : Addr} (sE : Sta Z Z.heap "java/util/ImmutableCollections" "EMPTY" Od (.ref m)) (E : Exa Z H.1 x L12) (F0 : Fld Z H.1 x L12 "e0" Od .null) (F1 : Fld Z H.1 x L12 "e1" Od .null) (o : H.2 x) :
    Ct l Z EL0 (⟨"java/util/ImmutableCollections$List12", "<init>", "(Ljava/lang/Object;)V"⟩ : MethodName) jdk_44_method_1_code 2 (none) ({ frames := 4, cells := 0, slots := 0, locals := 48 } : Room) [] [.ref x, .ref b] H (fun v H' => v = none ∧ Kp H H' [x] ∧ LiAt Z H' x b m) := by
  refine Ct.in G (by first | exact plainFor_of_name (by simp [plainName, overriddenIn]; done) | decide +kernel) (ls := [.val (.ref x), .val (.ref b)]) rfl rfl fun D A0 => ?_
  have l0 := (wd_120 G)
  have l1 := (wd_124 G)
  have n10 := slot_ne (Z := Z) (Or.inr l1) (Or.inr l0) (by decide) (t := .object "java/lang/Object") (by decide) (t' := .object "java/lang/Object") (by decide)
  have A1 := A0.run [(0, .aload_n 0, 1, 0)] (pe := 1) (by decide +kernel) rfl
  obtain ⟨_, HA2, qA2, A2, moA2, szA2⟩ := A1.callI (argsL := []) rfl (wd_101 G) (wd_102 G) (wd_105 G) (wd_106 G) (c_aiL G) (by decide) ⟨_, _, (by decide +kernel : parseMethodDescriptor "()V" = some ⟨[], none⟩), rfl⟩ (by decide +kernel) (Wd := 0) (by decide) (Nat.le_of_ble_eq_true rfl) (by decide) (by decide) (by decide)
  obtain ⟨rfl, rfl⟩ := qA2
  have A3 := A2.run [(4, .aload_n 0, 5, 0), (5, .aload_n 1, 6, 0)] (pe := 6) (by decide +kernel) rfl
  obtain ⟨_, HA4, qA4, A4, moA4, szA4⟩ := A3.callS (argsL := [.ref b]) (wd_115 G) (wd_116 G) (wd_117 G) (wd_118 G) (c_rnn1 G) (by decide) ⟨_, _, (by decide +kernel : parseMethodDescriptor "(Ljava/lang/Object;)Ljava/lang/Object;" = some ⟨[(.object "java/lang/Object")], some (.object "java/lang/Object")⟩), rfl⟩ (by decide +kernel) (Wd := 1) (by decide) (Nat.le_of_ble_eq_true rfl) (by decide) (by decide) (by decide)
  obtain ⟨rfl, rfl⟩ := qA4
  obtain ⟨H5, A5, K5, W5⟩ := A4.putFin (wd_119 G) F0 E l0 rfl rfl (wd_95 G) o (by decide +kernel) (ty := .object "java/lang/Object") (by decide) rfl rfl
  have A6 := A5.run [(12, .aload_n 0, 13, 0)] (pe := 13) (by decide +kernel) rfl
  have A7 := A6.getSN (wd_121 G) sE (by decide +kernel)
  obtain ⟨H8, A8, K8, W8⟩ := A7.putFin (wd_123 G) (F1.other W5 (Or.inr n10)) (E.ky K5) l1 rfl rfl (wd_95 G) (K5.2 _ o) (by decide +kernel) (ty := .object "java/lang/Object") (by decide) rfl rfl
  exact ⟨_, _, _, _, A8.ret (by decide +kernel), ⟨rfl, K5.trans K8 fun x hx => Or.inl hx, (E.ky K5).ky K8, (F0.same W5).other W8 (Or.inr (Ne.symm n10)), (F1.other W5 (Or.inr n10)).same W8⟩, by decide, by decide⟩
theorem c_l2I (G : Glb Z a0) {x b r : Addr} (E : Exa Z H.1 x L12) (F0 : Fld Z H.1 x L12 "e0" Od .null) (F1 : Fld Z H.1 x L12 "e1" Od .null) (o : H.2 x) :
    Ct l Z EL0 (⟨"java/util/ImmutableCollections$List12", "<init>", "(Ljava/lang/Object;Ljava/lang/Object;)V"⟩ : MethodName) jdk_44_method_2_code 3 (none) ({ frames := 4, cells := 0, slots := 0, locals := 48 } : Room) [] [.ref x, .ref b, .ref r] H (fun v H' => v = none ∧ Kp H H' [x] ∧ LiAt Z H' x b r) := by
  refine Ct.in G (by first | exact plainFor_of_name (by simp [plainName, overriddenIn]; done) | decide +kernel) (ls := [.val (.ref x), .val (.ref b), .val (.ref r)]) rfl rfl fun D A0 => ?_
  have l0 := (wd_120 G)
  have l1 := (wd_124 G)
  have n10 := slot_ne (Z := Z) (Or.inr l1) (Or.inr l0) (by decide) (t := .object "java/lang/Object") (by decide) (t' := .object "java/lang/Object") (by decide)
  have A1 := A0.run [(0, .aload_n 0, 1, 0)] (pe := 1) (by decide +kernel) rfl
  obtain ⟨_, HA2, qA2, A2, moA2, szA2⟩ := A1.callI (argsL := []) rfl (wd_101 G) (wd_102 G) (wd_105 G) (wd_106 G) (c_aiL G) (by decide) ⟨_, _, (by decide +kernel : parseMethodDescriptor "()V" = some ⟨[], none⟩), rfl⟩ (by decide +kernel) (Wd := 0) (by decide) (Nat.le_of_ble_eq_true rfl) (by decide) (by decide) (by decide)
  obtain ⟨rfl, rfl⟩ := qA2
  have A3 := A2.run [(4, .aload_n 0, 5, 0), (5, .aload_n 1, 6, 0)] (pe := 6) (by decide +kernel) rfl
  obtain ⟨_, HA4, qA4, A4, moA4, szA4⟩ := A3.callS (argsL := [.ref b]) (wd_115 G) (wd_116 G) (wd_117 G) (wd_118 G) (c_rnn1 G) (by decide) ⟨_, _, (by decide +kernel : parseMethodDescriptor "(Ljava/lang/Object;)Ljava/lang/Object;" = some ⟨[(.object "java/lang/Object")], some (.object "java/lang/Object")⟩), rfl⟩ (by decide +kernel) (Wd := 1) (by decide) (Nat.le_of_ble_eq_true rfl) (by decide) (by decide) (by decide)
  obtain ⟨rfl, rfl⟩ := qA4
  obtain ⟨H5, A5, K5, W5⟩ := A4.putFin (wd_119 G) F0 E l0 rfl rfl (wd_95 G) o (by decide +kernel) (ty := .object "java/lang/Object") (by decide) rfl rfl
  have A6 := A5.run [(12, .aload_n 0, 13, 0), (13, .aload_n 2, 14, 0)] (pe := 14) (by decide +kernel) rfl
  obtain ⟨_, HA7, qA7, A7, moA7, szA7⟩ := A6.callS (argsL := [.ref r]) (wd_115 G) (wd_116 G) (wd_117 G) (wd_118 G) (c_rnn1 G) (by decide) ⟨_, _, (by decide +kernel : parseMethodDescriptor "(Ljava/lang/Object;)Ljava/lang/Object;" = some ⟨[(.object "java/lang/Object")], some (.object "java/lang/Object")⟩), rfl⟩ (by decide +kernel) (Wd := 1) (by decide) (Nat.le_of_ble_eq_true rfl) (by decide) (by decide) (by decide)
  obtain ⟨rfl, rfl⟩ := qA7
  obtain ⟨H8, A8, K8, W8⟩ := A7.putFin (wd_123 G) (F1.other W5 (Or.inr n10)) (E.ky K5) l1 rfl rfl (wd_95 G) (K5.2 _ o) (by decide +kernel) (ty := .object "java/lang/Object") (by decide) rfl rfl
  exact ⟨_, _, _, _, A8.ret (by decide +kernel), ⟨rfl, K5.trans K8 fun x hx => Or.inl hx, (E.ky K5).ky K8, (F0.same W5).other W8 (Or.inr (Ne.symm n10)), (F1.other W5 (Or.inr n10)).same W8⟩, by decide, by decide⟩
theorem c_of1 (G : Glb Z a0) {b m : Addr} (sE : Sta Z Z.heap "java/util/ImmutableCollections" "EMPTY" Od (.ref m)) :
    Ct l Z EL0 (⟨"java/util/List", "of", "(Ljava/lang/Object;)Ljava/util/List;"⟩ : MethodName) jdk_40_method_37_code 1 ((some (.object "java/util/List"))) ({ frames := 5, cells := 1, slots := 2, locals := 62 } : Room) [] [.ref b] H (fun v H' => ∃ a, v = some (.ref a) ∧ H.1.size ≤ a ∧ Kp H H' [] ∧ LiAt Z H' a b m) := by
  refine Ct.in G (by first | exact plainFor_of_name (by simp [plainName, overriddenIn]; done) | decide +kernel) (ls := [.val (.ref b)]) rfl rfl fun D A0 => ?_
  obtain ⟨x, H1, A1, g1, K1, E1, o1, D1⟩ := A0.newO (wd_94 G) (wd_95 G) (wd_96 G) (by decide +kernel) (by decide) (by decide)
  have A2 := A1.run [(3, .dup, 4, 0), (4, .aload_n 0, 5, 0)] (pe := 5) (by decide +kernel) rfl
  obtain ⟨_, HA3, qA3, A3, moA3, szA3⟩ := A2.callI (argsL := [.ref b]) rfl (wd_97 G) (wd_98 G) (wd_96 G) (wd_100 G) (c_l1I G sE E1 (D1 (Or.inr (wd_120 G)) (t := .object "java/lang/Object") (by decide)) (D1 (Or.inr (wd_124 G)) (t := .object "java/lang/Object") (by decide)) o1) (by decide) ⟨_, _, (by decide +kernel : parseMethodDescriptor "(Ljava/lang/Object;)V" = some ⟨[(.object "java/lang/Object")], none⟩), rfl⟩ (by decide +kernel) (Wd := 1) (by decide) (Nat.le_of_ble_eq_true rfl) (by decide) (by decide) (by decide)
  obtain ⟨rfl, K3, L3⟩ := qA3
  exact ⟨_, _, _, _, A3.retA (by decide +kernel) rfl rfl, ⟨x, rfl, g1, K1.trans K3 (fun y hy => by cases List.mem_singleton.mp hy; exact Or.inr g1), L3⟩, by decide, by decide⟩
theorem c_of2 (G : Glb Z a0) {b r : Addr} :
    Ct l Z EL0 (⟨"java/util/List", "of", "(Ljava/lang/Object;Ljava/lang/Object;)Ljava/util/List;"⟩ : MethodName) jdk_40_method_38_code 2 ((some (.object "java/util/List"))) ({ frames := 5, cells := 1, slots := 2, locals := 63 } : Room) [] [.ref b, .ref r] H (fun v H' => ∃ a, v = some (.ref a) ∧ H.1.size ≤ a ∧ Kp H H' [] ∧ LiAt Z H' a b r) := by
  refine Ct.in G (by first | exact plainFor_of_name (by simp [plainName, overriddenIn]; done) | decide +kernel) (ls := [.val (.ref b), .val (.ref r)]) rfl rfl fun D A0 => ?_
  obtain ⟨x, H1, A1, g1, K1, E1, o1, D1⟩ := A0.newO (wd_94 G) (wd_95 G) (wd_96 G) (by decide +kernel) (by decide) (by decide)
  have A2 := A1.run [(3, .dup, 4, 0), (4, .aload_n 0, 5, 0), (5, .aload_n 1, 6, 0)] (pe := 6) (by decide +kernel) rfl
  obtain ⟨_, HA3, qA3, A3, moA3, szA3⟩ := A2.callI (argsL := [.ref b, .ref r]) rfl (wd_148 G) (wd_149 G) (wd_96 G) (wd_150 G) (c_l2I G E1 (D1 (Or.inr (wd_120 G)) (t := .object "java/lang/Object") (by decide)) (D1 (Or.inr (wd_124 G)) (t := .object "java/lang/Object") (by decide)) o1) (by decide) ⟨_, _, (by decide +kernel : parseMethodDescriptor "(Ljava/lang/Object;Ljava/lang/Object;)V" = some ⟨[(.object "java/lang/Object"), (.object "java/lang/Object")], none⟩), rfl⟩ (by decide +kernel) (Wd := 1) (by decide) (Nat.le_of_ble_eq_true rfl) (by decide) (by decide) (by decide)
  obtain ⟨rfl, K3, L3⟩ := qA3
  exact ⟨_, _, _, _, A3.retA (by decide +kernel) rfl rfl, ⟨x, rfl, g1, K1.trans K3 (fun y hy => by cases List.mem_singleton.mp hy; exact Or.inr g1), L3⟩, by decide, by decide⟩
theorem c_lk (G : Glb Z a0) {x b r m : Addr} {e : Int32} (he : isB e) (sB : Sta Z Z.heap LK "BILLING" LKd (.ref b)) (sR : Sta Z Z.heap LK "REVENUE" LKd (.ref r)) (sE : Sta Z Z.heap "java/util/ImmutableCollections" "EMPTY" Od (.ref m)) (F : Fld Z H.1 x CT "separateRevenue" "Z" (.int e)) :
    Ct l Z EL0 (⟨"com/example/termwise/termwise/core/Contract", "limitKinds", "()Ljava/util/List;"⟩ : MethodName) prog_34_method_3_code 1 ((some (.object "java/util/List"))) ({ frames := 6, cells := 1, slots := 2, locals := 76 } : Room) [] [.ref x] H (fun v H' => ∃ a, v = some (.ref a) ∧ H.1.size ≤ a ∧ Kp H H' [] ∧ LiAt Z H' a b (if e = 0 then m else r)) := by
  refine Ct.in G (by first | exact plainFor_of_name (by simp [plainName, overriddenIn]; done) | decide +kernel) (ls := [.val (.ref x)]) rfl rfl fun D A0 => ?_
  have A1 := A0.run [(0, .aload_n 0, 1, 0)] (pe := 1) (by decide +kernel) rfl
  have A2 := A1.getF (wd_72 G) F (by decide +kernel)
  by_cases h : e = 0
  · have A3 := A2.ifT (cd := .eq) (o := 15) (by decide +kernel) h (pe := 19) (by decide)
    have A4 := A3.getS (wd_81 G) sB (by decide +kernel)
    obtain ⟨_, HA5, qA5, A5, moA5, szA5⟩ := A4.callS (argsL := [.ref b]) (wd_90 G) (wd_91 G) (wd_92 G) (wd_93 G) (c_of1 G sE) (by decide) ⟨_, _, (by decide +kernel : parseMethodDescriptor "(Ljava/lang/Object;)Ljava/util/List;" = some ⟨[(.object "java/lang/Object")], some (.object "java/util/List")⟩), rfl⟩ (by decide +kernel) (Wd := 0) (by decide) (Nat.le_of_ble_eq_true rfl) (by decide) (by decide) (by decide)
    obtain ⟨a, rfl, g, K, L⟩ := qA5
    exact ⟨_, _, _, _, A5.retA (by decide +kernel) rfl rfl, ⟨a, rfl, g, K, by rw [if_pos h]; exact L⟩, by decide, by decide⟩
  · have A3 := A2.ifF (cd := .eq) (o := 15) (by decide +kernel) h
    have A4 := A3.getS (wd_81 G) sB (by decide +kernel)
    have A5 := A4.getS (wd_142 G) sR (by decide +kernel)
    obtain ⟨_, HA6, qA6, A6, moA6, szA6⟩ := A5.callS (argsL := [.ref b, .ref r]) (wd_145 G) (wd_146 G) (wd_92 G) (wd_147 G) (c_of2 G) (by decide) ⟨_, _, (by decide +kernel : parseMethodDescriptor "(Ljava/lang/Object;Ljava/lang/Object;)Ljava/util/List;" = some ⟨[(.object "java/lang/Object"), (.object "java/lang/Object")], some (.object "java/util/List")⟩), rfl⟩ (by decide +kernel) (Wd := 0) (by decide) (Nat.le_of_ble_eq_true rfl) (by decide) (by decide) (by decide)
    obtain ⟨a, rfl, g, K, L⟩ := qA6
    have A7 := A6.run [(16, .goto 9, 25, 0)] (pe := 25) (by decide +kernel) rfl
    exact ⟨_, _, _, _, A7.retA (by decide +kernel) rfl rfl, ⟨a, rfl, g, K, by rw [if_neg h]; exact L⟩, by decide, by decide⟩
theorem c_sz (G : Glb Z a0) {a b f m : Addr} (sE : Sta Z Z.heap "java/util/ImmutableCollections" "EMPTY" Od (.ref m)) (L : LiAt Z H a b f) (z : Int32) (hz : f = m ∧ z = 1 ∨ f ≠ m ∧ z = 2) : Ct l Z EL0 (⟨"java/util/ImmutableCollections$List12", "size", "()I"⟩ : MethodName) jdk_44_method_3_code 1 ((some .int)) ({ frames := 0, cells := 0, slots := 0, locals := 0 } : Room) [] [.ref a] H (fun v H' => v = some (.int z) ∧ H = H') := by
  refine Ct.in G (by first | exact plainFor_of_name (by simp [plainName, overriddenIn]; done) | decide +kernel) (ls := [.val (.ref a)]) rfl rfl fun D A0 => ?_
  have A1 := A0.run [(0, .aload_n 0, 1, 0)] (pe := 1) (by decide +kernel) rfl
  have A2 := A1.getF (wd_123 G) L.2.2 (by decide +kernel)
  have A3 := A2.getSN (wd_121 G) sE (by decide +kernel)
  rcases hz with ⟨rfl, rfl⟩ | ⟨h, rfl⟩
  · have A4 := A3.acmp (cd := .eq) (o := 7) (by decide +kernel) rfl rfl (same := true) (decide_eq_true rfl) (pe := 14) (by decide) rfl
    have A5 := A4.run [(14, .iconst 1, 15, 1)] (pe := 15) (by decide +kernel) rfl
    exact ⟨_, _, _, _, A5.retI (by decide +kernel), ⟨rfl, rfl⟩, by decide, by decide⟩
  · have A4 := A3.acmp (cd := .eq) (o := 7) (by decide +kernel) rfl rfl (same := false) (decide_eq_false fun e => h (Value.ref.inj e)) (pe := 10) (by decide) rfl
    have A5 := A4.run [(10, .iconst 2, 11, 2), (11, .goto 4, 15, 0)] (pe := 15) (by decide +kernel) rfl
    exact ⟨_, _, _, _, A5.retI (by decide +kernel), ⟨rfl, rfl⟩, by decide, by decide⟩
theorem c_gt0 (G : Glb Z a0) {a b f : Addr} (L : LiAt Z H a b f) : Ct l Z EL0 (⟨"java/util/ImmutableCollections$List12", "get", "(I)Ljava/lang/Object;"⟩ : MethodName) jdk_44_method_5_code 2 ((some (.object "java/lang/Object"))) ({ frames := 0, cells := 0, slots := 0, locals := 0 } : Room) [] [.ref a, .int 0] H (fun v H' => v = some (.ref b) ∧ H = H') := by
  refine Ct.in G (by first | exact plainFor_of_name (by simp [plainName, overriddenIn]; done) | decide +kernel) (ls := [.val (.ref a), .val (.int 0)]) rfl rfl fun D A0 => ?_
  have A1 := A0.run [(0, .iload_n 1, 1, 0)] (pe := 1) (by decide +kernel) rfl
  have A2 := A1.ifF (cd := .ne) (o := 8) (by decide +kernel) (not_not_intro rfl)
  have A3 := A2.run [(4, .aload_n 0, 5, 0)] (pe := 5) (by decide +kernel) rfl
  have A4 := A3.getF (wd_119 G) L.2.1 (by decide +kernel)
  exact ⟨_, _, _, _, A4.retA (by decide +kernel) rfl rfl, ⟨rfl, rfl⟩, by decide, by decide⟩
theorem c_gt1 (G : Glb Z a0) {a b f m : Addr} (sE : Sta Z Z.heap "java/util/ImmutableCollections" "EMPTY" Od (.ref m)) (L : LiAt Z H a b f) (h : f ≠ m) : Ct l Z EL0 (⟨"java/util/ImmutableCollections$List12", "get", "(I)Ljava/lang/Object;"⟩ : MethodName) jdk_44_method_5_code 2 ((some (.object "java/lang/Object"))) ({ frames := 0, cells := 0, slots := 0, locals := 0 } : Room) [] [.ref a, .int 1] H (fun v H' => v = some (.ref f) ∧ H = H') := by
  refine Ct.in G (by first | exact plainFor_of_name (by simp [plainName, overriddenIn]; done) | decide +kernel) (ls := [.val (.ref a), .val (.int 1)]) rfl rfl fun D A0 => ?_
  have A1 := A0.run [(0, .iload_n 1, 1, 0)] (pe := 1) (by decide +kernel) rfl
  have A2 := A1.ifT (cd := .ne) (o := 8) (by decide +kernel) (by show ¬ _ = _; decide) (pe := 9) (by decide)
  have A3 := A2.run [(9, .iload_n 1, 10, 0), (10, .iconst 1, 11, 1)] (pe := 11) (by decide +kernel) rfl
  have A4 := A3.icF (cd := .ne) (o := 18) (by decide +kernel) (not_not_intro rfl)
  have A5 := A4.run [(14, .aload_n 0, 15, 0)] (pe := 15) (by decide +kernel) rfl
  have A6 := A5.getF (wd_123 G) L.2.2 (by decide +kernel)
  have A7 := A6.getSN (wd_121 G) sE (by decide +kernel)
  have A8 := A7.acmp (cd := .eq) (o := 8) (by decide +kernel) rfl rfl (same := false) (decide_eq_false fun e => h (Value.ref.inj e)) (pe := 24) (by decide) rfl
  have A9 := A8.run [(24, .aload_n 0, 25, 0)] (pe := 25) (by decide +kernel) rfl
  have A10 := A9.getF (wd_123 G) L.2.2 (by decide +kernel)
  exact ⟨_, _, _, _, A10.retA (by decide +kernel) rfl rfl, ⟨rfl, rfl⟩, by decide, by decide⟩
set_option maxRecDepth 65536 in
set_option maxHeartbeats 4000000 in
theorem c_law (G : Glb Z a0) (i0 i1 i2 i3 : Int32) : Ct l Z EL0 x code maxLocals ret room_1 tables_1 [.int i0, .int i1, .int i2, .int i3] H (fun v H' => v = some (.int 1)) := by
  refine Ct.in G (plainFor_of_name (by show plainName "com/example/termwise/termwise/core/ContractRecognizedKindPinLaw" = true; simp [plainName, overriddenIn])) (ls := [.val (.int i0), .val (.int i1), .val (.int i2), .val (.int i3), .unset, .unset, .unset, .unset, .unset, .unset, .unset, .unset, .unset, .unset, .unset]) rfl rfl fun D A0 => ?_
  obtain ⟨bl, sB, eB⟩ := G_bil G
  obtain ⟨rv, sR, eR⟩ := G_rev G
  obtain ⟨em, sE, eE⟩ := G_emp G
  have hre : rv ≠ em := ne_exa eR eE (by decide)
  have A1 := A0.run [(0, .iload_n 0, 1, 0), (1, .iconst 1, 2, 1), (2, .iand, 3, 0)] (pe := 3) (by decide +kernel) rfl
  obtain ⟨b, hb, A2⟩ : ∃ b, isB b ∧ Wk l Z a0 EL0 "com/example/termwise/termwise/core/ContractRecognizedKindPinLaw" code maxLocals "law" ret room_1 D 11 [.val (.int i0), .val (.int i1), .val (.int i2), .val (.int i3), .unset, .unset, .unset, .unset, .unset, .unset, .unset, .unset, .unset, .unset, .unset] [.int b] H 0 0 := by
    by_cases h : i0 &&& 1 = 0
    · have B1 := A1.ifT (cd := .eq) (o := 7) (by decide +kernel) h (pe := 10) (by decide)
      exact ⟨0, Or.inl rfl, B1.run [(10, .iconst 0, 11, 0)] (pe := 11) (by decide +kernel) rfl⟩
    · have B1 := A1.ifF (cd := .eq) (o := 7) (by decide +kernel) h
      exact ⟨1, Or.inr rfl, B1.run [(6, .iconst 1, 7, 1), (7, .goto 4, 11, 0)] (pe := 11) (by decide +kernel) rfl⟩
  have A3 := A2.run [(11, .istore 4, 13, 0), (13, .iconst 1, 14, 1)] (pe := 14) (by decide +kernel) rfl
  obtain ⟨ca, H4, A4, g4, K4, T4, o4⟩ := A3.newA (aty := .char) (wd_0 G) (by decide +kernel) (N := 1) rfl (cap := 1) (by decide) (by decide) (by decide) (by decide)
  have A5 := A4.run [(16, .dup, 17, 0), (17, .iconst 0, 18, 0), (18, .iload_n 1, 19, 0), (19, .sipush 255, 22, 255), (22, .iand, 23, 0), (23, .i2c, 24, 0)] (pe := 24) (by decide +kernel) rfl
  rw [okc_i2c] at A5
  have h1 := okc_mask i1
  have h2 := okc_mask i2
  obtain ⟨H6, A6, K6, T6⟩ := A5.castore T4 o4 (by decide +kernel) (i := 0) rfl (by simp) (isC_nar h1.1)
  have A7 := A6.run [(25, .astore 5, 27, 0), (27, .iconst 1, 28, 1)] (pe := 28) (by decide +kernel) rfl
  obtain ⟨cb, H8, A8, g8, K8, T8, o8⟩ := A7.newA (aty := .char) (wd_0 G) (by decide +kernel) (N := 1) rfl (cap := 1) (by decide) (by decide) (by decide) (by decide)
  have A9 := A8.run [(30, .dup, 31, 0), (31, .iconst 0, 32, 0), (32, .iload_n 2, 33, 0), (33, .sipush 255, 36, 255), (36, .iand, 37, 0), (37, .i2c, 38, 0)] (pe := 38) (by decide +kernel) rfl
  rw [okc_i2c] at A9
  obtain ⟨H10, A10, K10, T10⟩ := A9.castore T8 o8 (by decide +kernel) (i := 0) rfl (by simp) (isC_nar h2.1)
  have A11 := A10.run [(39, .astore 6, 41, 0)] (pe := 41) (by decide +kernel) rfl
  have hab : ca ∉ [cb] := by simpa using Nat.ne_of_lt (Nat.lt_of_lt_of_le T6.lt g8)
  have lv := (wd_29 G)
  have lc := (wd_27 G)
  obtain ⟨s, H12, A12, g12, K12, E12, o12, D12⟩ := A11.newO (wd_1 G) (wd_2 G) (wd_3 G) (by decide +kernel) (by decide) (by decide)
  have A13 := A12.run [(44, .dup, 45, 0), (45, .aload 5, 47, 0)] (pe := 47) (by decide +kernel) rfl
  have Ta : Ar Z H12 ca .char (chs [i1 &&& 255]) := ((T6.ky K8).ky K10 hab).ky K12
  obtain ⟨_, HA14, qA14, A14, moA14, szA14⟩ := A13.callI (argsL := [.ref ca]) rfl (wd_4 G) (wd_5 G) (wd_3 G) (wd_6 G) (c_sI1 G Ta (c_sI4L G Ta (by simp) (by simp) (lat1 h1.2) E12 (D12 (Or.inr lv) (t := .array .byte) (by decide)) (D12 (Or.inr lc) (t := .byte) (by decide)) o12)) (by decide) ⟨_, _, (by decide +kernel : parseMethodDescriptor "([C)V" = some ⟨[(.array .char)], none⟩), rfl⟩ (by decide +kernel) (Wd := 1) (by decide) (Nat.le_of_ble_eq_true rfl) (by decide) (by decide) (by decide)
  obtain ⟨rfl, K14, S14⟩ := qA14
  have A15 := A14.run [(50, .astore 7, 52, 0)] (pe := 52) (by decide +kernel) rfl
  obtain ⟨t, H16, A16, g16, K16, E16, o16, D16⟩ := A15.newO (wd_1 G) (wd_2 G) (wd_3 G) (by decide +kernel) (by decide) (by decide)
  have A17 := A16.run [(55, .dup, 56, 0), (56, .aload 6, 58, 0)] (pe := 58) (by decide +kernel) rfl
  have hcs : cb ∉ [s] := by simpa using Nat.ne_of_lt (Nat.lt_of_lt_of_le T10.lt g12)
  have Tb : Ar Z H16 cb .char (chs [i2 &&& 255]) := ((T10.ky K12).ky K14 hcs).ky K16
  obtain ⟨_, HA18, qA18, A18, moA18, szA18⟩ := A17.callI (argsL := [.ref cb]) rfl (wd_4 G) (wd_5 G) (wd_3 G) (wd_6 G) (c_sI1 G Tb (c_sI4L G Tb (by simp) (by simp) (lat1 h2.2) E16 (D16 (Or.inr lv) (t := .array .byte) (by decide)) (D16 (Or.inr lc) (t := .byte) (by decide)) o16)) (by decide) ⟨_, _, (by decide +kernel : parseMethodDescriptor "([C)V" = some ⟨[(.array .char)], none⟩), rfl⟩ (by decide +kernel) (Wd := 1) (by decide) (Nat.le_of_ble_eq_true rfl) (by decide) (by decide) (by decide)
  obtain ⟨rfl, K18, S18⟩ := qA18
  have A19 := A18.run [(61, .astore 8, 63, 0)] (pe := 63) (by decide +kernel) rfl
  obtain ⟨al, H20, A20, g20, K20, E20, o20, D20⟩ := A19.newO (wd_30 G) (wd_31 G) (wd_32 G) (by decide +kernel) (by decide) (by decide)
  have A21 := A20.run [(66, .dup, 67, 0)] (pe := 67) (by decide +kernel) rfl
  obtain ⟨_, HA22, qA22, A22, moA22, szA22⟩ := A21.callI (argsL := []) rfl (wd_33 G) (wd_34 G) (wd_32 G) (wd_35 G) (c_alI G E20 (D20 (Or.inl (wd_50 G)) (t := .int) (by decide)) (D20 (Or.inl (wd_53 G)) (t := .array (.object "java/lang/Object")) (by decide)) o20) (by decide) ⟨_, _, (by decide +kernel : parseMethodDescriptor "()V" = some ⟨[], none⟩), rfl⟩ (by decide +kernel) (Wd := 1) (by decide) (Nat.le_of_ble_eq_true rfl) (by decide) (by decide) (by decide)
  obtain ⟨rfl, K22⟩ := qA22
  have A23 := A22.run [(70, .astore 9, 72, 0)] (pe := 72) (by decide +kernel) rfl
  obtain ⟨ct, H24, A24, g24, K24, E24, o24, D24⟩ := A23.newO (wd_54 G) (wd_55 G) (wd_56 G) (by decide +kernel) (by decide) (by decide)
  have A25 := A24.run [(75, .dup, 76, 0), (76, .aload 7, 78, 0), (78, .aload 8, 80, 0), (80, .iload_n 3, 81, 0), (81, .iload 4, 83, 0), (83, .aload 9, 85, 0)] (pe := 85) (by decide +kernel) rfl
  obtain ⟨_, HA26, qA26, A26, moA26, szA26⟩ := A25.callI (argsL := [.ref s, .ref t, .int i3, .int b, .ref al]) rfl (wd_57 G) (wd_58 G) (wd_56 G) (wd_59 G) (c_ctI G hb E24 (D24 (Or.inr (wd_67 G)) (t := .object "java/lang/String") (by decide)) (D24 (Or.inr (wd_69 G)) (t := .object "java/lang/String") (by decide)) (D24 (Or.inr (wd_71 G)) (t := .int) (by decide)) (D24 (Or.inr (wd_73 G)) (t := .boolean) (by decide)) (D24 (Or.inr (wd_75 G)) (t := .object "java/util/List") (by decide)) o24) (by decide) ⟨_, _, (by decide +kernel : parseMethodDescriptor "(Ljava/lang/String;Ljava/lang/String;IZLjava/util/List;)V" = some ⟨[(.object "java/lang/String"), (.object "java/lang/String"), .int, .boolean, (.object "java/util/List")], none⟩), rfl⟩ (by decide +kernel) (Wd := 1) (by decide) (Nat.le_of_ble_eq_true rfl) (by decide) (by decide) (by decide)
  obtain ⟨rfl, K26, F26⟩ := qA26
  have E26 := E24.ky K26
  have A27 := A26.run [(88, .astore 10, 90, 0), (90, .aload 10, 92, 0)] (pe := 92) (by decide +kernel) rfl
  obtain ⟨_, HA28, qA28, A28, moA28, szA28⟩ := A27.callV (argsL := []) (wd_76 G) (wd_77 G) (wd_79 G) (wd_79 G) (wd_78 G) (wd_56 G) (wd_80 G) E26 (c_rk G hb sB sR F26) (by decide) ⟨_, _, (by decide +kernel : parseMethodDescriptor "()Lcom/example/termwise/termwise/core/LimitKind;" = some ⟨[], some (.object "com/example/termwise/termwise/core/LimitKind")⟩), rfl⟩ (by decide +kernel) (Wd := 0) (by decide) (Nat.le_of_ble_eq_true rfl) (by decide) (by decide) (by decide)
  obtain ⟨rfl, rfl⟩ := qA28
  have A29 := A28.run [(95, .astore 11, 97, 0), (97, .iload 4, 99, 0)] (pe := 99) (by decide +kernel) rfl
  have A30 : Wk l Z a0 EL0 "com/example/termwise/termwise/core/ContractRecognizedKindPinLaw" code maxLocals "law" ret room_1 D 115 [.val (.int i0), .val (.int i1), .val (.int i2), .val (.int i3), .val (.int b), .val (.ref ca), .val (.ref cb), .val (.ref s), .val (.ref t), .val (.ref al), .val (.ref ct), .val (.ref (if b = 0 then bl else rv)), .val (.ref (if b = 0 then bl else rv)), .unset, .unset] [] HA26 8 20 := by
    by_cases h : b = 0
    · have B1 := A29.ifT (cd := .eq) (o := 11) (by decide +kernel) h (pe := 110) (by decide)
      have B2 := B1.getS (wd_84 G) sB (by decide +kernel)
      have B3 := B2.run [(113, .astore 12, 115, 0)] (pe := 115) (by decide +kernel) rfl
      rw [if_pos h] at B3 ⊢; exact B3
    · have B1 := A29.ifF (cd := .eq) (o := 11) (by decide +kernel) h
      have B2 := B1.getS (wd_144 G) sR (by decide +kernel)
      have B3 := B2.run [(105, .astore 12, 107, 0), (107, .goto 8, 115, 0)] (pe := 115) (by decide +kernel) rfl
      rw [if_neg h] at B3 ⊢; exact B3
  have A31 := A30.run [(115, .aload 10, 117, 0)] (pe := 117) (by decide +kernel) rfl
  obtain ⟨_, HA32, qA32, A32, moA32, szA32⟩ := A31.callV (argsL := []) (wd_85 G) (wd_86 G) (wd_88 G) (wd_88 G) (wd_87 G) (wd_56 G) (wd_89 G) E26 (c_lk G hb sB sR sE F26) (by decide) ⟨_, _, (by decide +kernel : parseMethodDescriptor "()Ljava/util/List;" = some ⟨[], some (.object "java/util/List")⟩), rfl⟩ (by decide +kernel) (Wd := 0) (by decide) (Nat.le_of_ble_eq_true rfl) (by decide) (by decide) (by decide)
  obtain ⟨li, rfl, g32, K32, L32⟩ := qA32
  have A33 := A32.run [(120, .astore 13, 122, 0), (122, .aload 13, 124, 0)] (pe := 124) (by decide +kernel) rfl
  rcases hb with rfl | rfl
  · obtain ⟨_, HA34, qA34, A34, moA34, szA34⟩ := A33.callF (argsL := []) (wd_125 G) (wd_126 G) (wd_127 G) (wd_128 G) (wd_129 G) (wd_130 G) (wd_131 G) (wd_132 G) (wd_96 G) (wd_133 G) L32.1 (c_sz G sE L32 1 (Or.inl ⟨rfl, rfl⟩)) (by decide) ⟨_, _, (by decide +kernel : parseMethodDescriptor "()I" = some ⟨[], some .int⟩), rfl⟩ (count := 1) (by decide +kernel) (Wd := 0) (by decide) (Nat.le_of_ble_eq_true rfl) (by decide) (by decide) (by decide)
    obtain ⟨rfl, rfl⟩ := qA34
    have A35 := A34.run [(129, .istore 14, 131, 0), (131, .iload 14, 133, 0), (133, .iconst 1, 134, 1)] (pe := 134) (by decide +kernel) rfl
    have A36 := A35.icT (cd := .ge) (o := 5) (by decide +kernel) (by show ¬ _ < _; decide) (pe := 139) (by decide)
    have A37 := A36.run [(139, .aload 11, 141, 0), (141, .aload 12, 143, 0)] (pe := 143) (by decide +kernel) rfl
    have A38 := A37.acmp (cd := .ne) (o := 23) (by decide +kernel) rfl rfl (same := true) (decide_eq_true rfl) (pe := 146) (by decide) rfl
    have A39 := A38.run [(146, .aload 13, 148, 0), (148, .iload 14, 150, 0), (150, .iconst 1, 151, 1), (151, .isub, 152, 0)] (pe := 152) (by decide +kernel) rfl
    obtain ⟨_, HA40, qA40, A40, moA40, szA40⟩ := A39.callF (argsL := [.int 0]) (wd_134 G) (wd_135 G) (wd_136 G) (wd_137 G) (wd_138 G) (wd_139 G) (wd_140 G) (wd_132 G) (wd_96 G) (wd_141 G) L32.1 (c_gt0 G L32) (by decide) ⟨_, _, (by decide +kernel : parseMethodDescriptor "(I)Ljava/lang/Object;" = some ⟨[.int], some (.object "java/lang/Object")⟩), rfl⟩ (count := 2) (by decide +kernel) (Wd := 0) (by decide) (Nat.le_of_ble_eq_true rfl) (by decide) (by decide) (by decide)
    obtain ⟨rfl, rfl⟩ := qA40
    have A41 := A40.run [(157, .aload 11, 159, 0)] (pe := 159) (by decide +kernel) rfl
    have A42 := A41.acmp (cd := .ne) (o := 7) (by decide +kernel) rfl rfl (same := true) (decide_eq_true rfl) (pe := 162) (by decide) rfl
    have A43 := A42.run [(162, .iconst 1, 163, 1), (163, .goto 4, 167, 0)] (pe := 167) (by decide +kernel) rfl
    exact ⟨_, _, _, _, A43.retZ (by decide +kernel) rfl, rfl, by decide, by decide⟩
  · obtain ⟨_, HA34, qA34, A34, moA34, szA34⟩ := A33.callF (argsL := []) (wd_125 G) (wd_126 G) (wd_127 G) (wd_128 G) (wd_129 G) (wd_130 G) (wd_131 G) (wd_132 G) (wd_96 G) (wd_133 G) L32.1 (c_sz G sE L32 2 (Or.inr ⟨hre, rfl⟩)) (by decide) ⟨_, _, (by decide +kernel : parseMethodDescriptor "()I" = some ⟨[], some .int⟩), rfl⟩ (count := 1) (by decide +kernel) (Wd := 0) (by decide) (Nat.le_of_ble_eq_true rfl) (by decide) (by decide) (by decide)
    obtain ⟨rfl, rfl⟩ := qA34
    have A35 := A34.run [(129, .istore 14, 131, 0), (131, .iload 14, 133, 0), (133, .iconst 1, 134, 1)] (pe := 134) (by decide +kernel) rfl
    have A36 := A35.icT (cd := .ge) (o := 5) (by decide +kernel) (by show ¬ _ < _; decide) (pe := 139) (by decide)
    have A37 := A36.run [(139, .aload 11, 141, 0), (141, .aload 12, 143, 0)] (pe := 143) (by decide +kernel) rfl
    have A38 := A37.acmp (cd := .ne) (o := 23) (by decide +kernel) rfl rfl (same := true) (decide_eq_true rfl) (pe := 146) (by decide) rfl
    have A39 := A38.run [(146, .aload 13, 148, 0), (148, .iload 14, 150, 0), (150, .iconst 1, 151, 1), (151, .isub, 152, 0)] (pe := 152) (by decide +kernel) rfl
    obtain ⟨_, HA40, qA40, A40, moA40, szA40⟩ := A39.callF (argsL := [.int 1]) (wd_134 G) (wd_135 G) (wd_136 G) (wd_137 G) (wd_138 G) (wd_139 G) (wd_140 G) (wd_132 G) (wd_96 G) (wd_141 G) L32.1 (c_gt1 G sE L32 hre) (by decide) ⟨_, _, (by decide +kernel : parseMethodDescriptor "(I)Ljava/lang/Object;" = some ⟨[.int], some (.object "java/lang/Object")⟩), rfl⟩ (count := 2) (by decide +kernel) (Wd := 0) (by decide) (Nat.le_of_ble_eq_true rfl) (by decide) (by decide) (by decide)
    obtain ⟨rfl, rfl⟩ := qA40
    have A41 := A40.run [(157, .aload 11, 159, 0)] (pe := 159) (by decide +kernel) rfl
    have A42 := A41.acmp (cd := .ne) (o := 7) (by decide +kernel) rfl rfl (same := true) (decide_eq_true rfl) (pe := 162) (by decide) rfl
    have A43 := A42.run [(162, .iconst 1, 163, 1), (163, .goto 4, 167, 0)] (pe := 167) (by decide +kernel) rfl
    exact ⟨_, _, _, _, A43.retZ (by decide +kernel) rfl, rfl, by decide, by decide⟩
end LawC

theorem comes_1 {Post : Tables → Env → Array Value → State → Outcome → State → Prop} (hpost : ∀ tb e args s v u, (limb_1_1.after args s (.returned v) u = true ∧ limb_1_2.after args s (.returned v) u = true) → FrameEnd s (.returned v) u (Jvm.fieldLocs frame_1_writes args s ++ Jvm.arrayLocs frame_1_arrays args s ++ Jvm.staticLocs frame_1_statics s) 32 128 → Post tb e args s (.returned v) u) :
    ArmFor flags0 classFile x code maxLocals ret World_1 tables_1 room_1 Calls_1 rest_1 Pre_1 Post := by
  intro l hfl _ _ p e ha hc hk s m args below hf hA hF happ hP
  obtain ⟨hcalls, hrest, hpre⟩ := hP
  obtain ⟨-, -, -, hnamed, -, -, -, hat⟩ := (Spec.applies_iff hf).mp happ
  obtain ⟨hg, hn⟩ := and_e (Cond.before_iff.mp (show (Jvm.Cond.and given_1 narrow_1).before args s = true from hpre))
  obtain ⟨h1, g0⟩ := and_e hg
  obtain ⟨f0, g1⟩ := and_e g0
  obtain ⟨f1, g2⟩ := and_e g1
  obtain ⟨f2, g3⟩ := and_e g2
  have f3 := g3
  obtain ⟨w0, w1, w2, w3, rfl⟩ : ∃ w0 w1 w2 w3 : Value, args = #[w0, w1, w2, w3] := by
    have hs : args.size = 4 := by simpa [Cond.value, given_1] using h1
    obtain ⟨L⟩ := args
    match L, hs with
    | [w0, w1, w2, w3], _ => exact ⟨w0, w1, w2, w3, rfl⟩
  have hw := fun d (hd : d ∈ tables_1) => atoms_spec (ws := Jvm.Cond.code x code maxLocals ret :: tables_1) hat d (List.mem_cons_of_mem _ hd)
  obtain ⟨hsets, hown0⟩ := atoms_of _ (rest_1_c_eq ▸ (show rest_1_c.before _ s = true from hrest))
  have hfit : Fit s := fun {y c} hc i hi => by
    obtain ⟨ha, rfl⟩ := Array.getElem?_eq_some_iff.mp hc
    have q := List.all_eq_true.mp ((Array.all_eq_true_iff_forall_mem.mp hF) _ (Array.getElem_mem ha)) i (List.mem_range.mpr hi)
    simpa [Array.getElem?_eq_getElem hi] using q
  obtain ⟨i0, e0⟩ := is_v f0
  obtain rfl : w0 = .int i0 := Option.some.inj e0
  obtain ⟨i1, e1⟩ := is_v f1
  obtain rfl : w1 = .int i1 := Option.some.inj e1
  obtain ⟨i2, e2⟩ := is_v f2
  obtain rfl : w2 = .int i2 := Option.some.inj e2
  obtain ⟨i3, e3⟩ := is_v f3
  obtain rfl : w3 = .int i3 := Option.some.inj e3
  have G : Glb s #[.int i0, .int i1, .int i2, .int i3] := ⟨hw, hsets, hfit, hn⟩
  obtain ⟨n, o, h1, h2, h3, v, L, O, rfl, hv, -, -, N, hq⟩ := c_law (l := l) (H := (s.heap, fun _ => False)) G i0 i1 i2 i3 p e ha hc hk s m _ below hf ((Spec.applies_iff_loose hf).mp happ).1 ⟨rfl, State.Warmed39.refl s, rfl, ⟨ext_refl _, fun _ q => q.elim⟩⟩ trivial
  subst hv
  refine ⟨n, _, h1, h2, h3, hpost _ _ _ _ _ _ ⟨Cond.after_iff.mpr rfl, Cond.after_iff.mpr (eq_i res_at (Term.int_eval (1)) rfl)⟩ ⟨hq.1, hq.2.1, (hq.2.2.sift fun y hy => Or.inr (N y hy)).mono (by decide) (by decide)⟩⟩
theorem main_1_1 : Claimed_1_1 := comes_1 fun _ _ _ _ _ _ h hF => ⟨h.1, hF⟩
theorem main_1_2 : Claimed_1_2 := comes_1 fun _ _ _ _ _ _ h hF => ⟨h.2, hF⟩
end Jvm.Pilot.@@N@@
namespace Jvm.Pilot.@@N@@
open Jvm Jvm.ClassFile Sem Op Lib Jvm.Free Jvm.Stand Jvm.Pilot.@@N@@.Jvm.D
/-! MADE BY PROGRAM (witnessworld.py) out of the Statement's table words and the real class files: 38 classes; the members and pool entries that the words name. The judged class is class 1, her method 1. -/
namespace start1
open Jvm.ClassFile
def u (s : String) : CpInfo := .utf8 (stringToUtf16 s)
/-- a pool by its gaps: so many unusable entries, then the entry; so many at the end -/
def gap : Nat → List CpInfo → List CpInfo
  | 0, r => r
  | n + 1, r => .unusable :: gap n r
def poolList (es : List (Nat × CpInfo)) (last : Nat) : List CpInfo := es.foldr (fun e r => gap e.1 (e.2 :: r)) (gap last [])
def pool (es : List (Nat × CpInfo)) (last : Nat) : Array CpInfo := ⟨poolList es last⟩
def fileOf (pool : Array CpInfo) (this : Nat) (attrs : Array Attribute := #[]) (ms : Array MethodInfo := #[]) (fl : Nat := 33) (sup : Nat := 0) (ifs : Array Nat := #[]) (fds : Array FieldInfo := #[]) : ClassFile where
  minorVersion := 0
  majorVersion := 65
  constantPool := pool
  accessFlags := fl
  thisClass := this
  superClass := sup
  interfaces := ifs
  fields := fds
  methods := ms
  attributes := attrs
def plain (name : String) (sup : Option ClassId) : Class where
  name := name
  kind := .ordinary
  loader := none
  accessFlags := 33
  super := sup
  interfaces := #[]
  cf := none
  fields := #[]
  methods := #[]
  instanceTypes := #[]
  staticTypes := #[]
  resolved := #[]
  callSites := []
  init := .initialized
  statics := none
  mirror := none

def pool0 : Array CpInfo := pool [(5, u "<init>"), (0, u "()V"), (1, .class_ 10), (1, u "java/lang/Object")] 113

def k0c0 : Code := { maxStack := 0, maxLocals := 1, code := object_method_1_code, exceptionTable := #[], attributes := #[] }
def k0m0 : Method := { name := "<init>", desc := "()V", sig := { parameters := [], returnType := none }, accessFlags := 1, code := some k0c0 }
/-- java/lang/Object -/
def k0 : Class := { plain "java/lang/Object" none with
  accessFlags := 33
  interfaces := #[]
  cf := some (fileOf pool0 8 #[] #[{ accessFlags := 1, nameIndex := 5, descriptorIndex := 6, attributes := #[] }] 33 0 #[] #[])
  fields := #[]
  methods := #[k0m0]
  instanceTypes := #[]
  staticTypes := #[]
  resolved := Array.replicate 124 none
  statics := none }

def pool1 : Array CpInfo := pool [(2, .class_ 4), (0, .nameAndType 5 6), (0, u "java/lang/Object"), (0, u "<init>"), (0, u "()V"), (0, .class_ 8), (0, u "java/lang/String"), (0, .methodref 7 10), (0, .nameAndType 5 11), (0, u "([C)V"), (0, .class_ 13), (0, u "java/util/ArrayList"), (0, .methodref 12 3), (0, .class_ 16), (0, u "com/example/termwise/termwise/core/Contract"), (0, .methodref 15 18), (0, .nameAndType 5 19), (0, u "(Ljava/lang/String;Ljava/lang/String;IZLjava/util/List;)V"), (0, .methodref 15 21), (0, .nameAndType 22 23), (0, u "recognizedKind"), (0, u "()Lcom/example/termwise/termwise/core/LimitKind;"), (0, .fieldref 25 26), (0, .class_ 27), (0, .nameAndType 28 29), (0, u "com/example/termwise/termwise/core/LimitKind"), (0, u "REVENUE"), (0, u "Lcom/example/termwise/termwise/core/LimitKind;"), (0, .fieldref 25 31), (0, .nameAndType 32 29), (0, u "BILLING"), (0, .methodref 15 34), (0, .nameAndType 35 36), (0, u "limitKinds"), (0, u "()Ljava/util/List;"), (0, .interfaceMethodref 38 39), (0, .class_ 40), (0, .nameAndType 41 42), (0, u "java/util/List"), (0, u "size"), (0, u "()I"), (0, .interfaceMethodref 38 44), (0, .nameAndType 45 46), (0, u "get"), (0, u "(I)Ljava/lang/Object;"), (0, .class_ 48), (0, u "com/example/termwise/termwise/core/ContractRecognizedKindPinLaw"), (2, u "law"), (0, u "(IIII)Z")] 5

def k1m0 : Method := { name := "<init>", desc := "()V", sig := { parameters := [], returnType := none }, accessFlags := 1, code := none }
def k1c1 : Code := { maxStack := 7, maxLocals := 15, code := code, exceptionTable := #[], attributes := #[] }
def k1m1 : Method := { name := "law", desc := "(IIII)Z", sig := { parameters := [.int, .int, .int, .int], returnType := some .boolean }, accessFlags := 9, code := some k1c1 }
/-- com/example/termwise/termwise/core/ContractRecognizedKindPinLaw -/
def k1 : Class := { plain "com/example/termwise/termwise/core/ContractRecognizedKindPinLaw" (some 0) with
  accessFlags := 49
  interfaces := #[]
  cf := some (fileOf pool1 47 #[] #[{ accessFlags := 1, nameIndex := 5, descriptorIndex := 6, attributes := #[] }, { accessFlags := 9, nameIndex := 51, descriptorIndex := 52, attributes := #[] }] 49 2 #[] #[])
  fields := #[]
  methods := #[k1m0, k1m1]
  instanceTypes := #[]
  staticTypes := #[]
  resolved := Array.replicate 58 none
  statics := none }

def pool2 : Array CpInfo := pool [(1, .class_ 2), (0, u "java/io/Serializable"), (0, .class_ 4), (0, u "java/lang/Object")] 2

/-- java/io/Serializable -/
def k2 : Class := { plain "java/io/Serializable" (some 0) with
  accessFlags := 1537
  interfaces := #[]
  cf := some (fileOf pool2 1 #[] #[] 1537 3 #[] #[])
  fields := #[]
  methods := #[]
  instanceTypes := #[]
  staticTypes := #[]
  resolved := Array.replicate 7 none
  statics := none }

def pool3 : Array CpInfo := pool [(1, .class_ 2), (0, u "java/lang/Comparable"), (0, .class_ 4), (0, u "java/lang/Object")] 7

/-- java/lang/Comparable -/
def k3 : Class := { plain "java/lang/Comparable" (some 0) with
  accessFlags := 1537
  interfaces := #[]
  cf := some (fileOf pool3 1 #[] #[] 1537 3 #[] #[])
  fields := #[]
  methods := #[]
  instanceTypes := #[]
  staticTypes := #[]
  resolved := Array.replicate 12 none
  statics := none }

def pool4 : Array CpInfo := pool [(2, .class_ 4), (1, u "java/lang/CharSequence"), (42, .class_ 48), (0, u "java/lang/CharSequence$1CodePointIterator"), (10, .class_ 60), (0, u "java/lang/CharSequence$1CharIterator"), (5, .class_ 67), (0, u "java/lang/Object")] 63

/-- java/lang/CharSequence -/
def k4 : Class := { plain "java/lang/CharSequence" (some 0) with
  accessFlags := 1537
  interfaces := #[]
  cf := some (fileOf pool4 2 #[.nestMembers #[47, 59]] #[] 1537 66 #[] #[])
  fields := #[]
  methods := #[]
  instanceTypes := #[]
  staticTypes := #[]
  resolved := Array.replicate 131 none
  statics := none }

def pool5 : Array CpInfo := pool [(1, .class_ 2), (0, u "java/lang/constant/Constable"), (0, .class_ 4), (0, u "java/lang/Object")] 6

/-- java/lang/constant/Constable -/
def k5 : Class := { plain "java/lang/constant/Constable" (some 0) with
  accessFlags := 1537
  interfaces := #[]
  cf := some (fileOf pool5 1 #[] #[] 1537 3 #[] #[])
  fields := #[]
  methods := #[]
  instanceTypes := #[]
  staticTypes := #[]
  resolved := Array.replicate 11 none
  statics := none }

def pool6 : Array CpInfo := pool [(1, .class_ 2), (0, u "java/lang/constant/ConstantDesc"), (0, .class_ 4), (0, u "java/lang/Object")] 32

/-- java/lang/constant/ConstantDesc -/
def k6 : Class := { plain "java/lang/constant/ConstantDesc" (some 0) with
  accessFlags := 1537
  interfaces := #[]
  cf := some (fileOf pool6 1 #[] #[] 1537 3 #[] #[])
  fields := #[]
  methods := #[]
  instanceTypes := #[]
  staticTypes := #[]
  resolved := Array.replicate 37 none
  statics := none }

def pool7 : Array CpInfo := pool [(1, .methodref 2 3), (0, .class_ 4), (0, .nameAndType 5 6), (0, u "java/lang/Object"), (0, u "<init>"), (0, u "()V"), (2, .fieldref 10 11), (0, .class_ 12), (0, .nameAndType 13 14), (0, u "java/lang/String"), (0, u "value"), (0, u "[B"), (0, .fieldref 10 16), (0, .nameAndType 17 18), (0, u "coder"), (0, u "B"), (2, u "hash"), (0, u "I"), (2, u "hashIsZero"), (0, u "Z"), (0, .methodref 10 28), (0, .nameAndType 5 29), (0, u "([CIILjava/lang/Void;)V"), (8, .fieldref 10 39), (0, .nameAndType 40 26), (0, u "COMPACT_STRINGS"), (1, .class_ 44), (1, u "java/lang/StringUTF16"), (0, u "compress"), (1, .methodref 42 48), (0, .nameAndType 49 50), (0, u "coderFromArrayLen"), (0, u "([BI)B"), (126, .methodref 42 178), (0, .nameAndType 45 179), (0, u "([CII)[B"), (395, .class_ 576), (0, u "java/lang/CharSequence"), (22, u "CASE_INSENSITIVE_ORDER"), (0, u "Ljava/util/Comparator;"), (409, u "([C)V"), (90, u "serialPersistentFields"), (0, u "[Ljava/io/ObjectStreamField;"), (0, .class_ 1104), (0, u "java/lang/String$CaseInsensitiveComparator"), (1, .class_ 1107), (0, u "java/io/Serializable"), (0, .class_ 1109), (0, u "java/lang/Comparable"), (0, .class_ 1111), (0, u "java/lang/constant/Constable"), (0, .class_ 1113), (0, u "java/lang/constant/ConstantDesc"), (2, u "serialVersionUID"), (0, u "J"), (3, u "REPL"), (0, u "C"), (2, u "LATIN1"), (1, u "UTF16")] 323

def k7m0 : Method := { name := "<init>", desc := "()V", sig := { parameters := [], returnType := none }, accessFlags := 1, code := none }
def k7c1 : Code := { maxStack := 5, maxLocals := 2, code := jdk_42_method_3_code, exceptionTable := #[], attributes := #[] }
def k7m1 : Method := { name := "<init>", desc := "([C)V", sig := { parameters := [(.array .char)], returnType := none }, accessFlags := 1, code := some k7c1 }
def k7c2 : Code := { maxStack := 4, maxLocals := 6, code := jdk_42_method_149_code, exceptionTable := #[], attributes := #[] }
def k7m2 : Method := { name := "<init>", desc := "([CIILjava/lang/Void;)V", sig := { parameters := [(.array .char), .int, .int, (.object "java/lang/Void")], returnType := none }, accessFlags := 2, code := some k7c2 }
/-- java/lang/String -/
def k7 : Class := { plain "java/lang/String" (some 0) with
  accessFlags := 49
  interfaces := #[2, 3, 4, 5, 6]
  cf := some (fileOf pool7 10 #[.nestMembers #[1103]] #[{ accessFlags := 1, nameIndex := 5, descriptorIndex := 6, attributes := #[] }, { accessFlags := 1, nameIndex := 5, descriptorIndex := 1010, attributes := #[] }, { accessFlags := 2, nameIndex := 5, descriptorIndex := 29, attributes := #[] }] 49 2 #[1106, 1108, 575, 1110, 1112] #[{ accessFlags := 18, nameIndex := 13, descriptorIndex := 14, attributes := #[] }, { accessFlags := 18, nameIndex := 17, descriptorIndex := 18, attributes := #[] }, { accessFlags := 2, nameIndex := 21, descriptorIndex := 22, attributes := #[] }, { accessFlags := 2, nameIndex := 25, descriptorIndex := 26, attributes := #[] }, { accessFlags := 26, nameIndex := 1116, descriptorIndex := 1117, attributes := #[] }, { accessFlags := 24, nameIndex := 40, descriptorIndex := 26, attributes := #[] }, { accessFlags := 26, nameIndex := 1101, descriptorIndex := 1102, attributes := #[] }, { accessFlags := 26, nameIndex := 1121, descriptorIndex := 1122, attributes := #[] }, { accessFlags := 25, nameIndex := 599, descriptorIndex := 600, attributes := #[] }, { accessFlags := 24, nameIndex := 1125, descriptorIndex := 18, attributes := #[] }, { accessFlags := 24, nameIndex := 1127, descriptorIndex := 18, attributes := #[] }])
  fields := #[{ name := "value", type := (.array .byte), accessFlags := 18, slot := 0, constantValue := 0 }, { name := "coder", type := .byte, accessFlags := 18, slot := 1, constantValue := 0 }, { name := "hash", type := .int, accessFlags := 2, slot := 2, constantValue := 0 }, { name := "hashIsZero", type := .boolean, accessFlags := 2, slot := 3, constantValue := 0 }, { name := "serialVersionUID", type := .long, accessFlags := 26, slot := 0, constantValue := 0 }, { name := "COMPACT_STRINGS", type := .boolean, accessFlags := 24, slot := 1, constantValue := 0 }, { name := "serialPersistentFields", type := (.array (.object "java/io/ObjectStreamField")), accessFlags := 26, slot := 2, constantValue := 0 }, { name := "REPL", type := .char, accessFlags := 26, slot := 3, constantValue := 0 }, { name := "CASE_INSENSITIVE_ORDER", type := (.object "java/util/Comparator"), accessFlags := 25, slot := 4, constantValue := 0 }, { name := "LATIN1", type := .byte, accessFlags := 24, slot := 5, constantValue := 0 }, { name := "UTF16", type := .byte, accessFlags := 24, slot := 6, constantValue := 0 }]
  methods := #[k7m0, k7m1, k7m2]
  instanceTypes := #[(.array .byte), .byte, .int, .boolean]
  staticTypes := #[.long, .boolean, (.array (.object "java/io/ObjectStreamField")), .char, (.object "java/util/Comparator"), .byte, .byte]
  resolved := Array.replicate 1451 none
  statics := some 0 }

def pool8 : Array CpInfo := pool [(6, .class_ 8), (1, u "java/lang/Object"), (0, u "<init>"), (0, u "()V"), (1, .class_ 14), (1, u "java/lang/StringUTF16"), (31, u "$assertionsDisabled"), (0, u "Z"), (13, u "HI_BYTE_SHIFT"), (0, u "I"), (2, u "LO_BYTE_SHIFT"), (49, .methodref 12 116), (0, .nameAndType 117 118), (0, u "compress"), (0, u "([CI[BII)I"), (3, u "([CII)[B"), (138, u "coderFromArrayLen"), (0, u "([BI)B"), (106, .class_ 371), (1, u "java/lang/StringUTF16$LinesSpliterator"), (58, u "MAX_LENGTH"), (196, .class_ 628), (0, u "java/lang/StringUTF16$CodePointsSpliterator"), (0, .class_ 630), (0, u "java/lang/StringUTF16$CharsSpliterator")] 4

def k8m0 : Method := { name := "<init>", desc := "()V", sig := { parameters := [], returnType := none }, accessFlags := 0, code := none }
def k8c1 : Code := { maxStack := 2, maxLocals := 2, code := jdk_52_method_15_code, exceptionTable := #[], attributes := #[] }
def k8m1 : Method := { name := "coderFromArrayLen", desc := "([BI)B", sig := { parameters := [(.array .byte), .int], returnType := some .byte }, accessFlags := 8, code := some k8c1 }
def k8c2 : Code := { maxStack := 5, maxLocals := 6, code := jdk_52_method_16_code, exceptionTable := #[], attributes := #[] }
def k8m2 : Method := { name := "compress", desc := "([CII)[B", sig := { parameters := [(.array .char), .int, .int], returnType := some (.array .byte) }, accessFlags := 9, code := some k8c2 }
def k8c3 : Code := { maxStack := 3, maxLocals := 7, code := jdk_52_method_21_code, exceptionTable := #[], attributes := #[] }
def k8m3 : Method := { name := "compress", desc := "([CI[BII)I", sig := { parameters := [(.array .char), .int, (.array .byte), .int, .int], returnType := some .int }, accessFlags := 9, code := some k8c3 }
/-- java/lang/StringUTF16 -/
def k8 : Class := { plain "java/lang/StringUTF16" (some 0) with
  accessFlags := 48
  interfaces := #[]
  cf := some (fileOf pool8 12 #[.nestMembers #[627, 629, 369]] #[{ accessFlags := 0, nameIndex := 9, descriptorIndex := 10, attributes := #[] }, { accessFlags := 8, nameIndex := 261, descriptorIndex := 262, attributes := #[] }, { accessFlags := 9, nameIndex := 117, descriptorIndex := 122, attributes := #[] }, { accessFlags := 9, nameIndex := 117, descriptorIndex := 118, attributes := #[] }] 48 6 #[] #[{ accessFlags := 26, nameIndex := 61, descriptorIndex := 62, attributes := #[] }, { accessFlags := 26, nameIndex := 65, descriptorIndex := 62, attributes := #[] }, { accessFlags := 24, nameIndex := 430, descriptorIndex := 62, attributes := #[] }, { accessFlags := 4120, nameIndex := 46, descriptorIndex := 47, attributes := #[] }])
  fields := #[{ name := "HI_BYTE_SHIFT", type := .int, accessFlags := 26, slot := 0, constantValue := 0 }, { name := "LO_BYTE_SHIFT", type := .int, accessFlags := 26, slot := 1, constantValue := 0 }, { name := "MAX_LENGTH", type := .int, accessFlags := 24, slot := 2, constantValue := 0 }, { name := "$assertionsDisabled", type := .boolean, accessFlags := 4120, slot := 3, constantValue := 0 }]
  methods := #[k8m0, k8m1, k8m2, k8m3]
  instanceTypes := #[]
  staticTypes := #[.int, .int, .int, .boolean]
  resolved := Array.replicate 635 none
  statics := none }

def pool9 : Array CpInfo := pool [(8, .class_ 10), (1, u "java/lang/Iterable"), (24, .class_ 36), (0, u "java/lang/Object")] 25

/-- java/lang/Iterable -/
def k9 : Class := { plain "java/lang/Iterable" (some 0) with
  accessFlags := 1537
  interfaces := #[]
  cf := some (fileOf pool9 8 #[] #[] 1537 35 #[] #[])
  fields := #[]
  methods := #[]
  instanceTypes := #[]
  staticTypes := #[]
  resolved := Array.replicate 62 none
  statics := none }

def pool10 : Array CpInfo := pool [(10, .class_ 12), (1, u "java/util/Collection"), (47, .class_ 61), (0, u "java/lang/Object"), (0, .class_ 63), (0, u "java/lang/Iterable")] 51

/-- java/util/Collection -/
def k10 : Class := { plain "java/util/Collection" (some 0) with
  accessFlags := 1537
  interfaces := #[9]
  cf := some (fileOf pool10 10 #[] #[] 1537 60 #[62] #[])
  fields := #[]
  methods := #[]
  instanceTypes := #[]
  staticTypes := #[]
  resolved := Array.replicate 115 none
  statics := none }

def pool11 : Array CpInfo := pool [(1, .methodref 2 3), (0, .class_ 4), (0, .nameAndType 5 6), (0, u "java/lang/Object"), (0, u "<init>"), (0, u "()V"), (1, .class_ 10), (1, u "java/util/AbstractCollection"), (66, .class_ 78), (0, u "java/util/Collection")] 81

def k11c0 : Code := { maxStack := 1, maxLocals := 1, code := jdk_22_method_1_code, exceptionTable := #[], attributes := #[] }
def k11m0 : Method := { name := "<init>", desc := "()V", sig := { parameters := [], returnType := none }, accessFlags := 4, code := some k11c0 }
/-- java/util/AbstractCollection -/
def k11 : Class := { plain "java/util/AbstractCollection" (some 0) with
  accessFlags := 1057
  interfaces := #[10]
  cf := some (fileOf pool11 8 #[] #[{ accessFlags := 4, nameIndex := 5, descriptorIndex := 6, attributes := #[] }] 1057 2 #[77] #[])
  fields := #[]
  methods := #[k11m0]
  instanceTypes := #[]
  staticTypes := #[]
  resolved := Array.replicate 160 none
  statics := none }

def pool12 : Array CpInfo := pool [(8, .class_ 10), (1, u "java/util/SequencedCollection"), (15, .class_ 27), (0, u "java/lang/Object"), (0, .class_ 29), (0, u "java/util/Collection")] 27

/-- java/util/SequencedCollection -/
def k12 : Class := { plain "java/util/SequencedCollection" (some 0) with
  accessFlags := 1537
  interfaces := #[10]
  cf := some (fileOf pool12 8 #[] #[] 1537 26 #[28] #[])
  fields := #[]
  methods := #[]
  instanceTypes := #[]
  staticTypes := #[]
  resolved := Array.replicate 57 none
  statics := none }

def pool13 : Array CpInfo := pool [(8, .class_ 10), (1, u "java/util/List"), (20, u "(Ljava/lang/Object;)V"), (16, u "<init>"), (26, u "get"), (0, u "(I)Ljava/lang/Object;"), (2, u "size"), (0, u "()I"), (7, u "of"), (7, .class_ 97), (0, u "java/util/ImmutableCollections$List12"), (0, .methodref 96 99), (0, .nameAndType 48 31), (0, .methodref 96 101), (0, .nameAndType 48 102), (0, u "(Ljava/lang/Object;Ljava/lang/Object;)V"), (0, .class_ 104), (0, u "java/lang/Object"), (15, .class_ 121), (0, u "java/util/SequencedCollection"), (76, u "(Ljava/lang/Object;)Ljava/util/List;"), (2, u "(Ljava/lang/Object;Ljava/lang/Object;)Ljava/util/List;")] 49

def k13m0 : Method := { name := "size", desc := "()I", sig := { parameters := [], returnType := some .int }, accessFlags := 1025, code := none }
def k13m1 : Method := { name := "get", desc := "(I)Ljava/lang/Object;", sig := { parameters := [.int], returnType := some (.object "java/lang/Object") }, accessFlags := 1025, code := none }
def k13c2 : Code := { maxStack := 3, maxLocals := 1, code := jdk_40_method_37_code, exceptionTable := #[], attributes := #[] }
def k13m2 : Method := { name := "of", desc := "(Ljava/lang/Object;)Ljava/util/List;", sig := { parameters := [(.object "java/lang/Object")], returnType := some (.object "java/util/List") }, accessFlags := 9, code := some k13c2 }
def k13c3 : Code := { maxStack := 4, maxLocals := 2, code := jdk_40_method_38_code, exceptionTable := #[], attributes := #[] }
def k13m3 : Method := { name := "of", desc := "(Ljava/lang/Object;Ljava/lang/Object;)Ljava/util/List;", sig := { parameters := [(.object "java/lang/Object"), (.object "java/lang/Object")], returnType := some (.object "java/util/List") }, accessFlags := 9, code := some k13c3 }
/-- java/util/List -/
def k13 : Class := { plain "java/util/List" (some 0) with
  accessFlags := 1537
  interfaces := #[12]
  cf := some (fileOf pool13 8 #[] #[{ accessFlags := 1025, nameIndex := 79, descriptorIndex := 80, attributes := #[] }, { accessFlags := 1025, nameIndex := 75, descriptorIndex := 76, attributes := #[] }, { accessFlags := 9, nameIndex := 88, descriptorIndex := 198, attributes := #[] }, { accessFlags := 9, nameIndex := 88, descriptorIndex := 201, attributes := #[] }] 1537 103 #[120] #[])
  fields := #[]
  methods := #[k13m0, k13m1, k13m2, k13m3]
  instanceTypes := #[]
  staticTypes := #[]
  resolved := Array.replicate 251 none
  statics := none }

def pool14 : Array CpInfo := pool [(1, .methodref 2 3), (0, .class_ 4), (0, .nameAndType 5 6), (0, u "java/util/AbstractCollection"), (0, u "<init>"), (0, u "()V"), (0, .fieldref 8 9), (0, .class_ 10), (0, .nameAndType 11 12), (0, u "java/util/AbstractList"), (0, u "modCount"), (0, u "I"), (64, .class_ 78), (0, u "java/util/AbstractList$Itr"), (3, .class_ 83), (0, u "java/util/AbstractList$ListItr"), (9, .class_ 94), (0, u "java/util/AbstractList$RandomAccessSubList"), (3, .class_ 99), (0, u "java/util/AbstractList$SubList"), (33, .class_ 134), (0, u "java/util/List"), (73, .class_ 209), (0, u "java/util/AbstractList$SubList$1"), (0, .class_ 211), (0, u "java/util/AbstractList$RandomAccessSpliterator")] 6

def k14c0 : Code := { maxStack := 2, maxLocals := 1, code := jdk_39_method_1_code, exceptionTable := #[], attributes := #[] }
def k14m0 : Method := { name := "<init>", desc := "()V", sig := { parameters := [], returnType := none }, accessFlags := 4, code := some k14c0 }
/-- java/util/AbstractList -/
def k14 : Class := { plain "java/util/AbstractList" (some 11) with
  accessFlags := 1057
  interfaces := #[13]
  cf := some (fileOf pool14 8 #[.nestMembers #[93, 98, 208, 210, 82, 77]] #[{ accessFlags := 4, nameIndex := 5, descriptorIndex := 6, attributes := #[] }] 1057 2 #[133] #[{ accessFlags := 132, nameIndex := 11, descriptorIndex := 12, attributes := #[] }])
  fields := #[{ name := "modCount", type := .int, accessFlags := 132, slot := 0, constantValue := 0 }]
  methods := #[k14m0]
  instanceTypes := #[.int]
  staticTypes := #[]
  resolved := Array.replicate 218 none
  statics := none }

def pool15 : Array CpInfo := pool [(1, .class_ 2), (0, u "java/util/RandomAccess"), (0, .class_ 4), (0, u "java/lang/Object")] 2

/-- java/util/RandomAccess -/
def k15 : Class := { plain "java/util/RandomAccess" (some 0) with
  accessFlags := 1537
  interfaces := #[]
  cf := some (fileOf pool15 1 #[] #[] 1537 3 #[] #[])
  fields := #[]
  methods := #[]
  instanceTypes := #[]
  staticTypes := #[]
  resolved := Array.replicate 7 none
  statics := none }

def pool16 : Array CpInfo := pool [(1, .class_ 2), (0, u "java/lang/Cloneable"), (0, .class_ 4), (0, u "java/lang/Object")] 2

/-- java/lang/Cloneable -/
def k16 : Class := { plain "java/lang/Cloneable" (some 0) with
  accessFlags := 1537
  interfaces := #[]
  cf := some (fileOf pool16 1 #[] #[] 1537 3 #[] #[])
  fields := #[]
  methods := #[]
  instanceTypes := #[]
  staticTypes := #[]
  resolved := Array.replicate 7 none
  statics := none }

def pool17 : Array CpInfo := pool [(1, .methodref 2 3), (0, .class_ 4), (0, .nameAndType 5 6), (0, u "java/util/AbstractList"), (0, u "<init>"), (0, u "()V"), (2, .fieldref 10 11), (0, .class_ 12), (0, .nameAndType 13 14), (0, u "java/util/ArrayList"), (0, u "elementData"), (0, u "[Ljava/lang/Object;"), (2, u "EMPTY_ELEMENTDATA"), (21, .fieldref 10 40), (0, .nameAndType 41 14), (0, u "DEFAULTCAPACITY_EMPTY_ELEMENTDATA"), (8, u "size"), (0, u "I"), (96, .class_ 149), (0, u "java/util/List"), (112, .class_ 263), (0, u "java/util/ArrayList$ListItr"), (3, .class_ 268), (0, u "java/util/ArrayList$Itr"), (7, .class_ 277), (0, u "java/util/ArrayList$SubList"), (12, .class_ 291), (0, u "java/util/ArrayList$ArrayListSpliterator"), (37, .class_ 330), (0, u "java/util/RandomAccess"), (0, .class_ 332), (0, u "java/lang/Cloneable"), (0, .class_ 334), (0, u "java/io/Serializable"), (0, u "serialVersionUID"), (0, u "J"), (3, u "DEFAULT_CAPACITY"), (159, .class_ 501), (0, u "java/util/ArrayList$SubList$2"), (0, .class_ 503), (0, u "java/util/ArrayList$SubList$1")] 5

def k17c0 : Code := { maxStack := 2, maxLocals := 1, code := jdk_38_method_2_code, exceptionTable := #[], attributes := #[] }
def k17m0 : Method := { name := "<init>", desc := "()V", sig := { parameters := [], returnType := none }, accessFlags := 1, code := some k17c0 }
/-- java/util/ArrayList -/
def k17 : Class := { plain "java/util/ArrayList" (some 14) with
  accessFlags := 33
  interfaces := #[13, 15, 16, 2]
  cf := some (fileOf pool17 10 #[.nestMembers #[290, 276, 500, 502, 262, 267]] #[{ accessFlags := 1, nameIndex := 5, descriptorIndex := 6, attributes := #[] }] 33 2 #[148, 329, 331, 333] #[{ accessFlags := 26, nameIndex := 335, descriptorIndex := 336, attributes := #[] }, { accessFlags := 26, nameIndex := 340, descriptorIndex := 51, attributes := #[] }, { accessFlags := 26, nameIndex := 17, descriptorIndex := 14, attributes := #[] }, { accessFlags := 26, nameIndex := 41, descriptorIndex := 14, attributes := #[] }, { accessFlags := 128, nameIndex := 13, descriptorIndex := 14, attributes := #[] }, { accessFlags := 2, nameIndex := 50, descriptorIndex := 51, attributes := #[] }])
  fields := #[{ name := "serialVersionUID", type := .long, accessFlags := 26, slot := 0, constantValue := 0 }, { name := "DEFAULT_CAPACITY", type := .int, accessFlags := 26, slot := 1, constantValue := 0 }, { name := "EMPTY_ELEMENTDATA", type := (.array (.object "java/lang/Object")), accessFlags := 26, slot := 2, constantValue := 0 }, { name := "DEFAULTCAPACITY_EMPTY_ELEMENTDATA", type := (.array (.object "java/lang/Object")), accessFlags := 26, slot := 3, constantValue := 0 }, { name := "elementData", type := (.array (.object "java/lang/Object")), accessFlags := 128, slot := 1, constantValue := 0 }, { name := "size", type := .int, accessFlags := 2, slot := 2, constantValue := 0 }]
  methods := #[k17m0]
  instanceTypes := #[.int, (.array (.object "java/lang/Object")), .int]
  staticTypes := #[.long, .int, (.array (.object "java/lang/Object")), (.array (.object "java/lang/Object"))]
  resolved := Array.replicate 509 none
  statics := some 1 }

def pool18 : Array CpInfo := pool [(1, .methodref 2 3), (0, .class_ 4), (0, .nameAndType 5 6), (0, u "java/lang/Object"), (0, u "<init>"), (0, u "()V"), (0, .class_ 8), (0, u "java/lang/Record")] 13

def k18c0 : Code := { maxStack := 1, maxLocals := 1, code := jdk_30_method_1_code, exceptionTable := #[], attributes := #[] }
def k18m0 : Method := { name := "<init>", desc := "()V", sig := { parameters := [], returnType := none }, accessFlags := 4, code := some k18c0 }
/-- java/lang/Record -/
def k18 : Class := { plain "java/lang/Record" (some 0) with
  accessFlags := 1057
  interfaces := #[]
  cf := some (fileOf pool18 7 #[] #[{ accessFlags := 4, nameIndex := 5, descriptorIndex := 6, attributes := #[] }] 1057 2 #[] #[])
  fields := #[]
  methods := #[k18m0]
  instanceTypes := #[]
  staticTypes := #[]
  resolved := Array.replicate 22 none
  statics := none }

def pool19 : Array CpInfo := pool [(1, .methodref 2 3), (0, .class_ 4), (0, .nameAndType 5 6), (0, u "java/lang/Record"), (0, u "<init>"), (0, u "()V"), (0, .fieldref 8 9), (0, .class_ 10), (0, .nameAndType 11 12), (0, u "com/example/termwise/termwise/core/Contract"), (0, u "id"), (0, u "Ljava/lang/String;"), (0, .fieldref 8 14), (0, .nameAndType 15 12), (0, u "currency"), (0, .fieldref 8 17), (0, .nameAndType 18 19), (0, u "decimals"), (0, u "I"), (0, .fieldref 8 21), (0, .nameAndType 22 23), (0, u "separateRevenue"), (0, u "Z"), (0, .fieldref 8 25), (0, .nameAndType 26 27), (0, u "lines"), (0, u "Ljava/util/List;"), (4, .class_ 34), (1, u "java/util/List"), (21, .fieldref 57 58), (0, .class_ 59), (0, .nameAndType 60 61), (0, u "com/example/termwise/termwise/core/LimitKind"), (0, u "BILLING"), (0, u "Lcom/example/termwise/termwise/core/LimitKind;"), (0, .fieldref 57 63), (0, .nameAndType 64 61), (0, u "REVENUE"), (0, .interfaceMethodref 32 66), (0, .nameAndType 67 68), (0, u "of"), (0, u "(Ljava/lang/Object;Ljava/lang/Object;)Ljava/util/List;"), (0, .interfaceMethodref 32 70), (0, .nameAndType 67 71), (0, u "(Ljava/lang/Object;)Ljava/util/List;"), (36, u "ORDER"), (0, u "Ljava/util/Comparator;"), (3, u "(Ljava/lang/String;Ljava/lang/String;IZLjava/util/List;)V"), (8, u "limitKinds"), (0, u "()Ljava/util/List;"), (1, u "recognizedKind"), (0, u "()Lcom/example/termwise/termwise/core/LimitKind;")] 44

def k19c0 : Code := { maxStack := 2, maxLocals := 6, code := prog_34_method_1_code, exceptionTable := #[], attributes := #[] }
def k19m0 : Method := { name := "<init>", desc := "(Ljava/lang/String;Ljava/lang/String;IZLjava/util/List;)V", sig := { parameters := [(.object "java/lang/String"), (.object "java/lang/String"), .int, .boolean, (.object "java/util/List")], returnType := none }, accessFlags := 1, code := some k19c0 }
def k19c1 : Code := { maxStack := 2, maxLocals := 1, code := prog_34_method_3_code, exceptionTable := #[], attributes := #[] }
def k19m1 : Method := { name := "limitKinds", desc := "()Ljava/util/List;", sig := { parameters := [], returnType := some (.object "java/util/List") }, accessFlags := 1, code := some k19c1 }
def k19c2 : Code := { maxStack := 1, maxLocals := 1, code := prog_34_method_4_code, exceptionTable := #[], attributes := #[] }
def k19m2 : Method := { name := "recognizedKind", desc := "()Lcom/example/termwise/termwise/core/LimitKind;", sig := { parameters := [], returnType := some (.object "com/example/termwise/termwise/core/LimitKind") }, accessFlags := 1, code := some k19c2 }
/-- com/example/termwise/termwise/core/Contract -/
def k19 : Class := { plain "com/example/termwise/termwise/core/Contract" (some 18) with
  accessFlags := 49
  interfaces := #[]
  cf := some (fileOf pool19 8 #[] #[{ accessFlags := 1, nameIndex := 5, descriptorIndex := 113, attributes := #[] }, { accessFlags := 1, nameIndex := 122, descriptorIndex := 123, attributes := #[] }, { accessFlags := 1, nameIndex := 125, descriptorIndex := 126, attributes := #[] }] 49 2 #[] #[{ accessFlags := 18, nameIndex := 11, descriptorIndex := 12, attributes := #[] }, { accessFlags := 18, nameIndex := 15, descriptorIndex := 12, attributes := #[] }, { accessFlags := 18, nameIndex := 18, descriptorIndex := 19, attributes := #[] }, { accessFlags := 18, nameIndex := 22, descriptorIndex := 23, attributes := #[] }, { accessFlags := 18, nameIndex := 26, descriptorIndex := 27, attributes := #[] }, { accessFlags := 25, nameIndex := 108, descriptorIndex := 109, attributes := #[] }])
  fields := #[{ name := "id", type := (.object "java/lang/String"), accessFlags := 18, slot := 0, constantValue := 0 }, { name := "currency", type := (.object "java/lang/String"), accessFlags := 18, slot := 1, constantValue := 0 }, { name := "decimals", type := .int, accessFlags := 18, slot := 2, constantValue := 0 }, { name := "separateRevenue", type := .boolean, accessFlags := 18, slot := 3, constantValue := 0 }, { name := "lines", type := (.object "java/util/List"), accessFlags := 18, slot := 4, constantValue := 0 }, { name := "ORDER", type := (.object "java/util/Comparator"), accessFlags := 25, slot := 0, constantValue := 0 }]
  methods := #[k19m0, k19m1, k19m2]
  instanceTypes := #[(.object "java/lang/String"), (.object "java/lang/String"), .int, .boolean, (.object "java/util/List")]
  staticTypes := #[(.object "java/util/Comparator")]
  resolved := Array.replicate 171 none
  statics := none }

def pool20 : Array CpInfo := pool [(2, .class_ 4), (1, u "java/lang/Enum"), (0, u "name"), (0, u "Ljava/lang/String;"), (2, u "ordinal"), (0, u "I"), (1, .class_ 14), (1, u "java/lang/Object"), (4, u "hash"), (86, .class_ 108), (1, u "java/lang/Enum$EnumDesc"), (2, .class_ 112), (0, u "java/lang/constant/Constable"), (0, .class_ 114), (0, u "java/lang/Comparable"), (0, .class_ 116), (0, u "java/io/Serializable")] 87

/-- java/lang/Enum -/
def k20 : Class := { plain "java/lang/Enum" (some 0) with
  accessFlags := 1057
  interfaces := #[5, 3, 2]
  cf := some (fileOf pool20 2 #[.nestMembers #[106]] #[] 1057 12 #[111, 113, 115] #[{ accessFlags := 18, nameIndex := 5, descriptorIndex := 6, attributes := #[] }, { accessFlags := 18, nameIndex := 9, descriptorIndex := 10, attributes := #[] }, { accessFlags := 2, nameIndex := 19, descriptorIndex := 10, attributes := #[] }])
  fields := #[{ name := "name", type := (.object "java/lang/String"), accessFlags := 18, slot := 0, constantValue := 0 }, { name := "ordinal", type := .int, accessFlags := 18, slot := 1, constantValue := 0 }, { name := "hash", type := .int, accessFlags := 2, slot := 2, constantValue := 0 }]
  methods := #[]
  instanceTypes := #[(.object "java/lang/String"), .int, .int]
  staticTypes := #[]
  resolved := Array.replicate 204 none
  statics := none }

def pool21 : Array CpInfo := pool [(1, .class_ 2), (0, u "com/example/termwise/termwise/core/LimitKind"), (2, u "BILLING"), (0, u "Lcom/example/termwise/termwise/core/LimitKind;"), (2, u "REVENUE"), (2, u "$VALUES"), (0, u "[Lcom/example/termwise/termwise/core/LimitKind;"), (6, .class_ 22), (1, u "java/lang/Enum"), (47, .class_ 72), (1, u "com/example/termwise/termwise/core/LimitKind$1")] 30

/-- com/example/termwise/termwise/core/LimitKind -/
def k21 : Class := { plain "com/example/termwise/termwise/core/LimitKind" (some 20) with
  accessFlags := 16433
  interfaces := #[]
  cf := some (fileOf pool21 1 #[.nestMembers #[70]] #[] 16433 20 #[] #[{ accessFlags := 16409, nameIndex := 5, descriptorIndex := 6, attributes := #[] }, { accessFlags := 16409, nameIndex := 9, descriptorIndex := 6, attributes := #[] }, { accessFlags := 4122, nameIndex := 12, descriptorIndex := 13, attributes := #[] }])
  fields := #[{ name := "BILLING", type := (.object "com/example/termwise/termwise/core/LimitKind"), accessFlags := 16409, slot := 0, constantValue := 0 }, { name := "REVENUE", type := (.object "com/example/termwise/termwise/core/LimitKind"), accessFlags := 16409, slot := 1, constantValue := 0 }, { name := "$VALUES", type := (.array (.object "com/example/termwise/termwise/core/LimitKind")), accessFlags := 4122, slot := 2, constantValue := 0 }]
  methods := #[]
  instanceTypes := #[(.object "java/lang/String"), .int, .int]
  staticTypes := #[(.object "com/example/termwise/termwise/core/LimitKind"), (.object "com/example/termwise/termwise/core/LimitKind"), (.array (.object "com/example/termwise/termwise/core/LimitKind"))]
  resolved := Array.replicate 103 none
  statics := some 2 }

def pool22 : Array CpInfo := pool [(1, .methodref 2 3), (0, .class_ 4), (0, .nameAndType 5 6), (0, u "java/util/AbstractCollection"), (0, u "<init>"), (0, u "()V"), (1, .class_ 10), (1, u "java/util/ImmutableCollections"), (2, .class_ 14), (0, u "java/util/ImmutableCollections$AbstractImmutableCollection")] 41

def k22c0 : Code := { maxStack := 1, maxLocals := 1, code := jdk_47_method_1_code, exceptionTable := #[], attributes := #[] }
def k22m0 : Method := { name := "<init>", desc := "()V", sig := { parameters := [], returnType := none }, accessFlags := 0, code := some k22c0 }
/-- java/util/ImmutableCollections$AbstractImmutableCollection -/
def k22 : Class := { plain "java/util/ImmutableCollections$AbstractImmutableCollection" (some 11) with
  accessFlags := 1056
  interfaces := #[]
  cf := some (fileOf pool22 13 #[.nestHost 8] #[{ accessFlags := 0, nameIndex := 5, descriptorIndex := 6, attributes := #[] }] 1056 2 #[] #[])
  fields := #[]
  methods := #[k22m0]
  instanceTypes := #[]
  staticTypes := #[]
  resolved := Array.replicate 56 none
  statics := none }

def pool23 : Array CpInfo := pool [(1, .methodref 2 3), (0, .class_ 4), (0, .nameAndType 5 6), (0, u "java/util/ImmutableCollections$AbstractImmutableCollection"), (0, u "<init>"), (0, u "()V"), (1, .class_ 10), (1, u "java/util/ImmutableCollections"), (3, .class_ 16), (1, u "java/util/ImmutableCollections$AbstractImmutableList"), (60, .class_ 78), (0, u "java/util/List"), (45, .class_ 125), (0, u "java/util/RandomAccess")] 70

def k23c0 : Code := { maxStack := 1, maxLocals := 1, code := jdk_46_method_1_code, exceptionTable := #[], attributes := #[] }
def k23m0 : Method := { name := "<init>", desc := "()V", sig := { parameters := [], returnType := none }, accessFlags := 0, code := some k23c0 }
/-- java/util/ImmutableCollections$AbstractImmutableList -/
def k23 : Class := { plain "java/util/ImmutableCollections$AbstractImmutableList" (some 22) with
  accessFlags := 1056
  interfaces := #[13, 15]
  cf := some (fileOf pool23 14 #[.nestHost 8] #[{ accessFlags := 0, nameIndex := 5, descriptorIndex := 6, attributes := #[] }] 1056 2 #[77, 124] #[])
  fields := #[]
  methods := #[k23m0]
  instanceTypes := #[]
  staticTypes := #[]
  resolved := Array.replicate 196 none
  statics := none }

def pool24 : Array CpInfo := pool [(1, .methodref 2 3), (0, .class_ 4), (0, .nameAndType 5 6), (0, u "java/util/ImmutableCollections$AbstractImmutableList"), (0, u "<init>"), (0, u "()V"), (0, .methodref 8 9), (0, .class_ 10), (0, .nameAndType 11 12), (0, u "java/util/Objects"), (0, u "requireNonNull"), (0, u "(Ljava/lang/Object;)Ljava/lang/Object;"), (0, .fieldref 14 15), (0, .class_ 16), (0, .nameAndType 17 18), (0, u "java/util/ImmutableCollections$List12"), (0, u "e0"), (0, u "Ljava/lang/Object;"), (0, .fieldref 20 21), (0, .class_ 22), (0, .nameAndType 23 18), (0, u "java/util/ImmutableCollections"), (0, u "EMPTY"), (0, .fieldref 14 25), (0, .nameAndType 26 18), (0, u "e1"), (24, u "size"), (0, u "()I"), (17, .class_ 71), (0, u "java/io/Serializable"), (4, u "(Ljava/lang/Object;)V"), (8, u "(Ljava/lang/Object;Ljava/lang/Object;)V"), (4, u "get"), (0, u "(I)Ljava/lang/Object;")] 33

def k24c0 : Code := { maxStack := 2, maxLocals := 2, code := jdk_44_method_1_code, exceptionTable := #[], attributes := #[] }
def k24m0 : Method := { name := "<init>", desc := "(Ljava/lang/Object;)V", sig := { parameters := [(.object "java/lang/Object")], returnType := none }, accessFlags := 0, code := some k24c0 }
def k24c1 : Code := { maxStack := 2, maxLocals := 3, code := jdk_44_method_2_code, exceptionTable := #[], attributes := #[] }
def k24m1 : Method := { name := "<init>", desc := "(Ljava/lang/Object;Ljava/lang/Object;)V", sig := { parameters := [(.object "java/lang/Object"), (.object "java/lang/Object")], returnType := none }, accessFlags := 0, code := some k24c1 }
def k24c2 : Code := { maxStack := 2, maxLocals := 1, code := jdk_44_method_3_code, exceptionTable := #[], attributes := #[] }
def k24m2 : Method := { name := "size", desc := "()I", sig := { parameters := [], returnType := some .int }, accessFlags := 1, code := some k24c2 }
def k24c3 : Code := { maxStack := 2, maxLocals := 2, code := jdk_44_method_5_code, exceptionTable := #[], attributes := #[] }
def k24m3 : Method := { name := "get", desc := "(I)Ljava/lang/Object;", sig := { parameters := [.int], returnType := some (.object "java/lang/Object") }, accessFlags := 1, code := some k24c3 }
/-- java/util/ImmutableCollections$List12 -/
def k24 : Class := { plain "java/util/ImmutableCollections$List12" (some 23) with
  accessFlags := 48
  interfaces := #[2]
  cf := some (fileOf pool24 14 #[.nestHost 20] #[{ accessFlags := 0, nameIndex := 5, descriptorIndex := 76, attributes := #[] }, { accessFlags := 0, nameIndex := 5, descriptorIndex := 85, attributes := #[] }, { accessFlags := 1, nameIndex := 51, descriptorIndex := 52, attributes := #[] }, { accessFlags := 1, nameIndex := 90, descriptorIndex := 91, attributes := #[] }] 48 2 #[70] #[{ accessFlags := 18, nameIndex := 17, descriptorIndex := 18, attributes := #[] }, { accessFlags := 18, nameIndex := 26, descriptorIndex := 18, attributes := #[] }])
  fields := #[{ name := "e0", type := (.object "java/lang/Object"), accessFlags := 18, slot := 0, constantValue := 0 }, { name := "e1", type := (.object "java/lang/Object"), accessFlags := 18, slot := 1, constantValue := 0 }]
  methods := #[k24m0, k24m1, k24m2, k24m3]
  instanceTypes := #[(.object "java/lang/Object"), (.object "java/lang/Object")]
  staticTypes := #[]
  resolved := Array.replicate 125 none
  statics := none }

def pool25 : Array CpInfo := pool [(2, .class_ 4), (1, u "java/lang/Object"), (0, u "<init>"), (0, u "()V"), (35, .class_ 44), (1, u "java/util/Objects"), (0, u "requireNonNull"), (0, u "(Ljava/lang/Object;)Ljava/lang/Object;")] 137

def k25m0 : Method := { name := "<init>", desc := "()V", sig := { parameters := [], returnType := none }, accessFlags := 2, code := none }
def k25c1 : Code := { maxStack := 2, maxLocals := 1, code := jdk_31_method_10_code, exceptionTable := #[], attributes := #[] }
def k25m1 : Method := { name := "requireNonNull", desc := "(Ljava/lang/Object;)Ljava/lang/Object;", sig := { parameters := [(.object "java/lang/Object")], returnType := some (.object "java/lang/Object") }, accessFlags := 9, code := some k25c1 }
/-- java/util/Objects -/
def k25 : Class := { plain "java/util/Objects" (some 0) with
  accessFlags := 49
  interfaces := #[]
  cf := some (fileOf pool25 42 #[] #[{ accessFlags := 2, nameIndex := 5, descriptorIndex := 6, attributes := #[] }, { accessFlags := 9, nameIndex := 45, descriptorIndex := 46, attributes := #[] }] 49 2 #[] #[])
  fields := #[]
  methods := #[k25m0, k25m1]
  instanceTypes := #[]
  staticTypes := #[]
  resolved := Array.replicate 184 none
  statics := none }

def pool26 : Array CpInfo := pool [(2, .class_ 4), (1, u "java/lang/Object"), (0, u "<init>"), (0, u "()V"), (3, .class_ 11), (0, u "java/util/ImmutableCollections$List12"), (0, .class_ 13), (0, u "java/util/ImmutableCollections$ListN"), (3, u "Z"), (29, .class_ 49), (1, u "java/util/ImmutableCollections"), (0, u "$assertionsDisabled"), (5, u "[Ljava/lang/Object;"), (5, u "EMPTY_LIST"), (0, u "Ljava/util/ImmutableCollections$ListN;"), (8, u "EMPTY_LIST_NULLS"), (22, u "SALT32L"), (0, u "J"), (2, u "REVERSE"), (6, u "archivedObjects"), (2, u "EMPTY"), (0, u "Ljava/lang/Object;"), (0, .class_ 112), (0, u "java/util/ImmutableCollections$SetN"), (5, u "EMPTY_SET"), (0, u "Ljava/util/ImmutableCollections$SetN;"), (0, .class_ 121), (0, u "java/util/ImmutableCollections$MapN"), (3, u "EMPTY_MAP"), (0, u "Ljava/util/ImmutableCollections$MapN;"), (4, u "EXPAND_FACTOR"), (0, u "I"), (36, .class_ 170), (0, u "java/util/ImmutableCollections$MapN$MapNIterator"), (0, .class_ 172), (0, u "java/util/ImmutableCollections$MapN$1"), (0, .class_ 174), (0, u "java/util/ImmutableCollections$Map1"), (0, .class_ 176), (0, u "java/util/ImmutableCollections$AbstractImmutableMap"), (0, .class_ 178), (0, u "java/util/ImmutableCollections$SetN$SetNIterator"), (0, .class_ 180), (0, u "java/util/ImmutableCollections$Set12"), (0, .class_ 182), (0, u "java/util/ImmutableCollections$Set12$1"), (0, .class_ 184), (0, u "java/util/ImmutableCollections$AbstractImmutableSet"), (0, .class_ 186), (0, u "java/util/ImmutableCollections$SubList"), (0, .class_ 188), (0, u "java/util/ImmutableCollections$ListItr"), (0, .class_ 190), (0, u "java/util/ImmutableCollections$AbstractImmutableList"), (0, .class_ 192), (0, u "java/util/ImmutableCollections$AbstractImmutableCollection"), (0, .class_ 194), (0, u "java/util/ImmutableCollections$Access"), (0, .class_ 196), (0, u "java/util/ImmutableCollections$Access$1")] 16

def k26m0 : Method := { name := "<init>", desc := "()V", sig := { parameters := [], returnType := none }, accessFlags := 2, code := none }
/-- java/util/ImmutableCollections -/
def k26 : Class := { plain "java/util/ImmutableCollections" (some 0) with
  accessFlags := 32
  interfaces := #[]
  cf := some (fileOf pool26 47 #[.nestMembers #[120, 169, 171, 173, 175, 111, 177, 179, 181, 183, 12, 10, 185, 187, 189, 191, 193, 195]] #[{ accessFlags := 2, nameIndex := 5, descriptorIndex := 6, attributes := #[] }] 32 2 #[] #[{ accessFlags := 26, nameIndex := 95, descriptorIndex := 96, attributes := #[] }, { accessFlags := 26, nameIndex := 99, descriptorIndex := 17, attributes := #[] }, { accessFlags := 10, nameIndex := 106, descriptorIndex := 56, attributes := #[] }, { accessFlags := 26, nameIndex := 109, descriptorIndex := 110, attributes := #[] }, { accessFlags := 24, nameIndex := 62, descriptorIndex := 63, attributes := #[] }, { accessFlags := 24, nameIndex := 72, descriptorIndex := 63, attributes := #[] }, { accessFlags := 24, nameIndex := 118, descriptorIndex := 119, attributes := #[] }, { accessFlags := 24, nameIndex := 125, descriptorIndex := 126, attributes := #[] }, { accessFlags := 24, nameIndex := 131, descriptorIndex := 132, attributes := #[] }, { accessFlags := 4120, nameIndex := 50, descriptorIndex := 17, attributes := #[] }])
  fields := #[{ name := "SALT32L", type := .long, accessFlags := 26, slot := 0, constantValue := 0 }, { name := "REVERSE", type := .boolean, accessFlags := 26, slot := 1, constantValue := 0 }, { name := "archivedObjects", type := (.array (.object "java/lang/Object")), accessFlags := 10, slot := 2, constantValue := 0 }, { name := "EMPTY", type := (.object "java/lang/Object"), accessFlags := 26, slot := 3, constantValue := 0 }, { name := "EMPTY_LIST", type := (.object "java/util/ImmutableCollections$ListN"), accessFlags := 24, slot := 4, constantValue := 0 }, { name := "EMPTY_LIST_NULLS", type := (.object "java/util/ImmutableCollections$ListN"), accessFlags := 24, slot := 5, constantValue := 0 }, { name := "EMPTY_SET", type := (.object "java/util/ImmutableCollections$SetN"), accessFlags := 24, slot := 6, constantValue := 0 }, { name := "EMPTY_MAP", type := (.object "java/util/ImmutableCollections$MapN"), accessFlags := 24, slot := 7, constantValue := 0 }, { name := "EXPAND_FACTOR", type := .int, accessFlags := 24, slot := 8, constantValue := 0 }, { name := "$assertionsDisabled", type := .boolean, accessFlags := 4120, slot := 9, constantValue := 0 }]
  methods := #[k26m0]
  instanceTypes := #[]
  staticTypes := #[.long, .boolean, (.array (.object "java/lang/Object")), (.object "java/lang/Object"), (.object "java/util/ImmutableCollections$ListN"), (.object "java/util/ImmutableCollections$ListN"), (.object "java/util/ImmutableCollections$SetN"), (.object "java/util/ImmutableCollections$MapN"), .int, .boolean]
  resolved := Array.replicate 213 none
  statics := some 3 }

def pool27 : Array CpInfo := pool [(4, .class_ 6), (1, u "java/lang/Object"), (0, u "<init>"), (0, u "()V"), (5, .class_ 16), (1, u "java/lang/StringLatin1"), (104, u "$assertionsDisabled"), (0, u "Z"), (98, .class_ 223), (1, u "java/lang/StringLatin1$LinesSpliterator"), (166, .class_ 391), (0, u "java/lang/StringLatin1$CharsSpliterator")] 3

def k27m0 : Method := { name := "<init>", desc := "()V", sig := { parameters := [], returnType := none }, accessFlags := 0, code := none }
/-- java/lang/StringLatin1 -/
def k27 : Class := { plain "java/lang/StringLatin1" (some 0) with
  accessFlags := 48
  interfaces := #[]
  cf := some (fileOf pool27 14 #[.nestMembers #[390, 221]] #[{ accessFlags := 0, nameIndex := 7, descriptorIndex := 8, attributes := #[] }] 48 4 #[] #[{ accessFlags := 4120, nameIndex := 121, descriptorIndex := 122, attributes := #[] }])
  fields := #[{ name := "$assertionsDisabled", type := .boolean, accessFlags := 4120, slot := 0, constantValue := 0 }]
  methods := #[k27m0]
  instanceTypes := #[]
  staticTypes := #[.boolean]
  resolved := Array.replicate 395 none
  statics := none }

def pool28 : Array CpInfo := pool [(2, .class_ 4), (1, u "java/lang/Object"), (0, u "<init>"), (0, u "()V"), (17, .class_ 26), (1, u "jdk/internal/util/Preconditions"), (28, .class_ 56), (0, u "jdk/internal/util/Preconditions$4"), (57, .class_ 115), (0, u "jdk/internal/util/Preconditions$1"), (7, u "SIOOBE_FORMATTER"), (0, u "Ljava/util/function/BiFunction;"), (0, .class_ 126), (0, u "jdk/internal/util/Preconditions$2"), (3, u "AIOOBE_FORMATTER"), (0, .class_ 132), (0, u "jdk/internal/util/Preconditions$3"), (3, u "IOOBE_FORMATTER")] 57

def k28m0 : Method := { name := "<init>", desc := "()V", sig := { parameters := [], returnType := none }, accessFlags := 1, code := none }
/-- jdk/internal/util/Preconditions -/
def k28 : Class := { plain "jdk/internal/util/Preconditions" (some 0) with
  accessFlags := 33
  interfaces := #[]
  cf := some (fileOf pool28 24 #[.nestMembers #[55, 131, 125, 114]] #[{ accessFlags := 1, nameIndex := 5, descriptorIndex := 6, attributes := #[] }] 33 2 #[] #[{ accessFlags := 25, nameIndex := 123, descriptorIndex := 124, attributes := #[] }, { accessFlags := 25, nameIndex := 130, descriptorIndex := 124, attributes := #[] }, { accessFlags := 25, nameIndex := 136, descriptorIndex := 124, attributes := #[] }])
  fields := #[{ name := "SIOOBE_FORMATTER", type := (.object "java/util/function/BiFunction"), accessFlags := 25, slot := 0, constantValue := 0 }, { name := "AIOOBE_FORMATTER", type := (.object "java/util/function/BiFunction"), accessFlags := 25, slot := 1, constantValue := 0 }, { name := "IOOBE_FORMATTER", type := (.object "java/util/function/BiFunction"), accessFlags := 25, slot := 2, constantValue := 0 }]
  methods := #[k28m0]
  instanceTypes := #[]
  staticTypes := #[(.object "java/util/function/BiFunction"), (.object "java/util/function/BiFunction"), (.object "java/util/function/BiFunction")]
  resolved := Array.replicate 194 none
  statics := some 4 }

def pool29 : Array CpInfo := pool [(9, u "<init>"), (6, .class_ 18), (1, u "java/lang/Object"), (0, u "()V"), (1, .class_ 23), (1, u "jdk/internal/util/ArraysSupport"), (0, u "LOG2_ARRAY_LONG_INDEX_SCALE"), (0, u "I"), (2, u "U"), (0, u "Ljdk/internal/misc/Unsafe;"), (8, u "BIG_ENDIAN"), (0, u "Z"), (8, u "LOG2_BYTE_BIT_SIZE"), (4, u "LOG2_ARRAY_INT_INDEX_SCALE"), (54, u "JLA"), (0, u "Ljdk/internal/access/JavaLangAccess;"), (11, u "LOG2_ARRAY_BOOLEAN_INDEX_SCALE"), (9, u "LOG2_ARRAY_BYTE_INDEX_SCALE"), (5, u "LOG2_ARRAY_CHAR_INDEX_SCALE"), (5, u "LOG2_ARRAY_SHORT_INDEX_SCALE"), (18, u "LOG2_ARRAY_FLOAT_INDEX_SCALE"), (24, u "LOG2_ARRAY_DOUBLE_INDEX_SCALE"), (89, u "T_BOOLEAN"), (2, u "T_CHAR"), (1, u "T_FLOAT"), (1, u "T_DOUBLE"), (1, u "T_BYTE"), (1, u "T_SHORT"), (1, u "T_INT"), (1, u "T_LONG"), (1, u "SOFT_MAX_ARRAY_LENGTH")] 83

def k29m0 : Method := { name := "<init>", desc := "()V", sig := { parameters := [], returnType := none }, accessFlags := 2, code := none }
/-- jdk/internal/util/ArraysSupport -/
def k29 : Class := { plain "jdk/internal/util/ArraysSupport" (some 0) with
  accessFlags := 33
  interfaces := #[]
  cf := some (fileOf pool29 21 #[] #[{ accessFlags := 2, nameIndex := 9, descriptorIndex := 19, attributes := #[] }] 33 16 #[] #[{ accessFlags := 24, nameIndex := 28, descriptorIndex := 29, attributes := #[] }, { accessFlags := 26, nameIndex := 38, descriptorIndex := 39, attributes := #[] }, { accessFlags := 25, nameIndex := 121, descriptorIndex := 25, attributes := #[] }, { accessFlags := 25, nameIndex := 131, descriptorIndex := 25, attributes := #[] }, { accessFlags := 25, nameIndex := 137, descriptorIndex := 25, attributes := #[] }, { accessFlags := 25, nameIndex := 143, descriptorIndex := 25, attributes := #[] }, { accessFlags := 25, nameIndex := 53, descriptorIndex := 25, attributes := #[] }, { accessFlags := 25, nameIndex := 24, descriptorIndex := 25, attributes := #[] }, { accessFlags := 25, nameIndex := 162, descriptorIndex := 25, attributes := #[] }, { accessFlags := 25, nameIndex := 187, descriptorIndex := 25, attributes := #[] }, { accessFlags := 26, nameIndex := 48, descriptorIndex := 25, attributes := #[] }, { accessFlags := 25, nameIndex := 277, descriptorIndex := 25, attributes := #[] }, { accessFlags := 25, nameIndex := 280, descriptorIndex := 25, attributes := #[] }, { accessFlags := 25, nameIndex := 282, descriptorIndex := 25, attributes := #[] }, { accessFlags := 25, nameIndex := 284, descriptorIndex := 25, attributes := #[] }, { accessFlags := 25, nameIndex := 286, descriptorIndex := 25, attributes := #[] }, { accessFlags := 25, nameIndex := 288, descriptorIndex := 25, attributes := #[] }, { accessFlags := 25, nameIndex := 290, descriptorIndex := 25, attributes := #[] }, { accessFlags := 25, nameIndex := 292, descriptorIndex := 25, attributes := #[] }, { accessFlags := 26, nameIndex := 108, descriptorIndex := 109, attributes := #[] }, { accessFlags := 25, nameIndex := 294, descriptorIndex := 25, attributes := #[] }])
  fields := #[{ name := "U", type := (.object "jdk/internal/misc/Unsafe"), accessFlags := 24, slot := 0, constantValue := 0 }, { name := "BIG_ENDIAN", type := .boolean, accessFlags := 26, slot := 1, constantValue := 0 }, { name := "LOG2_ARRAY_BOOLEAN_INDEX_SCALE", type := .int, accessFlags := 25, slot := 2, constantValue := 0 }, { name := "LOG2_ARRAY_BYTE_INDEX_SCALE", type := .int, accessFlags := 25, slot := 3, constantValue := 0 }, { name := "LOG2_ARRAY_CHAR_INDEX_SCALE", type := .int, accessFlags := 25, slot := 4, constantValue := 0 }, { name := "LOG2_ARRAY_SHORT_INDEX_SCALE", type := .int, accessFlags := 25, slot := 5, constantValue := 0 }, { name := "LOG2_ARRAY_INT_INDEX_SCALE", type := .int, accessFlags := 25, slot := 6, constantValue := 0 }, { name := "LOG2_ARRAY_LONG_INDEX_SCALE", type := .int, accessFlags := 25, slot := 7, constantValue := 0 }, { name := "LOG2_ARRAY_FLOAT_INDEX_SCALE", type := .int, accessFlags := 25, slot := 8, constantValue := 0 }, { name := "LOG2_ARRAY_DOUBLE_INDEX_SCALE", type := .int, accessFlags := 25, slot := 9, constantValue := 0 }, { name := "LOG2_BYTE_BIT_SIZE", type := .int, accessFlags := 26, slot := 10, constantValue := 0 }, { name := "T_BOOLEAN", type := .int, accessFlags := 25, slot := 11, constantValue := 0 }, { name := "T_CHAR", type := .int, accessFlags := 25, slot := 12, constantValue := 0 }, { name := "T_FLOAT", type := .int, accessFlags := 25, slot := 13, constantValue := 0 }, { name := "T_DOUBLE", type := .int, accessFlags := 25, slot := 14, constantValue := 0 }, { name := "T_BYTE", type := .int, accessFlags := 25, slot := 15, constantValue := 0 }, { name := "T_SHORT", type := .int, accessFlags := 25, slot := 16, constantValue := 0 }, { name := "T_INT", type := .int, accessFlags := 25, slot := 17, constantValue := 0 }, { name := "T_LONG", type := .int, accessFlags := 25, slot := 18, constantValue := 0 }, { name := "JLA", type := (.object "jdk/internal/access/JavaLangAccess"), accessFlags := 26, slot := 19, constantValue := 0 }, { name := "SOFT_MAX_ARRAY_LENGTH", type := .int, accessFlags := 25, slot := 20, constantValue := 0 }]
  methods := #[k29m0]
  instanceTypes := #[]
  staticTypes := #[(.object "jdk/internal/misc/Unsafe"), .boolean, .int, .int, .int, .int, .int, .int, .int, .int, .int, .int, .int, .int, .int, .int, .int, .int, .int, (.object "jdk/internal/access/JavaLangAccess"), .int]
  resolved := Array.replicate 378 none
  statics := none }

def pool30 : Array CpInfo := pool [(2, .class_ 4), (1, u "java/util/ImmutableCollections$AbstractImmutableList"), (3, .class_ 10), (1, u "java/util/ImmutableCollections$ListN"), (0, u "elements"), (0, u "[Ljava/lang/Object;"), (2, u "allowNulls"), (0, u "Z"), (42, .class_ 60), (0, u "java/io/Serializable"), (53, .class_ 115), (0, u "java/util/ImmutableCollections")] 3

/-- java/util/ImmutableCollections$ListN -/
def k30 : Class := { plain "java/util/ImmutableCollections$ListN" (some 23) with
  accessFlags := 48
  interfaces := #[2]
  cf := some (fileOf pool30 8 #[.nestHost 114] #[] 48 2 #[59] #[{ accessFlags := 18, nameIndex := 11, descriptorIndex := 12, attributes := #[] }, { accessFlags := 18, nameIndex := 15, descriptorIndex := 16, attributes := #[] }])
  fields := #[{ name := "elements", type := (.array (.object "java/lang/Object")), accessFlags := 18, slot := 0, constantValue := 0 }, { name := "allowNulls", type := .boolean, accessFlags := 18, slot := 1, constantValue := 0 }]
  methods := #[]
  instanceTypes := #[(.array (.object "java/lang/Object")), .boolean]
  staticTypes := #[]
  resolved := Array.replicate 119 none
  statics := none }

/-- the primitive byte -/
def k31 : Class := { plain "byte" none with kind := .primitive 'B', accessFlags := 0x411 }
/-- [B -/
def k32 : Class := { plain "[B" (some 0) with kind := .array 31 .byte, interfaces := #[16, 2], accessFlags := 1041 }

/-- the primitive char -/
def k33 : Class := { plain "char" none with kind := .primitive 'C', accessFlags := 0x411 }
/-- [C -/
def k34 : Class := { plain "[C" (some 0) with kind := .array 33 .char, interfaces := #[16, 2], accessFlags := 1041 }

/-- the primitive int -/
def k35 : Class := { plain "int" none with kind := .primitive 'I', accessFlags := 0x411 }
/-- [I -/
def k36 : Class := { plain "[I" (some 0) with kind := .array 35 .int, interfaces := #[16, 2], accessFlags := 1041 }

/-- [Ljava/lang/Object; -/
def k37 : Class := { plain "[Ljava/lang/Object;" (some 0) with kind := .array 0 (.object "java/lang/Object"), interfaces := #[16, 2], accessFlags := 1041 }

def heap : Heap := #[{ cls := 7, slots := #[.long 0, .int 1, .null, .int 0, .null, .int 0, .int 0], vm := .statics 7 },
  { cls := 17, slots := #[.long 0, .int 0, .ref 7, .ref 8], vm := .statics 17 },
  { cls := 21, slots := #[.ref 5, .ref 6, .null], vm := .statics 21 },
  { cls := 26, slots := #[.long 0, .int 0, .null, .ref 9, .ref 10, .null, .null, .null, .int 0, .int 1], vm := .statics 26 },
  { cls := 28, slots := #[.null, .null, .null], vm := .statics 28 },
  { cls := 21, slots := #[.null, .int 0, .int 0], vm := .none },
  { cls := 21, slots := #[.null, .int 1, .int 0], vm := .none },
  { cls := 37, slots := #[], vm := .none },
  { cls := 37, slots := #[], vm := .none },
  { cls := 0, slots := #[], vm := .none },
  { cls := 30, slots := #[.null, .int 0], vm := .none }]
def classes : Array Class := #[k0, k1, k2, k3, k4, k5, k6, k7, k8, k9, k10, k11, k12, k13, k14, k15, k16, k17, k18, k19, k20, k21, k22, k23, k24, k25, k26, k27, k28, k29, k30, k31, k32, k33, k34, k35, k36, k37]
def interned : List (Array UInt16 × Addr) := []
def slotsUsed : Nat := 35
def theMethod : MethodId := ⟨1, 1⟩
def args0 : Array Value := #[.int 0, .int 1, .int 65, .int 66]
def aboutOver (below : List Frame) : State where
  vm := { classes := classes, interned := interned.toArray }
  heap := heap
  slotsUsed := slotsUsed
  threads := #[{ frames := .invoking theMethod args0 :: below }]
def below0 : List Frame := [.native { method := ⟨0, 0⟩, args := #[] }]
def about1 : State := aboutOver below0
def p0 : Program := .bare "" "" ""
def e0 : Env := launch0.env 0 0 0
theorem w_frames : about1.frames = Frame.invoking theMethod args0 :: below0 := rfl
set_option maxRecDepth 65536 in
theorem w_args : argsFit about1.vm theMethod args0 = true := by decide +kernel
set_option maxRecDepth 65536 in
theorem w_heap : heapFits about1 = true := by decide +kernel
set_option maxRecDepth 65536 in
theorem w_runnable : about1.curStatus? = some .runnable := by decide +kernel
set_option maxRecDepth 65536 in
theorem w_alone : about1.alone = true := by decide +kernel
set_option maxRecDepth 65536 in
theorem w_named : about1.methodNamed? x = some theMethod := by decide +kernel
set_option maxRecDepth 65536 in
theorem w_hears : about1.hears theMethod below0 = true := by decide +kernel
set_option maxRecDepth 65536 in
theorem w_ripe : about1.ripe theMethod args0 below0 = true := by decide +kernel
theorem w_running : about1.status = .running := rfl
set_option maxRecDepth 65536 in
theorem w_room : about1.hasRoom e0.platform room_1 = true :=
  launch0.hasRoom_least _ room_1 (by decide +kernel) (by decide +kernel) (by decide +kernel) (by decide +kernel) (by decide +kernel) (by decide +kernel)
theorem allAtoms_all (ts : List Jvm.Cond) (a : Array Jvm.Value) (st : Jvm.State) : (allAtoms ts).before a st = ts.all (fun c => c.before a st) := by
  induction ts with
  | nil => rfl
  | cons c t ih =>
    show (Jvm.Cond.and c (allAtoms t)).before a st = _
    rw [Jvm.Cond.before_and, ih, List.all_cons]
def words1 : List Jvm.Cond := Jvm.Cond.code x code maxLocals ret :: tables_1
/-- a 'code' word, met by the world's own term for the bytes: nothing is compared byte by byte -/
theorem code_word {y : MethodName} {bytes : ByteArray} {mx : Nat} {rt : Option FieldType} {a : Array Value} {s : State} {m : MethodId} {meth : Method} {c : Code} (h1 : s.methodNamed? y = some m) (h2 : s.vm.method? m = some meth) (h3 : meth.code = some c) (h4 : c.code = bytes)
    (h5 : (c.maxLocals == mx && c.exceptionTable.isEmpty && decide (c.maxStack ≤ mostOperands) && decide (meth.sig.returnType = rt) && !meth.locks && decide (parseMethodDescriptor y.desc = some meth.sig)) = true) : (Jvm.Cond.code y bytes mx rt).before a s = true := by
  simp only [Bool.and_eq_true, beq_iff_eq, Bool.not_eq_true', decide_eq_true_eq] at h5
  obtain ⟨⟨⟨⟨⟨g1, g2⟩, g3⟩, g4⟩, g5⟩, g6⟩ := h5
  simp [Cond.before, Cond.holds, Cond.value, h1, h2, h3, h4, g1, g2, g3, g4, g5, g6]
def isCode : Jvm.Cond → Bool
  | .code _ _ _ _ => true
  | _ => false
theorem all_split {L : List Jvm.Cond} {P : Jvm.Cond → Bool} (h1 : L.all (fun c => isCode c || P c) = true) (h2 : ∀ c ∈ L.filter isCode, P c = true) : L.all P = true := by
  refine List.all_eq_true.mpr fun c hc => ?_
  have h := List.all_eq_true.mp h1 c hc
  rcases Bool.eq_false_or_eq_true (isCode c) with hi | hi
  · exact h2 c (List.mem_filter.mpr ⟨hc, hi⟩)
  · simpa [hi] using h
set_option maxRecDepth 65536 in
theorem w_c0 : (Jvm.Cond.code x code maxLocals ret).before args0 about1 = true := code_word (m := ⟨1, 1⟩) (meth := k1m1) (c := k1c1) (by decide +kernel) rfl rfl rfl (by decide +kernel)
set_option maxRecDepth 65536 in
theorem w_c1 : (Jvm.Cond.code ({ cls := "java/lang/String", name := "<init>", desc := "([C)V" } : Jvm.MethodName) jdk_42_method_3_code (2 : Nat) (Option.none : Option Jvm.ClassFile.FieldType)).before args0 about1 = true := code_word (m := ⟨7, 1⟩) (meth := k7m1) (c := k7c1) (by decide +kernel) rfl rfl rfl (by decide +kernel)
set_option maxRecDepth 65536 in
theorem w_c2 : (Jvm.Cond.code ({ cls := "java/lang/String", name := "<init>", desc := "([CIILjava/lang/Void;)V" } : Jvm.MethodName) jdk_42_method_149_code (6 : Nat) (Option.none : Option Jvm.ClassFile.FieldType)).before args0 about1 = true := code_word (m := ⟨7, 2⟩) (meth := k7m2) (c := k7c2) (by decide +kernel) rfl rfl rfl (by decide +kernel)
set_option maxRecDepth 65536 in
theorem w_c3 : (Jvm.Cond.code ({ cls := "java/lang/Object", name := "<init>", desc := "()V" } : Jvm.MethodName) object_method_1_code (1 : Nat) (Option.none : Option Jvm.ClassFile.FieldType)).before args0 about1 = true := code_word (m := ⟨0, 0⟩) (meth := k0m0) (c := k0c0) (by decide +kernel) rfl rfl rfl (by decide +kernel)
set_option maxRecDepth 65536 in
theorem w_c4 : (Jvm.Cond.code ({ cls := "java/lang/StringUTF16", name := "compress", desc := "([CII)[B" } : Jvm.MethodName) jdk_52_method_16_code (6 : Nat) (Option.some (Jvm.ClassFile.FieldType.array Jvm.ClassFile.FieldType.byte))).before args0 about1 = true := code_word (m := ⟨8, 2⟩) (meth := k8m2) (c := k8c2) (by decide +kernel) rfl rfl rfl (by decide +kernel)
set_option maxRecDepth 65536 in
theorem w_c5 : (Jvm.Cond.code ({ cls := "java/lang/StringUTF16", name := "compress", desc := "([CI[BII)I" } : Jvm.MethodName) jdk_52_method_21_code (7 : Nat) (Option.some Jvm.ClassFile.FieldType.int)).before args0 about1 = true := code_word (m := ⟨8, 3⟩) (meth := k8m3) (c := k8c3) (by decide +kernel) rfl rfl rfl (by decide +kernel)
set_option maxRecDepth 65536 in
theorem w_c6 : (Jvm.Cond.code ({ cls := "java/lang/StringUTF16", name := "coderFromArrayLen", desc := "([BI)B" } : Jvm.MethodName) jdk_52_method_15_code (2 : Nat) (Option.some Jvm.ClassFile.FieldType.byte)).before args0 about1 = true := code_word (m := ⟨8, 1⟩) (meth := k8m1) (c := k8c1) (by decide +kernel) rfl rfl rfl (by decide +kernel)
set_option maxRecDepth 65536 in
theorem w_c7 : (Jvm.Cond.code ({ cls := "java/util/ArrayList", name := "<init>", desc := "()V" } : Jvm.MethodName) jdk_38_method_2_code (1 : Nat) (Option.none : Option Jvm.ClassFile.FieldType)).before args0 about1 = true := code_word (m := ⟨17, 0⟩) (meth := k17m0) (c := k17c0) (by decide +kernel) rfl rfl rfl (by decide +kernel)
set_option maxRecDepth 65536 in
theorem w_c8 : (Jvm.Cond.code ({ cls := "java/util/AbstractList", name := "<init>", desc := "()V" } : Jvm.MethodName) jdk_39_method_1_code (1 : Nat) (Option.none : Option Jvm.ClassFile.FieldType)).before args0 about1 = true := code_word (m := ⟨14, 0⟩) (meth := k14m0) (c := k14c0) (by decide +kernel) rfl rfl rfl (by decide +kernel)
set_option maxRecDepth 65536 in
theorem w_c9 : (Jvm.Cond.code ({ cls := "java/util/AbstractCollection", name := "<init>", desc := "()V" } : Jvm.MethodName) jdk_22_method_1_code (1 : Nat) (Option.none : Option Jvm.ClassFile.FieldType)).before args0 about1 = true := code_word (m := ⟨11, 0⟩) (meth := k11m0) (c := k11c0) (by decide +kernel) rfl rfl rfl (by decide +kernel)
set_option maxRecDepth 65536 in
theorem w_c10 : (Jvm.Cond.code ({ cls := "com/example/termwise/termwise/core/Contract", name := "<init>", desc := "(Ljava/lang/String;Ljava/lang/String;IZLjava/util/List;)V" } : Jvm.MethodName) prog_34_method_1_code (6 : Nat) (Option.none : Option Jvm.ClassFile.FieldType)).before args0 about1 = true := code_word (m := ⟨19, 0⟩) (meth := k19m0) (c := k19c0) (by decide +kernel) rfl rfl rfl (by decide +kernel)
set_option maxRecDepth 65536 in
theorem w_c11 : (Jvm.Cond.code ({ cls := "java/lang/Record", name := "<init>", desc := "()V" } : Jvm.MethodName) jdk_30_method_1_code (1 : Nat) (Option.none : Option Jvm.ClassFile.FieldType)).before args0 about1 = true := code_word (m := ⟨18, 0⟩) (meth := k18m0) (c := k18c0) (by decide +kernel) rfl rfl rfl (by decide +kernel)
set_option maxRecDepth 65536 in
theorem w_c12 : (Jvm.Cond.code ({ cls := "com/example/termwise/termwise/core/Contract", name := "recognizedKind", desc := "()Lcom/example/termwise/termwise/core/LimitKind;" } : Jvm.MethodName) prog_34_method_4_code (1 : Nat) (Option.some (Jvm.ClassFile.FieldType.object "com/example/termwise/termwise/core/LimitKind"))).before args0 about1 = true := code_word (m := ⟨19, 2⟩) (meth := k19m2) (c := k19c2) (by decide +kernel) rfl rfl rfl (by decide +kernel)
set_option maxRecDepth 65536 in
theorem w_c13 : (Jvm.Cond.code ({ cls := "com/example/termwise/termwise/core/Contract", name := "limitKinds", desc := "()Ljava/util/List;" } : Jvm.MethodName) prog_34_method_3_code (1 : Nat) (Option.some (Jvm.ClassFile.FieldType.object "java/util/List"))).before args0 about1 = true := code_word (m := ⟨19, 1⟩) (meth := k19m1) (c := k19c1) (by decide +kernel) rfl rfl rfl (by decide +kernel)
set_option maxRecDepth 65536 in
theorem w_c14 : (Jvm.Cond.code ({ cls := "java/util/List", name := "of", desc := "(Ljava/lang/Object;)Ljava/util/List;" } : Jvm.MethodName) jdk_40_method_37_code (1 : Nat) (Option.some (Jvm.ClassFile.FieldType.object "java/util/List"))).before args0 about1 = true := code_word (m := ⟨13, 2⟩) (meth := k13m2) (c := k13c2) (by decide +kernel) rfl rfl rfl (by decide +kernel)
set_option maxRecDepth 65536 in
theorem w_c15 : (Jvm.Cond.code ({ cls := "java/util/ImmutableCollections$List12", name := "<init>", desc := "(Ljava/lang/Object;)V" } : Jvm.MethodName) jdk_44_method_1_code (2 : Nat) (Option.none : Option Jvm.ClassFile.FieldType)).before args0 about1 = true := code_word (m := ⟨24, 0⟩) (meth := k24m0) (c := k24c0) (by decide +kernel) rfl rfl rfl (by decide +kernel)
set_option maxRecDepth 65536 in
theorem w_c16 : (Jvm.Cond.code ({ cls := "java/util/ImmutableCollections$AbstractImmutableList", name := "<init>", desc := "()V" } : Jvm.MethodName) jdk_46_method_1_code (1 : Nat) (Option.none : Option Jvm.ClassFile.FieldType)).before args0 about1 = true := code_word (m := ⟨23, 0⟩) (meth := k23m0) (c := k23c0) (by decide +kernel) rfl rfl rfl (by decide +kernel)
set_option maxRecDepth 65536 in
theorem w_c17 : (Jvm.Cond.code ({ cls := "java/util/ImmutableCollections$AbstractImmutableCollection", name := "<init>", desc := "()V" } : Jvm.MethodName) jdk_47_method_1_code (1 : Nat) (Option.none : Option Jvm.ClassFile.FieldType)).before args0 about1 = true := code_word (m := ⟨22, 0⟩) (meth := k22m0) (c := k22c0) (by decide +kernel) rfl rfl rfl (by decide +kernel)
set_option maxRecDepth 65536 in
theorem w_c18 : (Jvm.Cond.code ({ cls := "java/util/Objects", name := "requireNonNull", desc := "(Ljava/lang/Object;)Ljava/lang/Object;" } : Jvm.MethodName) jdk_31_method_10_code (1 : Nat) (Option.some (Jvm.ClassFile.FieldType.object "java/lang/Object"))).before args0 about1 = true := code_word (m := ⟨25, 1⟩) (meth := k25m1) (c := k25c1) (by decide +kernel) rfl rfl rfl (by decide +kernel)
set_option maxRecDepth 65536 in
theorem w_c19 : (Jvm.Cond.code ({ cls := "java/util/ImmutableCollections$List12", name := "size", desc := "()I" } : Jvm.MethodName) jdk_44_method_3_code (1 : Nat) (Option.some Jvm.ClassFile.FieldType.int)).before args0 about1 = true := code_word (m := ⟨24, 2⟩) (meth := k24m2) (c := k24c2) (by decide +kernel) rfl rfl rfl (by decide +kernel)
set_option maxRecDepth 65536 in
theorem w_c20 : (Jvm.Cond.code ({ cls := "java/util/ImmutableCollections$List12", name := "get", desc := "(I)Ljava/lang/Object;" } : Jvm.MethodName) jdk_44_method_5_code (2 : Nat) (Option.some (Jvm.ClassFile.FieldType.object "java/lang/Object"))).before args0 about1 = true := code_word (m := ⟨24, 3⟩) (meth := k24m3) (c := k24c3) (by decide +kernel) rfl rfl rfl (by decide +kernel)
set_option maxRecDepth 65536 in
theorem w_c21 : (Jvm.Cond.code ({ cls := "java/util/List", name := "of", desc := "(Ljava/lang/Object;Ljava/lang/Object;)Ljava/util/List;" } : Jvm.MethodName) jdk_40_method_38_code (2 : Nat) (Option.some (Jvm.ClassFile.FieldType.object "java/util/List"))).before args0 about1 = true := code_word (m := ⟨13, 3⟩) (meth := k13m3) (c := k13c3) (by decide +kernel) rfl rfl rfl (by decide +kernel)
set_option maxRecDepth 65536 in
theorem w_c22 : (Jvm.Cond.code ({ cls := "java/util/ImmutableCollections$List12", name := "<init>", desc := "(Ljava/lang/Object;Ljava/lang/Object;)V" } : Jvm.MethodName) jdk_44_method_2_code (3 : Nat) (Option.none : Option Jvm.ClassFile.FieldType)).before args0 about1 = true := code_word (m := ⟨24, 1⟩) (meth := k24m1) (c := k24c1) (by decide +kernel) rfl rfl rfl (by decide +kernel)
def codes1 : List Jvm.Cond := [Jvm.Cond.code x code maxLocals ret, Jvm.Cond.code ({ cls := "java/lang/String", name := "<init>", desc := "([C)V" } : Jvm.MethodName) jdk_42_method_3_code (2 : Nat) (Option.none : Option Jvm.ClassFile.FieldType), Jvm.Cond.code ({ cls := "java/lang/String", name := "<init>", desc := "([CIILjava/lang/Void;)V" } : Jvm.MethodName) jdk_42_method_149_code (6 : Nat) (Option.none : Option Jvm.ClassFile.FieldType), Jvm.Cond.code ({ cls := "java/lang/Object", name := "<init>", desc := "()V" } : Jvm.MethodName) object_method_1_code (1 : Nat) (Option.none : Option Jvm.ClassFile.FieldType), Jvm.Cond.code ({ cls := "java/lang/StringUTF16", name := "compress", desc := "([CII)[B" } : Jvm.MethodName) jdk_52_method_16_code (6 : Nat) (Option.some (Jvm.ClassFile.FieldType.array Jvm.ClassFile.FieldType.byte)), Jvm.Cond.code ({ cls := "java/lang/StringUTF16", name := "compress", desc := "([CI[BII)I" } : Jvm.MethodName) jdk_52_method_21_code (7 : Nat) (Option.some Jvm.ClassFile.FieldType.int), Jvm.Cond.code ({ cls := "java/lang/StringUTF16", name := "coderFromArrayLen", desc := "([BI)B" } : Jvm.MethodName) jdk_52_method_15_code (2 : Nat) (Option.some Jvm.ClassFile.FieldType.byte), Jvm.Cond.code ({ cls := "java/util/ArrayList", name := "<init>", desc := "()V" } : Jvm.MethodName) jdk_38_method_2_code (1 : Nat) (Option.none : Option Jvm.ClassFile.FieldType), Jvm.Cond.code ({ cls := "java/util/AbstractList", name := "<init>", desc := "()V" } : Jvm.MethodName) jdk_39_method_1_code (1 : Nat) (Option.none : Option Jvm.ClassFile.FieldType), Jvm.Cond.code ({ cls := "java/util/AbstractCollection", name := "<init>", desc := "()V" } : Jvm.MethodName) jdk_22_method_1_code (1 : Nat) (Option.none : Option Jvm.ClassFile.FieldType), Jvm.Cond.code ({ cls := "com/example/termwise/termwise/core/Contract", name := "<init>", desc := "(Ljava/lang/String;Ljava/lang/String;IZLjava/util/List;)V" } : Jvm.MethodName) prog_34_method_1_code (6 : Nat) (Option.none : Option Jvm.ClassFile.FieldType), Jvm.Cond.code ({ cls := "java/lang/Record", name := "<init>", desc := "()V" } : Jvm.MethodName) jdk_30_method_1_code (1 : Nat) (Option.none : Option Jvm.ClassFile.FieldType), Jvm.Cond.code ({ cls := "com/example/termwise/termwise/core/Contract", name := "recognizedKind", desc := "()Lcom/example/termwise/termwise/core/LimitKind;" } : Jvm.MethodName) prog_34_method_4_code (1 : Nat) (Option.some (Jvm.ClassFile.FieldType.object "com/example/termwise/termwise/core/LimitKind")), Jvm.Cond.code ({ cls := "com/example/termwise/termwise/core/Contract", name := "limitKinds", desc := "()Ljava/util/List;" } : Jvm.MethodName) prog_34_method_3_code (1 : Nat) (Option.some (Jvm.ClassFile.FieldType.object "java/util/List")), Jvm.Cond.code ({ cls := "java/util/List", name := "of", desc := "(Ljava/lang/Object;)Ljava/util/List;" } : Jvm.MethodName) jdk_40_method_37_code (1 : Nat) (Option.some (Jvm.ClassFile.FieldType.object "java/util/List")), Jvm.Cond.code ({ cls := "java/util/ImmutableCollections$List12", name := "<init>", desc := "(Ljava/lang/Object;)V" } : Jvm.MethodName) jdk_44_method_1_code (2 : Nat) (Option.none : Option Jvm.ClassFile.FieldType), Jvm.Cond.code ({ cls := "java/util/ImmutableCollections$AbstractImmutableList", name := "<init>", desc := "()V" } : Jvm.MethodName) jdk_46_method_1_code (1 : Nat) (Option.none : Option Jvm.ClassFile.FieldType), Jvm.Cond.code ({ cls := "java/util/ImmutableCollections$AbstractImmutableCollection", name := "<init>", desc := "()V" } : Jvm.MethodName) jdk_47_method_1_code (1 : Nat) (Option.none : Option Jvm.ClassFile.FieldType), Jvm.Cond.code ({ cls := "java/util/Objects", name := "requireNonNull", desc := "(Ljava/lang/Object;)Ljava/lang/Object;" } : Jvm.MethodName) jdk_31_method_10_code (1 : Nat) (Option.some (Jvm.ClassFile.FieldType.object "java/lang/Object")), Jvm.Cond.code ({ cls := "java/util/ImmutableCollections$List12", name := "size", desc := "()I" } : Jvm.MethodName) jdk_44_method_3_code (1 : Nat) (Option.some Jvm.ClassFile.FieldType.int), Jvm.Cond.code ({ cls := "java/util/ImmutableCollections$List12", name := "get", desc := "(I)Ljava/lang/Object;" } : Jvm.MethodName) jdk_44_method_5_code (2 : Nat) (Option.some (Jvm.ClassFile.FieldType.object "java/lang/Object")), Jvm.Cond.code ({ cls := "java/util/List", name := "of", desc := "(Ljava/lang/Object;Ljava/lang/Object;)Ljava/util/List;" } : Jvm.MethodName) jdk_40_method_38_code (2 : Nat) (Option.some (Jvm.ClassFile.FieldType.object "java/util/List")), Jvm.Cond.code ({ cls := "java/util/ImmutableCollections$List12", name := "<init>", desc := "(Ljava/lang/Object;Ljava/lang/Object;)V" } : Jvm.MethodName) jdk_44_method_2_code (3 : Nat) (Option.none : Option Jvm.ClassFile.FieldType)]
set_option maxRecDepth 65536 in
theorem codes_eq : words1.filter isCode = codes1 := rfl
theorem w_codes : ∀ c ∈ words1.filter isCode, c.before args0 about1 = true := by
  rw [codes_eq]
  intro c hc
  simp only [codes1, List.mem_cons, List.not_mem_nil, or_false] at hc
  rcases hc with rfl | rfl | rfl | rfl | rfl | rfl | rfl | rfl | rfl | rfl | rfl | rfl | rfl | rfl | rfl | rfl | rfl | rfl | rfl | rfl | rfl | rfl | rfl
  · exact w_c0
  · exact w_c1
  · exact w_c2
  · exact w_c3
  · exact w_c4
  · exact w_c5
  · exact w_c6
  · exact w_c7
  · exact w_c8
  · exact w_c9
  · exact w_c10
  · exact w_c11
  · exact w_c12
  · exact w_c13
  · exact w_c14
  · exact w_c15
  · exact w_c16
  · exact w_c17
  · exact w_c18
  · exact w_c19
  · exact w_c20
  · exact w_c21
  · exact w_c22
set_option maxRecDepth 65536 in
theorem w_t1 : (words1.take 24).all (fun c => isCode c || c.before args0 about1) = true := by decide +kernel
set_option maxRecDepth 65536 in
theorem w_t2 : ((words1.drop 24).take 24).all (fun c => isCode c || c.before args0 about1) = true := by decide +kernel
set_option maxRecDepth 65536 in
theorem w_t3 : (((words1.drop 24).drop 24).take 24).all (fun c => isCode c || c.before args0 about1) = true := by decide +kernel
set_option maxRecDepth 65536 in
theorem w_t4 : ((((words1.drop 24).drop 24).drop 24).take 24).all (fun c => isCode c || c.before args0 about1) = true := by decide +kernel
set_option maxRecDepth 65536 in
theorem w_t5 : (((((words1.drop 24).drop 24).drop 24).drop 24).take 24).all (fun c => isCode c || c.before args0 about1) = true := by decide +kernel
set_option maxRecDepth 65536 in
theorem w_t6 : ((((((words1.drop 24).drop 24).drop 24).drop 24).drop 24).take 24).all (fun c => isCode c || c.before args0 about1) = true := by decide +kernel
set_option maxRecDepth 65536 in
theorem w_t7 : ((((((words1.drop 24).drop 24).drop 24).drop 24).drop 24).drop 24).all (fun c => isCode c || c.before args0 about1) = true := by decide +kernel
theorem w_tables : (allAtoms (Jvm.Cond.code x code maxLocals ret :: tables_1)).before args0 about1 = true := by
  rw [allAtoms_all]
  show words1.all (fun c => c.before args0 about1) = true
  refine all_split ?_ w_codes
  rw [← List.take_append_drop 24 words1, List.all_append, w_t1, ← List.take_append_drop 24 (words1.drop 24), List.all_append, w_t2, ← List.take_append_drop 24 ((words1.drop 24).drop 24), List.all_append, w_t3, ← List.take_append_drop 24 (((words1.drop 24).drop 24).drop 24), List.all_append, w_t4, ← List.take_append_drop 24 ((((words1.drop 24).drop 24).drop 24).drop 24), List.all_append, w_t5, ← List.take_append_drop 24 (((((words1.drop 24).drop 24).drop 24).drop 24).drop 24), List.all_append, w_t6, w_t7]
  rfl
set_option maxRecDepth 65536 in
theorem w_rest : rest_1_c.before args0 about1 = true := by decide +kernel
set_option maxRecDepth 65536 in
theorem w_case : (Jvm.Cond.and given_1 narrow_1).before args0 about1 = true := by decide +kernel
theorem w_applies : (headSpec (Jvm.Cond.code x code maxLocals ret :: tables_1) room_1).applies x e0.platform about1 = true :=
  (Spec.applies_iff w_frames).mpr ⟨w_running, w_runnable, w_alone, w_named, w_hears, w_ripe, w_room, w_tables⟩
theorem atStart : AtStart classFile x code maxLocals ret World_1 tables_1 room_1 Calls_1 rest_1 Pre_1 launch0 p0 e0 about1 theMethod args0 below0 :=
  ⟨lists_1, trivial, launch0.admits_env _ _ _, launch0.least_env, fairChoices_fair.cas, fairChoices_fair.clock, w_frames, w_args, w_heap, w_applies, trivial, w_rest, w_case⟩
end start1
theorem witness_1 : WitnessClaimed_1 := ⟨start1.p0, start1.e0, start1.about1, start1.theMethod, start1.args0, start1.below0, start1.atStart⟩
end Jvm.Pilot.@@N@@
