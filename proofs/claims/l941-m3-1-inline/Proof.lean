import JvmDerived
import JvmDerived.Pilot.@@N@@Statement
import JvmDerived.Pilot.@@N@@Code
set_option linter.unusedVariables false
set_option linter.unusedSimpArgs false
namespace Jvm.Pilot.@@N@@
open Jvm Jvm.ClassFile Sem Op Lib Jvm.Free Jvm.Stand Jvm.LawKit Jvm.RoadKit Bundle Jvm.Pilot.@@N@@.Jvm.D

/-! a segment of plain instructions, run by evaluation -/
abbrev PI := Nat × Instr × Nat × Int32
def getK {ρ : Type} : List Slot → Nat → (Slot → Option ρ) → Option ρ
  | [], _, _ => none
  | a :: _, 0, κ => κ a
  | _ :: l, i + 1, κ => getK l i κ
def setK {ρ : Type} : List Slot → Nat → Slot → (List Slot → Option ρ) → Option ρ
  | [], _, _, _ => none
  | _ :: l, 0, x, κ => κ (x :: l)
  | a :: l, i + 1, x, κ => setK l i x (fun l' => κ (a :: l'))
def stK {ρ : Type} (l : List Slot) (i : Nat) (v : Value) (κ : List Slot → Option ρ) : Option ρ :=
  getK l i fun
    | .unset => setK l i (.val v) κ
    | .val (.int _) => setK l i (.val v) κ
    | .val .null => setK l i (.val v) κ
    | .val (.ref _) => setK l i (.val v) κ
    | .val (.long _) => setK l (i + 1) .unset fun l' => setK l' i (.val v) κ
    | _ => none
def stKL {ρ : Type} (l : List Slot) (i : Nat) (v : Int64) (κ : List Slot → Option ρ) : Option ρ :=
  getK l i fun
    | .unset => getK l (i + 1) fun
      | .unset => setK l i (.val (.long v)) fun l' => setK l' (i + 1) .second κ
      | .val (.int _) => setK l i (.val (.long v)) fun l' => setK l' (i + 1) .second κ
      | .val .null => setK l i (.val (.long v)) fun l' => setK l' (i + 1) .second κ
      | .val (.ref _) => setK l i (.val (.long v)) fun l' => setK l' (i + 1) .second κ
      | _ => none
    | .val (.int _) => getK l (i + 1) fun
      | .unset => setK l i (.val (.long v)) fun l' => setK l' (i + 1) .second κ
      | .val (.int _) => setK l i (.val (.long v)) fun l' => setK l' (i + 1) .second κ
      | .val .null => setK l i (.val (.long v)) fun l' => setK l' (i + 1) .second κ
      | .val (.ref _) => setK l i (.val (.long v)) fun l' => setK l' (i + 1) .second κ
      | _ => none
    | .val (.ref _) => getK l (i + 1) fun
      | .unset => setK l i (.val (.long v)) fun l' => setK l' (i + 1) .second κ
      | .val (.int _) => setK l i (.val (.long v)) fun l' => setK l' (i + 1) .second κ
      | .val .null => setK l i (.val (.long v)) fun l' => setK l' (i + 1) .second κ
      | .val (.ref _) => setK l i (.val (.long v)) fun l' => setK l' (i + 1) .second κ
      | _ => none
    | .val (.long _) => getK l (i + 1) fun
      | .second => setK l i (.val (.long v)) κ
      | _ => none
    | _ => none
def pst {ρ : Type} (i : Instr) (v : Int32) (ls : List Slot) (st : List Value) (κ : List Slot → List Value → Option ρ) : Option ρ :=
  match i with
  | .aload_n k => getK ls k.val fun
    | .val (.ref a) => κ ls (.ref a :: st)
    | .val .null => κ ls (.null :: st)
    | _ => none
  | .aload k => getK ls k fun
    | .val (.ref a) => κ ls (.ref a :: st)
    | .val .null => κ ls (.null :: st)
    | _ => none
  | .iload_n k => getK ls k.val fun
    | .val (.int x) => κ ls (.int x :: st)
    | _ => none
  | .iload k => getK ls k fun
    | .val (.int x) => κ ls (.int x :: st)
    | _ => none
  | .lload_n k => getK ls k.val fun
    | .val (.long x) => κ ls (.long x :: st)
    | _ => none
  | .lload k => getK ls k fun
    | .val (.long x) => κ ls (.long x :: st)
    | _ => none
  | .iconst c => κ ls (.int v :: st)
  | .bipush c => κ ls (.int v :: st)
  | .sipush c => κ ls (.int v :: st)
  | .lconst c => κ ls (.long (Int64.ofNat c.val) :: st)
  | .aconst_null => κ ls (.null :: st)
  | .iadd => match st with
    | .int y :: .int x :: r => κ ls (.int (x + y) :: r)
    | _ => none
  | .isub => match st with
    | .int y :: .int x :: r => κ ls (.int (x - y) :: r)
    | _ => none
  | .imul => match st with
    | .int y :: .int x :: r => κ ls (.int (x * y) :: r)
    | _ => none
  | .iand => match st with
    | .int y :: .int x :: r => κ ls (.int (x &&& y) :: r)
    | _ => none
  | .ior => match st with
    | .int y :: .int x :: r => κ ls (.int (x ||| y) :: r)
    | _ => none
  | .ixor => match st with
    | .int y :: .int x :: r => κ ls (.int (x ^^^ y) :: r)
    | _ => none
  | .ishl => match st with
    | .int y :: .int x :: r => κ ls (.int (x <<< (y &&& 31)) :: r)
    | _ => none
  | .ishr => match st with
    | .int y :: .int x :: r => κ ls (.int (x >>> (y &&& 31)) :: r)
    | _ => none
  | .iushr => match st with
    | .int y :: .int x :: r => κ ls (.int (XT.ushr x y) :: r)
    | _ => none
  | .ladd => match st with
    | .long y :: .long x :: r => κ ls (.long (x + y) :: r)
    | _ => none
  | .lsub => match st with
    | .long y :: .long x :: r => κ ls (.long (x - y) :: r)
    | _ => none
  | .lmul => match st with
    | .long y :: .long x :: r => κ ls (.long (x * y) :: r)
    | _ => none
  | .land => match st with
    | .long y :: .long x :: r => κ ls (.long (x &&& y) :: r)
    | _ => none
  | .lor => match st with
    | .long y :: .long x :: r => κ ls (.long (x ||| y) :: r)
    | _ => none
  | .lxor => match st with
    | .long y :: .long x :: r => κ ls (.long (x ^^^ y) :: r)
    | _ => none
  | .lshl => match st with
    | .int y :: .long x :: r => κ ls (.long (x <<< (y.toInt64 &&& 63)) :: r)
    | _ => none
  | .lshr => match st with
    | .int y :: .long x :: r => κ ls (.long (x >>> (y.toInt64 &&& 63)) :: r)
    | _ => none
  | .lushr => match st with
    | .int y :: .long x :: r => κ ls (.long (XT.ushrL x y) :: r)
    | _ => none
  | .ineg => match st with
    | .int x :: r => κ ls (.int (-x) :: r)
    | _ => none
  | .lneg => match st with
    | .long x :: r => κ ls (.long (-x) :: r)
    | _ => none
  | .i2l => match st with
    | .int x :: r => κ ls (.long (x.toInt64) :: r)
    | _ => none
  | .l2i => match st with
    | .long x :: r => κ ls (.int (x.toInt32) :: r)
    | _ => none
  | .i2b => match st with
    | .int x :: r => κ ls (.int (x.toInt8.toInt32) :: r)
    | _ => none
  | .i2c => match st with
    | .int x :: r => κ ls (.int (x.toUInt32.toUInt16.toUInt32.toInt32) :: r)
    | _ => none
  | .i2s => match st with
    | .int x :: r => κ ls (.int (x.toInt16.toInt32) :: r)
    | _ => none
  | .lcmp => match st with
    | .long y :: .long x :: r => κ ls (.int (XT.cmpL x y) :: r)
    | _ => none
  | .pop => match st with
    | .int x :: r => κ ls (r)
    | .ref x :: r => κ ls (r)
    | .null :: r => κ ls (r)
    | _ => none
  | .dup => match st with
    | .int x :: r => κ ls (.int x :: .int x :: r)
    | .ref x :: r => κ ls (.ref x :: .ref x :: r)
    | .null :: r => κ ls (.null :: .null :: r)
    | _ => none
  | .dup_x1 => match st with
    | .int x :: .int y :: r => κ ls (.int x :: .int y :: .int x :: r)
    | .int x :: .ref y :: r => κ ls (.int x :: .ref y :: .int x :: r)
    | .int x :: .null :: r => κ ls (.int x :: .null :: .int x :: r)
    | .ref x :: .int y :: r => κ ls (.ref x :: .int y :: .ref x :: r)
    | .ref x :: .ref y :: r => κ ls (.ref x :: .ref y :: .ref x :: r)
    | .ref x :: .null :: r => κ ls (.ref x :: .null :: .ref x :: r)
    | .null :: .int y :: r => κ ls (.null :: .int y :: .null :: r)
    | .null :: .ref y :: r => κ ls (.null :: .ref y :: .null :: r)
    | .null :: .null :: r => κ ls (.null :: .null :: .null :: r)
    | _ => none
  | .dup2 => match st with
    | .long x :: r => κ ls (.long x :: .long x :: r)
    | .int x :: .int y :: r => κ ls (.int x :: .int y :: .int x :: .int y :: r)
    | .int x :: .ref y :: r => κ ls (.int x :: .ref y :: .int x :: .ref y :: r)
    | .ref x :: .int y :: r => κ ls (.ref x :: .int y :: .ref x :: .int y :: r)
    | .ref x :: .ref y :: r => κ ls (.ref x :: .ref y :: .ref x :: .ref y :: r)
    | _ => none
  | .istore_n k => match st with
    | .int x :: r => stK ls k.val (.int x) fun ls' => κ ls' r
    | _ => none
  | .istore k => match st with
    | .int x :: r => stK ls k (.int x) fun ls' => κ ls' r
    | _ => none
  | .astore_n k => match st with
    | .ref x :: r => stK ls k.val (.ref x) fun ls' => κ ls' r
    | .null :: r => stK ls k.val .null fun ls' => κ ls' r
    | _ => none
  | .astore k => match st with
    | .ref x :: r => stK ls k (.ref x) fun ls' => κ ls' r
    | .null :: r => stK ls k .null fun ls' => κ ls' r
    | _ => none
  | .lstore_n k => match st with
    | .long x :: r => stKL ls k.val x fun ls' => κ ls' r
    | _ => none
  | .lstore k => match st with
    | .long x :: r => stKL ls k x fun ls' => κ ls' r
    | _ => none
  | .iinc k c => getK ls k fun
    | .val (.int x) => stK ls k (.int (x + v)) fun ls' => κ ls' st
    | _ => none
  | .goto _ => κ ls st
  | _ => none
def ilen : Instr → Nat
  | .aload _ => 2
  | .iload _ => 2
  | .lload _ => 2
  | .astore _ => 2
  | .istore _ => 2
  | .lstore _ => 2
  | .bipush _ => 2
  | .iinc _ _ => 3
  | .sipush _ => 3
  | .goto _ => 3
  | _ => 1
def ival (v : Int32) : Instr → Prop
  | .iconst c => Int32.ofInt c = v
  | .bipush c => (Int8.ofInt c).toInt32 = v
  | .sipush c => (Int16.ofInt c).toInt32 = v
  | .iinc _ c => Int32.ofInt c = v
  | _ => True
instance {v : Int32} {i : Instr} : Decidable (ival v i) := by unfold ival; split <;> infer_instance
def inxt (pc nx : Nat) : Instr → Prop
  | .goto o => 0 ≤ (pc : Int) + o ∧ ((pc : Int) + o).toNat = nx
  | i => pc + ilen i = nx
instance {pc nx : Nat} {i : Instr} : Decidable (inxt pc nx i) := by unfold inxt; split <;> infer_instance
def segOk (code : ByteArray) : Nat → List PI → Nat → Bool
  | pc, [], pe => decide (pc = pe)
  | pc, (q, i, nx, v) :: r, pe => decide (q = pc) && decide (decode code pc = .ok (i, ilen i)) && decide (ival v i) && decide (inxt pc nx i) && segOk code nx r pe
def prun : List PI → List Slot → List Value → Option (List Slot × List Value)
  | [], ls, st => some (ls, st)
  | (_, i, _, v) :: r, ls, st => pst i v ls st fun ls' st' => prun r ls' st'
theorem getK_some {ρ : Type} {κ : Slot → Option ρ} {r : ρ} : ∀ {l : List Slot} {i : Nat}, getK l i κ = some r → ∃ a, l[i]? = some a ∧ κ a = some r
  | [], _, h => by cases h
  | a :: _, 0, h => ⟨a, rfl, h⟩
  | _ :: l, i + 1, h => by obtain ⟨a, h1, h2⟩ := getK_some (l := l) h; exact ⟨a, by simpa using h1, h2⟩
theorem setK_some {ρ : Type} {x : Slot} {r : ρ} : ∀ {l : List Slot} {i : Nat} {κ : List Slot → Option ρ}, setK l i x κ = some r → i < l.length ∧ κ (l.set i x) = some r
  | [], _, _, h => by cases h
  | a :: _, 0, _, h => ⟨by simp, h⟩
  | _ :: l, i + 1, _, h => by obtain ⟨h1, h2⟩ := setK_some (l := l) h; exact ⟨by simpa using h1, by simpa using h2⟩
theorem setAt_list {l : List Slot} {i : Nat} {x : Slot} (h : i < l.length) : setAt l.toArray i x = some (l.set i x).toArray := by simp [setAt, h]
theorem cat_i (x : Int32) : (Value.int x).category = 1 := rfl
theorem cat_l (x : Int64) : (Value.long x).category = 2 := rfl
theorem cat_r (x : Addr) : (Value.ref x).category = 1 := rfl
theorem cat_n : Value.null.category = 1 := rfl
theorem stK_some {ρ : Type} {r : ρ} {v : Value} (hv : v.category = 1) {l : List Slot} {i : Nat} {κ : List Slot → Option ρ} (h : stK l i v κ = some r) : ∃ l', storeLocals l.toArray i v = some l'.toArray ∧ l'.length = l.length ∧ κ l' = some r := by
  obtain ⟨a, h1, h2⟩ := getK_some h
  have e : l.toArray[i]? = some a := by simpa using h1
  split at h2
  all_goals first
    | (cases h2; done)
    | (obtain ⟨h3, h4⟩ := setK_some h2; exact ⟨l.set i (.val v), by simp [storeLocals, storeSelf, e, h1, setAt_list h3, hv, cat_i, cat_l, cat_r, cat_n], by simp, h4⟩)
    | (obtain ⟨h3, h4⟩ := setK_some h2; obtain ⟨h5, h6⟩ := setK_some h4; exact ⟨(l.set (i + 1) .unset).set i (.val v), by simp [storeLocals, storeSelf, e, h1, setAt_list h3, setAt_list h5, hv, cat_i, cat_l, cat_r, cat_n], by simp, h6⟩)
theorem stKL_one {ρ : Type} {r : ρ} {v : Int64} {l : List Slot} {i : Nat} {κ : List Slot → Option ρ} {a : Slot} (h1 : l[i]? = some a) (ha : a = .unset ∨ ∃ w, a = .val w ∧ w.category = 1)
    (h2 : (getK l (i + 1) fun
      | .unset => setK l i (.val (.long v)) fun l' => setK l' (i + 1) .second κ
      | .val (.int _) => setK l i (.val (.long v)) fun l' => setK l' (i + 1) .second κ
      | .val .null => setK l i (.val (.long v)) fun l' => setK l' (i + 1) .second κ
      | .val (.ref _) => setK l i (.val (.long v)) fun l' => setK l' (i + 1) .second κ
      | _ => none) = some r) : ∃ l', storeLocals l.toArray i (.long v) = some l'.toArray ∧ l'.length = l.length ∧ κ l' = some r := by
  obtain ⟨b, h3, h4⟩ := getK_some h2
  have e : l.toArray[i]? = some a := by simpa using h1
  have e' : (l.set i (.val (.long v))).toArray[i + 1]? = some b := by simpa [List.getElem?_set] using h3
  have hs : storeSelf l.toArray i (.long v) = storeLocals l.toArray i (.long v) := by
    rcases ha with rfl | ⟨w, rfl, hw⟩ <;> simp [storeLocals, h1, *]
  rw [← hs]
  split at h4
  all_goals first
    | (cases h4; done)
    | (obtain ⟨h5, h6⟩ := setK_some h4; obtain ⟨h7, h8⟩ := setK_some h6
       refine ⟨(l.set i (.val (.long v))).set (i + 1) .second, ?_, by simp, h8⟩
       simp only [storeSelf, setAt_list h5, setAt_list h7, e', cat_i, cat_l, cat_r, cat_n, Option.bind_eq_bind, Option.bind_some, if_true, if_false, reduceIte, Nat.reduceEqDiff])
theorem stKL_some {ρ : Type} {r : ρ} {v : Int64} {l : List Slot} {i : Nat} {κ : List Slot → Option ρ} (h : stKL l i v κ = some r) : ∃ l', storeLocals l.toArray i (.long v) = some l'.toArray ∧ l'.length = l.length ∧ κ l' = some r := by
  obtain ⟨a, h1, h2⟩ := getK_some h
  have e : l.toArray[i]? = some a := by simpa using h1
  split at h2
  · exact stKL_one h1 (Or.inl rfl) h2
  · exact stKL_one h1 (Or.inr ⟨_, rfl, rfl⟩) h2
  · exact stKL_one h1 (Or.inr ⟨_, rfl, rfl⟩) h2
  · obtain ⟨b, h3, h4⟩ := getK_some h2
    split at h4
    · obtain ⟨h5, h6⟩ := setK_some h4
      have h7 : i + 1 < l.length := (List.getElem?_eq_some_iff.mp h3).1
      have q : ((l.set (i + 1) .unset).set i (.val (.long v))).set (i + 1) .second = l.set i (.val (.long v)) := by
        apply List.ext_getElem?; intro j
        simp only [List.getElem?_set, List.length_set]
        by_cases e1 : i + 1 = j
        · subst e1; obtain ⟨_, h8⟩ := List.getElem?_eq_some_iff.mp h3; simp [h7, h8]
        · simp [e1]
      refine ⟨l.set i (.val (.long v)), ?_, by simp, h6⟩
      rw [← q]
      have a1 : setAt l.toArray (i + 1) .unset = some (l.set (i + 1) .unset).toArray := setAt_list h7
      have a2 : setAt (l.set (i + 1) .unset).toArray i (.val (.long v)) = some ((l.set (i + 1) .unset).set i (.val (.long v))).toArray := setAt_list (by simpa using h5)
      have a3 : setAt ((l.set (i + 1) .unset).set i (.val (.long v))).toArray (i + 1) .second = some (((l.set (i + 1) .unset).set i (.val (.long v))).set (i + 1) .second).toArray := setAt_list (by simpa using h7)
      have a4 : ((l.set (i + 1) .unset).set i (.val (.long v))).toArray[i + 1]? = some .unset := by simp [List.getElem?_set, h7]
      simp only [storeLocals, storeSelf, e, a1, a2, a3, a4, cat_l, Option.bind_eq_bind, Option.bind_some, if_true]
    · cases h4
  · cases h2

theorem pst_sound {ρ : Type} {r : ρ} {tb : Tables} [Ours tb] {e : Env} {below : List Frame} {T : State} {m : MethodId} {c : Code} {code : ByteArray} (hA : At T m c below) (hx : tb.exec = Jvm.exec) (hc : c.code = code) {i : Instr} {v : Int32} {pc nx : Nat} {ls : List Slot} {st : List Value} {κ : List Slot → List Value → Option ρ}
    (hd : decode code pc = .ok (i, ilen i)) (hv : ival v i) (hn : inxt pc nx i) (h : pst i v ls st κ = some r) :
    ∃ ls' st', ls'.length = ls.length ∧ κ ls' st' = some r ∧ ∀ t, Steps tb e below (T.setTop (mkF m nx ls'.toArray st')) t → Steps tb e below (T.setTop (mkF m pc ls.toArray st)) t := by
  cases i
  case goto o => exact ⟨_, _, rfl, h, fun t hr => XS.goto hA hx rfl rfl (hb hc hd) hn.1 hn.2 hr⟩
  all_goals first
    | exact nomatch (show none = some _ from h)
    | (change _ = nx at hn; subst hn)
  case aload_n k => 
    obtain ⟨a, h1, h2⟩ := getK_some h
    split at h2
    · exact ⟨_, _, rfl, h2, fun t hr => XS.aloadN hA hx rfl (hb hc hd) (by simpa using h1) rfl hr⟩
    · exact ⟨_, _, rfl, h2, fun t hr => XS.aloadN hA hx rfl (hb hc hd) (by simpa using h1) rfl hr⟩
    · cases h2
  case aload k => 
    obtain ⟨a, h1, h2⟩ := getK_some h
    split at h2
    · exact ⟨_, _, rfl, h2, fun t hr => XS.aload hA hx rfl (hb hc hd) (by simpa using h1) rfl hr⟩
    · exact ⟨_, _, rfl, h2, fun t hr => XS.aload hA hx rfl (hb hc hd) (by simpa using h1) rfl hr⟩
    · cases h2
  case iload_n k => 
    obtain ⟨a, h1, h2⟩ := getK_some h
    split at h2
    · exact ⟨_, _, rfl, h2, fun t hr => XS.iloadN hA hx rfl (hb hc hd) (by simpa using h1) hr⟩
    · cases h2
  case iload k => 
    obtain ⟨a, h1, h2⟩ := getK_some h
    split at h2
    · exact ⟨_, _, rfl, h2, fun t hr => XS.iload hA hx rfl (hb hc hd) (by simpa using h1) hr⟩
    · cases h2
  case lload_n k => 
    obtain ⟨a, h1, h2⟩ := getK_some h
    split at h2
    · exact ⟨_, _, rfl, h2, fun t hr => XT.lloadN hA hx rfl (hb hc hd) (by simpa using h1) hr⟩
    · cases h2
  case lload k => 
    obtain ⟨a, h1, h2⟩ := getK_some h
    split at h2
    · exact ⟨_, _, rfl, h2, fun t hr => XT.lload hA hx rfl (hb hc hd) (by simpa using h1) hr⟩
    · cases h2
  case iconst c => exact ⟨_, _, rfl, h, fun t hr => XS.iconst hA hx rfl (hb hc hd) (by rw [hv]; exact hr)⟩
  case bipush c => exact ⟨_, _, rfl, h, fun t hr => XS.bipush hA hx rfl (hb hc hd) (by rw [hv]; exact hr)⟩
  case sipush c => exact ⟨_, _, rfl, h, fun t hr => XS.sipush hA hx rfl (hb hc hd) (by rw [hv]; exact hr)⟩
  case lconst c => exact ⟨_, _, rfl, h, fun t hr => XT.lconst hA hx rfl (hb hc hd) hr⟩
  case aconst_null => exact ⟨_, _, rfl, h, fun t hr => XS.aconstNull hA hx rfl (hb hc hd) hr⟩
  case iadd => 
    simp only [pst] at h
    split at h
    · exact ⟨_, _, rfl, h, fun t hr => XS.iadd hA hx rfl (hb hc hd) rfl hr⟩
    · cases h
  case isub => 
    simp only [pst] at h
    split at h
    · exact ⟨_, _, rfl, h, fun t hr => XS.isub hA hx rfl (hb hc hd) rfl hr⟩
    · cases h
  case imul => 
    simp only [pst] at h
    split at h
    · exact ⟨_, _, rfl, h, fun t hr => XS.imul hA hx rfl (hb hc hd) rfl hr⟩
    · cases h
  case iand => 
    simp only [pst] at h
    split at h
    · exact ⟨_, _, rfl, h, fun t hr => XS.iand hA hx rfl (hb hc hd) rfl hr⟩
    · cases h
  case ior => 
    simp only [pst] at h
    split at h
    · exact ⟨_, _, rfl, h, fun t hr => XT.ior hA hx rfl (hb hc hd) rfl hr⟩
    · cases h
  case ixor => 
    simp only [pst] at h
    split at h
    · exact ⟨_, _, rfl, h, fun t hr => XT.ixor hA hx rfl (hb hc hd) rfl hr⟩
    · cases h
  case ishl => 
    simp only [pst] at h
    split at h
    · exact ⟨_, _, rfl, h, fun t hr => XT.ishl hA hx rfl (hb hc hd) rfl hr⟩
    · cases h
  case ishr => 
    simp only [pst] at h
    split at h
    · exact ⟨_, _, rfl, h, fun t hr => XT.ishr hA hx rfl (hb hc hd) rfl hr⟩
    · cases h
  case iushr => 
    simp only [pst] at h
    split at h
    · exact ⟨_, _, rfl, h, fun t hr => XT.iushr hA hx rfl (hb hc hd) rfl hr⟩
    · cases h
  case ladd => 
    simp only [pst] at h
    split at h
    · exact ⟨_, _, rfl, h, fun t hr => XT.ladd hA hx rfl (hb hc hd) rfl hr⟩
    · cases h
  case lsub => 
    simp only [pst] at h
    split at h
    · exact ⟨_, _, rfl, h, fun t hr => XT.lsub hA hx rfl (hb hc hd) rfl hr⟩
    · cases h
  case lmul => 
    simp only [pst] at h
    split at h
    · exact ⟨_, _, rfl, h, fun t hr => XT.lmul hA hx rfl (hb hc hd) rfl hr⟩
    · cases h
  case land => 
    simp only [pst] at h
    split at h
    · exact ⟨_, _, rfl, h, fun t hr => XT.land hA hx rfl (hb hc hd) rfl hr⟩
    · cases h
  case lor => 
    simp only [pst] at h
    split at h
    · exact ⟨_, _, rfl, h, fun t hr => XT.lor hA hx rfl (hb hc hd) rfl hr⟩
    · cases h
  case lxor => 
    simp only [pst] at h
    split at h
    · exact ⟨_, _, rfl, h, fun t hr => XT.lxor hA hx rfl (hb hc hd) rfl hr⟩
    · cases h
  case lshl => 
    simp only [pst] at h
    split at h
    · exact ⟨_, _, rfl, h, fun t hr => XT.lshl hA hx rfl (hb hc hd) rfl hr⟩
    · cases h
  case lshr => 
    simp only [pst] at h
    split at h
    · exact ⟨_, _, rfl, h, fun t hr => XT.lshr hA hx rfl (hb hc hd) rfl hr⟩
    · cases h
  case lushr => 
    simp only [pst] at h
    split at h
    · exact ⟨_, _, rfl, h, fun t hr => XT.lushr hA hx rfl (hb hc hd) rfl hr⟩
    · cases h
  case ineg => 
    simp only [pst] at h
    split at h
    · exact ⟨_, _, rfl, h, fun t hr => XS.ineg hA hx rfl (hb hc hd) rfl hr⟩
    · cases h
  case lneg => 
    simp only [pst] at h
    split at h
    · exact ⟨_, _, rfl, h, fun t hr => XT.lneg hA hx rfl (hb hc hd) rfl hr⟩
    · cases h
  case i2l => 
    simp only [pst] at h
    split at h
    · exact ⟨_, _, rfl, h, fun t hr => XT.i2l hA hx rfl (hb hc hd) rfl hr⟩
    · cases h
  case l2i => 
    simp only [pst] at h
    split at h
    · exact ⟨_, _, rfl, h, fun t hr => XT.l2i hA hx rfl (hb hc hd) rfl hr⟩
    · cases h
  case i2b => 
    simp only [pst] at h
    split at h
    · exact ⟨_, _, rfl, h, fun t hr => XT.i2b hA hx rfl (hb hc hd) rfl hr⟩
    · cases h
  case i2c => 
    simp only [pst] at h
    split at h
    · exact ⟨_, _, rfl, h, fun t hr => XT.i2c hA hx rfl (hb hc hd) rfl hr⟩
    · cases h
  case i2s => 
    simp only [pst] at h
    split at h
    · exact ⟨_, _, rfl, h, fun t hr => XT.i2s hA hx rfl (hb hc hd) rfl hr⟩
    · cases h
  case lcmp => 
    simp only [pst] at h
    split at h
    · exact ⟨_, _, rfl, h, fun t hr => XT.lcmp hA hx rfl (hb hc hd) rfl hr⟩
    · cases h
  case pop => 
    simp only [pst] at h
    split at h
    · exact ⟨_, _, rfl, h, fun t hr => XT.pop hA hx rfl (hb hc hd) rfl rfl hr⟩
    · exact ⟨_, _, rfl, h, fun t hr => XT.pop hA hx rfl (hb hc hd) rfl rfl hr⟩
    · exact ⟨_, _, rfl, h, fun t hr => XT.pop hA hx rfl (hb hc hd) rfl rfl hr⟩
    · cases h
  case dup => 
    simp only [pst] at h
    split at h
    · exact ⟨_, _, rfl, h, fun t hr => XS.dup hA hx rfl (hb hc hd) rfl rfl hr⟩
    · exact ⟨_, _, rfl, h, fun t hr => XS.dup hA hx rfl (hb hc hd) rfl rfl hr⟩
    · exact ⟨_, _, rfl, h, fun t hr => XS.dup hA hx rfl (hb hc hd) rfl rfl hr⟩
    · cases h
  case dup_x1 => 
    simp only [pst] at h
    split at h
    · exact ⟨_, _, rfl, h, fun t hr => XT.dupX1 hA hx rfl (hb hc hd) rfl rfl rfl hr⟩
    · exact ⟨_, _, rfl, h, fun t hr => XT.dupX1 hA hx rfl (hb hc hd) rfl rfl rfl hr⟩
    · exact ⟨_, _, rfl, h, fun t hr => XT.dupX1 hA hx rfl (hb hc hd) rfl rfl rfl hr⟩
    · exact ⟨_, _, rfl, h, fun t hr => XT.dupX1 hA hx rfl (hb hc hd) rfl rfl rfl hr⟩
    · exact ⟨_, _, rfl, h, fun t hr => XT.dupX1 hA hx rfl (hb hc hd) rfl rfl rfl hr⟩
    · exact ⟨_, _, rfl, h, fun t hr => XT.dupX1 hA hx rfl (hb hc hd) rfl rfl rfl hr⟩
    · exact ⟨_, _, rfl, h, fun t hr => XT.dupX1 hA hx rfl (hb hc hd) rfl rfl rfl hr⟩
    · exact ⟨_, _, rfl, h, fun t hr => XT.dupX1 hA hx rfl (hb hc hd) rfl rfl rfl hr⟩
    · exact ⟨_, _, rfl, h, fun t hr => XT.dupX1 hA hx rfl (hb hc hd) rfl rfl rfl hr⟩
    · cases h
  case dup2 => 
    simp only [pst] at h
    split at h
    · exact ⟨_, _, rfl, h, fun t hr => XT.dup2L hA hx rfl (hb hc hd) rfl hr⟩
    · exact ⟨_, _, rfl, h, fun t hr => XT.dup2 hA hx rfl (hb hc hd) rfl rfl rfl hr⟩
    · exact ⟨_, _, rfl, h, fun t hr => XT.dup2 hA hx rfl (hb hc hd) rfl rfl rfl hr⟩
    · exact ⟨_, _, rfl, h, fun t hr => XT.dup2 hA hx rfl (hb hc hd) rfl rfl rfl hr⟩
    · exact ⟨_, _, rfl, h, fun t hr => XT.dup2 hA hx rfl (hb hc hd) rfl rfl rfl hr⟩
    · cases h
  case istore_n k => 
    simp only [pst] at h
    split at h
    · obtain ⟨l', h1, h2, h3⟩ := stK_some rfl h
      exact ⟨_, _, h2, h3, fun t hr => XS.istoreN hA hx rfl (hb hc hd) rfl h1 hr⟩
    · cases h
  case istore k => 
    simp only [pst] at h
    split at h
    · obtain ⟨l', h1, h2, h3⟩ := stK_some rfl h
      exact ⟨_, _, h2, h3, fun t hr => XS.istore hA hx rfl (hb hc hd) rfl h1 hr⟩
    · cases h
  case astore_n k => 
    simp only [pst] at h
    split at h
    · obtain ⟨l', h1, h2, h3⟩ := stK_some rfl h
      exact ⟨_, _, h2, h3, fun t hr => XS.astoreN hA hx rfl (hb hc hd) rfl rfl h1 hr⟩
    · obtain ⟨l', h1, h2, h3⟩ := stK_some rfl h
      exact ⟨_, _, h2, h3, fun t hr => XS.astoreN hA hx rfl (hb hc hd) rfl rfl h1 hr⟩
    · cases h
  case astore k => 
    simp only [pst] at h
    split at h
    · obtain ⟨l', h1, h2, h3⟩ := stK_some rfl h
      exact ⟨_, _, h2, h3, fun t hr => XS.astore hA hx rfl (hb hc hd) rfl rfl h1 hr⟩
    · obtain ⟨l', h1, h2, h3⟩ := stK_some rfl h
      exact ⟨_, _, h2, h3, fun t hr => XS.astore hA hx rfl (hb hc hd) rfl rfl h1 hr⟩
    · cases h
  case lstore_n k => 
    simp only [pst] at h
    split at h
    · obtain ⟨l', h1, h2, h3⟩ := stKL_some h
      exact ⟨_, _, h2, h3, fun t hr => XT.lstoreN hA hx rfl (hb hc hd) rfl h1 hr⟩
    · cases h
  case lstore k => 
    simp only [pst] at h
    split at h
    · obtain ⟨l', h1, h2, h3⟩ := stKL_some h
      exact ⟨_, _, h2, h3, fun t hr => XT.lstore hA hx rfl (hb hc hd) rfl h1 hr⟩
    · cases h
  case iinc k c => 
    obtain ⟨a, h1, h2⟩ := getK_some h
    split at h2
    · obtain ⟨l', h3, h4, h5⟩ := stK_some rfl h2
      exact ⟨_, _, h4, h5, fun t hr => XS.iinc hA hx rfl (hb hc hd) (by simpa using h1) (by rw [hv]; exact h3) hr⟩
    · cases h2
theorem prun_sound {tb : Tables} [Ours tb] {e : Env} {below : List Frame} {T : State} {m : MethodId} {c : Code} {code : ByteArray} (hA : At T m c below) (hx : tb.exec = Jvm.exec) (hc : c.code = code) : ∀ (seg : List PI) {pc pe : Nat} {ls ls' : List Slot} {st st' : List Value}, segOk code pc seg pe = true → prun seg ls st = some (ls', st') →
    ls'.length = ls.length ∧ ∀ t, Steps tb e below (T.setTop (mkF m pe ls'.toArray st')) t → Steps tb e below (T.setTop (mkF m pc ls.toArray st)) t
  | [], pc, pe, ls, ls', st, st', h1, h2 => by
    have e1 : pc = pe := by simpa [segOk] using h1
    have e2 : (ls, st) = (ls', st') := Option.some.inj h2
    cases e1; cases e2
    exact ⟨rfl, fun t hr => hr⟩
  | (q, i, nx, v) :: r, pc, pe, ls, ls', st, st', h1, h2 => by
    simp only [segOk, Bool.and_eq_true, decide_eq_true_eq] at h1
    obtain ⟨⟨⟨⟨rfl, hd⟩, hv⟩, hn⟩, hr⟩ := h1
    obtain ⟨l1, s1, e1, h3, k1⟩ := pst_sound (κ := fun ls' st' => prun r ls' st') hA hx hc hd hv hn h2
    obtain ⟨e2, k2⟩ := prun_sound hA hx hc r hr h3
    exact ⟨e2.trans e1, fun t ht => k1 _ (k2 _ ht)⟩

abbrev HP := Heap × (Addr → Prop)
abbrev Dyn := Program × Env × State × MethodId × Array Value × List Frame × Method × Code × State × HP
def GI (Z : State) (EL : List (String × Nat)) (vm : Vm) (H : HP) : Prop :=
  Ext Z.heap H.1 ∧ (∀ y, H.2 y → Z.heap.size ≤ y ∧ y < H.1.size) ∧ CHv Z EL vm H.1 ∧ ∀ y, Bk Z EL vm H.1 y → ¬ H.2 y
def Kp (H H' : HP) (ws : List Addr) : Prop := Keep H.1 H'.1 ws ∧ ∀ x, H.2 x → H'.2 x
def Wk (l : Launch) (Z : State) (a0 : Array Value) (EL : List (String × Nat)) (own : String) (code : ByteArray) (ml : Nat) (nm : String) (rt : Option FieldType) (R : Room) (D : Dyn) (pc : Nat) (ls : List Slot) (st : List Value) (H : HP) (k n : Nat) : Prop :=
  D.1.tables.exec = Jvm.exec ∧ D.2.2.1.vm.findClass own = some D.2.2.2.1.cls ∧ D.2.2.2.2.2.2.2.1.code = code ∧ D.2.2.2.2.2.2.2.1.maxLocals = ml ∧ D.2.2.2.2.2.2.1.name = nm ∧ D.2.2.2.2.2.2.1.sig.returnType = rt ∧ D.2.2.2.2.2.2.1.locks = false ∧ EW Z a0 EL ∧ (∀ a ∈ Bundle.stringAtoms, a.before a0 Z = true) ∧ ls.length = ml ∧
  ∃ T L vm0 k0, Stand D.1 l D.2.1 R (D.2.2.1.setVm vm0) D.2.2.2.1 D.2.2.2.2.1 D.2.2.2.2.2.1 D.2.2.2.2.2.2.1 D.2.2.2.2.2.2.2.1 T L k n ∧ T.heap = H.1 ∧ D.2.2.1.Since vm0 k0 ∧ k0 ≤ H.1.size ∧ Z.Warmed39 vm0 ∧ GI Z EL vm0 H ∧ Fr Z.heap.size L ∧
    ((∀ x, D.2.2.2.2.2.2.2.2.2.2 x → H.2 x) ∧ D.2.2.2.2.2.2.2.2.2.1.size ≤ H.1.size) ∧ Steps D.1.tables D.2.1 D.2.2.2.2.2.1 D.2.2.2.2.2.2.2.2.1 (T.setTop (mkF D.2.2.2.1 pc ls.toArray st))
/-- the method has returned v -/
def Rt (Z : State) (EL : List (String × Nat)) (D : Dyn) (v : Option Value) (H : HP) (k n : Nat) : Prop :=
  ∃ s₂ L, Steps D.1.tables D.2.1 D.2.2.2.2.2.1 D.2.2.2.2.2.2.2.2.1 s₂ ∧ s₂.status = .running ∧ Ended s₂ D.2.2.2.2.2.1 (.returned v) ∧ s₂.heap = H.1 ∧ ((∀ x, D.2.2.2.2.2.2.2.2.2.2 x → H.2 x) ∧ D.2.2.2.2.2.2.2.2.2.1.size ≤ H.1.size) ∧ GI Z EL s₂.vm H ∧ Fr Z.heap.size L ∧ ReturnedEndW D.2.2.1 (.returned v) s₂ L k n
/-- a contract: y, called with as in the heap H, comes back with Q -/
def Ct (l : Launch) (Z : State) (EL : List (String × Nat)) (y : MethodName) (bytes : ByteArray) (ml : Nat) (ret : Option FieldType) (rm : Room) (ws : List Jvm.Cond) (as : List Value) (H : HP) (Q : Option Value → HP → Prop) : Prop :=
  MetFree l y (head1 (Jvm.Cond.code y bytes ml ret :: ws) rm) (fun a U => a = as.toArray ∧ Z.Warmed39 U.vm ∧ U.heap = H.1 ∧ GI Z EL U.vm H) (fun _ _ _ _ _ => True)
    (fun _ U o U' => ∃ v L O, o = .returned v ∧ Q v (U'.heap, O) ∧ ((∀ x, H.2 x → O x) ∧ H.1.size ≤ U'.heap.size) ∧ GI Z EL U'.vm (U'.heap, O) ∧ Fr Z.heap.size L ∧ ReturnedEndW U o U' L rm.cells rm.slots)
def locsOf : List Value → Nat → List Slot
  | [], n => List.replicate n .unset
  | v :: r, n => match v with
    | .long x => .val (.long x) :: .second :: locsOf r (n - 2)
    | .double x => .val (.double x) :: .second :: locsOf r (n - 2)
    | .int x => .val (.int x) :: locsOf r (n - 1)
    | .float x => .val (.float x) :: locsOf r (n - 1)
    | .null => .val .null :: locsOf r (n - 1)
    | .ref x => .val (.ref x) :: locsOf r (n - 1)
    | .retAddr x => .val (.retAddr x) :: locsOf r (n - 1)
def slotsOf : List Value → List Slot
  | [] => []
  | v :: r => if v.category = 2 then .val v :: .second :: slotsOf r else .val v :: slotsOf r
theorem locsOf_eq : ∀ (as : List Value) (n : Nat), locsOf as n = slotsOf as ++ List.replicate (n - (slotsOf as).length) .unset
  | [], n => by simp [locsOf, slotsOf]
  | v :: r, n => by
    have e1 : n - 1 - (slotsOf r).length = n - ((slotsOf r).length + 1) := by omega
    have e2 : n - 2 - (slotsOf r).length = n - ((slotsOf r).length + 1 + 1) := by omega
    cases v <;> simp [locsOf, slotsOf, Value.category, locsOf_eq r, e1, e2]
theorem fold_slots : ∀ (as : List Value) (acc : Array Slot), as.foldl (fun acc v => if v.category = 2 then (acc.push (.val v)).push .second else acc.push (.val v)) acc = acc ++ (slotsOf as).toArray
  | [], acc => by simp [slotsOf]
  | v :: r, acc => by
    rw [List.foldl_cons, fold_slots r]
    by_cases h : v.category = 2
    · simp only [h, if_true, slotsOf]; apply Array.ext'; simp
    · simp only [h, if_false, slotsOf]; apply Array.ext'; simp
theorem entry_locs (m : MethodId) (as : List Value) (ml : Nat) : entryFrame m as.toArray ml = mkF m 0 (locsOf as ml).toArray [] := by
  have q : argsToLocals as.toArray ml = (locsOf as ml).toArray := by
    unfold argsToLocals
    simp only [List.foldl_toArray, fold_slots]
    rw [locsOf_eq]
    apply Array.ext'; simp
  simp only [entryFrame, q]
theorem retV {p : Program} {l : Launch} {e : Env} {R : Room} {s : State} {m : MethodId} {args : Array Value} {below : List Frame} {meth : Method} {c : Code} {T : State} {locs : List Loc} {cells slots : Nat} (X : Stand p l e R s m args below meth c T locs cells slots) (hx : p.tables.exec = Jvm.exec) {pc : Nat} {Ls : Array Slot} {st : List Value} (hret : meth.sig.returnType = none) (hd : decode c.code pc = .ok (.return_, 1)) {fs : List Frame}
    (hl : ∀ (f : JFrame) (acts : List Action), f.method = m → f.locked = none → f.entered = [] → (doReturn e (T.setTop f) acts none).1 = T.setFrames fs) : Steps p.tables e below (T.setTop (mkF m pc Ls st)) (T.setFrames fs) := by
  have hm' : T.vm.method? m = some meth := X.method'
  show Steps p.tables e below (T.setTop { method := m, pc := pc, locals := Ls, stack := st, locked := none }) _
  jvm_step X.here [X.here.top, hx, hd, hm', hret]
  first | (intro acts; rw [hl _ acts rfl rfl rfl]) | rw [hl _ _ rfl rfl rfl]
  exact Steps.refl _
section Laws
variable {l : Launch} {Z : State} {a0 : Array Value} {EL : List (String × Nat)} {own : String} {code : ByteArray} {ml : Nat} {nm : String} {rt : Option FieldType} {R : Room} {D : Dyn} {pc : Nat} {ls : List Slot} {st : List Value} {H H' : HP} {k n : Nat} {vm vm0 : Vm} {ws ws' : List Addr} {a b : Addr} {C nn d : String} {v w : Value} {sl : Nat} {ty : FieldType} {vs : List Value}
theorem Kp.refl (H : HP) : Kp H H [] := ⟨Keep.refl _ _, fun _ h => h⟩
theorem Kp.size (K : Kp H H' ws) : H.1.size ≤ H'.1.size := K.1.1
theorem Kp.trans {H2 : HP} (K : Kp H H' ws) (K' : Kp H' H2 ws') (q : ∀ x ∈ ws', x ∈ ws ∨ H.1.size ≤ x) : Kp H H2 ws := ⟨K.1.trans K'.1 q, fun x h => K'.2 x (K.2 x h)⟩
theorem Kp.tr {H2 : HP} (K : Kp H H' []) (K' : Kp H' H2 []) : Kp H H2 [] := K.trans K' (fun x h => nomatch h)
theorem Kp.wide (K : Kp H H' ws) (q : ∀ x ∈ ws, x ∈ ws' ∨ H.1.size ≤ x) : Kp H H' ws' := Kp.trans (H' := H) ⟨Keep.refl _ _, fun _ h => h⟩ K q
/-- all that was written is new since H: so H stands whole -/
theorem Kp.new (K : Kp H H' ws) (q : ∀ x ∈ ws, H.1.size ≤ x) : Kp H H' [] := K.wide fun x h => Or.inr (q x h)
end Laws
end Jvm.Pilot.@@N@@
namespace Jvm.RoadKit
open Jvm.Pilot.@@N@@
theorem Fld.ky {Z : State} {H H' : HP} {ws : List Addr} {a : Addr} {C nn d : String} {v : Value} (F : Fld Z H.1 a C nn d v) (K : Jvm.Pilot.@@N@@.Kp H H' ws) (q : a ∉ ws := by exact List.not_mem_nil) : Fld Z H'.1 a C nn d v := F.keep K.1 q
theorem Exa.ky {Z : State} {H H' : HP} {ws : List Addr} {a : Addr} {C : String} (F : Exa Z H.1 a C) (K : Jvm.Pilot.@@N@@.Kp H H' ws) : Exa Z H'.1 a C := F.keep K.1
end Jvm.RoadKit
namespace Jvm.Pilot.@@N@@
open Jvm Jvm.ClassFile Sem Op Lib Jvm.Free Jvm.Stand Jvm.LawKit Jvm.RoadKit Bundle Jvm.Pilot.@@N@@.Jvm.D
section Laws
variable {l : Launch} {Z : State} {a0 : Array Value} {EL : List (String × Nat)} {own : String} {code : ByteArray} {ml : Nat} {nm : String} {rt : Option FieldType} {R : Room} {D : Dyn} {pc : Nat} {ls : List Slot} {st : List Value} {H H' : HP} {k n : Nat} {vm vm0 : Vm} {ws ws' : List Addr} {a b : Addr} {C nn d : String} {v w : Value} {sl : Nat} {ty : FieldType} {vs : List Value}
def Ar (Z : State) (H : HP) (a : Addr) (ty : FieldType) (vs : List Value) : Prop := ∃ c : Cell, Arr Z H.1 a c ty ∧ c.slots = vs.toArray ∧ vs.length < 2 ^ 31 ∧ ∀ v ∈ vs, fits ty v = true
theorem Ar.ky (F : Ar Z H a ty vs) (K : Kp H H' ws) (q : a ∉ ws := by exact List.not_mem_nil) : Ar Z H' a ty vs := by
  obtain ⟨c, A, r⟩ := F; exact ⟨c, ⟨K.1.2.1 a c A.1 q, A.2⟩, r⟩
theorem Ar.lt (F : Ar Z H a ty vs) : a < H.1.size := by obtain ⟨c, A, -⟩ := F; exact A.lt
theorem Ar.len (F : Ar Z H a ty vs) : vs.length < 2 ^ 31 := by obtain ⟨c, A, -, h, -⟩ := F; exact h
theorem Ar.fits (F : Ar Z H a ty vs) : ∀ v ∈ vs, fits ty v = true := by obtain ⟨c, A, -, -, h⟩ := F; exact h
theorem clamp_nat {i : Nat} (h : i < 2 ^ 31) : i.toInt32.toNatClampNeg = i := by
  have h1 : (i.toInt32).toInt = i := by simp [Nat.toInt32, Int32.toInt_ofNat_of_lt h]
  simp [Int32.toNatClampNeg, h1]
theorem nonneg_nat {i : Nat} (h : i < 2 ^ 31) : ¬ i.toInt32 < 0 := by
  have h1 : (i.toInt32).toInt = i := by simp [Nat.toInt32, Int32.toInt_ofNat_of_lt h]
  rw [Int32.lt_iff_toInt_lt, h1]; simp
theorem Ar.arv (F : Ar Z H a ty vs) (dv : Value) : ∃ kc, Arv Z H.1 a kc ty vs.length.toInt32 vs dv := by
  obtain ⟨c, A, e, h, g⟩ := F
  have hs : c.slots.size = vs.length := by rw [e]; simp
  refine ⟨c.cls, c, A, rfl, by rw [hs, clamp_nat h], nonneg_nat h, fun k hk => ?_, fun i hi => ?_⟩
  · rw [hs] at hk; rw [e]; simp [hk]
  · rw [hs] at hi
    have : vs.getD i dv = vs[i] := by simp [hi]
    rw [this]; exact g _ (List.getElem_mem hi)
theorem Ar.of_arv {kc : ClassId} {z : Int32} {dv : Value} (F : Arv Z H.1 a kc ty z vs dv) (hl : z.toNatClampNeg = vs.length) : Ar Z H a ty vs := by
  obtain ⟨c, A, -, S, M, Hs, G⟩ := F
  have hs : c.slots.size = vs.length := by rw [S, hl]
  have hb : vs.length < 2 ^ 31 := by rw [← hl]; exact (back32 M).2
  refine ⟨c, A, ?_, hb, fun v hv => ?_⟩
  · apply Array.ext_getElem?; intro i
    by_cases hi : i < c.slots.size
    · rw [Hs i hi]; have hi' := hi; rw [hs] at hi'; simp [hi']
    · rw [Array.getElem?_eq_none (Nat.le_of_not_lt hi)]; rw [hs] at hi; simp; omega
  · obtain ⟨i, hi, rfl⟩ := List.getElem_of_mem hv
    have := G i (by rw [hs]; exact hi)
    rw [show vs.getD i dv = vs[i] by simp [hi]] at this
    exact this
theorem GI.wr (G : GI Z EL vm H) {h' : Heap} (W : Wr H.1 h' a sl v) (o : H.2 a) : GI Z EL vm (h', H.2) := by
  obtain ⟨g1, g2, g3, g4⟩ := G
  have S : Safe Z EL vm H.1 a := fun B => g4 a B o
  refine ⟨?_, fun y hy => ?_, g3.wr W S, fun y B => g4 y ((g3.wrStep W S).2 y B)⟩
  · obtain ⟨cell, h1, h2, h3, e⟩ := W
    refine ⟨by rw [show (h', H.2).1 = h' from rfl, e]; simpa using g1.1, fun x cx q => ?_⟩
    have hx := (Array.getElem?_eq_some_iff.mp q).1
    have hne : a ≠ x := fun e1 => by subst e1; have := (g2 a o).1; omega
    show h'[x]? = _
    rw [e, Array.getElem?_setIfInBounds_ne hne]; exact g1.2 x cx q
  · have := g2 y hy; exact ⟨this.1, by rw [show (h', H.2).1 = h' from rfl, W.size]; exact this.2⟩
theorem GI.ext (G : GI Z EL vm H) {h' : Heap} (E : Ext H.1 h') (hlt : H.1.size < h'.size) : GI Z EL vm (h', fun y => H.2 y ∨ y = H.1.size) := by
  obtain ⟨g1, g2, g3, g4⟩ := G
  refine ⟨⟨Nat.le_trans g1.1 E.1, fun x cx q => E.2 x cx (g1.2 x cx q)⟩, fun y hy => ?_, g3.ext E, fun y B hy => ?_⟩
  · rcases hy with hy | rfl
    · have := g2 y hy; exact ⟨this.1, Nat.lt_of_lt_of_le this.2 E.1⟩
    · exact ⟨g1.1, hlt⟩
  · have B' := (g3.step fun _ _ _ q => E.2 _ _ q).2 y B
    rcases hy with hy | rfl
    · exact g4 y B' hy
    · obtain ⟨cell, q⟩ := B'.there
      exact absurd (Array.getElem?_eq_some_iff.mp q).1 (Nat.lt_irrefl _)
theorem GI.keep (G : GI Z EL vm H) {h' : Heap} (K : Keep H.1 h' ws) (o : ∀ x ∈ ws, H.2 x) : GI Z EL vm (h', H.2) := by
  obtain ⟨g1, g2, g3, g4⟩ := G
  have S : ∀ x ∈ ws, Safe Z EL vm H.1 x := fun x hx B => g4 x B (o x hx)
  refine ⟨⟨Nat.le_trans g1.1 K.1, fun x cx q => K.2.1 x cx (g1.2 x cx q) fun hx => ?_⟩, fun y hy => ?_, g3.keep K S, fun y B => g4 y ((g3.keepStep K S).2 y B)⟩
  · have := (g2 x (o x hx)).1; have := (Array.getElem?_eq_some_iff.mp q).1; omega
  · have := g2 y hy; exact ⟨this.1, Nat.lt_of_lt_of_le this.2 K.1⟩
theorem GI.go {vm1 : Vm} {h' : Heap} (G : GI Z EL vm H) (A : CHr Z EL vm H.1 vm1 h') (E : Ext H.1 h') : GI Z EL vm1 (h', H.2) := by
  obtain ⟨g1, g2, g3, g4⟩ := G
  refine ⟨⟨Nat.le_trans g1.1 E.1, fun x cx q => E.2 x cx (g1.2 x cx q)⟩, fun y hy => ?_, A.1, fun y B hy => ?_⟩
  · have := g2 y hy; exact ⟨this.1, Nat.lt_of_lt_of_le this.2 E.1⟩
  · rcases A.2.2 y B with q | q
    · exact g4 y q hy
    · exact absurd (g2 y hy).2 (Nat.not_lt.mpr q)
theorem ext_refl (h : Heap) : Ext h h := ⟨Nat.le_refl _, fun _ _ q => q⟩
theorem GI.at {p : Program} {e : Env} {s : State} {m : MethodId} {args : Array Value} {below : List Frame} {meth : Method} {c : Code} {T : State} {L : List Loc} (G : GI Z EL vm0 H) (X : Stand p l e R (s.setVm vm0) m args below meth c T L k n) (hZ : Z.Warmed39 vm0) (hEL : EW Z a0 EL) : GI Z EL T.vm H :=
  G.go (CHv.at X hZ hEL G.2.2.1) (ext_refl _)
theorem notFace_cls {args : Array Value} {s : State} {C : String} {y y2 : MethodName} (h : (Jvm.Cond.selects C y2 y2).before args s = true) (e : y2.cls = y.cls) : NotFace s y := fun r0 h0 => by
  obtain ⟨c2, r2, m2, -, -, q3, -, kP, hkP, hkPi⟩ := Cond.selects_spec h
  have a := findClass_of_methodNamed h0
  have b := findClass_of_methodNamed q3
  rw [e, a] at b
  exact ⟨kP, by rw [Option.some.inj b]; exact hkP, hkPi⟩
theorem decl_of {y : MethodName} {bytes : ByteArray} {cml : Nat} {ret : Option FieldType} (w : (Jvm.Cond.instanceMethod y).before a0 Z = true) (wc : (Jvm.Cond.code y bytes cml ret).before a0 Z = true) : (Jvm.Cond.declares y).before a0 Z = true := by
  obtain ⟨m, meth, h1, h2, h3, h4⟩ := Cond.instanceMethod_spec w
  obtain ⟨m2, c, q1, -, -, -, -, -, -, q8⟩ := Cond.code_spec h1 wc
  cases h2.symm.trans q1
  simp [Cond.before, Cond.holds, Cond.value, h1, h2, h3, q8]
theorem same_of {C : String} {y y2 : MethodName} (w : (Jvm.Cond.declares y).before a0 Z = true) (h : (Jvm.Cond.selects C y2 y2).before a0 Z = true) (e : y2.cls = y.cls) (hy : y.cls ≠ "java/lang/invoke/MethodHandle" ∧ y.cls ≠ "java/lang/invoke/VarHandle") : (Jvm.Cond.sameMethod y.cls y.cls y.name y.desc).before a0 Z = true := by
  obtain ⟨m, meth, h1, h2, h3, h4⟩ := Cond.declares_spec w
  obtain ⟨c2, r2, m2, -, -, q3, -, kP, hkP, hkPi⟩ := Cond.selects_spec h
  have f1 := findClass_of_methodNamed h1
  have f2 := findClass_of_methodNamed q3
  rw [e, f1] at f2
  have hm := Option.some.inj f2
  simp only [Cond.before, Cond.holds, Cond.value, f1, State.methodFound?_of_named h1 hy]
  rw [show ({ cls := y.cls, name := y.name, desc := y.desc } : MethodName) = y from rfl, h1]
  simp [hm, hkP, hkPi]
theorem range_take {vs : List Value} {i q : Nat} {d : Value} (h : i + q ≤ vs.length) : ((List.range q).map fun t => vs.getD (i + t) d) = (vs.drop i).take q := by
  apply List.ext_getElem
  · simp; omega
  · intro t h1 h2
    simp at h1
    simp [List.getD_eq_getElem?_getD, show i + t < vs.length by omega]
theorem Wk.run (A : Wk l Z a0 EL own code ml nm rt R D pc ls st H k n) (seg : List PI) {pe : Nat} (hok : segOk code pc seg pe = true) {ls' : List Slot} {st' : List Value} (hr : prun seg ls st = some (ls', st')) :
    Wk l Z a0 EL own code ml nm rt R D pe ls' st' H k n := by
  obtain ⟨p, e, s, m, args, below, meth, c, s0, H0⟩ := D
  obtain ⟨hx, hown, hc, hml, hnm, hrt, hlk, hEL, hSA, hls, T, L, vm0, k0, X, eT, hS, hk, hZ, hG, hF, hMo, hst⟩ := A
  dsimp only at hx hown hc hml hnm hrt hlk X hS hMo hst
  have hown' : (s.setVm vm0).vm.findClass own = some m.cls := (hS.1.alike.findClass _ _).trans hown
  have hZ' : Z.Warmed39 (s.setVm vm0).vm := hZ
  obtain ⟨h1, h2⟩ := prun_sound (e := e) X.here hx hc seg hok hr
  exact ⟨hx, hown, hc, hml, hnm, hrt, hlk, hEL, hSA, (h1.trans hls), T, L, vm0, k0, X, eT, hS, hk, hZ, hG, hF, hMo, hst.trans (h2 _ (Steps.refl _))⟩
theorem Wk.idiv {x y : Int32} (A : Wk l Z a0 EL own code ml nm rt R D pc ls (.int y :: .int x :: st) H k n) (hd : decode code pc = .ok (.idiv, 1)) (hy : y ≠ 0) :
    Wk l Z a0 EL own code ml nm rt R D (pc + 1) ls (.int (x / y) :: st) H k n := by
  obtain ⟨p, e, s, m, args, below, meth, c, s0, H0⟩ := D
  obtain ⟨hx, hown, hc, hml, hnm, hrt, hlk, hEL, hSA, hls, T, L, vm0, k0, X, eT, hS, hk, hZ, hG, hF, hMo, hst⟩ := A
  dsimp only at hx hown hc hml hnm hrt hlk X hS hMo hst
  have hown' : (s.setVm vm0).vm.findClass own = some m.cls := (hS.1.alike.findClass _ _).trans hown
  have hZ' : Z.Warmed39 (s.setVm vm0).vm := hZ
  exact ⟨hx, hown, hc, hml, hnm, hrt, hlk, hEL, hSA, hls, T, L, vm0, k0, X, eT, hS, hk, hZ, hG, hF, hMo, hst.trans (XS.idiv X.here hx rfl (hb hc hd) rfl hy (Steps.refl _))⟩
theorem Wk.irem {x y : Int32} (A : Wk l Z a0 EL own code ml nm rt R D pc ls (.int y :: .int x :: st) H k n) (hd : decode code pc = .ok (.irem, 1)) (hy : y ≠ 0) :
    Wk l Z a0 EL own code ml nm rt R D (pc + 1) ls (.int (x % y) :: st) H k n := by
  obtain ⟨p, e, s, m, args, below, meth, c, s0, H0⟩ := D
  obtain ⟨hx, hown, hc, hml, hnm, hrt, hlk, hEL, hSA, hls, T, L, vm0, k0, X, eT, hS, hk, hZ, hG, hF, hMo, hst⟩ := A
  dsimp only at hx hown hc hml hnm hrt hlk X hS hMo hst
  have hown' : (s.setVm vm0).vm.findClass own = some m.cls := (hS.1.alike.findClass _ _).trans hown
  have hZ' : Z.Warmed39 (s.setVm vm0).vm := hZ
  exact ⟨hx, hown, hc, hml, hnm, hrt, hlk, hEL, hSA, hls, T, L, vm0, k0, X, eT, hS, hk, hZ, hG, hF, hMo, hst.trans (iremM X hx rfl (hb hc hd) rfl hy (Steps.refl _))⟩
theorem Wk.ldiv {x y : Int64} (A : Wk l Z a0 EL own code ml nm rt R D pc ls (.long y :: .long x :: st) H k n) (hd : decode code pc = .ok (.ldiv, 1)) (hy : y ≠ 0) :
    Wk l Z a0 EL own code ml nm rt R D (pc + 1) ls (.long (x / y) :: st) H k n := by
  obtain ⟨p, e, s, m, args, below, meth, c, s0, H0⟩ := D
  obtain ⟨hx, hown, hc, hml, hnm, hrt, hlk, hEL, hSA, hls, T, L, vm0, k0, X, eT, hS, hk, hZ, hG, hF, hMo, hst⟩ := A
  dsimp only at hx hown hc hml hnm hrt hlk X hS hMo hst
  have hown' : (s.setVm vm0).vm.findClass own = some m.cls := (hS.1.alike.findClass _ _).trans hown
  have hZ' : Z.Warmed39 (s.setVm vm0).vm := hZ
  exact ⟨hx, hown, hc, hml, hnm, hrt, hlk, hEL, hSA, hls, T, L, vm0, k0, X, eT, hS, hk, hZ, hG, hF, hMo, hst.trans (XT.ldiv X.here hx rfl (hb hc hd) rfl hy (Steps.refl _))⟩
theorem Wk.lrem {x y : Int64} (A : Wk l Z a0 EL own code ml nm rt R D pc ls (.long y :: .long x :: st) H k n) (hd : decode code pc = .ok (.lrem, 1)) (hy : y ≠ 0) :
    Wk l Z a0 EL own code ml nm rt R D (pc + 1) ls (.long (x % y) :: st) H k n := by
  obtain ⟨p, e, s, m, args, below, meth, c, s0, H0⟩ := D
  obtain ⟨hx, hown, hc, hml, hnm, hrt, hlk, hEL, hSA, hls, T, L, vm0, k0, X, eT, hS, hk, hZ, hG, hF, hMo, hst⟩ := A
  dsimp only at hx hown hc hml hnm hrt hlk X hS hMo hst
  have hown' : (s.setVm vm0).vm.findClass own = some m.cls := (hS.1.alike.findClass _ _).trans hown
  have hZ' : Z.Warmed39 (s.setVm vm0).vm := hZ
  exact ⟨hx, hown, hc, hml, hnm, hrt, hlk, hEL, hSA, hls, T, L, vm0, k0, X, eT, hS, hk, hZ, hG, hF, hMo, hst.trans (XT.lrem X.here hx rfl (hb hc hd) rfl hy (by rw [lrem_mod]; exact Steps.refl _))⟩
/-- the condition of a comparison -/
def cP : ClassFile.Cond → Int32 → Int32 → Prop
  | .eq, x, y => x = y
  | .ne, x, y => ¬ x = y
  | .lt, x, y => x < y
  | .ge, x, y => ¬ x < y
  | .gt, x, y => y < x
  | .le, x, y => ¬ y < x
theorem cP_t {cd : ClassFile.Cond} {x y : Int32} (h : cP cd x y) : if_icmp.holds cd x y = true := by
  cases cd
  · exact (teq h).1
  · exact (feq h).2
  · exact (tlt h).1
  · exact (flt h).2.1
  · exact (tlt h).2.2.1
  · exact (flt h).2.2.2
theorem cP_f {cd : ClassFile.Cond} {x y : Int32} (h : ¬ cP cd x y) : if_icmp.holds cd x y = false := by
  cases cd
  · exact (feq h).1
  · exact (teq (Decidable.not_not.mp h)).2
  · exact (flt h).1
  · exact (tlt (Decidable.not_not.mp h)).2.1
  · exact (flt h).2.2.1
  · exact (tlt (Decidable.not_not.mp h)).2.2.2
theorem Wk.ifT {cd : ClassFile.Cond} {x : Int32} {o : Int} (A : Wk l Z a0 EL own code ml nm rt R D pc ls (.int x :: st) H k n) (hd : decode code pc = .ok (.ifCond cd o, 3)) (h : cP cd x 0) {pe : Nat} (hp : 0 ≤ (pc : Int) + o ∧ ((pc : Int) + o).toNat = pe) :
    Wk l Z a0 EL own code ml nm rt R D pe ls st H k n := by
  obtain ⟨p, e, s, m, args, below, meth, c, s0, H0⟩ := D
  obtain ⟨hx, hown, hc, hml, hnm, hrt, hlk, hEL, hSA, hls, T, L, vm0, k0, X, eT, hS, hk, hZ, hG, hF, hMo, hst⟩ := A
  dsimp only at hx hown hc hml hnm hrt hlk X hS hMo hst
  have hown' : (s.setVm vm0).vm.findClass own = some m.cls := (hS.1.alike.findClass _ _).trans hown
  have hZ' : Z.Warmed39 (s.setVm vm0).vm := hZ
  exact ⟨hx, hown, hc, hml, hnm, hrt, hlk, hEL, hSA, hls, T, L, vm0, k0, X, eT, hS, hk, hZ, hG, hF, hMo, hst.trans (XS.ifYes X.here hx rfl rfl (hb hc hd) rfl (by rw [if0]; exact cP_t h) hp.1 hp.2 (Steps.refl _))⟩
theorem Wk.ifF {cd : ClassFile.Cond} {x : Int32} {o : Int} (A : Wk l Z a0 EL own code ml nm rt R D pc ls (.int x :: st) H k n) (hd : decode code pc = .ok (.ifCond cd o, 3)) (h : ¬ cP cd x 0) :
    Wk l Z a0 EL own code ml nm rt R D (pc + 3) ls st H k n := by
  obtain ⟨p, e, s, m, args, below, meth, c, s0, H0⟩ := D
  obtain ⟨hx, hown, hc, hml, hnm, hrt, hlk, hEL, hSA, hls, T, L, vm0, k0, X, eT, hS, hk, hZ, hG, hF, hMo, hst⟩ := A
  dsimp only at hx hown hc hml hnm hrt hlk X hS hMo hst
  have hown' : (s.setVm vm0).vm.findClass own = some m.cls := (hS.1.alike.findClass _ _).trans hown
  have hZ' : Z.Warmed39 (s.setVm vm0).vm := hZ
  exact ⟨hx, hown, hc, hml, hnm, hrt, hlk, hEL, hSA, hls, T, L, vm0, k0, X, eT, hS, hk, hZ, hG, hF, hMo, hst.trans (XS.ifNo X.here hx rfl (hb hc hd) rfl (by rw [if0]; exact cP_f h) (Steps.refl _))⟩
theorem Wk.icT {cd : ClassFile.Cond} {x y : Int32} {o : Int} (A : Wk l Z a0 EL own code ml nm rt R D pc ls (.int y :: .int x :: st) H k n) (hd : decode code pc = .ok (.if_icmp cd o, 3)) (h : cP cd x y) {pe : Nat} (hp : 0 ≤ (pc : Int) + o ∧ ((pc : Int) + o).toNat = pe) :
    Wk l Z a0 EL own code ml nm rt R D pe ls st H k n := by
  obtain ⟨p, e, s, m, args, below, meth, c, s0, H0⟩ := D
  obtain ⟨hx, hown, hc, hml, hnm, hrt, hlk, hEL, hSA, hls, T, L, vm0, k0, X, eT, hS, hk, hZ, hG, hF, hMo, hst⟩ := A
  dsimp only at hx hown hc hml hnm hrt hlk X hS hMo hst
  have hown' : (s.setVm vm0).vm.findClass own = some m.cls := (hS.1.alike.findClass _ _).trans hown
  have hZ' : Z.Warmed39 (s.setVm vm0).vm := hZ
  exact ⟨hx, hown, hc, hml, hnm, hrt, hlk, hEL, hSA, hls, T, L, vm0, k0, X, eT, hS, hk, hZ, hG, hF, hMo, hst.trans (XS.icmpYes X.here hx rfl rfl (hb hc hd) rfl (cP_t h) hp.1 hp.2 (Steps.refl _))⟩
theorem Wk.icF {cd : ClassFile.Cond} {x y : Int32} {o : Int} (A : Wk l Z a0 EL own code ml nm rt R D pc ls (.int y :: .int x :: st) H k n) (hd : decode code pc = .ok (.if_icmp cd o, 3)) (h : ¬ cP cd x y) :
    Wk l Z a0 EL own code ml nm rt R D (pc + 3) ls st H k n := by
  obtain ⟨p, e, s, m, args, below, meth, c, s0, H0⟩ := D
  obtain ⟨hx, hown, hc, hml, hnm, hrt, hlk, hEL, hSA, hls, T, L, vm0, k0, X, eT, hS, hk, hZ, hG, hF, hMo, hst⟩ := A
  dsimp only at hx hown hc hml hnm hrt hlk X hS hMo hst
  have hown' : (s.setVm vm0).vm.findClass own = some m.cls := (hS.1.alike.findClass _ _).trans hown
  have hZ' : Z.Warmed39 (s.setVm vm0).vm := hZ
  exact ⟨hx, hown, hc, hml, hnm, hrt, hlk, hEL, hSA, hls, T, L, vm0, k0, X, eT, hS, hk, hZ, hG, hF, hMo, hst.trans (XS.icmpNo X.here hx rfl (hb hc hd) rfl (cP_f h) (Steps.refl _))⟩
theorem Wk.nullT {o : Int} (A : Wk l Z a0 EL own code ml nm rt R D pc ls (.null :: st) H k n) (hd : decode code pc = .ok (.ifnull o, 3)) {pe : Nat} (hp : 0 ≤ (pc : Int) + o ∧ ((pc : Int) + o).toNat = pe) :
    Wk l Z a0 EL own code ml nm rt R D pe ls st H k n := by
  obtain ⟨p, e, s, m, args, below, meth, c, s0, H0⟩ := D
  obtain ⟨hx, hown, hc, hml, hnm, hrt, hlk, hEL, hSA, hls, T, L, vm0, k0, X, eT, hS, hk, hZ, hG, hF, hMo, hst⟩ := A
  dsimp only at hx hown hc hml hnm hrt hlk X hS hMo hst
  have hown' : (s.setVm vm0).vm.findClass own = some m.cls := (hS.1.alike.findClass _ _).trans hown
  have hZ' : Z.Warmed39 (s.setVm vm0).vm := hZ
  exact ⟨hx, hown, hc, hml, hnm, hrt, hlk, hEL, hSA, hls, T, L, vm0, k0, X, eT, hS, hk, hZ, hG, hF, hMo, hst.trans (XS.ifnullYes X.here hx rfl rfl (hb hc hd) rfl hp.1 hp.2 (Steps.refl _))⟩
theorem Wk.nullF {o : Int} (A : Wk l Z a0 EL own code ml nm rt R D pc ls (.ref a :: st) H k n) (hd : decode code pc = .ok (.ifnull o, 3)) :
    Wk l Z a0 EL own code ml nm rt R D (pc + 3) ls st H k n := by
  obtain ⟨p, e, s, m, args, below, meth, c, s0, H0⟩ := D
  obtain ⟨hx, hown, hc, hml, hnm, hrt, hlk, hEL, hSA, hls, T, L, vm0, k0, X, eT, hS, hk, hZ, hG, hF, hMo, hst⟩ := A
  dsimp only at hx hown hc hml hnm hrt hlk X hS hMo hst
  have hown' : (s.setVm vm0).vm.findClass own = some m.cls := (hS.1.alike.findClass _ _).trans hown
  have hZ' : Z.Warmed39 (s.setVm vm0).vm := hZ
  exact ⟨hx, hown, hc, hml, hnm, hrt, hlk, hEL, hSA, hls, T, L, vm0, k0, X, eT, hS, hk, hZ, hG, hF, hMo, hst.trans (XS.ifnullNo X.here hx rfl (hb hc hd) rfl (Steps.refl _))⟩
theorem Wk.nnullT {o : Int} (A : Wk l Z a0 EL own code ml nm rt R D pc ls (.ref a :: st) H k n) (hd : decode code pc = .ok (.ifnonnull o, 3)) {pe : Nat} (hp : 0 ≤ (pc : Int) + o ∧ ((pc : Int) + o).toNat = pe) :
    Wk l Z a0 EL own code ml nm rt R D pe ls st H k n := by
  obtain ⟨p, e, s, m, args, below, meth, c, s0, H0⟩ := D
  obtain ⟨hx, hown, hc, hml, hnm, hrt, hlk, hEL, hSA, hls, T, L, vm0, k0, X, eT, hS, hk, hZ, hG, hF, hMo, hst⟩ := A
  dsimp only at hx hown hc hml hnm hrt hlk X hS hMo hst
  have hown' : (s.setVm vm0).vm.findClass own = some m.cls := (hS.1.alike.findClass _ _).trans hown
  have hZ' : Z.Warmed39 (s.setVm vm0).vm := hZ
  exact ⟨hx, hown, hc, hml, hnm, hrt, hlk, hEL, hSA, hls, T, L, vm0, k0, X, eT, hS, hk, hZ, hG, hF, hMo, hst.trans (XT.ifnonnullYes X.here hx rfl rfl (hb hc hd) rfl hp.1 hp.2 (Steps.refl _))⟩
theorem Wk.nnullF {o : Int} (A : Wk l Z a0 EL own code ml nm rt R D pc ls (.null :: st) H k n) (hd : decode code pc = .ok (.ifnonnull o, 3)) :
    Wk l Z a0 EL own code ml nm rt R D (pc + 3) ls st H k n := by
  obtain ⟨p, e, s, m, args, below, meth, c, s0, H0⟩ := D
  obtain ⟨hx, hown, hc, hml, hnm, hrt, hlk, hEL, hSA, hls, T, L, vm0, k0, X, eT, hS, hk, hZ, hG, hF, hMo, hst⟩ := A
  dsimp only at hx hown hc hml hnm hrt hlk X hS hMo hst
  have hown' : (s.setVm vm0).vm.findClass own = some m.cls := (hS.1.alike.findClass _ _).trans hown
  have hZ' : Z.Warmed39 (s.setVm vm0).vm := hZ
  exact ⟨hx, hown, hc, hml, hnm, hrt, hlk, hEL, hSA, hls, T, L, vm0, k0, X, eT, hS, hk, hZ, hG, hF, hMo, hst.trans (XT.ifnonnullNo X.here hx rfl (hb hc hd) rfl (Steps.refl _))⟩
theorem Wk.acmp (A : Wk l Z a0 EL own code ml nm rt R D pc ls (w :: v :: st) H k n) {cd : ClassFile.ACond} {o : Int} (hd : decode code pc = .ok (.if_acmp cd o, 3)) (h1 : v.isRef = true) (h2 : w.isRef = true) {same : Bool} (hq : decide (v = w) = same) {pe : Nat} (ho : 0 ≤ (pc : Int) + o) (hp : pe = if acV cd same = true then ((pc : Int) + o).toNat else pc + 3) :
    Wk l Z a0 EL own code ml nm rt R D pe ls st H k n := by
  obtain ⟨p, e, s, m, args, below, meth, c, s0, H0⟩ := D
  obtain ⟨hx, hown, hc, hml, hnm, hrt, hlk, hEL, hSA, hls, T, L, vm0, k0, X, eT, hS, hk, hZ, hG, hF, hMo, hst⟩ := A
  dsimp only at hx hown hc hml hnm hrt hlk X hS hMo hst
  have hown' : (s.setVm vm0).vm.findClass own = some m.cls := (hS.1.alike.findClass _ _).trans hown
  have hZ' : Z.Warmed39 (s.setVm vm0).vm := hZ
  exact ⟨hx, hown, hc, hml, hnm, hrt, hlk, hEL, hSA, hls, T, L, vm0, k0, X, eT, hS, hk, hZ, hG, hF, hMo, hst.trans (acmp X hx rfl h1 h2 rfl (hb hc hd) rfl hq ho hp (Steps.refl _))⟩
theorem Wk.tsw {x : Int32} (A : Wk l Z a0 EL own code ml nm rt R D pc ls (.int x :: st) H k n) :
    Wk l Z a0 EL own code ml nm rt R D pc ls (.int x :: st) H k n := by
  obtain ⟨p, e, s, m, args, below, meth, c, s0, H0⟩ := D
  obtain ⟨hx, hown, hc, hml, hnm, hrt, hlk, hEL, hSA, hls, T, L, vm0, k0, X, eT, hS, hk, hZ, hG, hF, hMo, hst⟩ := A
  dsimp only at hx hown hc hml hnm hrt hlk X hS hMo hst
  have hown' : (s.setVm vm0).vm.findClass own = some m.cls := (hS.1.alike.findClass _ _).trans hown
  have hZ' : Z.Warmed39 (s.setVm vm0).vm := hZ
  exact ⟨hx, hown, hc, hml, hnm, hrt, hlk, hEL, hSA, hls, T, L, vm0, k0, X, eT, hS, hk, hZ, hG, hF, hMo, hst⟩
theorem Wk.getF {R0 O : String} {index : Nat} (A : Wk l Z a0 EL own code ml nm rt R D pc ls (.ref a :: st) H k n) (w : (Jvm.Cond.fieldLink own index R0 nn d).before a0 Z = true) (F : Fld Z H.1 a O nn d v) (hd : decode code pc = .ok (.getfield index, 3)) (via : Via Z R0 O nn d := by exact Via.refl) :
    Wk l Z a0 EL own code ml nm rt R D (pc + 3) ls (v :: st) H k n := by
  obtain ⟨p, e, s, m, args, below, meth, c, s0, H0⟩ := D
  obtain ⟨hx, hown, hc, hml, hnm, hrt, hlk, hEL, hSA, hls, T, L, vm0, k0, X, eT, hS, hk, hZ, hG, hF, hMo, hst⟩ := A
  dsimp only at hx hown hc hml hnm hrt hlk X hS hMo hst
  have hown' : (s.setVm vm0).vm.findClass own = some m.cls := (hS.1.alike.findClass _ _).trans hown
  have hZ' : Z.Warmed39 (s.setVm vm0).vm := hZ
  obtain ⟨T', X', e', st'⟩ := RoadKit.getF (host := "") X hx hZ' hown' (Or.inl w) via eT F (g := mkF m pc ls.toArray (.ref a :: st)) rfl rfl (hb hc hd)
  exact ⟨hx, hown, hc, hml, hnm, hrt, hlk, hEL, hSA, hls, T', L, vm0, k0, X', e', hS, hk, hZ, hG, hF, hMo, hst.trans (st' _ (Steps.refl _))⟩
theorem Wk.getFN {R0 O host : String} {index : Nat} (A : Wk l Z a0 EL own code ml nm rt R D pc ls (.ref a :: st) H k n) (w : (Jvm.Cond.fieldLinkNest own index R0 nn d host).before a0 Z = true) (F : Fld Z H.1 a O nn d v) (hd : decode code pc = .ok (.getfield index, 3)) (via : Via Z R0 O nn d := by exact Via.refl) :
    Wk l Z a0 EL own code ml nm rt R D (pc + 3) ls (v :: st) H k n := by
  obtain ⟨p, e, s, m, args, below, meth, c, s0, H0⟩ := D
  obtain ⟨hx, hown, hc, hml, hnm, hrt, hlk, hEL, hSA, hls, T, L, vm0, k0, X, eT, hS, hk, hZ, hG, hF, hMo, hst⟩ := A
  dsimp only at hx hown hc hml hnm hrt hlk X hS hMo hst
  have hown' : (s.setVm vm0).vm.findClass own = some m.cls := (hS.1.alike.findClass _ _).trans hown
  have hZ' : Z.Warmed39 (s.setVm vm0).vm := hZ
  obtain ⟨T', X', e', st'⟩ := RoadKit.getF X hx hZ' hown' (Or.inr w) via eT F (g := mkF m pc ls.toArray (.ref a :: st)) rfl rfl (hb hc hd)
  exact ⟨hx, hown, hc, hml, hnm, hrt, hlk, hEL, hSA, hls, T', L, vm0, k0, X', e', hS, hk, hZ, hG, hF, hMo, hst.trans (st' _ (Steps.refl _))⟩
theorem Wk.getS {R0 O : String} {index : Nat} (A : Wk l Z a0 EL own code ml nm rt R D pc ls st H k n) (w : (Jvm.Cond.fieldLink own index R0 nn d).before a0 Z = true) (F : Sta Z Z.heap O nn d v) (hd : decode code pc = .ok (.getstatic index, 3)) (via : Via Z R0 O nn d := by exact Via.refl) :
    Wk l Z a0 EL own code ml nm rt R D (pc + 3) ls (v :: st) H k n := by
  obtain ⟨p, e, s, m, args, below, meth, c, s0, H0⟩ := D
  obtain ⟨hx, hown, hc, hml, hnm, hrt, hlk, hEL, hSA, hls, T, L, vm0, k0, X, eT, hS, hk, hZ, hG, hF, hMo, hst⟩ := A
  dsimp only at hx hown hc hml hnm hrt hlk X hS hMo hst
  have hown' : (s.setVm vm0).vm.findClass own = some m.cls := (hS.1.alike.findClass _ _).trans hown
  have hZ' : Z.Warmed39 (s.setVm vm0).vm := hZ
  obtain ⟨T', X', e', st'⟩ := RoadKit.getS (host := "") X hx hZ' hown' w via eT (F.ext hG.1) (g := mkF m pc ls.toArray st) rfl (hb hc hd)
  exact ⟨hx, hown, hc, hml, hnm, hrt, hlk, hEL, hSA, hls, T', L, vm0, k0, X', e', hS, hk, hZ, hG, hF, hMo, hst.trans (st' _ (Steps.refl _))⟩
theorem Wk.putF {R0 O : String} {index kk : Nat} {old : Value} (A : Wk l Z a0 EL own code ml nm rt R D pc ls (v :: .ref a :: st) H k n) (w : (Jvm.Cond.fieldLink own index R0 nn d).before a0 Z = true) (F : Fld Z H.1 a O nn d old) (E : Exa Z H.1 a C) (wl : (Jvm.Cond.lays C O nn d).before a0 Z = true) (wi : (Jvm.Cond.instantiable C kk).before a0 Z = true) (o : H.2 a) (hd : decode code pc = .ok (.putfield index, 3)) (hty : parseFieldDescriptor d = some ty) (hn : narrow ty v = v) (hf : fits ty v = true) (via : Via Z R0 O nn d := by exact Via.refl) :
    ∃ H' : HP, Wk l Z a0 EL own code ml nm rt R D (pc + 3) ls st H' k n ∧ Kp H H' [a] ∧ Wr H.1 H'.1 a (Jvm.RoadKit.slotOf Z O nn d) v := by
  obtain ⟨p, e, s, m, args, below, meth, c, s0, H0⟩ := D
  obtain ⟨hx, hown, hc, hml, hnm, hrt, hlk, hEL, hSA, hls, T, L, vm0, k0, X, eT, hS, hk, hZ, hG, hF, hMo, hst⟩ := A
  dsimp only at hx hown hc hml hnm hrt hlk X hS hMo hst
  have hown' : (s.setVm vm0).vm.findClass own = some m.cls := (hS.1.alike.findClass _ _).trans hown
  have hZ' : Z.Warmed39 (s.setVm vm0).vm := hZ
  obtain ⟨T', h', X', e', Wr1, st'⟩ := RoadKit.putF (host := "") X hx hZ' hown' (Or.inl w) via eT F E (Or.inl wl) wi hty hn hf (g := mkF m pc ls.toArray (v :: .ref a :: st)) rfl rfl (hb hc hd)
  have o2 := hG.2.1 a o
  refine ⟨(h', H.2), ⟨hx, hown, hc, hml, hnm, hrt, hlk, hEL, hSA, hls, T', (L ++ [_]), vm0, k0, X', e', hS, (by show _ ≤ h'.size; rw [Wr1.size]; exact hk), hZ, (hG.wr Wr1 o), (hF.app fun y hy => by cases List.mem_singleton.mp hy; exact o2.1), ⟨hMo.1, by show _ ≤ h'.size; rw [Wr1.size]; exact hMo.2⟩, hst.trans (st' _ (Steps.refl _))⟩, ⟨Keep.of_wr Wr1, fun _ q => q⟩, Wr1⟩
theorem Wk.putFin {R0 O : String} {index kk : Nat} {old : Value} (A : Wk l Z a0 EL own code ml nm rt R D pc ls (v :: .ref a :: st) H k n) (w : (Jvm.Cond.fieldLink own index R0 nn d).before a0 Z = true) (F : Fld Z H.1 a O nn d old) (E : Exa Z H.1 a C) (wl : (Jvm.Cond.laysFinal C O nn d).before a0 Z = true) (ho : own = O) (hi : nm = "<init>") (wi : (Jvm.Cond.instantiable C kk).before a0 Z = true) (o : H.2 a) (hd : decode code pc = .ok (.putfield index, 3)) (hty : parseFieldDescriptor d = some ty) (hn : narrow ty v = v) (hf : fits ty v = true) (via : Via Z R0 O nn d := by exact Via.refl) :
    ∃ H' : HP, Wk l Z a0 EL own code ml nm rt R D (pc + 3) ls st H' k n ∧ Kp H H' [a] ∧ Wr H.1 H'.1 a (Jvm.RoadKit.slotOf Z O nn d) v := by
  obtain ⟨p, e, s, m, args, below, meth, c, s0, H0⟩ := D
  obtain ⟨hx, hown, hc, hml, hnm, hrt, hlk, hEL, hSA, hls, T, L, vm0, k0, X, eT, hS, hk, hZ, hG, hF, hMo, hst⟩ := A
  dsimp only at hx hown hc hml hnm hrt hlk X hS hMo hst
  have hown' : (s.setVm vm0).vm.findClass own = some m.cls := (hS.1.alike.findClass _ _).trans hown
  have hZ' : Z.Warmed39 (s.setVm vm0).vm := hZ
  obtain ⟨T', h', X', e', Wr1, st'⟩ := RoadKit.putF (host := "") X hx hZ' hown' (Or.inl w) via eT F E (Or.inr ⟨wl, ho, hnm.trans hi⟩) wi hty hn hf (g := mkF m pc ls.toArray (v :: .ref a :: st)) rfl rfl (hb hc hd)
  have o2 := hG.2.1 a o
  refine ⟨(h', H.2), ⟨hx, hown, hc, hml, hnm, hrt, hlk, hEL, hSA, hls, T', (L ++ [_]), vm0, k0, X', e', hS, (by show _ ≤ h'.size; rw [Wr1.size]; exact hk), hZ, (hG.wr Wr1 o), (hF.app fun y hy => by cases List.mem_singleton.mp hy; exact o2.1), ⟨hMo.1, by show _ ≤ h'.size; rw [Wr1.size]; exact hMo.2⟩, hst.trans (st' _ (Steps.refl _))⟩, ⟨Keep.of_wr Wr1, fun _ q => q⟩, Wr1⟩
theorem Wk.newO {index q : Nat} (A : Wk l Z a0 EL own code ml nm rt R D pc ls st H k n) (w : (Jvm.Cond.classLink own index C).before a0 Z = true) (wi : (Jvm.Cond.instantiable C q).before a0 Z = true) (wz : (Jvm.Cond.initialized C).before a0 Z = true) (hd : decode code pc = .ok (.new index, 3)) (hcl : k + 1 ≤ R.cells) (hsl : n + q ≤ R.slots) :
    ∃ (a : Addr) (H' : HP), Wk l Z a0 EL own code ml nm rt R D (pc + 3) ls (.ref a :: st) H' (k + 1) (n + q) ∧ H.1.size ≤ a ∧ Kp H H' [] ∧ Exa Z H'.1 a C ∧ H'.2 a ∧ ∀ {O fn fd : String} {t : FieldType}, Laid Z a0 C O fn fd → parseFieldDescriptor fd = some t → Fld Z H'.1 a O fn fd (defaultValue t) := by
  obtain ⟨p, e, s, m, args, below, meth, c, s0, H0⟩ := D
  obtain ⟨hx, hown, hc, hml, hnm, hrt, hlk, hEL, hSA, hls, T, L, vm0, k0, X, eT, hS, hk, hZ, hG, hF, hMo, hst⟩ := A
  dsimp only at hx hown hc hml hnm hrt hlk X hS hMo hst
  have hown' : (s.setVm vm0).vm.findClass own = some m.cls := (hS.1.alike.findClass _ _).trans hown
  have hZ' : Z.Warmed39 (s.setVm vm0).vm := hZ
  obtain ⟨T', h', X', e', E, Ex, Fl, -, st'⟩ := RoadKit.newO X hx hZ' hown' w wi wz eT (g := mkF m pc ls.toArray st) rfl (hb hc hd) hcl hsl
  exact ⟨H.1.size, (h', fun y => H.2 y ∨ y = H.1.size), ⟨hx, hown, hc, hml, hnm, hrt, hlk, hEL, hSA, hls, T', L, vm0, k0, X', e', hS, (Nat.le_trans hk E.1), hZ, (hG.ext E Ex.lt), hF, ⟨fun x q => Or.inl (hMo.1 x q), Nat.le_trans hMo.2 E.1⟩, hst.trans (st' _ (Steps.refl _))⟩, Nat.le_refl _, ⟨(Keep.refl _ _).ext E, fun _ q => Or.inl q⟩, Ex, Or.inr rfl, Fl⟩
theorem Wk.newA {aty : ArrayType} {z : Int32} (A : Wk l Z a0 EL own code ml nm rt R D pc ls (.int z :: st) H k n) (w : (Jvm.Cond.arrayClass (newarray.typeOf aty)).before a0 Z = true) (hd : decode code pc = .ok (.newarray aty, 2)) {N : Nat} (hN : N.toInt32 = z) {cap : Nat} (hcap : N ≤ cap) (hbg : cap * 8 ≤ 536870912) (hcl : k + 1 ≤ R.cells) (hsl : n + cap ≤ R.slots) :
    ∃ (a : Addr) (H' : HP), Wk l Z a0 EL own code ml nm rt R D (pc + 2) ls (.ref a :: st) H' (k + 1) (n + cap) ∧ H.1.size ≤ a ∧ Kp H H' [] ∧ Ar Z H' a (newarray.typeOf aty) (List.replicate N (defaultValue (newarray.typeOf aty))) ∧ H'.2 a := by
  obtain ⟨p, e, s, m, args, below, meth, c, s0, H0⟩ := D
  obtain ⟨hx, hown, hc, hml, hnm, hrt, hlk, hEL, hSA, hls, T, L, vm0, k0, X, eT, hS, hk, hZ, hG, hF, hMo, hst⟩ := A
  dsimp only at hx hown hc hml hnm hrt hlk X hS hMo hst
  have hown' : (s.setVm vm0).vm.findClass own = some m.cls := (hS.1.alike.findClass _ _).trans hown
  have hZ' : Z.Warmed39 (s.setVm vm0).vm := hZ
  subst hN
  have hN2 : N < 2 ^ 31 := by omega
  obtain ⟨T', h', cA, X', e', E, Ex, st'⟩ := RoadKit.newP X hx hZ' w eT (g := mkF m pc ls.toArray (.int N.toInt32 :: st)) rfl (hb hc hd) rfl (nonneg_nat hN2) (cap := cap) (by rw [clamp_nat hN2]; exact hcap) hbg hcl hsl
  refine ⟨H.1.size, (h', fun y => H.2 y ∨ y = H.1.size), ⟨hx, hown, hc, hml, hnm, hrt, hlk, hEL, hSA, hls, T', L, vm0, k0, X', e', hS, (Nat.le_trans hk E.1), hZ, (hG.ext E Ex.lt), hF, ⟨fun x q => Or.inl (hMo.1 x q), Nat.le_trans hMo.2 E.1⟩, hst.trans (st' _ (Steps.refl _))⟩, Nat.le_refl _, ⟨(Keep.refl _ _).ext E, fun _ q => Or.inl q⟩, ⟨_, Ex, by simp [newA, clamp_nat hN2], by simpa using hN2, fun v hv => ?_⟩, Or.inr rfl⟩
  obtain ⟨-, rfl⟩ := List.mem_replicate.mp hv
  cases aty <;> rfl
theorem Wk.alen (A : Wk l Z a0 EL own code ml nm rt R D pc ls (.ref a :: st) H k n) (F : Ar Z H a ty vs) (hd : decode code pc = .ok (.arraylength, 1)) {z : Int32} (hz : vs.length.toInt32 = z) :
    Wk l Z a0 EL own code ml nm rt R D (pc + 1) ls (.int z :: st) H k n := by
  obtain ⟨p, e, s, m, args, below, meth, c, s0, H0⟩ := D
  obtain ⟨hx, hown, hc, hml, hnm, hrt, hlk, hEL, hSA, hls, T, L, vm0, k0, X, eT, hS, hk, hZ, hG, hF, hMo, hst⟩ := A
  dsimp only at hx hown hc hml hnm hrt hlk X hS hMo hst
  have hown' : (s.setVm vm0).vm.findClass own = some m.cls := (hS.1.alike.findClass _ _).trans hown
  have hZ' : Z.Warmed39 (s.setVm vm0).vm := hZ
  obtain ⟨cl, Aq, hsl, -, -⟩ := F
  have hsz : cl.slots.size = vs.length := by rw [hsl]; simp
  exact ⟨hx, hown, hc, hml, hnm, hrt, hlk, hEL, hSA, hls, T, L, vm0, k0, X, eT, hS, hk, hZ, hG, hF, hMo, hst.trans (X.arraylength hx (by rw [eT]; exact Aq.1) (State.isArrayOf_alike hZ'.alike Aq.2.1) (g := mkF m pc ls.toArray (.ref a :: st)) rfl rfl (hb hc hd) _ (by rw [hsz, hz]; exact Steps.refl _))⟩
theorem Wk.caload {i : Nat} {j : Int32} (A : Wk l Z a0 EL own code ml nm rt R D pc ls (.int j :: .ref a :: st) H k n) (F : Ar Z H a .char vs) (hd : decode code pc = .ok (.caload, 1)) (hj : i.toInt32 = j) (hv : vs[i]? = some v) :
    Wk l Z a0 EL own code ml nm rt R D (pc + 1) ls (v :: st) H k n := by
  obtain ⟨p, e, s, m, args, below, meth, c, s0, H0⟩ := D
  obtain ⟨hx, hown, hc, hml, hnm, hrt, hlk, hEL, hSA, hls, T, L, vm0, k0, X, eT, hS, hk, hZ, hG, hF, hMo, hst⟩ := A
  dsimp only at hx hown hc hml hnm hrt hlk X hS hMo hst
  have hown' : (s.setVm vm0).vm.findClass own = some m.cls := (hS.1.alike.findClass _ _).trans hown
  have hZ' : Z.Warmed39 (s.setVm vm0).vm := hZ
  subst hj
  obtain ⟨cl, Aq, hsl, hlen, -⟩ := F
  have hi : i < vs.length := (List.getElem?_eq_some_iff.mp hv).1
  have hsz : cl.slots.size = vs.length := by rw [hsl]; simp
  exact ⟨hx, hown, hc, hml, hnm, hrt, hlk, hEL, hSA, hls, T, L, vm0, k0, X, eT, hS, hk, hZ, hG, hF, hMo, hst.trans (X.caload hx (by rw [eT]; exact Aq.1) (State.isArrayOf_alike hZ'.alike Aq.2.1) Aq.2.2 (by rw [hsz]; exact idx_in hi hlen) (by rw [clamp_nat (Nat.lt_trans hi hlen), hsl]; simpa using hv) (g := mkF m pc ls.toArray (.int i.toInt32 :: .ref a :: st)) rfl rfl (hb hc hd) _ (Steps.refl _))⟩
theorem Wk.baload {i : Nat} {j : Int32} (A : Wk l Z a0 EL own code ml nm rt R D pc ls (.int j :: .ref a :: st) H k n) (F : Ar Z H a .byte vs) (hd : decode code pc = .ok (.baload, 1)) (hj : i.toInt32 = j) (hv : vs[i]? = some v) :
    Wk l Z a0 EL own code ml nm rt R D (pc + 1) ls (v :: st) H k n := by
  obtain ⟨p, e, s, m, args, below, meth, c, s0, H0⟩ := D
  obtain ⟨hx, hown, hc, hml, hnm, hrt, hlk, hEL, hSA, hls, T, L, vm0, k0, X, eT, hS, hk, hZ, hG, hF, hMo, hst⟩ := A
  dsimp only at hx hown hc hml hnm hrt hlk X hS hMo hst
  have hown' : (s.setVm vm0).vm.findClass own = some m.cls := (hS.1.alike.findClass _ _).trans hown
  have hZ' : Z.Warmed39 (s.setVm vm0).vm := hZ
  subst hj
  obtain ⟨cl, Aq, hsl, hlen, -⟩ := F
  have hi : i < vs.length := (List.getElem?_eq_some_iff.mp hv).1
  have hsz : cl.slots.size = vs.length := by rw [hsl]; simp
  exact ⟨hx, hown, hc, hml, hnm, hrt, hlk, hEL, hSA, hls, T, L, vm0, k0, X, eT, hS, hk, hZ, hG, hF, hMo, hst.trans (X.baloadBytes hx (by rw [eT]; exact Aq.1) (State.isArrayOf_alike hZ'.alike Aq.2.1) Aq.2.2 (by rw [hsz]; exact idx_in hi hlen) (by rw [clamp_nat (Nat.lt_trans hi hlen), hsl]; simpa using hv) (g := mkF m pc ls.toArray (.int i.toInt32 :: .ref a :: st)) rfl rfl (hb hc hd) _ (Steps.refl _))⟩
theorem Wk.zaload {i : Nat} {j : Int32} (A : Wk l Z a0 EL own code ml nm rt R D pc ls (.int j :: .ref a :: st) H k n) (F : Ar Z H a .boolean vs) (hd : decode code pc = .ok (.baload, 1)) (hj : i.toInt32 = j) (hv : vs[i]? = some v) :
    Wk l Z a0 EL own code ml nm rt R D (pc + 1) ls (v :: st) H k n := by
  obtain ⟨p, e, s, m, args, below, meth, c, s0, H0⟩ := D
  obtain ⟨hx, hown, hc, hml, hnm, hrt, hlk, hEL, hSA, hls, T, L, vm0, k0, X, eT, hS, hk, hZ, hG, hF, hMo, hst⟩ := A
  dsimp only at hx hown hc hml hnm hrt hlk X hS hMo hst
  have hown' : (s.setVm vm0).vm.findClass own = some m.cls := (hS.1.alike.findClass _ _).trans hown
  have hZ' : Z.Warmed39 (s.setVm vm0).vm := hZ
  subst hj
  obtain ⟨cl, Aq, hsl, hlen, -⟩ := F
  have hi : i < vs.length := (List.getElem?_eq_some_iff.mp hv).1
  have hsz : cl.slots.size = vs.length := by rw [hsl]; simp
  exact ⟨hx, hown, hc, hml, hnm, hrt, hlk, hEL, hSA, hls, T, L, vm0, k0, X, eT, hS, hk, hZ, hG, hF, hMo, hst.trans (X.baloadBooleans hx (by rw [eT]; exact Aq.1) (State.isArrayOf_alike hZ'.alike Aq.2.1) Aq.2.2 (by rw [hsz]; exact idx_in hi hlen) (by rw [clamp_nat (Nat.lt_trans hi hlen), hsl]; simpa using hv) (g := mkF m pc ls.toArray (.int i.toInt32 :: .ref a :: st)) rfl rfl (hb hc hd) _ (Steps.refl _))⟩
theorem Wk.iaload {i : Nat} {j : Int32} (A : Wk l Z a0 EL own code ml nm rt R D pc ls (.int j :: .ref a :: st) H k n) (F : Ar Z H a .int vs) (hd : decode code pc = .ok (.iaload, 1)) (hj : i.toInt32 = j) (hv : vs[i]? = some v) :
    Wk l Z a0 EL own code ml nm rt R D (pc + 1) ls (v :: st) H k n := by
  obtain ⟨p, e, s, m, args, below, meth, c, s0, H0⟩ := D
  obtain ⟨hx, hown, hc, hml, hnm, hrt, hlk, hEL, hSA, hls, T, L, vm0, k0, X, eT, hS, hk, hZ, hG, hF, hMo, hst⟩ := A
  dsimp only at hx hown hc hml hnm hrt hlk X hS hMo hst
  have hown' : (s.setVm vm0).vm.findClass own = some m.cls := (hS.1.alike.findClass _ _).trans hown
  have hZ' : Z.Warmed39 (s.setVm vm0).vm := hZ
  subst hj
  obtain ⟨cl, Aq, hsl, hlen, -⟩ := F
  have hi : i < vs.length := (List.getElem?_eq_some_iff.mp hv).1
  have hsz : cl.slots.size = vs.length := by rw [hsl]; simp
  exact ⟨hx, hown, hc, hml, hnm, hrt, hlk, hEL, hSA, hls, T, L, vm0, k0, X, eT, hS, hk, hZ, hG, hF, hMo, hst.trans (X.iaload hx (by rw [eT]; exact Aq.1) (State.isArrayOf_alike hZ'.alike Aq.2.1) Aq.2.2 (by rw [hsz]; exact idx_in hi hlen) (by rw [clamp_nat (Nat.lt_trans hi hlen), hsl]; simpa using hv) (g := mkF m pc ls.toArray (.int i.toInt32 :: .ref a :: st)) rfl rfl (hb hc hd) _ (Steps.refl _))⟩
theorem Wk.laload {i : Nat} {j : Int32} (A : Wk l Z a0 EL own code ml nm rt R D pc ls (.int j :: .ref a :: st) H k n) (F : Ar Z H a .long vs) (hd : decode code pc = .ok (.laload, 1)) (hj : i.toInt32 = j) (hv : vs[i]? = some v) :
    Wk l Z a0 EL own code ml nm rt R D (pc + 1) ls (v :: st) H k n := by
  obtain ⟨p, e, s, m, args, below, meth, c, s0, H0⟩ := D
  obtain ⟨hx, hown, hc, hml, hnm, hrt, hlk, hEL, hSA, hls, T, L, vm0, k0, X, eT, hS, hk, hZ, hG, hF, hMo, hst⟩ := A
  dsimp only at hx hown hc hml hnm hrt hlk X hS hMo hst
  have hown' : (s.setVm vm0).vm.findClass own = some m.cls := (hS.1.alike.findClass _ _).trans hown
  have hZ' : Z.Warmed39 (s.setVm vm0).vm := hZ
  subst hj
  obtain ⟨cl, Aq, hsl, hlen, -⟩ := F
  have hi : i < vs.length := (List.getElem?_eq_some_iff.mp hv).1
  have hsz : cl.slots.size = vs.length := by rw [hsl]; simp
  exact ⟨hx, hown, hc, hml, hnm, hrt, hlk, hEL, hSA, hls, T, L, vm0, k0, X, eT, hS, hk, hZ, hG, hF, hMo, hst.trans (X.laload hx (by rw [eT]; exact Aq.1) (State.isArrayOf_alike hZ'.alike Aq.2.1) Aq.2.2 (by rw [hsz]; exact idx_in hi hlen) (by rw [clamp_nat (Nat.lt_trans hi hlen), hsl]; simpa using hv) (g := mkF m pc ls.toArray (.int i.toInt32 :: .ref a :: st)) rfl rfl (hb hc hd) _ (Steps.refl _))⟩
theorem Wk.aaload {i : Nat} {j : Int32} (A : Wk l Z a0 EL own code ml nm rt R D pc ls (.int j :: .ref a :: st) H k n) (F : Ar Z H a ty vs) (hd : decode code pc = .ok (.aaload, 1)) (hj : i.toInt32 = j) (hv : vs[i]? = some v) (hty : ty.isReference = true) :
    Wk l Z a0 EL own code ml nm rt R D (pc + 1) ls (v :: st) H k n := by
  obtain ⟨p, e, s, m, args, below, meth, c, s0, H0⟩ := D
  obtain ⟨hx, hown, hc, hml, hnm, hrt, hlk, hEL, hSA, hls, T, L, vm0, k0, X, eT, hS, hk, hZ, hG, hF, hMo, hst⟩ := A
  dsimp only at hx hown hc hml hnm hrt hlk X hS hMo hst
  have hown' : (s.setVm vm0).vm.findClass own = some m.cls := (hS.1.alike.findClass _ _).trans hown
  have hZ' : Z.Warmed39 (s.setVm vm0).vm := hZ
  subst hj
  obtain ⟨cl, Aq, hsl, hlen, -⟩ := F
  have hi : i < vs.length := (List.getElem?_eq_some_iff.mp hv).1
  have hsz : cl.slots.size = vs.length := by rw [hsl]; simp
  exact ⟨hx, hown, hc, hml, hnm, hrt, hlk, hEL, hSA, hls, T, L, vm0, k0, X, eT, hS, hk, hZ, hG, hF, hMo, hst.trans (X.aaload hx (by rw [eT]; exact Aq.1) (State.isArrayOf_alike hZ'.alike Aq.2.1) hty Aq.2.2 (by rw [hsz]; exact idx_in hi hlen) (by rw [clamp_nat (Nat.lt_trans hi hlen), hsl]; simpa using hv) (g := mkF m pc ls.toArray (.int i.toInt32 :: .ref a :: st)) rfl rfl (hb hc hd) _ (Steps.refl _))⟩
theorem Wk.castore {i : Nat} {j : Int32} {x x2 : Int32} (A : Wk l Z a0 EL own code ml nm rt R D pc ls (.int x :: .int j :: .ref a :: st) H k n) (F : Ar Z H a .char vs) (o : H.2 a) (hd : decode code pc = .ok (.castore, 1)) (hj : i.toInt32 = j) (hi : i < vs.length) (hx2 : nar .char x = x2) :
    ∃ H' : HP, Wk l Z a0 EL own code ml nm rt R D (pc + 1) ls st H' k n ∧ Kp H H' [a] ∧ Ar Z H' a .char (vs.set i (.int x2)) := by
  obtain ⟨p, e, s, m, args, below, meth, c, s0, H0⟩ := D
  obtain ⟨hx, hown, hc, hml, hnm, hrt, hlk, hEL, hSA, hls, T, L, vm0, k0, X, eT, hS, hk, hZ, hG, hF, hMo, hst⟩ := A
  dsimp only at hx hown hc hml hnm hrt hlk X hS hMo hst
  have hown' : (s.setVm vm0).vm.findClass own = some m.cls := (hS.1.alike.findClass _ _).trans hown
  have hZ' : Z.Warmed39 (s.setVm vm0).vm := hZ
  subst hj
  obtain ⟨cl, Aq, hsl, hlen, hft⟩ := F
  have hsz : cl.slots.size = vs.length := by rw [hsl]; simp
  have hi2 : i < 2 ^ 31 := Nat.lt_trans hi hlen
  obtain ⟨T', h', X', e', Wr1, st'⟩ := stC X hx hZ' eT Aq (by rw [hsz]; exact idx_in hi hlen) (g := mkF m pc ls.toArray (.int x :: .int i.toInt32 :: .ref a :: st)) rfl rfl (hb hc hd)
  have o2 := hG.2.1 a o
  refine ⟨(h', H.2), ⟨hx, hown, hc, hml, hnm, hrt, hlk, hEL, hSA, hls, T', (L ++ [_]), vm0, k0, X', e', hS, (by show _ ≤ h'.size; rw [Wr1.size]; exact hk), hZ, (hG.wr Wr1 o), (hF.app fun y hy => by cases List.mem_singleton.mp hy; exact o2.1), ⟨hMo.1, by show _ ≤ h'.size; rw [Wr1.size]; exact hMo.2⟩, hst.trans (st' _ (Steps.refl _))⟩, ⟨Keep.of_wr Wr1, fun _ q => q⟩, ⟨_, Aq.same Wr1, ?_, by simpa using hlen, fun v hv => ?_⟩⟩
  · rw [clamp_nat hi2]; show cl.slots.setIfInBounds i _ = _; rw [hsl]; subst hx2; simp
  · rcases List.mem_or_eq_of_mem_set hv with q | rfl
    · exact hft v q
    · rw [← hx2]; exact fits_nar_char x
theorem Wk.bastore {i : Nat} {j : Int32} {x x2 : Int32} (A : Wk l Z a0 EL own code ml nm rt R D pc ls (.int x :: .int j :: .ref a :: st) H k n) (F : Ar Z H a .byte vs) (o : H.2 a) (hd : decode code pc = .ok (.bastore, 1)) (hj : i.toInt32 = j) (hi : i < vs.length) (hx2 : nar .byte x = x2) :
    ∃ H' : HP, Wk l Z a0 EL own code ml nm rt R D (pc + 1) ls st H' k n ∧ Kp H H' [a] ∧ Ar Z H' a .byte (vs.set i (.int x2)) := by
  obtain ⟨p, e, s, m, args, below, meth, c, s0, H0⟩ := D
  obtain ⟨hx, hown, hc, hml, hnm, hrt, hlk, hEL, hSA, hls, T, L, vm0, k0, X, eT, hS, hk, hZ, hG, hF, hMo, hst⟩ := A
  dsimp only at hx hown hc hml hnm hrt hlk X hS hMo hst
  have hown' : (s.setVm vm0).vm.findClass own = some m.cls := (hS.1.alike.findClass _ _).trans hown
  have hZ' : Z.Warmed39 (s.setVm vm0).vm := hZ
  subst hj
  obtain ⟨cl, Aq, hsl, hlen, hft⟩ := F
  have hsz : cl.slots.size = vs.length := by rw [hsl]; simp
  have hi2 : i < 2 ^ 31 := Nat.lt_trans hi hlen
  obtain ⟨T', h', X', e', Wr1, st'⟩ := stB X hx hZ' eT Aq (by rw [hsz]; exact idx_in hi hlen) (g := mkF m pc ls.toArray (.int x :: .int i.toInt32 :: .ref a :: st)) rfl rfl (hb hc hd)
  have o2 := hG.2.1 a o
  refine ⟨(h', H.2), ⟨hx, hown, hc, hml, hnm, hrt, hlk, hEL, hSA, hls, T', (L ++ [_]), vm0, k0, X', e', hS, (by show _ ≤ h'.size; rw [Wr1.size]; exact hk), hZ, (hG.wr Wr1 o), (hF.app fun y hy => by cases List.mem_singleton.mp hy; exact o2.1), ⟨hMo.1, by show _ ≤ h'.size; rw [Wr1.size]; exact hMo.2⟩, hst.trans (st' _ (Steps.refl _))⟩, ⟨Keep.of_wr Wr1, fun _ q => q⟩, ⟨_, Aq.same Wr1, ?_, by simpa using hlen, fun v hv => ?_⟩⟩
  · rw [clamp_nat hi2]; show cl.slots.setIfInBounds i _ = _; rw [hsl]; subst hx2; simp
  · rcases List.mem_or_eq_of_mem_set hv with q | rfl
    · exact hft v q
    · rw [← hx2]; exact fits_nar_byte x
theorem Wk.zastore {i : Nat} {j : Int32} {x x2 : Int32} (A : Wk l Z a0 EL own code ml nm rt R D pc ls (.int x :: .int j :: .ref a :: st) H k n) (F : Ar Z H a .boolean vs) (o : H.2 a) (hd : decode code pc = .ok (.bastore, 1)) (hj : i.toInt32 = j) (hi : i < vs.length) (hx2 : nar .boolean x = x2) :
    ∃ H' : HP, Wk l Z a0 EL own code ml nm rt R D (pc + 1) ls st H' k n ∧ Kp H H' [a] ∧ Ar Z H' a .boolean (vs.set i (.int x2)) := by
  obtain ⟨p, e, s, m, args, below, meth, c, s0, H0⟩ := D
  obtain ⟨hx, hown, hc, hml, hnm, hrt, hlk, hEL, hSA, hls, T, L, vm0, k0, X, eT, hS, hk, hZ, hG, hF, hMo, hst⟩ := A
  dsimp only at hx hown hc hml hnm hrt hlk X hS hMo hst
  have hown' : (s.setVm vm0).vm.findClass own = some m.cls := (hS.1.alike.findClass _ _).trans hown
  have hZ' : Z.Warmed39 (s.setVm vm0).vm := hZ
  subst hj
  obtain ⟨cl, Aq, hsl, hlen, hft⟩ := F
  have hsz : cl.slots.size = vs.length := by rw [hsl]; simp
  have hi2 : i < 2 ^ 31 := Nat.lt_trans hi hlen
  obtain ⟨T', h', X', e', Wr1, st'⟩ := stZ X hx hZ' eT Aq (by rw [hsz]; exact idx_in hi hlen) (g := mkF m pc ls.toArray (.int x :: .int i.toInt32 :: .ref a :: st)) rfl rfl (hb hc hd)
  have o2 := hG.2.1 a o
  refine ⟨(h', H.2), ⟨hx, hown, hc, hml, hnm, hrt, hlk, hEL, hSA, hls, T', (L ++ [_]), vm0, k0, X', e', hS, (by show _ ≤ h'.size; rw [Wr1.size]; exact hk), hZ, (hG.wr Wr1 o), (hF.app fun y hy => by cases List.mem_singleton.mp hy; exact o2.1), ⟨hMo.1, by show _ ≤ h'.size; rw [Wr1.size]; exact hMo.2⟩, hst.trans (st' _ (Steps.refl _))⟩, ⟨Keep.of_wr Wr1, fun _ q => q⟩, ⟨_, Aq.same Wr1, ?_, by simpa using hlen, fun v hv => ?_⟩⟩
  · rw [clamp_nat hi2]; show cl.slots.setIfInBounds i _ = _; rw [hsl]; subst hx2; simp
  · rcases List.mem_or_eq_of_mem_set hv with q | rfl
    · exact hft v q
    · rw [← hx2]; exact fits_nar_bool x
theorem Wk.iastore {i : Nat} {j : Int32} {x : Int32} (A : Wk l Z a0 EL own code ml nm rt R D pc ls (.int x :: .int j :: .ref a :: st) H k n) (F : Ar Z H a .int vs) (o : H.2 a) (hd : decode code pc = .ok (.iastore, 1)) (hj : i.toInt32 = j) (hi : i < vs.length) :
    ∃ H' : HP, Wk l Z a0 EL own code ml nm rt R D (pc + 1) ls st H' k n ∧ Kp H H' [a] ∧ Ar Z H' a .int (vs.set i (.int x)) := by
  obtain ⟨p, e, s, m, args, below, meth, c, s0, H0⟩ := D
  obtain ⟨hx, hown, hc, hml, hnm, hrt, hlk, hEL, hSA, hls, T, L, vm0, k0, X, eT, hS, hk, hZ, hG, hF, hMo, hst⟩ := A
  dsimp only at hx hown hc hml hnm hrt hlk X hS hMo hst
  have hown' : (s.setVm vm0).vm.findClass own = some m.cls := (hS.1.alike.findClass _ _).trans hown
  have hZ' : Z.Warmed39 (s.setVm vm0).vm := hZ
  subst hj
  obtain ⟨cl, Aq, hsl, hlen, hft⟩ := F
  have hsz : cl.slots.size = vs.length := by rw [hsl]; simp
  have hi2 : i < 2 ^ 31 := Nat.lt_trans hi hlen
  obtain ⟨T', h', X', e', Wr1, st'⟩ := stI X hx hZ' eT Aq (by rw [hsz]; exact idx_in hi hlen) (g := mkF m pc ls.toArray (.int x :: .int i.toInt32 :: .ref a :: st)) rfl rfl (hb hc hd)
  have o2 := hG.2.1 a o
  refine ⟨(h', H.2), ⟨hx, hown, hc, hml, hnm, hrt, hlk, hEL, hSA, hls, T', (L ++ [_]), vm0, k0, X', e', hS, (by show _ ≤ h'.size; rw [Wr1.size]; exact hk), hZ, (hG.wr Wr1 o), (hF.app fun y hy => by cases List.mem_singleton.mp hy; exact o2.1), ⟨hMo.1, by show _ ≤ h'.size; rw [Wr1.size]; exact hMo.2⟩, hst.trans (st' _ (Steps.refl _))⟩, ⟨Keep.of_wr Wr1, fun _ q => q⟩, ⟨_, Aq.same Wr1, ?_, by simpa using hlen, fun v hv => ?_⟩⟩
  · rw [clamp_nat hi2]; show cl.slots.setIfInBounds i _ = _; rw [hsl]; simp
  · rcases List.mem_or_eq_of_mem_set hv with q | rfl
    · exact hft v q
    · rfl
theorem Wk.lastore {i : Nat} {j : Int32} {x : Int64} (A : Wk l Z a0 EL own code ml nm rt R D pc ls (.long x :: .int j :: .ref a :: st) H k n) (F : Ar Z H a .long vs) (o : H.2 a) (hd : decode code pc = .ok (.lastore, 1)) (hj : i.toInt32 = j) (hi : i < vs.length) :
    ∃ H' : HP, Wk l Z a0 EL own code ml nm rt R D (pc + 1) ls st H' k n ∧ Kp H H' [a] ∧ Ar Z H' a .long (vs.set i (.long x)) := by
  obtain ⟨p, e, s, m, args, below, meth, c, s0, H0⟩ := D
  obtain ⟨hx, hown, hc, hml, hnm, hrt, hlk, hEL, hSA, hls, T, L, vm0, k0, X, eT, hS, hk, hZ, hG, hF, hMo, hst⟩ := A
  dsimp only at hx hown hc hml hnm hrt hlk X hS hMo hst
  have hown' : (s.setVm vm0).vm.findClass own = some m.cls := (hS.1.alike.findClass _ _).trans hown
  have hZ' : Z.Warmed39 (s.setVm vm0).vm := hZ
  subst hj
  obtain ⟨cl, Aq, hsl, hlen, hft⟩ := F
  have hsz : cl.slots.size = vs.length := by rw [hsl]; simp
  have hi2 : i < 2 ^ 31 := Nat.lt_trans hi hlen
  obtain ⟨T', h', X', e', Wr1, st'⟩ := stJ X hx hZ' eT Aq (by rw [hsz]; exact idx_in hi hlen) (g := mkF m pc ls.toArray (.long x :: .int i.toInt32 :: .ref a :: st)) rfl rfl (hb hc hd)
  have o2 := hG.2.1 a o
  refine ⟨(h', H.2), ⟨hx, hown, hc, hml, hnm, hrt, hlk, hEL, hSA, hls, T', (L ++ [_]), vm0, k0, X', e', hS, (by show _ ≤ h'.size; rw [Wr1.size]; exact hk), hZ, (hG.wr Wr1 o), (hF.app fun y hy => by cases List.mem_singleton.mp hy; exact o2.1), ⟨hMo.1, by show _ ≤ h'.size; rw [Wr1.size]; exact hMo.2⟩, hst.trans (st' _ (Steps.refl _))⟩, ⟨Keep.of_wr Wr1, fun _ q => q⟩, ⟨_, Aq.same Wr1, ?_, by simpa using hlen, fun v hv => ?_⟩⟩
  · rw [clamp_nat hi2]; show cl.slots.setIfInBounds i _ = _; rw [hsl]; simp
  · rcases List.mem_or_eq_of_mem_set hv with q | rfl
    · exact hft v q
    · rfl
theorem Wk.initO {idx Wd : Nat} (A : Wk l Z a0 EL own code ml nm rt R D pc ls (.ref a :: st) H k n) (w1 : (Jvm.Cond.methodLink own idx Lib.objectInit).before a0 Z = true) (w2 : (Jvm.Cond.instanceMethod Lib.objectInit).before a0 Z = true) (w3 : (Jvm.Cond.code Lib.objectInit ⟨#[0xb1]⟩ 1 none).before a0 Z = true) (hd : decode code pc = .ok (.invokespecial idx, 3)) (hf : 1 ≤ R.frames) (hW : (st.map fun v => v.category).sum ≤ Wd) (hlo : Wd + 12 ≤ R.locals) :
    Wk l Z a0 EL own code ml nm rt R D (pc + 3) ls st H k n := by
  obtain ⟨p, e, s, m, args, below, meth, c, s0, H0⟩ := D
  obtain ⟨hx, hown, hc, hml, hnm, hrt, hlk, hEL, hSA, hls, T, L, vm0, k0, X, eT, hS, hk, hZ, hG, hF, hMo, hst⟩ := A
  dsimp only at hx hown hc hml hnm hrt hlk X hS hMo hst
  have hown' : (s.setVm vm0).vm.findClass own = some m.cls := (hS.1.alike.findClass _ _).trans hown
  have hZ' : Z.Warmed39 (s.setVm vm0).vm := hZ
  obtain ⟨T', X', e', st'⟩ := RoadKit.initO X hx hZ' hown' w1 w2 w3 eT (g := mkF m pc ls.toArray (.ref a :: st)) rfl (by simp [hls, hml]) rfl (hb hc hd) hf (W := Wd) (by simpa using hW) hlo
  exact ⟨hx, hown, hc, hml, hnm, hrt, hlk, hEL, hSA, hls, T', L, vm0, k0, X', e', hS, hk, hZ, hG, hF, hMo, hst.trans (st' _ (Steps.refl _))⟩
theorem Wk.instY {K : String} {index : Nat} (A : Wk l Z a0 EL own code ml nm rt R D pc ls (.ref a :: st) H k n) (w : (Jvm.Cond.classLink own index K).before a0 Z = true) (F : Ins Z H.1 a K true) (hd : decode code pc = .ok (.instanceof index, 3)) :
    Wk l Z a0 EL own code ml nm rt R D (pc + 3) ls (.int 1 :: st) H k n := by
  obtain ⟨p, e, s, m, args, below, meth, c, s0, H0⟩ := D
  obtain ⟨hx, hown, hc, hml, hnm, hrt, hlk, hEL, hSA, hls, T, L, vm0, k0, X, eT, hS, hk, hZ, hG, hF, hMo, hst⟩ := A
  dsimp only at hx hown hc hml hnm hrt hlk X hS hMo hst
  have hown' : (s.setVm vm0).vm.findClass own = some m.cls := (hS.1.alike.findClass _ _).trans hown
  have hZ' : Z.Warmed39 (s.setVm vm0).vm := hZ
  obtain ⟨T', X', e', st'⟩ := RoadKit.instY X hx hZ' hown' w eT F (g := mkF m pc ls.toArray (.ref a :: st)) rfl rfl (hb hc hd)
  exact ⟨hx, hown, hc, hml, hnm, hrt, hlk, hEL, hSA, hls, T', L, vm0, k0, X', e', hS, hk, hZ, hG, hF, hMo, hst.trans (st' _ (Steps.refl _))⟩
theorem Wk.instN {K : String} {index : Nat} (A : Wk l Z a0 EL own code ml nm rt R D pc ls (.ref a :: st) H k n) (w : (Jvm.Cond.classLink own index K).before a0 Z = true) (E : Exa Z H.1 a C) (F : ∃ c t, Z.vm.findClass C = some c ∧ Z.vm.findClass K = some t ∧ Z.vm.assignable c t = false) (hd : decode code pc = .ok (.instanceof index, 3)) :
    Wk l Z a0 EL own code ml nm rt R D (pc + 3) ls (.int 0 :: st) H k n := by
  obtain ⟨p, e, s, m, args, below, meth, c, s0, H0⟩ := D
  obtain ⟨hx, hown, hc, hml, hnm, hrt, hlk, hEL, hSA, hls, T, L, vm0, k0, X, eT, hS, hk, hZ, hG, hF, hMo, hst⟩ := A
  dsimp only at hx hown hc hml hnm hrt hlk X hS hMo hst
  have hown' : (s.setVm vm0).vm.findClass own = some m.cls := (hS.1.alike.findClass _ _).trans hown
  have hZ' : Z.Warmed39 (s.setVm vm0).vm := hZ
  obtain ⟨T', X', e', st'⟩ := RoadKit.instNo X hx hZ' hown' w eT E F (g := mkF m pc ls.toArray (.ref a :: st)) rfl rfl (hb hc hd)
  exact ⟨hx, hown, hc, hml, hnm, hrt, hlk, hEL, hSA, hls, T', L, vm0, k0, X', e', hS, hk, hZ, hG, hF, hMo, hst.trans (st' _ (Steps.refl _))⟩
theorem Wk.castY {K : String} {index : Nat} (A : Wk l Z a0 EL own code ml nm rt R D pc ls (.ref a :: st) H k n) (w : (Jvm.Cond.classLink own index K).before a0 Z = true) (F : Ins Z H.1 a K true) (hd : decode code pc = .ok (.checkcast index, 3)) :
    Wk l Z a0 EL own code ml nm rt R D (pc + 3) ls (.ref a :: st) H k n := by
  obtain ⟨p, e, s, m, args, below, meth, c, s0, H0⟩ := D
  obtain ⟨hx, hown, hc, hml, hnm, hrt, hlk, hEL, hSA, hls, T, L, vm0, k0, X, eT, hS, hk, hZ, hG, hF, hMo, hst⟩ := A
  dsimp only at hx hown hc hml hnm hrt hlk X hS hMo hst
  have hown' : (s.setVm vm0).vm.findClass own = some m.cls := (hS.1.alike.findClass _ _).trans hown
  have hZ' : Z.Warmed39 (s.setVm vm0).vm := hZ
  obtain ⟨T', X', e', st'⟩ := RoadKit.castY X hx hZ' hown' w eT F (g := mkF m pc ls.toArray (.ref a :: st)) rfl rfl (hb hc hd)
  exact ⟨hx, hown, hc, hml, hnm, hrt, hlk, hEL, hSA, hls, T', L, vm0, k0, X', e', hS, hk, hZ, hG, hF, hMo, hst.trans (st' _ (Steps.refl _))⟩
theorem Wk.instNull {index : Nat} (A : Wk l Z a0 EL own code ml nm rt R D pc ls (.null :: st) H k n) (hd : decode code pc = .ok (.instanceof index, 3)) :
    Wk l Z a0 EL own code ml nm rt R D (pc + 3) ls (.int 0 :: st) H k n := by
  obtain ⟨p, e, s, m, args, below, meth, c, s0, H0⟩ := D
  obtain ⟨hx, hown, hc, hml, hnm, hrt, hlk, hEL, hSA, hls, T, L, vm0, k0, X, eT, hS, hk, hZ, hG, hF, hMo, hst⟩ := A
  dsimp only at hx hown hc hml hnm hrt hlk X hS hMo hst
  have hown' : (s.setVm vm0).vm.findClass own = some m.cls := (hS.1.alike.findClass _ _).trans hown
  have hZ' : Z.Warmed39 (s.setVm vm0).vm := hZ
  exact ⟨hx, hown, hc, hml, hnm, hrt, hlk, hEL, hSA, hls, T, L, vm0, k0, X, eT, hS, hk, hZ, hG, hF, hMo, hst.trans (X.instanceofNull hx (g := mkF m pc ls.toArray (.null :: st)) rfl rfl (hb hc hd) _ (Steps.refl _))⟩
theorem Wk.castNull {index : Nat} (A : Wk l Z a0 EL own code ml nm rt R D pc ls (.null :: st) H k n) (hd : decode code pc = .ok (.checkcast index, 3)) :
    Wk l Z a0 EL own code ml nm rt R D (pc + 3) ls (.null :: st) H k n := by
  obtain ⟨p, e, s, m, args, below, meth, c, s0, H0⟩ := D
  obtain ⟨hx, hown, hc, hml, hnm, hrt, hlk, hEL, hSA, hls, T, L, vm0, k0, X, eT, hS, hk, hZ, hG, hF, hMo, hst⟩ := A
  dsimp only at hx hown hc hml hnm hrt hlk X hS hMo hst
  have hown' : (s.setVm vm0).vm.findClass own = some m.cls := (hS.1.alike.findClass _ _).trans hown
  have hZ' : Z.Warmed39 (s.setVm vm0).vm := hZ
  exact ⟨hx, hown, hc, hml, hnm, hrt, hlk, hEL, hSA, hls, T, L, vm0, k0, X, eT, hS, hk, hZ, hG, hF, hMo, hst.trans (X.checkcastNull hx (g := mkF m pc ls.toArray (.null :: st)) rfl rfl (hb hc hd) _ (Steps.refl _))⟩
theorem no_asg {K : String} {q : Nat} (w : (Jvm.Cond.superclass C "java/lang/Object").before a0 Z = true) (w2 : (Jvm.Cond.noSuperclass "java/lang/Object").before a0 Z = true) (wi : (Jvm.Cond.instantiable K q).before a0 Z = true) (h1 : C ≠ K) (h2 : "java/lang/Object" ≠ K) : ∃ c t, Z.vm.findClass C = some c ∧ Z.vm.findClass K = some t ∧ Z.vm.assignable c t = false := by
  obtain ⟨co, ko, o1, o2, o3, -, -⟩ := Cond.noSuperclass_spec w2
  obtain ⟨t, kt, g0, g2, g5, g7, -⟩ := Cond.instantiable_spec wi
  obtain ⟨c, h0⟩ := found_sup w
  obtain ⟨p, k, kp, p1, p2, p3, p4, p5, -, -⟩ := Cond.superclass_spec h0 w
  cases o1.symm.trans p1
  have ne := ids_ne h0 g0 h1
  have ne2 := ids_ne o1 g0 h2
  have g8 : kt.isInterface = false := by cases hq : kt.isInterface <;> simp [hq] at g7 ⊢
  have n3 : ∀ fuel, Z.vm.isSubclassAux fuel co t = false := fun fuel => by
    cases fuel with
    | zero => rfl
    | succ f => simp [Vm.isSubclassAux, ne2, o2, o3]
  have n4 : ∀ fuel, Z.vm.isSubclassAux fuel c t = false := fun fuel => by
    cases fuel with
    | zero => rfl
    | succ f => simp [Vm.isSubclassAux, ne, p2, p4, n3]
  refine ⟨c, t, h0, g0, ?_⟩
  show Z.vm.assignableAux (255 + 1) c t = false
  simp [Vm.assignableAux, ne, p2, g2, p5, g5, g8, Vm.isSubclass, n4]
theorem Wk.ldcI {index : Nat} {x : Int32} (A : Wk l Z a0 EL own code ml nm rt R D pc ls st H k n) (w : (Jvm.Cond.constant own index x).before a0 Z = true) (hd : decode code pc = .ok (.ldc index, 2)) :
    Wk l Z a0 EL own code ml nm rt R D (pc + 2) ls (.int x :: st) H k n := by
  obtain ⟨p, e, s, m, args, below, meth, c, s0, H0⟩ := D
  obtain ⟨hx, hown, hc, hml, hnm, hrt, hlk, hEL, hSA, hls, T, L, vm0, k0, X, eT, hS, hk, hZ, hG, hF, hMo, hst⟩ := A
  dsimp only at hx hown hc hml hnm hrt hlk X hS hMo hst
  have hown' : (s.setVm vm0).vm.findClass own = some m.cls := (hS.1.alike.findClass _ _).trans hown
  have hZ' : Z.Warmed39 (s.setVm vm0).vm := hZ
  exact ⟨hx, hown, hc, hml, hnm, hrt, hlk, hEL, hSA, hls, T, L, vm0, k0, X, eT, hS, hk, hZ, hG, hF, hMo, hst.trans (X.ldcI hx hown' (mvT hZ' w) (g := mkF m pc ls.toArray st) rfl (hb hc hd) (Steps.refl _))⟩
theorem Wk.ldcJ {index : Nat} {x : Int64} (A : Wk l Z a0 EL own code ml nm rt R D pc ls st H k n) (w : (Jvm.Cond.constantLong own index x).before a0 Z = true) (hd : decode code pc = .ok (.ldc2_w index, 3)) :
    Wk l Z a0 EL own code ml nm rt R D (pc + 3) ls (.long x :: st) H k n := by
  obtain ⟨p, e, s, m, args, below, meth, c, s0, H0⟩ := D
  obtain ⟨hx, hown, hc, hml, hnm, hrt, hlk, hEL, hSA, hls, T, L, vm0, k0, X, eT, hS, hk, hZ, hG, hF, hMo, hst⟩ := A
  dsimp only at hx hown hc hml hnm hrt hlk X hS hMo hst
  have hown' : (s.setVm vm0).vm.findClass own = some m.cls := (hS.1.alike.findClass _ _).trans hown
  have hZ' : Z.Warmed39 (s.setVm vm0).vm := hZ
  exact ⟨hx, hown, hc, hml, hnm, hrt, hlk, hEL, hSA, hls, T, L, vm0, k0, X, eT, hS, hk, hZ, hG, hF, hMo, hst.trans (X.ldc2J hx hown' (mvT hZ' w) (g := mkF m pc ls.toArray st) rfl (hb hc hd) (Steps.refl _))⟩
theorem Wk.ldcS {index : Nat} {text : String} (A : Wk l Z a0 EL own code ml nm rt R D pc ls st H k n) (w : (Jvm.Cond.stringLink own index text).before a0 Z = true) (hmem : (own, index) ∈ EL) (ht : (∀ c ∈ text.toList, c.toNat < 256) ∧ text.toList.map (fun c => Value.int (Jvm.Lit.byteI c.toNat.toUInt16)) = vs) (hd : decode code pc = .ok (.ldc index, 2)) {z : Int32} (hz : ¬ z < 0) (hl : z.toNatClampNeg = vs.length) {q : Nat} (hq : 4 * text.toList.length ≤ q) (hbg : q ≤ 536870912) (hcl : k + 2 ≤ R.cells) (hsl : n + (q + 4) ≤ R.slots) :
    ∃ (a b : Addr) (H' : HP), Wk l Z a0 EL own code ml nm rt R D (pc + 2) ls (.ref a :: st) H' (k + 2) (n + (q + 4)) ∧ Kp H H' [] ∧ Exa Z H'.1 a "java/lang/String" ∧ Fld Z H'.1 a "java/lang/String" "coder" "B" (.int 0) ∧ Fld Z H'.1 a "java/lang/String" "value" "[B" (.ref b) ∧ Ar Z H' b .byte vs ∧ ∀ x, H'.2 x → x ≠ a ∧ x ≠ b := by
  obtain ⟨p, e, s, m, args, below, meth, c, s0, H0⟩ := D
  obtain ⟨hx, hown, hc, hml, hnm, hrt, hlk, hEL, hSA, hls, T, L, vm0, k0, X, eT, hS, hk, hZ, hG, hF, hMo, hst⟩ := A
  dsimp only at hx hown hc hml hnm hrt hlk X hS hMo hst
  have hown' : (s.setVm vm0).vm.findClass own = some m.cls := (hS.1.alike.findClass _ _).trans hown
  have hZ' : Z.Warmed39 (s.setVm vm0).vm := hZ
  obtain ⟨a, T', h', k1, b, kb, X', e', E, hS', hk', hZ2, hown2, F1, F2, F3, F4, -, -, hC, -, hne, st'⟩ := ldcCH X hx hZ hown' w hSA eT hS hk hEL hmem hG.2.2.1 ht hz hl (g := mkF m pc ls.toArray st) rfl (hb hc hd) hq hbg hcl hsl
  have hG' := hG.go hC E
  exact ⟨a, b, (h', H.2), ⟨hx, hown, hc, hml, hnm, hrt, hlk, hEL, hSA, hls, T', L, T'.vm, k1, X', e', hS', hk', hZ2, hG', hF, ⟨hMo.1, Nat.le_trans hMo.2 E.1⟩, hst.trans (st' _ (Steps.refl _))⟩, ⟨(Keep.refl _ _).ext E, fun _ q => q⟩, F1, F2, F3, Ar.of_arv (H := (h', H.2)) F4 hl, fun x hx' => hne x fun B => hG'.2.2.2 x B hx'⟩
theorem Wk.ldcSo {index : Nat} {text : String} (A : Wk l Z a0 EL own code ml nm rt R D pc ls st H k n) (w : (Jvm.Cond.stringLink own index text).before a0 Z = true) (hd : decode code pc = .ok (.ldc index, 2)) {q : Nat} (hq : 4 * text.toList.length ≤ q) (hbg : q ≤ 536870912) (hcl : k + 2 ≤ R.cells) (hsl : n + (q + 4) ≤ R.slots) :
    ∃ (a : Addr) (H' : HP), Wk l Z a0 EL own code ml nm rt R D (pc + 2) ls (.ref a :: st) H' (k + 2) (n + (q + 4)) ∧ Kp H H' [] := by
  obtain ⟨p, e, s, m, args, below, meth, c, s0, H0⟩ := D
  obtain ⟨hx, hown, hc, hml, hnm, hrt, hlk, hEL, hSA, hls, T, L, vm0, k0, X, eT, hS, hk, hZ, hG, hF, hMo, hst⟩ := A
  dsimp only at hx hown hc hml hnm hrt hlk X hS hMo hst
  have hown' : (s.setVm vm0).vm.findClass own = some m.cls := (hS.1.alike.findClass _ _).trans hown
  have hZ' : Z.Warmed39 (s.setVm vm0).vm := hZ
  obtain ⟨a, T', h', k1, X', e', E, hS', hk', hZ2, hown2, hC, -, st'⟩ := ldcOH X hx hZ hown' w hSA eT hS hk hEL hG.2.2.1 (g := mkF m pc ls.toArray st) rfl (hb hc hd) hq hbg hcl hsl
  exact ⟨a, (h', H.2), ⟨hx, hown, hc, hml, hnm, hrt, hlk, hEL, hSA, hls, T', L, T'.vm, k1, X', e', hS', hk', hZ2, (hG.go hC E), hF, ⟨hMo.1, Nat.le_trans hMo.2 E.1⟩, hst.trans (st' _ (Steps.refl _))⟩, ⟨(Keep.refl _ _).ext E, fun _ q => q⟩⟩
theorem Wk.more (A : Wk l Z a0 EL own code ml nm rt R D pc ls st H k n) {k' n' : Nat} (h1 : k ≤ k') (h2 : n ≤ n') :
    Wk l Z a0 EL own code ml nm rt R D pc ls st H k' n' := by
  obtain ⟨p, e, s, m, args, below, meth, c, s0, H0⟩ := D
  obtain ⟨hx, hown, hc, hml, hnm, hrt, hlk, hEL, hSA, hls, T, L, vm0, k0, X, eT, hS, hk, hZ, hG, hF, hMo, hst⟩ := A
  dsimp only at hx hown hc hml hnm hrt hlk X hS hMo hst
  have hown' : (s.setVm vm0).vm.findClass own = some m.cls := (hS.1.alike.findClass _ _).trans hown
  have hZ' : Z.Warmed39 (s.setVm vm0).vm := hZ
  exact ⟨hx, hown, hc, hml, hnm, hrt, hlk, hEL, hSA, hls, T, L, vm0, k0, (X.more h1 h2), eT, hS, hk, hZ, hG, hF, hMo, hst⟩
theorem Wk.ret  (A : Wk l Z a0 EL own code ml nm none R D pc ls st H k n) (hd : decode code pc = .ok (.return_, 1)) :
    Rt Z EL D none H k n := by
  obtain ⟨p, e, s, m, args, below, meth, c, s0, H0⟩ := D
  obtain ⟨hx, hown, hc, hml, hnm, hrt, hlk, hEL, hSA, hls, T, L, vm0, k0, X, eT, hS, hk, hZ, hG, hF, hMo, hst⟩ := A
  dsimp only at hx hown hc hml hnm hrt hlk X hS hMo hst
  have hown' : (s.setVm vm0).vm.findClass own = some m.cls := (hS.1.alike.findClass _ _).trans hown
  have hZ' : Z.Warmed39 (s.setVm vm0).vm := hZ
  obtain ⟨fs, hr, hrun, hended, hE⟩ := X.leaveW hS (by rw [eT]; exact hk) (v := none) (fun _ => rfl) hlk
  exact ⟨_, L, hst.trans (retV X hx hrt (hb hc hd) hr), hrun, hended, eT, hMo, (show GI Z EL T.vm H from hG.at X hZ hEL), hF, hE⟩
theorem Wk.retZ {x x2 : Int32} (A : Wk l Z a0 EL own code ml nm (some .boolean) R D pc ls (.int x :: st) H k n) (hd : decode code pc = .ok (.ireturn, 1)) (hx2 : nar .boolean x = x2) :
    Rt Z EL D (some (.int x2)) H k n := by
  obtain ⟨p, e, s, m, args, below, meth, c, s0, H0⟩ := D
  obtain ⟨hx, hown, hc, hml, hnm, hrt, hlk, hEL, hSA, hls, T, L, vm0, k0, X, eT, hS, hk, hZ, hG, hF, hMo, hst⟩ := A
  dsimp only at hx hown hc hml hnm hrt hlk X hS hMo hst
  have hown' : (s.setVm vm0).vm.findClass own = some m.cls := (hS.1.alike.findClass _ _).trans hown
  have hZ' : Z.Warmed39 (s.setVm vm0).vm := hZ
  subst hx2
  obtain ⟨fs, hr, hrun, hended, hE⟩ := X.leaveW hS (by rw [eT]; exact hk) (v := some (.int (nar .boolean x))) (fun h => by rw [hrt] at h; cases h) hlk
  exact ⟨_, L, hst.trans (retN X hx (t := .boolean) hrt (by simp) (hb hc hd) hr), hrun, hended, eT, hMo, (show GI Z EL T.vm H from hG.at X hZ hEL), hF, hE⟩
theorem Wk.retB {x x2 : Int32} (A : Wk l Z a0 EL own code ml nm (some .byte) R D pc ls (.int x :: st) H k n) (hd : decode code pc = .ok (.ireturn, 1)) (hx2 : nar .byte x = x2) :
    Rt Z EL D (some (.int x2)) H k n := by
  obtain ⟨p, e, s, m, args, below, meth, c, s0, H0⟩ := D
  obtain ⟨hx, hown, hc, hml, hnm, hrt, hlk, hEL, hSA, hls, T, L, vm0, k0, X, eT, hS, hk, hZ, hG, hF, hMo, hst⟩ := A
  dsimp only at hx hown hc hml hnm hrt hlk X hS hMo hst
  have hown' : (s.setVm vm0).vm.findClass own = some m.cls := (hS.1.alike.findClass _ _).trans hown
  have hZ' : Z.Warmed39 (s.setVm vm0).vm := hZ
  subst hx2
  obtain ⟨fs, hr, hrun, hended, hE⟩ := X.leaveW hS (by rw [eT]; exact hk) (v := some (.int (nar .byte x))) (fun h => by rw [hrt] at h; cases h) hlk
  exact ⟨_, L, hst.trans (retN X hx (t := .byte) hrt (by simp) (hb hc hd) hr), hrun, hended, eT, hMo, (show GI Z EL T.vm H from hG.at X hZ hEL), hF, hE⟩
theorem Wk.retC {x x2 : Int32} (A : Wk l Z a0 EL own code ml nm (some .char) R D pc ls (.int x :: st) H k n) (hd : decode code pc = .ok (.ireturn, 1)) (hx2 : nar .char x = x2) :
    Rt Z EL D (some (.int x2)) H k n := by
  obtain ⟨p, e, s, m, args, below, meth, c, s0, H0⟩ := D
  obtain ⟨hx, hown, hc, hml, hnm, hrt, hlk, hEL, hSA, hls, T, L, vm0, k0, X, eT, hS, hk, hZ, hG, hF, hMo, hst⟩ := A
  dsimp only at hx hown hc hml hnm hrt hlk X hS hMo hst
  have hown' : (s.setVm vm0).vm.findClass own = some m.cls := (hS.1.alike.findClass _ _).trans hown
  have hZ' : Z.Warmed39 (s.setVm vm0).vm := hZ
  subst hx2
  obtain ⟨fs, hr, hrun, hended, hE⟩ := X.leaveW hS (by rw [eT]; exact hk) (v := some (.int (nar .char x))) (fun h => by rw [hrt] at h; cases h) hlk
  exact ⟨_, L, hst.trans (retN X hx (t := .char) hrt (by simp) (hb hc hd) hr), hrun, hended, eT, hMo, (show GI Z EL T.vm H from hG.at X hZ hEL), hF, hE⟩
theorem Wk.retS {x x2 : Int32} (A : Wk l Z a0 EL own code ml nm (some .short) R D pc ls (.int x :: st) H k n) (hd : decode code pc = .ok (.ireturn, 1)) (hx2 : nar .short x = x2) :
    Rt Z EL D (some (.int x2)) H k n := by
  obtain ⟨p, e, s, m, args, below, meth, c, s0, H0⟩ := D
  obtain ⟨hx, hown, hc, hml, hnm, hrt, hlk, hEL, hSA, hls, T, L, vm0, k0, X, eT, hS, hk, hZ, hG, hF, hMo, hst⟩ := A
  dsimp only at hx hown hc hml hnm hrt hlk X hS hMo hst
  have hown' : (s.setVm vm0).vm.findClass own = some m.cls := (hS.1.alike.findClass _ _).trans hown
  have hZ' : Z.Warmed39 (s.setVm vm0).vm := hZ
  subst hx2
  obtain ⟨fs, hr, hrun, hended, hE⟩ := X.leaveW hS (by rw [eT]; exact hk) (v := some (.int (nar .short x))) (fun h => by rw [hrt] at h; cases h) hlk
  exact ⟨_, L, hst.trans (retN X hx (t := .short) hrt (by simp) (hb hc hd) hr), hrun, hended, eT, hMo, (show GI Z EL T.vm H from hG.at X hZ hEL), hF, hE⟩
theorem Wk.retI {x : Int32} (A : Wk l Z a0 EL own code ml nm (some .int) R D pc ls (.int x :: st) H k n) (hd : decode code pc = .ok (.ireturn, 1)) :
    Rt Z EL D (some (.int x)) H k n := by
  obtain ⟨p, e, s, m, args, below, meth, c, s0, H0⟩ := D
  obtain ⟨hx, hown, hc, hml, hnm, hrt, hlk, hEL, hSA, hls, T, L, vm0, k0, X, eT, hS, hk, hZ, hG, hF, hMo, hst⟩ := A
  dsimp only at hx hown hc hml hnm hrt hlk X hS hMo hst
  have hown' : (s.setVm vm0).vm.findClass own = some m.cls := (hS.1.alike.findClass _ _).trans hown
  have hZ' : Z.Warmed39 (s.setVm vm0).vm := hZ
  obtain ⟨fs, hr, hrun, hended, hE⟩ := X.leaveW hS (by rw [eT]; exact hk) (v := (some (.int x))) (fun h => by rw [hrt] at h; cases h) hlk
  exact ⟨_, L, hst.trans (retOut X hx hrt rfl (Or.inl ⟨rfl, Or.inl rfl, x, rfl⟩) (hb hc hd) hr), hrun, hended, eT, hMo, (show GI Z EL T.vm H from hG.at X hZ hEL), hF, hE⟩
theorem Wk.retJ {x : Int64} (A : Wk l Z a0 EL own code ml nm (some .long) R D pc ls (.long x :: st) H k n) (hd : decode code pc = .ok (.lreturn, 1)) :
    Rt Z EL D (some (.long x)) H k n := by
  obtain ⟨p, e, s, m, args, below, meth, c, s0, H0⟩ := D
  obtain ⟨hx, hown, hc, hml, hnm, hrt, hlk, hEL, hSA, hls, T, L, vm0, k0, X, eT, hS, hk, hZ, hG, hF, hMo, hst⟩ := A
  dsimp only at hx hown hc hml hnm hrt hlk X hS hMo hst
  have hown' : (s.setVm vm0).vm.findClass own = some m.cls := (hS.1.alike.findClass _ _).trans hown
  have hZ' : Z.Warmed39 (s.setVm vm0).vm := hZ
  obtain ⟨fs, hr, hrun, hended, hE⟩ := X.leaveW hS (by rw [eT]; exact hk) (v := (some (.long x))) (fun h => by rw [hrt] at h; cases h) hlk
  exact ⟨_, L, hst.trans (retOut X hx hrt rfl (Or.inr (Or.inl ⟨rfl, rfl, x, rfl⟩)) (hb hc hd) hr), hrun, hended, eT, hMo, (show GI Z EL T.vm H from hG.at X hZ hEL), hF, hE⟩
theorem Wk.retA {t : FieldType} (A : Wk l Z a0 EL own code ml nm (some t) R D pc ls (v :: st) H k n) (hd : decode code pc = .ok (.areturn, 1)) (ht : t.isReference = true) (hv : v.isRef = true) :
    Rt Z EL D (some v) H k n := by
  obtain ⟨p, e, s, m, args, below, meth, c, s0, H0⟩ := D
  obtain ⟨hx, hown, hc, hml, hnm, hrt, hlk, hEL, hSA, hls, T, L, vm0, k0, X, eT, hS, hk, hZ, hG, hF, hMo, hst⟩ := A
  dsimp only at hx hown hc hml hnm hrt hlk X hS hMo hst
  have hown' : (s.setVm vm0).vm.findClass own = some m.cls := (hS.1.alike.findClass _ _).trans hown
  have hZ' : Z.Warmed39 (s.setVm vm0).vm := hZ
  obtain ⟨fs, hr, hrun, hended, hE⟩ := X.leaveW hS (by rw [eT]; exact hk) (v := some v) (fun h => by rw [hrt] at h; cases h) hlk
  have hn : narrow t v = v := by rcases ref_cases hv with rfl | ⟨z, rfl⟩ <;> cases t <;> first | rfl | cases ht
  exact ⟨_, L, hst.trans (retOut X hx hrt hn (Or.inr (Or.inr (Or.inr (Or.inr ⟨rfl, ht, hv⟩)))) (hb hc hd) hr), hrun, hended, eT, hMo, (show GI Z EL T.vm H from hG.at X hZ hEL), hF, hE⟩
theorem Ct.intro {y : MethodName} {bytes : ByteArray} {ret : Option FieldType} {rm : Room} {wz : List Jvm.Cond} {as : List Value} {Q : Option Value → HP → Prop} (hpl : plainFor y = true) (hEL : EW Z a0 EL) (hSA : ∀ a ∈ Bundle.stringAtoms, a.before a0 Z = true) (hls : locsOf as ml = ls) (hlen : ls.length = ml)
    (body : ∀ D, Wk l Z a0 EL y.cls bytes ml y.name ret rm D 0 ls [] H 0 0 → ∃ v H' k n, Rt Z EL D v H' k n ∧ Q v H' ∧ k ≤ rm.cells ∧ n ≤ rm.slots) : Ct l Z EL y bytes ml ret rm wz as H Q := by
  refine MetFree.of_bodySF hpl hisR ?_
  intro p e s m args below meth c s₁ Bd hml0 hP hK
  obtain ⟨rfl, hZ, hh, hG⟩ := hP
  have hx := Bd.exec
  have hown : s.vm.findClass y.cls = some m.cls := findClass_of_methodNamed Bd.named
  have hnm := (name_of_methodNamed Bd.named Bd.method).1
  have X0 : Stand p l e rm s m as.toArray below meth c s₁ [] 0 0 := Stand.of_body Bd
  have e0 : s₁.heap = H.1 := by rw [← hh, Bd.state]; rfl
  have hst : Steps p.tables e below (s₁.setTop (entryFrame m as.toArray ml)) (s₁.setTop (mkF m 0 ls.toArray [])) := by rw [entry_locs, hls]; exact Steps.refl _
  obtain ⟨v, H', k, n, ⟨s₂, L, h1, h2, h3, h4, h5, h6, h7, h8⟩, hQ, hk, hn⟩ := body (p, e, s, m, as.toArray, below, meth, c, s₁.setTop (entryFrame m as.toArray ml), H) ⟨hx, hown, Bd.bytes, hml0, hnm, Bd.returns, Bd.notSynchronized, hEL, hSA, hlen, s₁, [], s.vm, H.1.size, X0, e0, (State.WarmedH.refl s).since _, Nat.le_refl _, hZ, hG, Fr.nil _, ⟨fun _ q => q, Nat.le_refl _⟩, hst⟩
  obtain ⟨hp, O⟩ := H'
  have h4 : s₂.heap = hp := h4
  subst h4
  obtain ⟨g1, g2, g3, g4⟩ := h8
  exact ⟨s₂, _, h1, h2, h3, v, L, O, rfl, hQ, h5, h6, h7, g1, g2, g3, g4.mono hk hn⟩
theorem Ct.mono {y : MethodName} {bytes : ByteArray} {ret : Option FieldType} {rm : Room} {wz : List Jvm.Cond} {as : List Value} {Q Q' : Option Value → HP → Prop} (h : Ct l Z EL y bytes ml ret rm wz as H Q) (q : ∀ v H', Q v H' → Q' v H') : Ct l Z EL y bytes ml ret rm wz as H Q' :=
  MetFree.mono h (fun _ _ h => h) (fun _ _ _ _ _ h => h) fun _ _ _ _ _ ⟨v, L, O, h1, h2, h3⟩ => ⟨v, L, O, h1, q _ _ h2, h3⟩
theorem ctBack {p : Program} {e : Env} {s : State} {args : Array Value} {below : List Frame} {y : MethodName} {bytes : ByteArray} {ret : Option FieldType} {rm : Room} {as : List Value} {Q : Option Value → HP → Prop} {len Wd : Nat}
    (hM : Ct l Z EL y bytes ml ret rm [] as H Q) (hZ : Z.Warmed39 vm0) (wc : (Jvm.Cond.code y bytes ml ret).before a0 Z = true) (wz : (Jvm.Cond.initialized y.cls).before a0 Z = true) (hf : rm.frames + 1 ≤ R.frames) (hl : Wd + (ml + 11) + rm.locals ≤ R.locals) (hEL : EW Z a0 EL) (hG : GI Z EL vm0 H) :
    BackS l R p e below (s.setVm vm0) args y len Wd (fun A a => a = as.toArray ∧ A.U.heap = H.1 ∧ A.cells + rm.cells ≤ R.cells ∧ A.slots + rm.slots ≤ R.slots)
      (fun A _ v B => ∃ L O, Q v (B.U.heap, O) ∧ ((∀ x, H.2 x → O x) ∧ H.1.size ≤ B.U.heap.size) ∧ GI Z EL B.U.vm (B.U.heap, O) ∧ Fr Z.heap.size L ∧ B.locs = A.locs ++ L ∧ B.cells = A.cells + rm.cells ∧ B.slots = A.slots + rm.slots) :=
  BackS.of_freeW (bytes := bytes) (maxL := ml) (ret := ret) (E := fun _ first o t L k n => k = rm.cells ∧ n = rm.slots ∧ ∃ v O, o = .returned v ∧ Q v (t.heap, O) ∧ ((∀ x, H.2 x → O x) ∧ H.1.size ≤ t.heap.size) ∧ GI Z EL t.vm (t.heap, O) ∧ Fr Z.heap.size L) hM hf hl
    (fun m meth c A a Y hp => have hU : Z.Warmed39 A.U.vm := wtrans (s := (s.setVm vm0)) hZ Y.warmed
      ⟨by show (Jvm.Cond.and _ .tt).before a A.U = true; rw [Cond.before_and, mv hU wc]; rfl, mv hU wc, mv hU wz, hp.2.2.1, hp.2.2.2⟩)
    (fun m meth c A a g mk Y hp => ⟨hp.1, wtrans (s := (s.setVm vm0)) hZ Y.warmed, hp.2.1, (show GI Z EL A.U.vm H from hG.at Y hZ hEL)⟩) (fun _ _ _ _ _ _ _ _ _ => trivial)
    (fun _ _ _ _ ⟨v, L, O, h1, h2, h3, h4, h5, h6⟩ => ⟨L, _, _, h6, rfl, rfl, v, O, h1, h2, h3, h4, h5⟩)
    (fun m meth c A a g mk v t L k n Y hp _ _ ⟨e1, e2, v', O, e3, e4, e5, e6, e7⟩ => by cases e3; subst e1 e2; exact ⟨L, O, e4, e5, e6, e7, rfl, rfl, rfl⟩)
theorem Wk.callS {y : MethodName} {bytes : ByteArray} {ret : Option FieldType} {cml : Nat} {rm : Room} {Q : Option Value → HP → Prop} {argsL : List Value} {index Wd : Nat} (A : Wk l Z a0 EL own code ml nm rt R D pc ls (argsL.reverse ++ st) H k n) (w1 : (Jvm.Cond.methodLink own index y).before a0 Z = true) (w2 : (Jvm.Cond.static y).before a0 Z = true) (wz : (Jvm.Cond.initialized y.cls).before a0 Z = true) (wc : (Jvm.Cond.code y bytes cml ret).before a0 Z = true) (hM : Ct l Z EL y bytes cml ret rm [] argsL H Q) (hy : y.cls ≠ "java/lang/invoke/MethodHandle" ∧ y.cls ≠ "java/lang/invoke/VarHandle") (hlen : ∃ ps r, parseMethodDescriptor y.desc = some ⟨ps, r⟩ ∧ argsL.length = ps.length) (hd : decode code pc = .ok (.invokestatic index, 3)) (hf : rm.frames + 1 ≤ R.frames) (hW : (st.map fun v => v.category).sum ≤ Wd) (hlo : Wd + (cml + 11) + rm.locals ≤ R.locals) (hcl : k + rm.cells ≤ R.cells) (hsl : n + rm.slots ≤ R.slots) :
    ∃ (v : Option Value) (H' : HP), Q v H' ∧ Wk l Z a0 EL own code ml nm rt R D (pc + 3) ls (v.toList ++ st) H' (k + rm.cells) (n + rm.slots) ∧ (∀ x, H.2 x → H'.2 x) ∧ H.1.size ≤ H'.1.size := by
  obtain ⟨p, e, s, m, args, below, meth, c, s0, H0⟩ := D
  obtain ⟨hx, hown, hc, hml, hnm, hrt, hlk, hEL, hSA, hls, T, L, vm0, k0, X, eT, hS, hk, hZ, hG, hF, hMo, hst⟩ := A
  dsimp only at hx hown hc hml hnm hrt hlk X hS hMo hst
  have hown' : (s.setVm vm0).vm.findClass own = some m.cls := (hS.1.alike.findClass _ _).trans hown
  have hZ' : Z.Warmed39 (s.setVm vm0).vm := hZ
  obtain ⟨v, vm1, ⟨T', L', c', n'⟩, -, X', hS2, hgr, ⟨Lc, O, hQ, hmo, hG', hFc, l1, l2, l3⟩, st'⟩ := RoadKit.callSS X hx hown' (mvT hZ' w1) (mvT hZ' w2) (mvT hZ' wz) (mvT hZ' wc) hy (ctBack hM hZ wc wz hf hlo hEL hG) (g := mkF m pc ls.toArray (argsL.reverse ++ st)) rfl (by simp [hls, hml]) (by obtain ⟨ps, r, q1, q2⟩ := hlen; exact lenOf q1 q2) rfl (by simpa using hW) (hb hc hd) (fun _ _ => ⟨rfl, eT, hcl, hsl⟩)
  dsimp only [Pt.U, Pt.locs, Pt.cells, Pt.slots] at X' hS2 hgr hQ hmo hG' l1 l2 l3 st'
  subst l1 l2 l3
  have hS' := hS.trans hS2 (by rw [eT] at hgr; exact Nat.le_trans hk hgr)
  exact ⟨v, (T'.heap, O), hQ, ⟨hx, hown, hc, hml, hnm, hrt, hlk, hEL, hSA, hls, T', _, T'.vm, T'.heap.size, X', rfl, hS', (Nat.le_refl _), (State.Warmed39.trans (t := s.setVm vm0) hZ hS2.1), hG', (hF.app hFc), ⟨fun x q => hmo.1 x (hMo.1 x q), Nat.le_trans hMo.2 hmo.2⟩, hst.trans st'⟩, hmo.1, hmo.2⟩
theorem Wk.callI {y : MethodName} {bytes : ByteArray} {cml : Nat} {rm : Room} {Q : Option Value → HP → Prop} {argsL : List Value} {index Wd : Nat} (A : Wk l Z a0 EL own code ml nm rt R D pc ls (argsL.reverse ++ .ref a :: st) H k n) (hy1 : y.name = "<init>") (w1 : (Jvm.Cond.methodLink own index y).before a0 Z = true) (w2 : (Jvm.Cond.instanceMethod y).before a0 Z = true) (wz : (Jvm.Cond.initialized y.cls).before a0 Z = true) (wc : (Jvm.Cond.code y bytes cml none).before a0 Z = true) (hM : Ct l Z EL y bytes cml none rm [] (.ref a :: argsL) H Q) (hy : y.cls ≠ "java/lang/invoke/MethodHandle" ∧ y.cls ≠ "java/lang/invoke/VarHandle") (hlen : ∃ ps r, parseMethodDescriptor y.desc = some ⟨ps, r⟩ ∧ argsL.length = ps.length) (hd : decode code pc = .ok (.invokespecial index, 3)) (hf : rm.frames + 1 ≤ R.frames) (hW : (st.map fun v => v.category).sum ≤ Wd) (hlo : Wd + (cml + 11) + rm.locals ≤ R.locals) (hcl : k + rm.cells ≤ R.cells) (hsl : n + rm.slots ≤ R.slots) :
    ∃ (v : Option Value) (H' : HP), Q v H' ∧ Wk l Z a0 EL own code ml nm rt R D (pc + 3) ls (v.toList ++ st) H' (k + rm.cells) (n + rm.slots) ∧ (∀ x, H.2 x → H'.2 x) ∧ H.1.size ≤ H'.1.size := by
  obtain ⟨p, e, s, m, args, below, meth, c, s0, H0⟩ := D
  obtain ⟨hx, hown, hc, hml, hnm, hrt, hlk, hEL, hSA, hls, T, L, vm0, k0, X, eT, hS, hk, hZ, hG, hF, hMo, hst⟩ := A
  dsimp only at hx hown hc hml hnm hrt hlk X hS hMo hst
  have hown' : (s.setVm vm0).vm.findClass own = some m.cls := (hS.1.alike.findClass _ _).trans hown
  have hZ' : Z.Warmed39 (s.setVm vm0).vm := hZ
  obtain ⟨v, vm1, ⟨T', L', c', n'⟩, -, X', hS2, hgr, ⟨Lc, O, hQ, hmo, hG', hFc, l1, l2, l3⟩, st'⟩ := X.specialBackS hx hy1 hown' (mvT hZ' w1) (mvT hZ' w2) (mvT hZ' wc) hy (ctBack hM hZ wc wz hf hlo hEL hG) (g := mkF m pc ls.toArray (argsL.reverse ++ .ref a :: st)) rfl (by simp [hls, hml]) (Steps.refl _) (by obtain ⟨ps, r, q1, q2⟩ := hlen; exact lenOf q1 q2) rfl (by simpa using hW) (hb hc hd) (fun _ _ => ⟨rfl, eT, hcl, hsl⟩)
  dsimp only [Pt.U, Pt.locs, Pt.cells, Pt.slots] at X' hS2 hgr hQ hmo hG' l1 l2 l3 st'
  subst l1 l2 l3
  have hS' := hS.trans hS2 (by rw [eT] at hgr; exact Nat.le_trans hk hgr)
  exact ⟨v, (T'.heap, O), hQ, ⟨hx, hown, hc, hml, hnm, hrt, hlk, hEL, hSA, hls, T', _, T'.vm, T'.heap.size, X', rfl, hS', (Nat.le_refl _), (State.Warmed39.trans (t := s.setVm vm0) hZ hS2.1), hG', (hF.app hFc), ⟨fun x q => hmo.1 x (hMo.1 x q), Nat.le_trans hMo.2 hmo.2⟩, hst.trans st'⟩, hmo.1, hmo.2⟩
theorem Wk.callV {y z : MethodName} {bytes : ByteArray} {ret : Option FieldType} {cml : Nat} {rm : Room} {Q : Option Value → HP → Prop} {argsL : List Value} {index Wd : Nat} (A : Wk l Z a0 EL own code ml nm rt R D pc ls (argsL.reverse ++ .ref a :: st) H k n) (w1 : (Jvm.Cond.methodLink own index y).before a0 Z = true) (w2 : (Jvm.Cond.declares y).before a0 Z = true) {C' : String} {y2 : MethodName} (w3 : (Jvm.Cond.selects C' y2 y2).before a0 Z = true) (hc2 : y2.cls = y.cls) (w4 : (Jvm.Cond.selects C y z).before a0 Z = true) (w5 : (Jvm.Cond.instanceMethod z).before a0 Z = true) (wz : (Jvm.Cond.initialized z.cls).before a0 Z = true) (wc : (Jvm.Cond.code z bytes cml ret).before a0 Z = true) (E : Exa Z H.1 a C) (hM : Ct l Z EL z bytes cml ret rm [] (.ref a :: argsL) H Q) (hy : y.cls ≠ "java/lang/invoke/MethodHandle" ∧ y.cls ≠ "java/lang/invoke/VarHandle") (hlen : ∃ ps r, parseMethodDescriptor y.desc = some ⟨ps, r⟩ ∧ argsL.length = ps.length) (hd : decode code pc = .ok (.invokevirtual index, 3)) (hf : rm.frames + 1 ≤ R.frames) (hW : (st.map fun v => v.category).sum ≤ Wd) (hlo : Wd + (cml + 11) + rm.locals ≤ R.locals) (hcl : k + rm.cells ≤ R.cells) (hsl : n + rm.slots ≤ R.slots) :
    ∃ (v : Option Value) (H' : HP), Q v H' ∧ Wk l Z a0 EL own code ml nm rt R D (pc + 3) ls (v.toList ++ st) H' (k + rm.cells) (n + rm.slots) ∧ (∀ x, H.2 x → H'.2 x) ∧ H.1.size ≤ H'.1.size := by
  obtain ⟨p, e, s, m, args, below, meth, c, s0, H0⟩ := D
  obtain ⟨hx, hown, hc, hml, hnm, hrt, hlk, hEL, hSA, hls, T, L, vm0, k0, X, eT, hS, hk, hZ, hG, hF, hMo, hst⟩ := A
  dsimp only at hx hown hc hml hnm hrt hlk X hS hMo hst
  have hown' : (s.setVm vm0).vm.findClass own = some m.cls := (hS.1.alike.findClass _ _).trans hown
  have hZ' : Z.Warmed39 (s.setVm vm0).vm := hZ
  obtain ⟨cB, kB, i1, i2, i3⟩ := isOf (s := (s.setVm vm0)) hZ' eT E
  obtain ⟨v, vm1, ⟨T', L', c', n'⟩, -, X', hS2, hgr, ⟨Lc, O, hQ, hmo, hG', hFc, l1, l2, l3⟩, st'⟩ := X.virtualBackS hx hown' (mvT hZ' w1) (mvT hZ' w2) (notFace_cls (mvT hZ' (args := #[]) w3) hc2) (mvT hZ' w4) (mvT hZ' w5) hy (ctBack hM hZ wc wz hf hlo hEL hG) i1 i3 (g := mkF m pc ls.toArray (argsL.reverse ++ .ref a :: st)) rfl (by simp [hls, hml]) (Steps.refl _) (by obtain ⟨ps, r, q1, q2⟩ := hlen; exact lenOf q1 q2) rfl (by simpa using hW) (hb hc hd) (fun _ _ => ⟨rfl, eT, hcl, hsl⟩)
  dsimp only [Pt.U, Pt.locs, Pt.cells, Pt.slots] at X' hS2 hgr hQ hmo hG' l1 l2 l3 st'
  subst l1 l2 l3
  have hS' := hS.trans hS2 (by rw [eT] at hgr; exact Nat.le_trans hk hgr)
  exact ⟨v, (T'.heap, O), hQ, ⟨hx, hown, hc, hml, hnm, hrt, hlk, hEL, hSA, hls, T', _, T'.vm, T'.heap.size, X', rfl, hS', (Nat.le_refl _), (State.Warmed39.trans (t := s.setVm vm0) hZ hS2.1), hG', (hF.app hFc), ⟨fun x q => hmo.1 x (hMo.1 x q), Nat.le_trans hMo.2 hmo.2⟩, hst.trans st'⟩, hmo.1, hmo.2⟩
theorem Wk.callF {xi y : MethodName} {bytes : ByteArray} {ret : Option FieldType} {cml : Nat} {rm : Room} {Q : Option Value → HP → Prop} {argsL : List Value} {index Wd : Nat} {count : Nat} (A : Wk l Z a0 EL own code ml nm rt R D pc ls (argsL.reverse ++ .ref a :: st) H k n) (w1 : (Jvm.Cond.methodLink own index xi).before a0 Z = true) (w2 : (Jvm.Cond.declares xi).before a0 Z = true) (w3 : (Jvm.Cond.interfaceMethod xi.cls xi.cls xi.name xi.desc).before a0 Z = true) (w4 : (Jvm.Cond.selects C xi y).before a0 Z = true) (w5 : (Jvm.Cond.instanceMethod y).before a0 Z = true) (w6 : (Jvm.Cond.publicMethod y).before a0 Z = true) (w7 : (Jvm.Cond.unhidden C xi.name xi.desc).before a0 Z = true) (w8 : (Jvm.Cond.castable C xi.cls).before a0 Z = true) (wz : (Jvm.Cond.initialized y.cls).before a0 Z = true) (wc : (Jvm.Cond.code y bytes cml ret).before a0 Z = true) (E : Exa Z H.1 a C) (hM : Ct l Z EL y bytes cml ret rm [] (.ref a :: argsL) H Q) (hy : xi.cls ≠ "java/lang/invoke/MethodHandle" ∧ xi.cls ≠ "java/lang/invoke/VarHandle") (hlen : ∃ ps r, parseMethodDescriptor xi.desc = some ⟨ps, r⟩ ∧ argsL.length = ps.length) (hd : decode code pc = .ok (.invokeinterface index count, 5)) (hf : rm.frames + 1 ≤ R.frames) (hW : (st.map fun v => v.category).sum ≤ Wd) (hlo : Wd + (cml + 11) + rm.locals ≤ R.locals) (hcl : k + rm.cells ≤ R.cells) (hsl : n + rm.slots ≤ R.slots) :
    ∃ (v : Option Value) (H' : HP), Q v H' ∧ Wk l Z a0 EL own code ml nm rt R D (pc + 5) ls (v.toList ++ st) H' (k + rm.cells) (n + rm.slots) ∧ (∀ x, H.2 x → H'.2 x) ∧ H.1.size ≤ H'.1.size := by
  obtain ⟨p, e, s, m, args, below, meth, c, s0, H0⟩ := D
  obtain ⟨hx, hown, hc, hml, hnm, hrt, hlk, hEL, hSA, hls, T, L, vm0, k0, X, eT, hS, hk, hZ, hG, hF, hMo, hst⟩ := A
  dsimp only at hx hown hc hml hnm hrt hlk X hS hMo hst
  have hown' : (s.setVm vm0).vm.findClass own = some m.cls := (hS.1.alike.findClass _ _).trans hown
  have hZ' : Z.Warmed39 (s.setVm vm0).vm := hZ
  obtain ⟨cB, kB, i1, i2, i3⟩ := isOf (s := (s.setVm vm0)) hZ' eT E
  obtain ⟨v, vm1, ⟨T', L', c', n'⟩, -, X', hS2, hgr, ⟨Lc, O, hQ, hmo, hG', hFc, l1, l2, l3⟩, st'⟩ := X.interfaceBackS hx hown' (mvT hZ' w1) (mvT hZ' w2) (mvT hZ' w3 (by simp [Cond.onTables, Cond.keepsFace, Cond.keeps, Cond.steady, Cond.faceAtom, hy.1, hy.2])) (mvT hZ' w4) (mvT hZ' w5) (mvT hZ' w6) (mvT hZ' w7) (mvT hZ' w8) hy (ctBack hM hZ wc wz hf hlo hEL hG) i1 i2 i3 (g := mkF m pc ls.toArray (argsL.reverse ++ .ref a :: st)) rfl (by simp [hls, hml]) (Steps.refl _) (by obtain ⟨ps, r, q1, q2⟩ := hlen; exact lenOf q1 q2) rfl (by simpa using hW) (hb hc hd) (fun _ _ => ⟨rfl, eT, hcl, hsl⟩)
  dsimp only [Pt.U, Pt.locs, Pt.cells, Pt.slots] at X' hS2 hgr hQ hmo hG' l1 l2 l3 st'
  subst l1 l2 l3
  have hS' := hS.trans hS2 (by rw [eT] at hgr; exact Nat.le_trans hk hgr)
  exact ⟨v, (T'.heap, O), hQ, ⟨hx, hown, hc, hml, hnm, hrt, hlk, hEL, hSA, hls, T', _, T'.vm, T'.heap.size, X', rfl, hS', (Nat.le_refl _), (State.Warmed39.trans (t := s.setVm vm0) hZ hS2.1), hG', (hF.app hFc), ⟨fun x q => hmo.1 x (hMo.1 x q), Nat.le_trans hMo.2 hmo.2⟩, hst.trans st'⟩, hmo.1, hmo.2⟩
theorem Wk.copy {sp dp z : Int32} {i j q index Wd : Nat} {vd : List Value} (A : Wk l Z a0 EL own code ml nm rt R D pc ls (.int z :: .int dp :: .ref b :: .int sp :: .ref a :: st) H k n) (w1 : (Jvm.Cond.methodLink own index Jvm.Stand.acN).before a0 Z = true) (w2 : (Jvm.Cond.native Jvm.Stand.acN).before a0 Z = true) (w3 : (Jvm.Cond.static Jvm.Stand.acN).before a0 Z = true) (w4 : (Jvm.Cond.initialized "java/lang/System").before a0 Z = true) (Fa : Ar Z H a ty vs) (Fb : Ar Z H b ty vd) (hty : refKind ty = false) (o : H.2 b) (hi : i.toInt32 = sp) (hj : j.toInt32 = dp) (hq : q.toInt32 = z) (h4 : i + q ≤ vs.length) (h5 : j + q ≤ vd.length) (hd : decode code pc = .ok (.invokestatic index, 3)) (hf : 1 ≤ R.frames) (hW : (st.map fun v => v.category).sum ≤ Wd) (hlo : Wd + 18 ≤ R.locals) :
    ∃ H' : HP, Wk l Z a0 EL own code ml nm rt R D (pc + 3) ls st H' k n ∧ Kp H H' [b] ∧ Ar Z H' b ty (vd.take j ++ (vs.drop i).take q ++ vd.drop (j + q)) := by
  obtain ⟨p, e, s, m, args, below, meth, c, s0, H0⟩ := D
  obtain ⟨hx, hown, hc, hml, hnm, hrt, hlk, hEL, hSA, hls, T, L, vm0, k0, X, eT, hS, hk, hZ, hG, hF, hMo, hst⟩ := A
  dsimp only at hx hown hc hml hnm hrt hlk X hS hMo hst
  have hown' : (s.setVm vm0).vm.findClass own = some m.cls := (hS.1.alike.findClass _ _).trans hown
  have hZ' : Z.Warmed39 (s.setVm vm0).vm := hZ
  subst hi hj hq
  have la := Fa.len
  have lb := Fb.len
  obtain ⟨ka, Aa⟩ := Fa.arv (.int 0)
  obtain ⟨kb, Ab⟩ := Fb.arv (.int 0)
  have o2 := hG.2.1 b o
  have ci := clamp_nat (i := i) (by omega)
  have cj := clamp_nat (i := j) (by omega)
  have cq := clamp_nat (i := q) (by omega)
  obtain ⟨T', h', L', X', e', F', K', A', st'⟩ := RoadKit.cpA X hx hZ' hown' w1 w2 w3 w4 eT Aa Ab (us := (List.range q).map fun t => vs.getD (i + t) (.int 0)) (Or.inl ⟨rfl, hty⟩) (nonneg_nat (by omega)) (nonneg_nat (by omega)) (nonneg_nat (by omega)) (by rw [ci, cq, clamp_nat la]; exact h4) (by rw [cj, cq, clamp_nat lb]; exact h5) (by rw [ci, cq]) (by rw [cj, cq]; exact h5) hF o2.1 (g := mkF m pc ls.toArray (.int q.toInt32 :: .int j.toInt32 :: .ref b :: .int i.toInt32 :: .ref a :: st)) rfl (by simp [hls, hml]) rfl (hb hc hd) hf (by simpa using hW) hlo
  rw [cj, cq, range_take h4] at A'
  exact ⟨(h', H.2), ⟨hx, hown, hc, hml, hnm, hrt, hlk, hEL, hSA, hls, T', L', vm0, k0, X', e', hS, (Nat.le_trans hk K'.1), hZ, (hG.keep K' (fun x hx => by cases List.mem_singleton.mp hx; exact o)), F', ⟨hMo.1, Nat.le_trans hMo.2 K'.1⟩, hst.trans (st' _ (Steps.refl _))⟩, ⟨K', fun _ q => q⟩, Ar.of_arv (H := (h', H.2)) A' (by rw [clamp_nat lb]; simp; omega)⟩
theorem Wk.callU {y : MethodName} {bytes : ByteArray} {ret : Option FieldType} {cml : Nat} {rm : Room} {Q : Option Value → HP → Prop} {argsL : List Value} {index Wd : Nat} (A : Wk l Z a0 EL own code ml nm rt R D pc ls (argsL.reverse ++ .ref a :: st) H k n) (w1 : (Jvm.Cond.methodLink own index y).before a0 Z = true) (w2 : (Jvm.Cond.declares y).before a0 Z = true) {C' : String} {y2 : MethodName} (w3 : (Jvm.Cond.selects C' y2 y2).before a0 Z = true) (hc2 : y2.cls = y.cls) (w4 : (Jvm.Cond.superclass own y.cls).before a0 Z = true) (w5 : (Jvm.Cond.instanceMethod y).before a0 Z = true) (hni : y.name ≠ "<init>") (wz : (Jvm.Cond.initialized y.cls).before a0 Z = true) (wc : (Jvm.Cond.code y bytes cml ret).before a0 Z = true) (E : Exa Z H.1 a C) (hM : Ct l Z EL y bytes cml ret rm [] (.ref a :: argsL) H Q) (hy : y.cls ≠ "java/lang/invoke/MethodHandle" ∧ y.cls ≠ "java/lang/invoke/VarHandle") (hlen : ∃ ps r, parseMethodDescriptor y.desc = some ⟨ps, r⟩ ∧ argsL.length = ps.length) (hd : decode code pc = .ok (.invokespecial index, 3)) (hf : rm.frames + 1 ≤ R.frames) (hW : (st.map fun v => v.category).sum ≤ Wd) (hlo : Wd + (cml + 11) + rm.locals ≤ R.locals) (hcl : k + rm.cells ≤ R.cells) (hsl : n + rm.slots ≤ R.slots) :
    ∃ (v : Option Value) (H' : HP), Q v H' ∧ Wk l Z a0 EL own code ml nm rt R D (pc + 3) ls (v.toList ++ st) H' (k + rm.cells) (n + rm.slots) ∧ (∀ x, H.2 x → H'.2 x) ∧ H.1.size ≤ H'.1.size := by
  obtain ⟨p, e, s, m, args, below, meth, c, s0, H0⟩ := D
  obtain ⟨hx, hown, hc, hml, hnm, hrt, hlk, hEL, hSA, hls, T, L, vm0, k0, X, eT, hS, hk, hZ, hG, hF, hMo, hst⟩ := A
  dsimp only at hx hown hc hml hnm hrt hlk X hS hMo hst
  have hown' : (s.setVm vm0).vm.findClass own = some m.cls := (hS.1.alike.findClass _ _).trans hown
  have hZ' : Z.Warmed39 (s.setVm vm0).vm := hZ
  obtain ⟨v, vm1, ⟨T', L', c', n'⟩, -, X', hS2, hgr, ⟨Lc, O, hQ, hmo, hG', hFc, l1, l2, l3⟩, st'⟩ := RoadKit.superBackS X hx hZ' hown' w1 (same_of w2 w3 hc2 hy) w5 w4 hni (ctBack hM hZ wc wz hf hlo hEL hG) eT (Ins.self E) (g := mkF m pc ls.toArray (argsL.reverse ++ .ref a :: st)) rfl (by simp [hls, hml]) wc (by obtain ⟨ps, r, q1, q2⟩ := hlen; exact lenOf q1 q2) rfl (by simpa using hW) (hb hc hd) (fun _ _ => ⟨rfl, eT, hcl, hsl⟩)
  dsimp only [Pt.U, Pt.locs, Pt.cells, Pt.slots] at X' hS2 hgr hQ hmo hG' l1 l2 l3 st'
  subst l1 l2 l3
  have hS' := hS.trans hS2 (by rw [eT] at hgr; exact Nat.le_trans hk hgr)
  exact ⟨v, (T'.heap, O), hQ, ⟨hx, hown, hc, hml, hnm, hrt, hlk, hEL, hSA, hls, T', _, T'.vm, T'.heap.size, X', rfl, hS', (Nat.le_refl _), (State.Warmed39.trans (t := s.setVm vm0) hZ hS2.1), hG', (hF.app hFc), ⟨fun x q => hmo.1 x (hMo.1 x q), Nat.le_trans hMo.2 hmo.2⟩, hst.trans st'⟩, hmo.1, hmo.2⟩
theorem Wk.getSN {R0 O host : String} {index : Nat} (A : Wk l Z a0 EL own code ml nm rt R D pc ls st H k n) (w : (Jvm.Cond.fieldLinkNest own index R0 nn d host).before a0 Z = true) (F : Sta Z Z.heap O nn d v) (hd : decode code pc = .ok (.getstatic index, 3)) (via : Via Z R0 O nn d := by exact Via.refl) :
    Wk l Z a0 EL own code ml nm rt R D (pc + 3) ls (v :: st) H k n := by
  obtain ⟨p, e, s, m, args, below, meth, c, s0, H0⟩ := D
  obtain ⟨hx, hown, hc, hml, hnm, hrt, hlk, hEL, hSA, hls, T, L, vm0, k0, X, eT, hS, hk, hZ, hG, hF, hMo, hst⟩ := A
  dsimp only at hx hown hc hml hnm hrt hlk X hS hMo hst
  have hown' : (s.setVm vm0).vm.findClass own = some m.cls := (hS.1.alike.findClass _ _).trans hown
  have hZ' : Z.Warmed39 (s.setVm vm0).vm := hZ
  obtain ⟨T', X', e', st'⟩ := RoadKit.getS2 X hx hZ' hown' (Or.inr w) via eT (F.ext hG.1) (g := mkF m pc ls.toArray st) rfl (hb hc hd)
  exact ⟨hx, hown, hc, hml, hnm, hrt, hlk, hEL, hSA, hls, T', L, vm0, k0, X', e', hS, hk, hZ, hG, hF, hMo, hst.trans (st' _ (Steps.refl _))⟩
theorem privS {p : Program} {e : Env} {R : Room} {s : State} {m : MethodId} {args : Array Value} {below : List Frame} {meth : Method} {c : Code} {T : State} {locs : List Loc} {cells slots : Nat} (X : Stand p l e R s m args below meth c T locs cells slots) (hexec : p.tables.exec = Jvm.exec) {own : String} {index : Nat} {y : MethodName} {bytes : ByteArray} {maxL : Nat} {ret : Option FieldType}
    (hown : s.vm.findClass own = some m.cls) (hlink : (Jvm.Cond.methodLink own index y).before args s = true) (hinst : (Jvm.Cond.instanceMethod y).before args s = true) (hnf : NotFace s y) (hpriv : s.PrivateAt y) (hcode : (Jvm.Cond.code y bytes maxL ret).before args s = true) (hy : y.cls ≠ "java/lang/invoke/MethodHandle" ∧ y.cls ≠ "java/lang/invoke/VarHandle")
    {W : Nat} {Pre : Pt → Array Value → Prop} {Post : Pt → Array Value → Option Value → Pt → Prop} (hK : BackS l R p e below s args y 3 W Pre Post) {b : Addr} {cB : ClassId} (hrecv : IsOf cB T b)
    {g : JFrame} (hg : g.method = m) (hsize : g.locals.size = c.maxLocals) {argsL rest : List Value} (hlen : ∀ sig, parseMethodDescriptor y.desc = some sig → argsL.length = sig.parameters.length) (hstack : g.stack = argsL.reverse ++ .ref b :: rest) (hW : 2 * g.monitorRoom + (rest.map fun v => v.category).sum ≤ W) (hdg : decode c.code g.pc = .ok (.invokevirtual index, 3))
    (hpre : ∀ vm₁, s.WarmedH vm₁ → Pre ⟨T.setVm vm₁, locs, cells, slots⟩ (.ref b :: argsL).toArray) :
    ∃ (v : Option Value) (vm₁ : Vm) (B : Pt), s.WarmedH vm₁ ∧ Stand p l e R (s.setVm B.U.vm) m args below meth c B.U B.locs B.cells B.slots ∧ s.Since B.U.vm B.U.heap.size ∧ T.heap.size ≤ B.U.heap.size ∧ Post ⟨T.setVm vm₁, locs, cells, slots⟩ (.ref b :: argsL).toArray v B ∧ Steps p.tables e below (T.setTop g) (B.U.setTop { g with pc := g.pc + 3, stack := v.toList ++ rest }) := by
  obtain ⟨cl, h1, h2, h3⟩ := hrecv
  obtain ⟨mk, mm, n1, n2, n3, n4⟩ := Cond.instanceMethod_spec hinst
  obtain ⟨mm', cM, q1, -, -, -, -, -, -, hsig⟩ := Cond.code_spec n1 hcode
  cases n2.symm.trans q1
  obtain ⟨kr, k1, k2⟩ := hnf mk n1
  obtain ⟨vm₁, X₁, go⟩ := X.invokevirtual hexec hown hlink n1 n2 n3 k1 k2 hy (a := b) (cell := cl) h1 (fun z h => by rw [h] at h3; cases h3) (selectMethod_private n2 (hpriv mk mm n1 n2)) n2 n4 k1 k2 (g := g) hg (argsL := argsL) (rest := rest) (hlen _ hsig) hstack hdg
  obtain ⟨v, B, X', hS, hgr, hpost, hst⟩ := hK m meth c ⟨T.setVm vm₁, locs, cells, slots⟩ { g with stack := rest } (.invokevirtual index) mk (.ref b :: argsL).toArray X₁ hg hsize hdg hW (X₁.named n1) (hpre vm₁ X₁.warmed)
  exact ⟨v, vm₁, B, X₁.warmed, X', hS, hgr, hpost, (go _ fun acts => by rw [doInvoke_state]; exact Steps.refl _).trans hst⟩
theorem Wk.callP {y : MethodName} {bytes : ByteArray} {ret : Option FieldType} {cml : Nat} {rm : Room} {Q : Option Value → HP → Prop} {argsL : List Value} {index Wd : Nat} (A : Wk l Z a0 EL own code ml nm rt R D pc ls (argsL.reverse ++ .ref a :: st) H k n) (w1 : (Jvm.Cond.methodLink own index y).before a0 Z = true) {C' : String} {y2 : MethodName} (w3 : (Jvm.Cond.selects C' y2 y2).before a0 Z = true) (hc2 : y2.cls = y.cls) (w4 : (Jvm.Cond.privateMethod y).before a0 Z = true) (w5 : (Jvm.Cond.instanceMethod y).before a0 Z = true) (wz : (Jvm.Cond.initialized y.cls).before a0 Z = true) (wc : (Jvm.Cond.code y bytes cml ret).before a0 Z = true) (E : Exa Z H.1 a C) (hM : Ct l Z EL y bytes cml ret rm [] (.ref a :: argsL) H Q) (hy : y.cls ≠ "java/lang/invoke/MethodHandle" ∧ y.cls ≠ "java/lang/invoke/VarHandle") (hlen : ∃ ps r, parseMethodDescriptor y.desc = some ⟨ps, r⟩ ∧ argsL.length = ps.length) (hd : decode code pc = .ok (.invokevirtual index, 3)) (hf : rm.frames + 1 ≤ R.frames) (hW : (st.map fun v => v.category).sum ≤ Wd) (hlo : Wd + (cml + 11) + rm.locals ≤ R.locals) (hcl : k + rm.cells ≤ R.cells) (hsl : n + rm.slots ≤ R.slots) :
    ∃ (v : Option Value) (H' : HP), Q v H' ∧ Wk l Z a0 EL own code ml nm rt R D (pc + 3) ls (v.toList ++ st) H' (k + rm.cells) (n + rm.slots) ∧ (∀ x, H.2 x → H'.2 x) ∧ H.1.size ≤ H'.1.size := by
  obtain ⟨p, e, s, m, args, below, meth, c, s0, H0⟩ := D
  obtain ⟨hx, hown, hc, hml, hnm, hrt, hlk, hEL, hSA, hls, T, L, vm0, k0, X, eT, hS, hk, hZ, hG, hF, hMo, hst⟩ := A
  dsimp only at hx hown hc hml hnm hrt hlk X hS hMo hst
  have hown' : (s.setVm vm0).vm.findClass own = some m.cls := (hS.1.alike.findClass _ _).trans hown
  have hZ' : Z.Warmed39 (s.setVm vm0).vm := hZ
  obtain ⟨cB, kB, i1, i2, i3⟩ := isOf (s := (s.setVm vm0)) hZ' eT E
  obtain ⟨v, vm1, ⟨T', L', c', n'⟩, -, X', hS2, hgr, ⟨Lc, O, hQ, hmo, hG', hFc, l1, l2, l3⟩, st'⟩ := privS X hx hown' (mvT hZ' w1) (mvT hZ' w5) (notFace_cls (mvT hZ' (args := #[]) w3) hc2) (Cond.privateMethod_at (mvT hZ' (args := #[]) w4)) (mvT hZ' wc) hy (ctBack hM hZ wc wz hf hlo hEL hG) i3 (g := mkF m pc ls.toArray (argsL.reverse ++ .ref a :: st)) rfl (by simp [hls, hml]) (by obtain ⟨ps, r, q1, q2⟩ := hlen; exact lenOf q1 q2) rfl (by simpa using hW) (hb hc hd) (fun _ _ => ⟨rfl, eT, hcl, hsl⟩)
  dsimp only [Pt.U, Pt.locs, Pt.cells, Pt.slots] at X' hS2 hgr hQ hmo hG' l1 l2 l3 st'
  subst l1 l2 l3
  have hS' := hS.trans hS2 (by rw [eT] at hgr; exact Nat.le_trans hk hgr)
  exact ⟨v, (T'.heap, O), hQ, ⟨hx, hown, hc, hml, hnm, hrt, hlk, hEL, hSA, hls, T', _, T'.vm, T'.heap.size, X', rfl, hS', (Nat.le_refl _), (State.Warmed39.trans (t := s.setVm vm0) hZ hS2.1), hG', (hF.app hFc), ⟨fun x q => hmo.1 x (hMo.1 x q), Nat.le_trans hMo.2 hmo.2⟩, hst.trans st'⟩, hmo.1, hmo.2⟩
theorem Wk.newAE {aty : ArrayType} {z : Int32} (A : Wk l Z a0 EL own code ml nm rt R D pc ls (.int z :: st) H k n) (w : (Jvm.Cond.arrayClass (newarray.typeOf aty)).before a0 Z = true) (hd : decode code pc = .ok (.newarray aty, 2)) {N : Nat} (hN : N.toInt32 = z) {cap : Nat} (hcap : N ≤ cap) (hbg : cap * 8 ≤ 536870912) (hcl : k + 1 ≤ R.cells) (hsl : n + cap ≤ R.slots) {ad : String} (had : "[" ++ (newarray.typeOf aty).toString = ad) :
    ∃ (a : Addr) (H' : HP), Wk l Z a0 EL own code ml nm rt R D (pc + 2) ls (.ref a :: st) H' (k + 1) (n + cap) ∧ H.1.size ≤ a ∧ Kp H H' [] ∧ Ar Z H' a (newarray.typeOf aty) (List.replicate N (defaultValue (newarray.typeOf aty))) ∧ H'.2 a ∧ Exa Z H'.1 a ad := by
  obtain ⟨p, e, s, m, args, below, meth, c, s0, H0⟩ := D
  obtain ⟨hx, hown, hc, hml, hnm, hrt, hlk, hEL, hSA, hls, T, L, vm0, k0, X, eT, hS, hk, hZ, hG, hF, hMo, hst⟩ := A
  dsimp only at hx hown hc hml hnm hrt hlk X hS hMo hst
  have hown' : (s.setVm vm0).vm.findClass own = some m.cls := (hS.1.alike.findClass _ _).trans hown
  have hZ' : Z.Warmed39 (s.setVm vm0).vm := hZ
  subst hN
  have hN2 : N < 2 ^ 31 := by omega
  obtain ⟨T', h', cA, X', e', E, Ex, Ea, st'⟩ := RoadKit.newPE X hx hZ' w eT (g := mkF m pc ls.toArray (.int N.toInt32 :: st)) rfl (hb hc hd) rfl (nonneg_nat hN2) (cap := cap) (by rw [clamp_nat hN2]; exact hcap) hbg hcl hsl had
  refine ⟨H.1.size, (h', fun y => H.2 y ∨ y = H.1.size), ⟨hx, hown, hc, hml, hnm, hrt, hlk, hEL, hSA, hls, T', L, vm0, k0, X', e', hS, (Nat.le_trans hk E.1), hZ, (hG.ext E Ex.lt), hF, ⟨fun x q => Or.inl (hMo.1 x q), Nat.le_trans hMo.2 E.1⟩, hst.trans (st' _ (Steps.refl _))⟩, Nat.le_refl _, ⟨(Keep.refl _ _).ext E, fun _ q => Or.inl q⟩, ⟨_, Ex, by simp [Jvm.RoadKit.newA, clamp_nat hN2], by simpa using hN2, fun v hv => ?_⟩, Or.inr rfl, Ea⟩
  obtain ⟨-, rfl⟩ := List.mem_replicate.mp hv
  cases aty <;> rfl
theorem Wk.clone {ad : String} {index Wd : Nat} (A : Wk l Z a0 EL own code ml nm rt R D pc ls (.ref a :: st) H k n) (w1 : (Jvm.Cond.methodLink own index ⟨ad, "clone", "()Ljava/lang/Object;"⟩).before a0 Z = true) (w2 : (Jvm.Cond.sameMethod ad "java/lang/Object" "clone" "()Ljava/lang/Object;").before a0 Z = true) (w3 : (Jvm.Cond.native ⟨"java/lang/Object", "clone", "()Ljava/lang/Object;"⟩).before a0 Z = true) (w4 : (Jvm.Cond.instanceMethod ⟨"java/lang/Object", "clone", "()Ljava/lang/Object;"⟩).before a0 Z = true) (w5 : (Jvm.Cond.selects ad ⟨ad, "clone", "()Ljava/lang/Object;"⟩ ⟨"java/lang/Object", "clone", "()Ljava/lang/Object;"⟩).before a0 Z = true) (w6 : (Jvm.Cond.castable ad "java/lang/Cloneable").before a0 Z = true) (F : Ar Z H a ty vs) (E : Exa Z H.1 a ad) (hd : decode code pc = .ok (.invokevirtual index, 3)) (hf : 1 ≤ R.frames) (hW : (st.map fun v => v.category).sum ≤ Wd) (hlo : Wd + 14 ≤ R.locals) {cap : Nat} (hcap : vs.length ≤ cap) (hcl : k + 1 ≤ R.cells) (hsl : n + cap ≤ R.slots) :
    ∃ (b : Addr) (H' : HP), Wk l Z a0 EL own code ml nm rt R D (pc + 3) ls (.ref b :: st) H' (k + 1) (n + cap) ∧ H.1.size ≤ b ∧ Kp H H' [] ∧ Ar Z H' b ty vs ∧ H'.2 b ∧ Exa Z H'.1 b ad := by
  obtain ⟨p, e, s, m, args, below, meth, c, s0, H0⟩ := D
  obtain ⟨hx, hown, hc, hml, hnm, hrt, hlk, hEL, hSA, hls, T, L, vm0, k0, X, eT, hS, hk, hZ, hG, hF, hMo, hst⟩ := A
  dsimp only at hx hown hc hml hnm hrt hlk X hS hMo hst
  have hown' : (s.setVm vm0).vm.findClass own = some m.cls := (hS.1.alike.findClass _ _).trans hown
  have hZ' : Z.Warmed39 (s.setVm vm0).vm := hZ
  obtain ⟨cl, A0, q1, q2, q3⟩ := F
  obtain ⟨T', h', X', e', Ex, A', E', st'⟩ := RoadKit.cloneA X hx hZ' hown' w1 w2 w3 w4 w5 w6 eT A0 E (RoadKit.fitC_of A0 fun i hi v hv => q3 v (by rw [q1] at hv; simp at hv; exact List.mem_of_getElem? hv)) (g := mkF m pc ls.toArray (.ref a :: st)) rfl (by simp [hls, hml]) rfl (hb hc hd) hf (by simpa using hW) hlo (cap := cap) (by rw [q1]; simpa using hcap) hcl hsl
  exact ⟨H.1.size, (h', fun y => H.2 y ∨ y = H.1.size), ⟨hx, hown, hc, hml, hnm, hrt, hlk, hEL, hSA, hls, T', L, vm0, k0, X', e', hS, (Nat.le_trans hk Ex.1), hZ, (hG.ext Ex A'.lt), hF, ⟨fun x q => Or.inl (hMo.1 x q), Nat.le_trans hMo.2 Ex.1⟩, hst.trans (st' _ (Steps.refl _))⟩, Nat.le_refl _, ⟨(Keep.refl _ _).ext Ex, fun _ q => Or.inl q⟩, ⟨_, A', q1, q2, q3⟩, Or.inr rfl, E'⟩
end Laws

abbrev EL0 : List (String × Nat) := consts_1
def Glb (Z : State) (a0 : Array Value) : Prop := (∀ d ∈ tables_1, d.before a0 Z = true) ∧ (∀ d ∈ jdkStatics_1, d.before a0 Z = true) ∧ Fit Z ∧ narrow_1.value a0 Z none Z [] = some true
def txtAt (k : Nat) : String := match tables_1[k]? with
  | some (.stringLink _ _ t) => t
  | _ => ""
theorem wd_0 {Z : State} {a0 : Array Value} (G : Glb Z a0) : (Jvm.Cond.arrayClass Jvm.ClassFile.FieldType.char).before a0 Z = true := G.1 _ (List.mem_of_getElem? (i := 0) rfl)
theorem wd_1 {Z : State} {a0 : Array Value} (G : Glb Z a0) : (Jvm.Cond.classLink "com/example/bell_counter/bellcounter/redis/RedisUrlToStringPinLaw" (7 : Nat) "java/lang/String").before a0 Z = true := G.1 _ (List.mem_of_getElem? (i := 1) rfl)
theorem wd_2 {Z : State} {a0 : Array Value} (G : Glb Z a0) : (Jvm.Cond.instantiable "java/lang/String" (4 : Nat)).before a0 Z = true := G.1 _ (List.mem_of_getElem? (i := 2) rfl)
theorem wd_3 {Z : State} {a0 : Array Value} (G : Glb Z a0) : (Jvm.Cond.initialized "java/lang/String").before a0 Z = true := G.1 _ (List.mem_of_getElem? (i := 3) rfl)
theorem wd_4 {Z : State} {a0 : Array Value} (G : Glb Z a0) : (Jvm.Cond.methodLink "com/example/bell_counter/bellcounter/redis/RedisUrlToStringPinLaw" (9 : Nat) ({ cls := "java/lang/String", name := "<init>", desc := "([C)V" } : Jvm.MethodName)).before a0 Z = true := G.1 _ (List.mem_of_getElem? (i := 4) rfl)
theorem wd_5 {Z : State} {a0 : Array Value} (G : Glb Z a0) : (Jvm.Cond.instanceMethod ({ cls := "java/lang/String", name := "<init>", desc := "([C)V" } : Jvm.MethodName)).before a0 Z = true := G.1 _ (List.mem_of_getElem? (i := 5) rfl)
theorem wd_6 {Z : State} {a0 : Array Value} (G : Glb Z a0) : (Jvm.Cond.code ({ cls := "java/lang/String", name := "<init>", desc := "([C)V" } : Jvm.MethodName) jdk_42_method_3_code (2 : Nat) (Option.none : Option Jvm.ClassFile.FieldType)).before a0 Z = true := G.1 _ (List.mem_of_getElem? (i := 6) rfl)
theorem wd_7 {Z : State} {a0 : Array Value} (G : Glb Z a0) : (Jvm.Cond.methodLink "java/lang/String" (27 : Nat) ({ cls := "java/lang/String", name := "<init>", desc := "([CIILjava/lang/Void;)V" } : Jvm.MethodName)).before a0 Z = true := G.1 _ (List.mem_of_getElem? (i := 7) rfl)
theorem wd_8 {Z : State} {a0 : Array Value} (G : Glb Z a0) : (Jvm.Cond.instanceMethod ({ cls := "java/lang/String", name := "<init>", desc := "([CIILjava/lang/Void;)V" } : Jvm.MethodName)).before a0 Z = true := G.1 _ (List.mem_of_getElem? (i := 8) rfl)
theorem wd_10 {Z : State} {a0 : Array Value} (G : Glb Z a0) : (Jvm.Cond.code ({ cls := "java/lang/String", name := "<init>", desc := "([CIILjava/lang/Void;)V" } : Jvm.MethodName) jdk_42_method_149_code (6 : Nat) (Option.none : Option Jvm.ClassFile.FieldType)).before a0 Z = true := G.1 _ (List.mem_of_getElem? (i := 10) rfl)
theorem wd_11 {Z : State} {a0 : Array Value} (G : Glb Z a0) : (Jvm.Cond.methodLink "java/lang/String" (1 : Nat) ({ cls := "java/lang/Object", name := "<init>", desc := "()V" } : Jvm.MethodName)).before a0 Z = true := G.1 _ (List.mem_of_getElem? (i := 11) rfl)
theorem wd_12 {Z : State} {a0 : Array Value} (G : Glb Z a0) : (Jvm.Cond.instanceMethod ({ cls := "java/lang/Object", name := "<init>", desc := "()V" } : Jvm.MethodName)).before a0 Z = true := G.1 _ (List.mem_of_getElem? (i := 12) rfl)
theorem wd_13 {Z : State} {a0 : Array Value} (G : Glb Z a0) : (Jvm.Cond.code ({ cls := "java/lang/Object", name := "<init>", desc := "()V" } : Jvm.MethodName) object_method_1_code (1 : Nat) (Option.none : Option Jvm.ClassFile.FieldType)).before a0 Z = true := G.1 _ (List.mem_of_getElem? (i := 13) rfl)
theorem wd_14 {Z : State} {a0 : Array Value} (G : Glb Z a0) : (Jvm.Cond.fieldLink "java/lang/String" (38 : Nat) "java/lang/String" "COMPACT_STRINGS" "Z").before a0 Z = true := G.1 _ (List.mem_of_getElem? (i := 14) rfl)
theorem wd_15 {Z : State} {a0 : Array Value} (G : Glb Z a0) : (Jvm.Cond.methodLink "java/lang/String" (177 : Nat) ({ cls := "java/lang/StringUTF16", name := "compress", desc := "([CII)[B" } : Jvm.MethodName)).before a0 Z = true := G.1 _ (List.mem_of_getElem? (i := 15) rfl)
theorem wd_16 {Z : State} {a0 : Array Value} (G : Glb Z a0) : (Jvm.Cond.static ({ cls := "java/lang/StringUTF16", name := "compress", desc := "([CII)[B" } : Jvm.MethodName)).before a0 Z = true := G.1 _ (List.mem_of_getElem? (i := 16) rfl)
theorem wd_17 {Z : State} {a0 : Array Value} (G : Glb Z a0) : (Jvm.Cond.initialized "java/lang/StringUTF16").before a0 Z = true := G.1 _ (List.mem_of_getElem? (i := 17) rfl)
theorem wd_18 {Z : State} {a0 : Array Value} (G : Glb Z a0) : (Jvm.Cond.code ({ cls := "java/lang/StringUTF16", name := "compress", desc := "([CII)[B" } : Jvm.MethodName) jdk_52_method_16_code (6 : Nat) (Option.some (Jvm.ClassFile.FieldType.array Jvm.ClassFile.FieldType.byte))).before a0 Z = true := G.1 _ (List.mem_of_getElem? (i := 18) rfl)
theorem wd_19 {Z : State} {a0 : Array Value} (G : Glb Z a0) : (Jvm.Cond.arrayClass Jvm.ClassFile.FieldType.byte).before a0 Z = true := G.1 _ (List.mem_of_getElem? (i := 19) rfl)
theorem wd_20 {Z : State} {a0 : Array Value} (G : Glb Z a0) : (Jvm.Cond.methodLink "java/lang/StringUTF16" (115 : Nat) ({ cls := "java/lang/StringUTF16", name := "compress", desc := "([CI[BII)I" } : Jvm.MethodName)).before a0 Z = true := G.1 _ (List.mem_of_getElem? (i := 20) rfl)
theorem wd_21 {Z : State} {a0 : Array Value} (G : Glb Z a0) : (Jvm.Cond.static ({ cls := "java/lang/StringUTF16", name := "compress", desc := "([CI[BII)I" } : Jvm.MethodName)).before a0 Z = true := G.1 _ (List.mem_of_getElem? (i := 21) rfl)
theorem wd_22 {Z : State} {a0 : Array Value} (G : Glb Z a0) : (Jvm.Cond.code ({ cls := "java/lang/StringUTF16", name := "compress", desc := "([CI[BII)I" } : Jvm.MethodName) jdk_52_method_21_code (7 : Nat) (Option.some Jvm.ClassFile.FieldType.int)).before a0 Z = true := G.1 _ (List.mem_of_getElem? (i := 22) rfl)
theorem wd_23 {Z : State} {a0 : Array Value} (G : Glb Z a0) : (Jvm.Cond.methodLink "java/lang/String" (47 : Nat) ({ cls := "java/lang/StringUTF16", name := "coderFromArrayLen", desc := "([BI)B" } : Jvm.MethodName)).before a0 Z = true := G.1 _ (List.mem_of_getElem? (i := 23) rfl)
theorem wd_24 {Z : State} {a0 : Array Value} (G : Glb Z a0) : (Jvm.Cond.static ({ cls := "java/lang/StringUTF16", name := "coderFromArrayLen", desc := "([BI)B" } : Jvm.MethodName)).before a0 Z = true := G.1 _ (List.mem_of_getElem? (i := 24) rfl)
theorem wd_25 {Z : State} {a0 : Array Value} (G : Glb Z a0) : (Jvm.Cond.code ({ cls := "java/lang/StringUTF16", name := "coderFromArrayLen", desc := "([BI)B" } : Jvm.MethodName) jdk_52_method_15_code (2 : Nat) (Option.some Jvm.ClassFile.FieldType.byte)).before a0 Z = true := G.1 _ (List.mem_of_getElem? (i := 25) rfl)
theorem wd_26 {Z : State} {a0 : Array Value} (G : Glb Z a0) : (Jvm.Cond.fieldLink "java/lang/String" (15 : Nat) "java/lang/String" "coder" "B").before a0 Z = true := G.1 _ (List.mem_of_getElem? (i := 26) rfl)
theorem wd_27 {Z : State} {a0 : Array Value} (G : Glb Z a0) : (Jvm.Cond.laysFinal "java/lang/String" "java/lang/String" "coder" "B").before a0 Z = true := G.1 _ (List.mem_of_getElem? (i := 27) rfl)
theorem wd_28 {Z : State} {a0 : Array Value} (G : Glb Z a0) : (Jvm.Cond.fieldLink "java/lang/String" (9 : Nat) "java/lang/String" "value" "[B").before a0 Z = true := G.1 _ (List.mem_of_getElem? (i := 28) rfl)
theorem wd_29 {Z : State} {a0 : Array Value} (G : Glb Z a0) : (Jvm.Cond.laysFinal "java/lang/String" "java/lang/String" "value" "[B").before a0 Z = true := G.1 _ (List.mem_of_getElem? (i := 29) rfl)
theorem wd_30 {Z : State} {a0 : Array Value} (G : Glb Z a0) : (Jvm.Cond.constant "com/example/bell_counter/bellcounter/redis/RedisUrlToStringPinLaw" (12 : Nat) (2147483647 : Int32)).before a0 Z = true := G.1 _ (List.mem_of_getElem? (i := 30) rfl)
theorem wd_31 {Z : State} {a0 : Array Value} (G : Glb Z a0) : (Jvm.Cond.constant "com/example/bell_counter/bellcounter/redis/RedisUrlToStringPinLaw" (13 : Nat) (65535 : Int32)).before a0 Z = true := G.1 _ (List.mem_of_getElem? (i := 31) rfl)
theorem wd_32 {Z : State} {a0 : Array Value} (G : Glb Z a0) : (Jvm.Cond.methodLink "com/example/bell_counter/bellcounter/redis/RedisUrlToStringPinLaw" (14 : Nat) ({ cls := "com/example/bell_counter/bellcounter/redis/RedisUrlToStringPinLaw", name := "numLen", desc := "(I)I" } : Jvm.MethodName)).before a0 Z = true := G.1 _ (List.mem_of_getElem? (i := 32) rfl)
theorem wd_33 {Z : State} {a0 : Array Value} (G : Glb Z a0) : (Jvm.Cond.static ({ cls := "com/example/bell_counter/bellcounter/redis/RedisUrlToStringPinLaw", name := "numLen", desc := "(I)I" } : Jvm.MethodName)).before a0 Z = true := G.1 _ (List.mem_of_getElem? (i := 33) rfl)
theorem wd_34 {Z : State} {a0 : Array Value} (G : Glb Z a0) : (Jvm.Cond.initialized "com/example/bell_counter/bellcounter/redis/RedisUrlToStringPinLaw").before a0 Z = true := G.1 _ (List.mem_of_getElem? (i := 34) rfl)
theorem wd_35 {Z : State} {a0 : Array Value} (G : Glb Z a0) : (Jvm.Cond.code ({ cls := "com/example/bell_counter/bellcounter/redis/RedisUrlToStringPinLaw", name := "numLen", desc := "(I)I" } : Jvm.MethodName) method_3_code (1 : Nat) (Option.some Jvm.ClassFile.FieldType.int)).before a0 Z = true := G.1 _ (List.mem_of_getElem? (i := 35) rfl)
theorem wd_36 {Z : State} {a0 : Array Value} (G : Glb Z a0) : (Jvm.Cond.classLink "com/example/bell_counter/bellcounter/redis/RedisUrlToStringPinLaw" (20 : Nat) "com/example/bell_counter/bellcounter/redis/RedisUrl").before a0 Z = true := G.1 _ (List.mem_of_getElem? (i := 36) rfl)
theorem wd_37 {Z : State} {a0 : Array Value} (G : Glb Z a0) : (Jvm.Cond.instantiable "com/example/bell_counter/bellcounter/redis/RedisUrl" (3 : Nat)).before a0 Z = true := G.1 _ (List.mem_of_getElem? (i := 37) rfl)
theorem wd_38 {Z : State} {a0 : Array Value} (G : Glb Z a0) : (Jvm.Cond.initialized "com/example/bell_counter/bellcounter/redis/RedisUrl").before a0 Z = true := G.1 _ (List.mem_of_getElem? (i := 38) rfl)
theorem wd_39 {Z : State} {a0 : Array Value} (G : Glb Z a0) : (Jvm.Cond.methodLink "com/example/bell_counter/bellcounter/redis/RedisUrlToStringPinLaw" (22 : Nat) ({ cls := "com/example/bell_counter/bellcounter/redis/RedisUrl", name := "<init>", desc := "(Ljava/lang/String;II)V" } : Jvm.MethodName)).before a0 Z = true := G.1 _ (List.mem_of_getElem? (i := 39) rfl)
theorem wd_40 {Z : State} {a0 : Array Value} (G : Glb Z a0) : (Jvm.Cond.instanceMethod ({ cls := "com/example/bell_counter/bellcounter/redis/RedisUrl", name := "<init>", desc := "(Ljava/lang/String;II)V" } : Jvm.MethodName)).before a0 Z = true := G.1 _ (List.mem_of_getElem? (i := 40) rfl)
theorem wd_41 {Z : State} {a0 : Array Value} (G : Glb Z a0) : (Jvm.Cond.code ({ cls := "com/example/bell_counter/bellcounter/redis/RedisUrl", name := "<init>", desc := "(Ljava/lang/String;II)V" } : Jvm.MethodName) prog_17_method_1_code (4 : Nat) (Option.none : Option Jvm.ClassFile.FieldType)).before a0 Z = true := G.1 _ (List.mem_of_getElem? (i := 41) rfl)
theorem wd_42 {Z : State} {a0 : Array Value} (G : Glb Z a0) : (Jvm.Cond.methodLink "com/example/bell_counter/bellcounter/redis/RedisUrl" (1 : Nat) ({ cls := "java/lang/Record", name := "<init>", desc := "()V" } : Jvm.MethodName)).before a0 Z = true := G.1 _ (List.mem_of_getElem? (i := 42) rfl)
theorem wd_43 {Z : State} {a0 : Array Value} (G : Glb Z a0) : (Jvm.Cond.instanceMethod ({ cls := "java/lang/Record", name := "<init>", desc := "()V" } : Jvm.MethodName)).before a0 Z = true := G.1 _ (List.mem_of_getElem? (i := 43) rfl)
theorem wd_45 {Z : State} {a0 : Array Value} (G : Glb Z a0) : (Jvm.Cond.initialized "java/lang/Record").before a0 Z = true := G.1 _ (List.mem_of_getElem? (i := 45) rfl)
theorem wd_46 {Z : State} {a0 : Array Value} (G : Glb Z a0) : (Jvm.Cond.code ({ cls := "java/lang/Record", name := "<init>", desc := "()V" } : Jvm.MethodName) jdk_30_method_1_code (1 : Nat) (Option.none : Option Jvm.ClassFile.FieldType)).before a0 Z = true := G.1 _ (List.mem_of_getElem? (i := 46) rfl)
theorem wd_47 {Z : State} {a0 : Array Value} (G : Glb Z a0) : (Jvm.Cond.methodLink "java/lang/Record" (1 : Nat) ({ cls := "java/lang/Object", name := "<init>", desc := "()V" } : Jvm.MethodName)).before a0 Z = true := G.1 _ (List.mem_of_getElem? (i := 47) rfl)
theorem wd_48 {Z : State} {a0 : Array Value} (G : Glb Z a0) : (Jvm.Cond.methodLink "com/example/bell_counter/bellcounter/redis/RedisUrl" (7 : Nat) ({ cls := "java/lang/String", name := "isEmpty", desc := "()Z" } : Jvm.MethodName)).before a0 Z = true := G.1 _ (List.mem_of_getElem? (i := 48) rfl)
theorem wd_49 {Z : State} {a0 : Array Value} (G : Glb Z a0) : (Jvm.Cond.declares ({ cls := "java/lang/String", name := "isEmpty", desc := "()Z" } : Jvm.MethodName)).before a0 Z = true := G.1 _ (List.mem_of_getElem? (i := 49) rfl)
theorem wd_50 {Z : State} {a0 : Array Value} (G : Glb Z a0) : (Jvm.Cond.instanceMethod ({ cls := "java/lang/String", name := "isEmpty", desc := "()Z" } : Jvm.MethodName)).before a0 Z = true := G.1 _ (List.mem_of_getElem? (i := 50) rfl)
theorem wd_51 {Z : State} {a0 : Array Value} (G : Glb Z a0) : (Jvm.Cond.selects "java/lang/String" ({ cls := "java/lang/String", name := "isEmpty", desc := "()Z" } : Jvm.MethodName) ({ cls := "java/lang/String", name := "isEmpty", desc := "()Z" } : Jvm.MethodName)).before a0 Z = true := G.1 _ (List.mem_of_getElem? (i := 51) rfl)
theorem wd_52 {Z : State} {a0 : Array Value} (G : Glb Z a0) : (Jvm.Cond.code ({ cls := "java/lang/String", name := "isEmpty", desc := "()Z" } : Jvm.MethodName) jdk_42_method_55_code (1 : Nat) (Option.some Jvm.ClassFile.FieldType.boolean)).before a0 Z = true := G.1 _ (List.mem_of_getElem? (i := 52) rfl)
theorem wd_53 {Z : State} {a0 : Array Value} (G : Glb Z a0) : (Jvm.Cond.constant "com/example/bell_counter/bellcounter/redis/RedisUrl" (22 : Nat) (65535 : Int32)).before a0 Z = true := G.1 _ (List.mem_of_getElem? (i := 53) rfl)
theorem wd_54 {Z : State} {a0 : Array Value} (G : Glb Z a0) : (Jvm.Cond.fieldLink "com/example/bell_counter/bellcounter/redis/RedisUrl" (41 : Nat) "com/example/bell_counter/bellcounter/redis/RedisUrl" "host" "Ljava/lang/String;").before a0 Z = true := G.1 _ (List.mem_of_getElem? (i := 54) rfl)
theorem wd_55 {Z : State} {a0 : Array Value} (G : Glb Z a0) : (Jvm.Cond.laysFinal "com/example/bell_counter/bellcounter/redis/RedisUrl" "com/example/bell_counter/bellcounter/redis/RedisUrl" "host" "Ljava/lang/String;").before a0 Z = true := G.1 _ (List.mem_of_getElem? (i := 55) rfl)
theorem wd_56 {Z : State} {a0 : Array Value} (G : Glb Z a0) : (Jvm.Cond.fieldLink "com/example/bell_counter/bellcounter/redis/RedisUrl" (45 : Nat) "com/example/bell_counter/bellcounter/redis/RedisUrl" "port" "I").before a0 Z = true := G.1 _ (List.mem_of_getElem? (i := 56) rfl)
theorem wd_57 {Z : State} {a0 : Array Value} (G : Glb Z a0) : (Jvm.Cond.laysFinal "com/example/bell_counter/bellcounter/redis/RedisUrl" "com/example/bell_counter/bellcounter/redis/RedisUrl" "port" "I").before a0 Z = true := G.1 _ (List.mem_of_getElem? (i := 57) rfl)
theorem wd_58 {Z : State} {a0 : Array Value} (G : Glb Z a0) : (Jvm.Cond.fieldLink "com/example/bell_counter/bellcounter/redis/RedisUrl" (49 : Nat) "com/example/bell_counter/bellcounter/redis/RedisUrl" "database" "I").before a0 Z = true := G.1 _ (List.mem_of_getElem? (i := 58) rfl)
theorem wd_59 {Z : State} {a0 : Array Value} (G : Glb Z a0) : (Jvm.Cond.laysFinal "com/example/bell_counter/bellcounter/redis/RedisUrl" "com/example/bell_counter/bellcounter/redis/RedisUrl" "database" "I").before a0 Z = true := G.1 _ (List.mem_of_getElem? (i := 59) rfl)
theorem wd_60 {Z : State} {a0 : Array Value} (G : Glb Z a0) : (Jvm.Cond.methodLink "com/example/bell_counter/bellcounter/redis/RedisUrlToStringPinLaw" (25 : Nat) ({ cls := "com/example/bell_counter/bellcounter/redis/RedisUrl", name := "toString", desc := "()Ljava/lang/String;" } : Jvm.MethodName)).before a0 Z = true := G.1 _ (List.mem_of_getElem? (i := 60) rfl)
theorem wd_61 {Z : State} {a0 : Array Value} (G : Glb Z a0) : (Jvm.Cond.declares ({ cls := "com/example/bell_counter/bellcounter/redis/RedisUrl", name := "toString", desc := "()Ljava/lang/String;" } : Jvm.MethodName)).before a0 Z = true := G.1 _ (List.mem_of_getElem? (i := 61) rfl)
theorem wd_62 {Z : State} {a0 : Array Value} (G : Glb Z a0) : (Jvm.Cond.instanceMethod ({ cls := "com/example/bell_counter/bellcounter/redis/RedisUrl", name := "toString", desc := "()Ljava/lang/String;" } : Jvm.MethodName)).before a0 Z = true := G.1 _ (List.mem_of_getElem? (i := 62) rfl)
theorem wd_63 {Z : State} {a0 : Array Value} (G : Glb Z a0) : (Jvm.Cond.selects "com/example/bell_counter/bellcounter/redis/RedisUrl" ({ cls := "com/example/bell_counter/bellcounter/redis/RedisUrl", name := "toString", desc := "()Ljava/lang/String;" } : Jvm.MethodName) ({ cls := "com/example/bell_counter/bellcounter/redis/RedisUrl", name := "toString", desc := "()Ljava/lang/String;" } : Jvm.MethodName)).before a0 Z = true := G.1 _ (List.mem_of_getElem? (i := 63) rfl)
theorem wd_64 {Z : State} {a0 : Array Value} (G : Glb Z a0) : (Jvm.Cond.code ({ cls := "com/example/bell_counter/bellcounter/redis/RedisUrl", name := "toString", desc := "()Ljava/lang/String;" } : Jvm.MethodName) prog_17_method_3_code (2 : Nat) (Option.some (Jvm.ClassFile.FieldType.object "java/lang/String"))).before a0 Z = true := G.1 _ (List.mem_of_getElem? (i := 64) rfl)
set_option maxRecDepth 65536 in
theorem wd_65 {Z : State} {a0 : Array Value} (G : Glb Z a0) : (Jvm.Cond.stringLink "com/example/bell_counter/bellcounter/redis/RedisUrl" (145 : Nat) (txtAt 65)).before a0 Z = true := G.1 _ (List.mem_of_getElem? (i := 65) rfl)
theorem wd_68 {Z : State} {a0 : Array Value} (G : Glb Z a0) : (Jvm.Cond.methodLink "com/example/bell_counter/bellcounter/redis/RedisUrl" (79 : Nat) ({ cls := "java/lang/String", name := "contains", desc := "(Ljava/lang/CharSequence;)Z" } : Jvm.MethodName)).before a0 Z = true := G.1 _ (List.mem_of_getElem? (i := 68) rfl)
theorem wd_69 {Z : State} {a0 : Array Value} (G : Glb Z a0) : (Jvm.Cond.declares ({ cls := "java/lang/String", name := "contains", desc := "(Ljava/lang/CharSequence;)Z" } : Jvm.MethodName)).before a0 Z = true := G.1 _ (List.mem_of_getElem? (i := 69) rfl)
theorem wd_70 {Z : State} {a0 : Array Value} (G : Glb Z a0) : (Jvm.Cond.instanceMethod ({ cls := "java/lang/String", name := "contains", desc := "(Ljava/lang/CharSequence;)Z" } : Jvm.MethodName)).before a0 Z = true := G.1 _ (List.mem_of_getElem? (i := 70) rfl)
theorem wd_71 {Z : State} {a0 : Array Value} (G : Glb Z a0) : (Jvm.Cond.selects "java/lang/String" ({ cls := "java/lang/String", name := "contains", desc := "(Ljava/lang/CharSequence;)Z" } : Jvm.MethodName) ({ cls := "java/lang/String", name := "contains", desc := "(Ljava/lang/CharSequence;)Z" } : Jvm.MethodName)).before a0 Z = true := G.1 _ (List.mem_of_getElem? (i := 71) rfl)
theorem wd_72 {Z : State} {a0 : Array Value} (G : Glb Z a0) : (Jvm.Cond.code ({ cls := "java/lang/String", name := "contains", desc := "(Ljava/lang/CharSequence;)Z" } : Jvm.MethodName) jdk_42_method_97_code (2 : Nat) (Option.some Jvm.ClassFile.FieldType.boolean)).before a0 Z = true := G.1 _ (List.mem_of_getElem? (i := 72) rfl)
theorem wd_73 {Z : State} {a0 : Array Value} (G : Glb Z a0) : (Jvm.Cond.methodLink "java/lang/String" (710 : Nat) ({ cls := "java/lang/CharSequence", name := "toString", desc := "()Ljava/lang/String;" } : Jvm.MethodName)).before a0 Z = true := G.1 _ (List.mem_of_getElem? (i := 73) rfl)
theorem wd_74 {Z : State} {a0 : Array Value} (G : Glb Z a0) : (Jvm.Cond.declares ({ cls := "java/lang/CharSequence", name := "toString", desc := "()Ljava/lang/String;" } : Jvm.MethodName)).before a0 Z = true := G.1 _ (List.mem_of_getElem? (i := 74) rfl)
theorem wd_75 {Z : State} {a0 : Array Value} (G : Glb Z a0) : (Jvm.Cond.interfaceMethod "java/lang/CharSequence" "java/lang/CharSequence" "toString" "()Ljava/lang/String;").before a0 Z = true := G.1 _ (List.mem_of_getElem? (i := 75) rfl)
theorem wd_76 {Z : State} {a0 : Array Value} (G : Glb Z a0) : (Jvm.Cond.selects "java/lang/String" ({ cls := "java/lang/CharSequence", name := "toString", desc := "()Ljava/lang/String;" } : Jvm.MethodName) ({ cls := "java/lang/String", name := "toString", desc := "()Ljava/lang/String;" } : Jvm.MethodName)).before a0 Z = true := G.1 _ (List.mem_of_getElem? (i := 76) rfl)
theorem wd_77 {Z : State} {a0 : Array Value} (G : Glb Z a0) : (Jvm.Cond.instanceMethod ({ cls := "java/lang/String", name := "toString", desc := "()Ljava/lang/String;" } : Jvm.MethodName)).before a0 Z = true := G.1 _ (List.mem_of_getElem? (i := 77) rfl)
theorem wd_78 {Z : State} {a0 : Array Value} (G : Glb Z a0) : (Jvm.Cond.publicMethod ({ cls := "java/lang/String", name := "toString", desc := "()Ljava/lang/String;" } : Jvm.MethodName)).before a0 Z = true := G.1 _ (List.mem_of_getElem? (i := 78) rfl)
theorem wd_79 {Z : State} {a0 : Array Value} (G : Glb Z a0) : (Jvm.Cond.unhidden "java/lang/String" "toString" "()Ljava/lang/String;").before a0 Z = true := G.1 _ (List.mem_of_getElem? (i := 79) rfl)
theorem wd_80 {Z : State} {a0 : Array Value} (G : Glb Z a0) : (Jvm.Cond.castable "java/lang/String" "java/lang/CharSequence").before a0 Z = true := G.1 _ (List.mem_of_getElem? (i := 80) rfl)
theorem wd_81 {Z : State} {a0 : Array Value} (G : Glb Z a0) : (Jvm.Cond.code ({ cls := "java/lang/String", name := "toString", desc := "()Ljava/lang/String;" } : Jvm.MethodName) jdk_42_method_126_code (1 : Nat) (Option.some (Jvm.ClassFile.FieldType.object "java/lang/String"))).before a0 Z = true := G.1 _ (List.mem_of_getElem? (i := 81) rfl)
theorem wd_82 {Z : State} {a0 : Array Value} (G : Glb Z a0) : (Jvm.Cond.methodLink "java/lang/String" (711 : Nat) ({ cls := "java/lang/String", name := "indexOf", desc := "(Ljava/lang/String;)I" } : Jvm.MethodName)).before a0 Z = true := G.1 _ (List.mem_of_getElem? (i := 82) rfl)
theorem wd_83 {Z : State} {a0 : Array Value} (G : Glb Z a0) : (Jvm.Cond.declares ({ cls := "java/lang/String", name := "indexOf", desc := "(Ljava/lang/String;)I" } : Jvm.MethodName)).before a0 Z = true := G.1 _ (List.mem_of_getElem? (i := 83) rfl)
theorem wd_84 {Z : State} {a0 : Array Value} (G : Glb Z a0) : (Jvm.Cond.instanceMethod ({ cls := "java/lang/String", name := "indexOf", desc := "(Ljava/lang/String;)I" } : Jvm.MethodName)).before a0 Z = true := G.1 _ (List.mem_of_getElem? (i := 84) rfl)
theorem wd_85 {Z : State} {a0 : Array Value} (G : Glb Z a0) : (Jvm.Cond.selects "java/lang/String" ({ cls := "java/lang/String", name := "indexOf", desc := "(Ljava/lang/String;)I" } : Jvm.MethodName) ({ cls := "java/lang/String", name := "indexOf", desc := "(Ljava/lang/String;)I" } : Jvm.MethodName)).before a0 Z = true := G.1 _ (List.mem_of_getElem? (i := 85) rfl)
theorem wd_86 {Z : State} {a0 : Array Value} (G : Glb Z a0) : (Jvm.Cond.code ({ cls := "java/lang/String", name := "indexOf", desc := "(Ljava/lang/String;)I" } : Jvm.MethodName) jdk_42_method_84_code (3 : Nat) (Option.some Jvm.ClassFile.FieldType.int)).before a0 Z = true := G.1 _ (List.mem_of_getElem? (i := 86) rfl)
theorem wd_87 {Z : State} {a0 : Array Value} (G : Glb Z a0) : (Jvm.Cond.methodLink "java/lang/String" (335 : Nat) ({ cls := "java/lang/String", name := "coder", desc := "()B" } : Jvm.MethodName)).before a0 Z = true := G.1 _ (List.mem_of_getElem? (i := 87) rfl)
theorem wd_88 {Z : State} {a0 : Array Value} (G : Glb Z a0) : (Jvm.Cond.declares ({ cls := "java/lang/String", name := "coder", desc := "()B" } : Jvm.MethodName)).before a0 Z = true := G.1 _ (List.mem_of_getElem? (i := 88) rfl)
theorem wd_89 {Z : State} {a0 : Array Value} (G : Glb Z a0) : (Jvm.Cond.instanceMethod ({ cls := "java/lang/String", name := "coder", desc := "()B" } : Jvm.MethodName)).before a0 Z = true := G.1 _ (List.mem_of_getElem? (i := 89) rfl)
theorem wd_90 {Z : State} {a0 : Array Value} (G : Glb Z a0) : (Jvm.Cond.selects "java/lang/String" ({ cls := "java/lang/String", name := "coder", desc := "()B" } : Jvm.MethodName) ({ cls := "java/lang/String", name := "coder", desc := "()B" } : Jvm.MethodName)).before a0 Z = true := G.1 _ (List.mem_of_getElem? (i := 90) rfl)
theorem wd_91 {Z : State} {a0 : Array Value} (G : Glb Z a0) : (Jvm.Cond.code ({ cls := "java/lang/String", name := "coder", desc := "()B" } : Jvm.MethodName) jdk_42_method_152_code (1 : Nat) (Option.some Jvm.ClassFile.FieldType.byte)).before a0 Z = true := G.1 _ (List.mem_of_getElem? (i := 91) rfl)
theorem wd_92 {Z : State} {a0 : Array Value} (G : Glb Z a0) : (Jvm.Cond.methodLink "java/lang/String" (492 : Nat) ({ cls := "java/lang/String", name := "isLatin1", desc := "()Z" } : Jvm.MethodName)).before a0 Z = true := G.1 _ (List.mem_of_getElem? (i := 92) rfl)
theorem wd_93 {Z : State} {a0 : Array Value} (G : Glb Z a0) : (Jvm.Cond.declares ({ cls := "java/lang/String", name := "isLatin1", desc := "()Z" } : Jvm.MethodName)).before a0 Z = true := G.1 _ (List.mem_of_getElem? (i := 93) rfl)
theorem wd_94 {Z : State} {a0 : Array Value} (G : Glb Z a0) : (Jvm.Cond.instanceMethod ({ cls := "java/lang/String", name := "isLatin1", desc := "()Z" } : Jvm.MethodName)).before a0 Z = true := G.1 _ (List.mem_of_getElem? (i := 94) rfl)
theorem wd_95 {Z : State} {a0 : Array Value} (G : Glb Z a0) : (Jvm.Cond.selects "java/lang/String" ({ cls := "java/lang/String", name := "isLatin1", desc := "()Z" } : Jvm.MethodName) ({ cls := "java/lang/String", name := "isLatin1", desc := "()Z" } : Jvm.MethodName)).before a0 Z = true := G.1 _ (List.mem_of_getElem? (i := 95) rfl)
theorem wd_96 {Z : State} {a0 : Array Value} (G : Glb Z a0) : (Jvm.Cond.code ({ cls := "java/lang/String", name := "isLatin1", desc := "()Z" } : Jvm.MethodName) jdk_42_method_154_code (1 : Nat) (Option.some Jvm.ClassFile.FieldType.boolean)).before a0 Z = true := G.1 _ (List.mem_of_getElem? (i := 96) rfl)
theorem wd_97 {Z : State} {a0 : Array Value} (G : Glb Z a0) : (Jvm.Cond.methodLink "java/lang/String" (647 : Nat) ({ cls := "java/lang/StringLatin1", name := "indexOf", desc := "([B[B)I" } : Jvm.MethodName)).before a0 Z = true := G.1 _ (List.mem_of_getElem? (i := 97) rfl)
theorem wd_98 {Z : State} {a0 : Array Value} (G : Glb Z a0) : (Jvm.Cond.static ({ cls := "java/lang/StringLatin1", name := "indexOf", desc := "([B[B)I" } : Jvm.MethodName)).before a0 Z = true := G.1 _ (List.mem_of_getElem? (i := 98) rfl)
theorem wd_99 {Z : State} {a0 : Array Value} (G : Glb Z a0) : (Jvm.Cond.initialized "java/lang/StringLatin1").before a0 Z = true := G.1 _ (List.mem_of_getElem? (i := 99) rfl)
theorem wd_100 {Z : State} {a0 : Array Value} (G : Glb Z a0) : (Jvm.Cond.code ({ cls := "java/lang/StringLatin1", name := "indexOf", desc := "([B[B)I" } : Jvm.MethodName) jdk_43_method_24_code (2 : Nat) (Option.some Jvm.ClassFile.FieldType.int)).before a0 Z = true := G.1 _ (List.mem_of_getElem? (i := 100) rfl)
theorem wd_101 {Z : State} {a0 : Array Value} (G : Glb Z a0) : (Jvm.Cond.methodLink "java/lang/StringLatin1" (99 : Nat) ({ cls := "java/lang/StringLatin1", name := "indexOf", desc := "([BI[BII)I" } : Jvm.MethodName)).before a0 Z = true := G.1 _ (List.mem_of_getElem? (i := 101) rfl)
theorem wd_102 {Z : State} {a0 : Array Value} (G : Glb Z a0) : (Jvm.Cond.static ({ cls := "java/lang/StringLatin1", name := "indexOf", desc := "([BI[BII)I" } : Jvm.MethodName)).before a0 Z = true := G.1 _ (List.mem_of_getElem? (i := 102) rfl)
theorem wd_103 {Z : State} {a0 : Array Value} (G : Glb Z a0) : (Jvm.Cond.code ({ cls := "java/lang/StringLatin1", name := "indexOf", desc := "([BI[BII)I" } : Jvm.MethodName) jdk_43_method_25_code (11 : Nat) (Option.some Jvm.ClassFile.FieldType.int)).before a0 Z = true := G.1 _ (List.mem_of_getElem? (i := 103) rfl)
theorem wd_104 {Z : State} {a0 : Array Value} (G : Glb Z a0) : (Jvm.Cond.classLink "com/example/bell_counter/bellcounter/redis/RedisUrl" (23 : Nat) "java/lang/StringBuilder").before a0 Z = true := G.1 _ (List.mem_of_getElem? (i := 104) rfl)
theorem wd_105 {Z : State} {a0 : Array Value} (G : Glb Z a0) : (Jvm.Cond.instantiable "java/lang/StringBuilder" (4 : Nat)).before a0 Z = true := G.1 _ (List.mem_of_getElem? (i := 105) rfl)
theorem wd_106 {Z : State} {a0 : Array Value} (G : Glb Z a0) : (Jvm.Cond.initialized "java/lang/StringBuilder").before a0 Z = true := G.1 _ (List.mem_of_getElem? (i := 106) rfl)
theorem wd_107 {Z : State} {a0 : Array Value} (G : Glb Z a0) : (Jvm.Cond.methodLink "com/example/bell_counter/bellcounter/redis/RedisUrl" (25 : Nat) ({ cls := "java/lang/StringBuilder", name := "<init>", desc := "()V" } : Jvm.MethodName)).before a0 Z = true := G.1 _ (List.mem_of_getElem? (i := 107) rfl)
theorem wd_108 {Z : State} {a0 : Array Value} (G : Glb Z a0) : (Jvm.Cond.instanceMethod ({ cls := "java/lang/StringBuilder", name := "<init>", desc := "()V" } : Jvm.MethodName)).before a0 Z = true := G.1 _ (List.mem_of_getElem? (i := 108) rfl)
theorem wd_109 {Z : State} {a0 : Array Value} (G : Glb Z a0) : (Jvm.Cond.code ({ cls := "java/lang/StringBuilder", name := "<init>", desc := "()V" } : Jvm.MethodName) jdk_67_method_1_code (1 : Nat) (Option.none : Option Jvm.ClassFile.FieldType)).before a0 Z = true := G.1 _ (List.mem_of_getElem? (i := 109) rfl)
theorem wd_110 {Z : State} {a0 : Array Value} (G : Glb Z a0) : (Jvm.Cond.methodLink "java/lang/StringBuilder" (1 : Nat) ({ cls := "java/lang/AbstractStringBuilder", name := "<init>", desc := "(I)V" } : Jvm.MethodName)).before a0 Z = true := G.1 _ (List.mem_of_getElem? (i := 110) rfl)
theorem wd_111 {Z : State} {a0 : Array Value} (G : Glb Z a0) : (Jvm.Cond.instanceMethod ({ cls := "java/lang/AbstractStringBuilder", name := "<init>", desc := "(I)V" } : Jvm.MethodName)).before a0 Z = true := G.1 _ (List.mem_of_getElem? (i := 111) rfl)
theorem wd_114 {Z : State} {a0 : Array Value} (G : Glb Z a0) : (Jvm.Cond.initialized "java/lang/AbstractStringBuilder").before a0 Z = true := G.1 _ (List.mem_of_getElem? (i := 114) rfl)
theorem wd_115 {Z : State} {a0 : Array Value} (G : Glb Z a0) : (Jvm.Cond.code ({ cls := "java/lang/AbstractStringBuilder", name := "<init>", desc := "(I)V" } : Jvm.MethodName) jdk_68_method_2_code (2 : Nat) (Option.none : Option Jvm.ClassFile.FieldType)).before a0 Z = true := G.1 _ (List.mem_of_getElem? (i := 115) rfl)
theorem wd_116 {Z : State} {a0 : Array Value} (G : Glb Z a0) : (Jvm.Cond.methodLink "java/lang/AbstractStringBuilder" (3 : Nat) ({ cls := "java/lang/Object", name := "<init>", desc := "()V" } : Jvm.MethodName)).before a0 Z = true := G.1 _ (List.mem_of_getElem? (i := 116) rfl)
theorem wd_117 {Z : State} {a0 : Array Value} (G : Glb Z a0) : (Jvm.Cond.fieldLink "java/lang/AbstractStringBuilder" (18 : Nat) "java/lang/String" "COMPACT_STRINGS" "Z").before a0 Z = true := G.1 _ (List.mem_of_getElem? (i := 117) rfl)
theorem wd_118 {Z : State} {a0 : Array Value} (G : Glb Z a0) : (Jvm.Cond.fieldLink "java/lang/AbstractStringBuilder" (15 : Nat) "java/lang/AbstractStringBuilder" "value" "[B").before a0 Z = true := G.1 _ (List.mem_of_getElem? (i := 118) rfl)
theorem wd_119 {Z : State} {a0 : Array Value} (G : Glb Z a0) : (Jvm.Cond.lays "java/lang/StringBuilder" "java/lang/AbstractStringBuilder" "value" "[B").before a0 Z = true := G.1 _ (List.mem_of_getElem? (i := 119) rfl)
theorem wd_120 {Z : State} {a0 : Array Value} (G : Glb Z a0) : (Jvm.Cond.fieldLink "java/lang/AbstractStringBuilder" (22 : Nat) "java/lang/AbstractStringBuilder" "coder" "B").before a0 Z = true := G.1 _ (List.mem_of_getElem? (i := 120) rfl)
theorem wd_121 {Z : State} {a0 : Array Value} (G : Glb Z a0) : (Jvm.Cond.lays "java/lang/StringBuilder" "java/lang/AbstractStringBuilder" "coder" "B").before a0 Z = true := G.1 _ (List.mem_of_getElem? (i := 121) rfl)
set_option maxRecDepth 65536 in
theorem wd_122 {Z : State} {a0 : Array Value} (G : Glb Z a0) : (Jvm.Cond.stringLink "com/example/bell_counter/bellcounter/redis/RedisUrl" (147 : Nat) (txtAt 122)).before a0 Z = true := G.1 _ (List.mem_of_getElem? (i := 122) rfl)
theorem wd_123 {Z : State} {a0 : Array Value} (G : Glb Z a0) : (Jvm.Cond.methodLink "com/example/bell_counter/bellcounter/redis/RedisUrl" (28 : Nat) ({ cls := "java/lang/StringBuilder", name := "append", desc := "(Ljava/lang/String;)Ljava/lang/StringBuilder;" } : Jvm.MethodName)).before a0 Z = true := G.1 _ (List.mem_of_getElem? (i := 123) rfl)
theorem wd_124 {Z : State} {a0 : Array Value} (G : Glb Z a0) : (Jvm.Cond.declares ({ cls := "java/lang/StringBuilder", name := "append", desc := "(Ljava/lang/String;)Ljava/lang/StringBuilder;" } : Jvm.MethodName)).before a0 Z = true := G.1 _ (List.mem_of_getElem? (i := 124) rfl)
theorem wd_125 {Z : State} {a0 : Array Value} (G : Glb Z a0) : (Jvm.Cond.instanceMethod ({ cls := "java/lang/StringBuilder", name := "append", desc := "(Ljava/lang/String;)Ljava/lang/StringBuilder;" } : Jvm.MethodName)).before a0 Z = true := G.1 _ (List.mem_of_getElem? (i := 125) rfl)
theorem wd_126 {Z : State} {a0 : Array Value} (G : Glb Z a0) : (Jvm.Cond.selects "java/lang/StringBuilder" ({ cls := "java/lang/StringBuilder", name := "append", desc := "(Ljava/lang/String;)Ljava/lang/StringBuilder;" } : Jvm.MethodName) ({ cls := "java/lang/StringBuilder", name := "append", desc := "(Ljava/lang/String;)Ljava/lang/StringBuilder;" } : Jvm.MethodName)).before a0 Z = true := G.1 _ (List.mem_of_getElem? (i := 126) rfl)
theorem wd_127 {Z : State} {a0 : Array Value} (G : Glb Z a0) : (Jvm.Cond.code ({ cls := "java/lang/StringBuilder", name := "append", desc := "(Ljava/lang/String;)Ljava/lang/StringBuilder;" } : Jvm.MethodName) jdk_67_method_7_code (2 : Nat) (Option.some (Jvm.ClassFile.FieldType.object "java/lang/StringBuilder"))).before a0 Z = true := G.1 _ (List.mem_of_getElem? (i := 127) rfl)
theorem wd_128 {Z : State} {a0 : Array Value} (G : Glb Z a0) : (Jvm.Cond.methodLink "java/lang/StringBuilder" (29 : Nat) ({ cls := "java/lang/AbstractStringBuilder", name := "append", desc := "(Ljava/lang/String;)Ljava/lang/AbstractStringBuilder;" } : Jvm.MethodName)).before a0 Z = true := G.1 _ (List.mem_of_getElem? (i := 128) rfl)
theorem wd_129 {Z : State} {a0 : Array Value} (G : Glb Z a0) : (Jvm.Cond.instanceMethod ({ cls := "java/lang/AbstractStringBuilder", name := "append", desc := "(Ljava/lang/String;)Ljava/lang/AbstractStringBuilder;" } : Jvm.MethodName)).before a0 Z = true := G.1 _ (List.mem_of_getElem? (i := 129) rfl)
theorem wd_130 {Z : State} {a0 : Array Value} (G : Glb Z a0) : (Jvm.Cond.superclass "java/lang/StringBuilder" "java/lang/AbstractStringBuilder").before a0 Z = true := G.1 _ (List.mem_of_getElem? (i := 130) rfl)
theorem wd_131 {Z : State} {a0 : Array Value} (G : Glb Z a0) : (Jvm.Cond.declares ({ cls := "java/lang/AbstractStringBuilder", name := "append", desc := "(Ljava/lang/String;)Ljava/lang/AbstractStringBuilder;" } : Jvm.MethodName)).before a0 Z = true := G.1 _ (List.mem_of_getElem? (i := 131) rfl)
theorem wd_132 {Z : State} {a0 : Array Value} (G : Glb Z a0) : (Jvm.Cond.code ({ cls := "java/lang/AbstractStringBuilder", name := "append", desc := "(Ljava/lang/String;)Ljava/lang/AbstractStringBuilder;" } : Jvm.MethodName) jdk_68_method_22_code (3 : Nat) (Option.some (Jvm.ClassFile.FieldType.object "java/lang/AbstractStringBuilder"))).before a0 Z = true := G.1 _ (List.mem_of_getElem? (i := 132) rfl)
theorem wd_133 {Z : State} {a0 : Array Value} (G : Glb Z a0) : (Jvm.Cond.methodLink "java/lang/AbstractStringBuilder" (32 : Nat) ({ cls := "java/lang/String", name := "length", desc := "()I" } : Jvm.MethodName)).before a0 Z = true := G.1 _ (List.mem_of_getElem? (i := 133) rfl)
theorem wd_134 {Z : State} {a0 : Array Value} (G : Glb Z a0) : (Jvm.Cond.declares ({ cls := "java/lang/String", name := "length", desc := "()I" } : Jvm.MethodName)).before a0 Z = true := G.1 _ (List.mem_of_getElem? (i := 134) rfl)
theorem wd_135 {Z : State} {a0 : Array Value} (G : Glb Z a0) : (Jvm.Cond.instanceMethod ({ cls := "java/lang/String", name := "length", desc := "()I" } : Jvm.MethodName)).before a0 Z = true := G.1 _ (List.mem_of_getElem? (i := 135) rfl)
theorem wd_136 {Z : State} {a0 : Array Value} (G : Glb Z a0) : (Jvm.Cond.selects "java/lang/String" ({ cls := "java/lang/String", name := "length", desc := "()I" } : Jvm.MethodName) ({ cls := "java/lang/String", name := "length", desc := "()I" } : Jvm.MethodName)).before a0 Z = true := G.1 _ (List.mem_of_getElem? (i := 136) rfl)
theorem wd_137 {Z : State} {a0 : Array Value} (G : Glb Z a0) : (Jvm.Cond.code ({ cls := "java/lang/String", name := "length", desc := "()I" } : Jvm.MethodName) jdk_42_method_54_code (1 : Nat) (Option.some Jvm.ClassFile.FieldType.int)).before a0 Z = true := G.1 _ (List.mem_of_getElem? (i := 137) rfl)
theorem wd_138 {Z : State} {a0 : Array Value} (G : Glb Z a0) : (Jvm.Cond.fieldLink "java/lang/AbstractStringBuilder" (79 : Nat) "java/lang/AbstractStringBuilder" "count" "I").before a0 Z = true := G.1 _ (List.mem_of_getElem? (i := 138) rfl)
theorem wd_139 {Z : State} {a0 : Array Value} (G : Glb Z a0) : (Jvm.Cond.lays "java/lang/StringBuilder" "java/lang/AbstractStringBuilder" "count" "I").before a0 Z = true := G.1 _ (List.mem_of_getElem? (i := 139) rfl)
theorem wd_140 {Z : State} {a0 : Array Value} (G : Glb Z a0) : (Jvm.Cond.methodLink "java/lang/AbstractStringBuilder" (100 : Nat) ({ cls := "java/lang/AbstractStringBuilder", name := "ensureCapacityInternal", desc := "(I)V" } : Jvm.MethodName)).before a0 Z = true := G.1 _ (List.mem_of_getElem? (i := 140) rfl)
theorem wd_141 {Z : State} {a0 : Array Value} (G : Glb Z a0) : (Jvm.Cond.instanceMethod ({ cls := "java/lang/AbstractStringBuilder", name := "ensureCapacityInternal", desc := "(I)V" } : Jvm.MethodName)).before a0 Z = true := G.1 _ (List.mem_of_getElem? (i := 141) rfl)
theorem wd_143 {Z : State} {a0 : Array Value} (G : Glb Z a0) : (Jvm.Cond.selects "java/lang/StringBuilder" ({ cls := "java/lang/AbstractStringBuilder", name := "ensureCapacityInternal", desc := "(I)V" } : Jvm.MethodName) ({ cls := "java/lang/AbstractStringBuilder", name := "ensureCapacityInternal", desc := "(I)V" } : Jvm.MethodName)).before a0 Z = true := G.1 _ (List.mem_of_getElem? (i := 143) rfl)
theorem wd_144 {Z : State} {a0 : Array Value} (G : Glb Z a0) : (Jvm.Cond.code ({ cls := "java/lang/AbstractStringBuilder", name := "ensureCapacityInternal", desc := "(I)V" } : Jvm.MethodName) jdk_68_method_9_code (3 : Nat) (Option.none : Option Jvm.ClassFile.FieldType)).before a0 Z = true := G.1 _ (List.mem_of_getElem? (i := 144) rfl)
theorem wd_145 {Z : State} {a0 : Array Value} (G : Glb Z a0) : (Jvm.Cond.methodLink "java/lang/AbstractStringBuilder" (208 : Nat) ({ cls := "java/lang/AbstractStringBuilder", name := "putStringAt", desc := "(ILjava/lang/String;)V" } : Jvm.MethodName)).before a0 Z = true := G.1 _ (List.mem_of_getElem? (i := 145) rfl)
theorem wd_146 {Z : State} {a0 : Array Value} (G : Glb Z a0) : (Jvm.Cond.instanceMethod ({ cls := "java/lang/AbstractStringBuilder", name := "putStringAt", desc := "(ILjava/lang/String;)V" } : Jvm.MethodName)).before a0 Z = true := G.1 _ (List.mem_of_getElem? (i := 146) rfl)
theorem wd_148 {Z : State} {a0 : Array Value} (G : Glb Z a0) : (Jvm.Cond.selects "java/lang/StringBuilder" ({ cls := "java/lang/AbstractStringBuilder", name := "putStringAt", desc := "(ILjava/lang/String;)V" } : Jvm.MethodName) ({ cls := "java/lang/AbstractStringBuilder", name := "putStringAt", desc := "(ILjava/lang/String;)V" } : Jvm.MethodName)).before a0 Z = true := G.1 _ (List.mem_of_getElem? (i := 148) rfl)
theorem wd_149 {Z : State} {a0 : Array Value} (G : Glb Z a0) : (Jvm.Cond.code ({ cls := "java/lang/AbstractStringBuilder", name := "putStringAt", desc := "(ILjava/lang/String;)V" } : Jvm.MethodName) jdk_68_method_73_code (3 : Nat) (Option.none : Option Jvm.ClassFile.FieldType)).before a0 Z = true := G.1 _ (List.mem_of_getElem? (i := 149) rfl)
theorem wd_150 {Z : State} {a0 : Array Value} (G : Glb Z a0) : (Jvm.Cond.methodLink "java/lang/AbstractStringBuilder" (397 : Nat) ({ cls := "java/lang/AbstractStringBuilder", name := "inflateIfNeededFor", desc := "(Ljava/lang/String;)V" } : Jvm.MethodName)).before a0 Z = true := G.1 _ (List.mem_of_getElem? (i := 150) rfl)
theorem wd_151 {Z : State} {a0 : Array Value} (G : Glb Z a0) : (Jvm.Cond.instanceMethod ({ cls := "java/lang/AbstractStringBuilder", name := "inflateIfNeededFor", desc := "(Ljava/lang/String;)V" } : Jvm.MethodName)).before a0 Z = true := G.1 _ (List.mem_of_getElem? (i := 151) rfl)
theorem wd_153 {Z : State} {a0 : Array Value} (G : Glb Z a0) : (Jvm.Cond.selects "java/lang/StringBuilder" ({ cls := "java/lang/AbstractStringBuilder", name := "inflateIfNeededFor", desc := "(Ljava/lang/String;)V" } : Jvm.MethodName) ({ cls := "java/lang/AbstractStringBuilder", name := "inflateIfNeededFor", desc := "(Ljava/lang/String;)V" } : Jvm.MethodName)).before a0 Z = true := G.1 _ (List.mem_of_getElem? (i := 153) rfl)
theorem wd_154 {Z : State} {a0 : Array Value} (G : Glb Z a0) : (Jvm.Cond.code ({ cls := "java/lang/AbstractStringBuilder", name := "inflateIfNeededFor", desc := "(Ljava/lang/String;)V" } : Jvm.MethodName) jdk_68_method_71_code (2 : Nat) (Option.none : Option Jvm.ClassFile.FieldType)).before a0 Z = true := G.1 _ (List.mem_of_getElem? (i := 154) rfl)
theorem wd_155 {Z : State} {a0 : Array Value} (G : Glb Z a0) : (Jvm.Cond.methodLink "java/lang/AbstractStringBuilder" (40 : Nat) ({ cls := "java/lang/String", name := "coder", desc := "()B" } : Jvm.MethodName)).before a0 Z = true := G.1 _ (List.mem_of_getElem? (i := 155) rfl)
theorem wd_156 {Z : State} {a0 : Array Value} (G : Glb Z a0) : (Jvm.Cond.methodLink "java/lang/AbstractStringBuilder" (399 : Nat) ({ cls := "java/lang/String", name := "getBytes", desc := "([BIB)V" } : Jvm.MethodName)).before a0 Z = true := G.1 _ (List.mem_of_getElem? (i := 156) rfl)
theorem wd_157 {Z : State} {a0 : Array Value} (G : Glb Z a0) : (Jvm.Cond.declares ({ cls := "java/lang/String", name := "getBytes", desc := "([BIB)V" } : Jvm.MethodName)).before a0 Z = true := G.1 _ (List.mem_of_getElem? (i := 157) rfl)
theorem wd_158 {Z : State} {a0 : Array Value} (G : Glb Z a0) : (Jvm.Cond.instanceMethod ({ cls := "java/lang/String", name := "getBytes", desc := "([BIB)V" } : Jvm.MethodName)).before a0 Z = true := G.1 _ (List.mem_of_getElem? (i := 158) rfl)
theorem wd_159 {Z : State} {a0 : Array Value} (G : Glb Z a0) : (Jvm.Cond.selects "java/lang/String" ({ cls := "java/lang/String", name := "getBytes", desc := "([BIB)V" } : Jvm.MethodName) ({ cls := "java/lang/String", name := "getBytes", desc := "([BIB)V" } : Jvm.MethodName)).before a0 Z = true := G.1 _ (List.mem_of_getElem? (i := 159) rfl)
theorem wd_160 {Z : State} {a0 : Array Value} (G : Glb Z a0) : (Jvm.Cond.code ({ cls := "java/lang/String", name := "getBytes", desc := "([BIB)V" } : Jvm.MethodName) jdk_42_method_147_code (4 : Nat) (Option.none : Option Jvm.ClassFile.FieldType)).before a0 Z = true := G.1 _ (List.mem_of_getElem? (i := 160) rfl)
theorem wd_161 {Z : State} {a0 : Array Value} (G : Glb Z a0) : (Jvm.Cond.methodLink "java/lang/String" (212 : Nat) ({ cls := "java/lang/System", name := "arraycopy", desc := "(Ljava/lang/Object;ILjava/lang/Object;II)V" } : Jvm.MethodName)).before a0 Z = true := G.1 _ (List.mem_of_getElem? (i := 161) rfl)
theorem wd_162 {Z : State} {a0 : Array Value} (G : Glb Z a0) : (Jvm.Cond.static ({ cls := "java/lang/System", name := "arraycopy", desc := "(Ljava/lang/Object;ILjava/lang/Object;II)V" } : Jvm.MethodName)).before a0 Z = true := G.1 _ (List.mem_of_getElem? (i := 162) rfl)
theorem wd_163 {Z : State} {a0 : Array Value} (G : Glb Z a0) : (Jvm.Cond.initialized "java/lang/System").before a0 Z = true := G.1 _ (List.mem_of_getElem? (i := 163) rfl)
theorem wd_164 {Z : State} {a0 : Array Value} (G : Glb Z a0) : (Jvm.Cond.native ({ cls := "java/lang/System", name := "arraycopy", desc := "(Ljava/lang/Object;ILjava/lang/Object;II)V" } : Jvm.MethodName)).before a0 Z = true := G.1 _ (List.mem_of_getElem? (i := 164) rfl)
theorem wd_165 {Z : State} {a0 : Array Value} (G : Glb Z a0) : (Jvm.Cond.methodLink "com/example/bell_counter/bellcounter/redis/RedisUrl" (32 : Nat) ({ cls := "java/lang/StringBuilder", name := "append", desc := "(I)Ljava/lang/StringBuilder;" } : Jvm.MethodName)).before a0 Z = true := G.1 _ (List.mem_of_getElem? (i := 165) rfl)
theorem wd_166 {Z : State} {a0 : Array Value} (G : Glb Z a0) : (Jvm.Cond.declares ({ cls := "java/lang/StringBuilder", name := "append", desc := "(I)Ljava/lang/StringBuilder;" } : Jvm.MethodName)).before a0 Z = true := G.1 _ (List.mem_of_getElem? (i := 166) rfl)
theorem wd_167 {Z : State} {a0 : Array Value} (G : Glb Z a0) : (Jvm.Cond.instanceMethod ({ cls := "java/lang/StringBuilder", name := "append", desc := "(I)Ljava/lang/StringBuilder;" } : Jvm.MethodName)).before a0 Z = true := G.1 _ (List.mem_of_getElem? (i := 167) rfl)
theorem wd_168 {Z : State} {a0 : Array Value} (G : Glb Z a0) : (Jvm.Cond.selects "java/lang/StringBuilder" ({ cls := "java/lang/StringBuilder", name := "append", desc := "(I)Ljava/lang/StringBuilder;" } : Jvm.MethodName) ({ cls := "java/lang/StringBuilder", name := "append", desc := "(I)Ljava/lang/StringBuilder;" } : Jvm.MethodName)).before a0 Z = true := G.1 _ (List.mem_of_getElem? (i := 168) rfl)
theorem wd_169 {Z : State} {a0 : Array Value} (G : Glb Z a0) : (Jvm.Cond.code ({ cls := "java/lang/StringBuilder", name := "append", desc := "(I)Ljava/lang/StringBuilder;" } : Jvm.MethodName) jdk_67_method_15_code (2 : Nat) (Option.some (Jvm.ClassFile.FieldType.object "java/lang/StringBuilder"))).before a0 Z = true := G.1 _ (List.mem_of_getElem? (i := 169) rfl)
theorem wd_170 {Z : State} {a0 : Array Value} (G : Glb Z a0) : (Jvm.Cond.methodLink "java/lang/StringBuilder" (53 : Nat) ({ cls := "java/lang/AbstractStringBuilder", name := "append", desc := "(I)Ljava/lang/AbstractStringBuilder;" } : Jvm.MethodName)).before a0 Z = true := G.1 _ (List.mem_of_getElem? (i := 170) rfl)
theorem wd_171 {Z : State} {a0 : Array Value} (G : Glb Z a0) : (Jvm.Cond.instanceMethod ({ cls := "java/lang/AbstractStringBuilder", name := "append", desc := "(I)Ljava/lang/AbstractStringBuilder;" } : Jvm.MethodName)).before a0 Z = true := G.1 _ (List.mem_of_getElem? (i := 171) rfl)
theorem wd_172 {Z : State} {a0 : Array Value} (G : Glb Z a0) : (Jvm.Cond.declares ({ cls := "java/lang/AbstractStringBuilder", name := "append", desc := "(I)Ljava/lang/AbstractStringBuilder;" } : Jvm.MethodName)).before a0 Z = true := G.1 _ (List.mem_of_getElem? (i := 172) rfl)
theorem wd_173 {Z : State} {a0 : Array Value} (G : Glb Z a0) : (Jvm.Cond.code ({ cls := "java/lang/AbstractStringBuilder", name := "append", desc := "(I)Ljava/lang/AbstractStringBuilder;" } : Jvm.MethodName) jdk_68_method_32_code (4 : Nat) (Option.some (Jvm.ClassFile.FieldType.object "java/lang/AbstractStringBuilder"))).before a0 Z = true := G.1 _ (List.mem_of_getElem? (i := 173) rfl)
theorem wd_174 {Z : State} {a0 : Array Value} (G : Glb Z a0) : (Jvm.Cond.methodLink "java/lang/AbstractStringBuilder" (245 : Nat) ({ cls := "java/lang/Integer", name := "stringSize", desc := "(I)I" } : Jvm.MethodName)).before a0 Z = true := G.1 _ (List.mem_of_getElem? (i := 174) rfl)
theorem wd_175 {Z : State} {a0 : Array Value} (G : Glb Z a0) : (Jvm.Cond.static ({ cls := "java/lang/Integer", name := "stringSize", desc := "(I)I" } : Jvm.MethodName)).before a0 Z = true := G.1 _ (List.mem_of_getElem? (i := 175) rfl)
theorem wd_176 {Z : State} {a0 : Array Value} (G : Glb Z a0) : (Jvm.Cond.initialized "java/lang/Integer").before a0 Z = true := G.1 _ (List.mem_of_getElem? (i := 176) rfl)
theorem wd_177 {Z : State} {a0 : Array Value} (G : Glb Z a0) : (Jvm.Cond.code ({ cls := "java/lang/Integer", name := "stringSize", desc := "(I)I" } : Jvm.MethodName) jdk_33_method_13_code (4 : Nat) (Option.some Jvm.ClassFile.FieldType.int)).before a0 Z = true := G.1 _ (List.mem_of_getElem? (i := 177) rfl)
theorem wd_178 {Z : State} {a0 : Array Value} (G : Glb Z a0) : (Jvm.Cond.methodLink "java/lang/AbstractStringBuilder" (83 : Nat) ({ cls := "java/lang/AbstractStringBuilder", name := "isLatin1", desc := "()Z" } : Jvm.MethodName)).before a0 Z = true := G.1 _ (List.mem_of_getElem? (i := 178) rfl)
theorem wd_179 {Z : State} {a0 : Array Value} (G : Glb Z a0) : (Jvm.Cond.declares ({ cls := "java/lang/AbstractStringBuilder", name := "isLatin1", desc := "()Z" } : Jvm.MethodName)).before a0 Z = true := G.1 _ (List.mem_of_getElem? (i := 179) rfl)
theorem wd_180 {Z : State} {a0 : Array Value} (G : Glb Z a0) : (Jvm.Cond.instanceMethod ({ cls := "java/lang/AbstractStringBuilder", name := "isLatin1", desc := "()Z" } : Jvm.MethodName)).before a0 Z = true := G.1 _ (List.mem_of_getElem? (i := 180) rfl)
theorem wd_181 {Z : State} {a0 : Array Value} (G : Glb Z a0) : (Jvm.Cond.selects "java/lang/StringBuilder" ({ cls := "java/lang/AbstractStringBuilder", name := "isLatin1", desc := "()Z" } : Jvm.MethodName) ({ cls := "java/lang/AbstractStringBuilder", name := "isLatin1", desc := "()Z" } : Jvm.MethodName)).before a0 Z = true := G.1 _ (List.mem_of_getElem? (i := 181) rfl)
theorem wd_182 {Z : State} {a0 : Array Value} (G : Glb Z a0) : (Jvm.Cond.code ({ cls := "java/lang/AbstractStringBuilder", name := "isLatin1", desc := "()Z" } : Jvm.MethodName) jdk_68_method_68_code (1 : Nat) (Option.some Jvm.ClassFile.FieldType.boolean)).before a0 Z = true := G.1 _ (List.mem_of_getElem? (i := 182) rfl)
theorem wd_183 {Z : State} {a0 : Array Value} (G : Glb Z a0) : (Jvm.Cond.methodLink "java/lang/AbstractStringBuilder" (248 : Nat) ({ cls := "java/lang/Integer", name := "getChars", desc := "(II[B)I" } : Jvm.MethodName)).before a0 Z = true := G.1 _ (List.mem_of_getElem? (i := 183) rfl)
theorem wd_184 {Z : State} {a0 : Array Value} (G : Glb Z a0) : (Jvm.Cond.static ({ cls := "java/lang/Integer", name := "getChars", desc := "(II[B)I" } : Jvm.MethodName)).before a0 Z = true := G.1 _ (List.mem_of_getElem? (i := 184) rfl)
theorem wd_185 {Z : State} {a0 : Array Value} (G : Glb Z a0) : (Jvm.Cond.code ({ cls := "java/lang/Integer", name := "getChars", desc := "(II[B)I" } : Jvm.MethodName) jdk_33_method_12_code (7 : Nat) (Option.some Jvm.ClassFile.FieldType.int)).before a0 Z = true := G.1 _ (List.mem_of_getElem? (i := 185) rfl)
theorem wd_186 {Z : State} {a0 : Array Value} (G : Glb Z a0) : (Jvm.Cond.fieldLink "java/lang/Integer" (83 : Nat) "java/lang/Integer" "DigitOnes" "[B").before a0 Z = true := G.1 _ (List.mem_of_getElem? (i := 186) rfl)
set_option maxRecDepth 65536 in
theorem wd_187 {Z : State} {a0 : Array Value} (G : Glb Z a0) : (Jvm.Cond.stringLink "com/example/bell_counter/bellcounter/redis/RedisUrl" (132 : Nat) (txtAt 187)).before a0 Z = true := G.1 _ (List.mem_of_getElem? (i := 187) rfl)
theorem wd_188 {Z : State} {a0 : Array Value} (G : Glb Z a0) : (Jvm.Cond.methodLink "com/example/bell_counter/bellcounter/redis/RedisUrl" (35 : Nat) ({ cls := "java/lang/StringBuilder", name := "toString", desc := "()Ljava/lang/String;" } : Jvm.MethodName)).before a0 Z = true := G.1 _ (List.mem_of_getElem? (i := 188) rfl)
theorem wd_189 {Z : State} {a0 : Array Value} (G : Glb Z a0) : (Jvm.Cond.declares ({ cls := "java/lang/StringBuilder", name := "toString", desc := "()Ljava/lang/String;" } : Jvm.MethodName)).before a0 Z = true := G.1 _ (List.mem_of_getElem? (i := 189) rfl)
theorem wd_190 {Z : State} {a0 : Array Value} (G : Glb Z a0) : (Jvm.Cond.instanceMethod ({ cls := "java/lang/StringBuilder", name := "toString", desc := "()Ljava/lang/String;" } : Jvm.MethodName)).before a0 Z = true := G.1 _ (List.mem_of_getElem? (i := 190) rfl)
theorem wd_191 {Z : State} {a0 : Array Value} (G : Glb Z a0) : (Jvm.Cond.selects "java/lang/StringBuilder" ({ cls := "java/lang/StringBuilder", name := "toString", desc := "()Ljava/lang/String;" } : Jvm.MethodName) ({ cls := "java/lang/StringBuilder", name := "toString", desc := "()Ljava/lang/String;" } : Jvm.MethodName)).before a0 Z = true := G.1 _ (List.mem_of_getElem? (i := 191) rfl)
theorem wd_192 {Z : State} {a0 : Array Value} (G : Glb Z a0) : (Jvm.Cond.code ({ cls := "java/lang/StringBuilder", name := "toString", desc := "()Ljava/lang/String;" } : Jvm.MethodName) jdk_67_method_42_code (1 : Nat) (Option.some (Jvm.ClassFile.FieldType.object "java/lang/String"))).before a0 Z = true := G.1 _ (List.mem_of_getElem? (i := 192) rfl)
theorem wd_193 {Z : State} {a0 : Array Value} (G : Glb Z a0) : (Jvm.Cond.classLink "java/lang/StringBuilder" (18 : Nat) "java/lang/String").before a0 Z = true := G.1 _ (List.mem_of_getElem? (i := 193) rfl)
theorem wd_194 {Z : State} {a0 : Array Value} (G : Glb Z a0) : (Jvm.Cond.methodLink "java/lang/StringBuilder" (137 : Nat) ({ cls := "java/lang/String", name := "<init>", desc := "(Ljava/lang/StringBuilder;)V" } : Jvm.MethodName)).before a0 Z = true := G.1 _ (List.mem_of_getElem? (i := 194) rfl)
theorem wd_195 {Z : State} {a0 : Array Value} (G : Glb Z a0) : (Jvm.Cond.instanceMethod ({ cls := "java/lang/String", name := "<init>", desc := "(Ljava/lang/StringBuilder;)V" } : Jvm.MethodName)).before a0 Z = true := G.1 _ (List.mem_of_getElem? (i := 195) rfl)
theorem wd_196 {Z : State} {a0 : Array Value} (G : Glb Z a0) : (Jvm.Cond.code ({ cls := "java/lang/String", name := "<init>", desc := "(Ljava/lang/StringBuilder;)V" } : Jvm.MethodName) jdk_42_method_53_code (2 : Nat) (Option.none : Option Jvm.ClassFile.FieldType)).before a0 Z = true := G.1 _ (List.mem_of_getElem? (i := 196) rfl)
theorem wd_197 {Z : State} {a0 : Array Value} (G : Glb Z a0) : (Jvm.Cond.methodLink "java/lang/String" (489 : Nat) ({ cls := "java/lang/String", name := "<init>", desc := "(Ljava/lang/AbstractStringBuilder;Ljava/lang/Void;)V" } : Jvm.MethodName)).before a0 Z = true := G.1 _ (List.mem_of_getElem? (i := 197) rfl)
theorem wd_198 {Z : State} {a0 : Array Value} (G : Glb Z a0) : (Jvm.Cond.instanceMethod ({ cls := "java/lang/String", name := "<init>", desc := "(Ljava/lang/AbstractStringBuilder;Ljava/lang/Void;)V" } : Jvm.MethodName)).before a0 Z = true := G.1 _ (List.mem_of_getElem? (i := 198) rfl)
theorem wd_199 {Z : State} {a0 : Array Value} (G : Glb Z a0) : (Jvm.Cond.code ({ cls := "java/lang/String", name := "<init>", desc := "(Ljava/lang/AbstractStringBuilder;Ljava/lang/Void;)V" } : Jvm.MethodName) jdk_42_method_150_code (5 : Nat) (Option.none : Option Jvm.ClassFile.FieldType)).before a0 Z = true := G.1 _ (List.mem_of_getElem? (i := 199) rfl)
theorem wd_200 {Z : State} {a0 : Array Value} (G : Glb Z a0) : (Jvm.Cond.methodLink "java/lang/String" (552 : Nat) ({ cls := "java/lang/AbstractStringBuilder", name := "getValue", desc := "()[B" } : Jvm.MethodName)).before a0 Z = true := G.1 _ (List.mem_of_getElem? (i := 200) rfl)
theorem wd_201 {Z : State} {a0 : Array Value} (G : Glb Z a0) : (Jvm.Cond.declares ({ cls := "java/lang/AbstractStringBuilder", name := "getValue", desc := "()[B" } : Jvm.MethodName)).before a0 Z = true := G.1 _ (List.mem_of_getElem? (i := 201) rfl)
theorem wd_202 {Z : State} {a0 : Array Value} (G : Glb Z a0) : (Jvm.Cond.instanceMethod ({ cls := "java/lang/AbstractStringBuilder", name := "getValue", desc := "()[B" } : Jvm.MethodName)).before a0 Z = true := G.1 _ (List.mem_of_getElem? (i := 202) rfl)
theorem wd_203 {Z : State} {a0 : Array Value} (G : Glb Z a0) : (Jvm.Cond.selects "java/lang/StringBuilder" ({ cls := "java/lang/AbstractStringBuilder", name := "getValue", desc := "()[B" } : Jvm.MethodName) ({ cls := "java/lang/AbstractStringBuilder", name := "getValue", desc := "()[B" } : Jvm.MethodName)).before a0 Z = true := G.1 _ (List.mem_of_getElem? (i := 203) rfl)
theorem wd_204 {Z : State} {a0 : Array Value} (G : Glb Z a0) : (Jvm.Cond.code ({ cls := "java/lang/AbstractStringBuilder", name := "getValue", desc := "()[B" } : Jvm.MethodName) jdk_68_method_64_code (1 : Nat) (Option.some (Jvm.ClassFile.FieldType.array Jvm.ClassFile.FieldType.byte))).before a0 Z = true := G.1 _ (List.mem_of_getElem? (i := 204) rfl)
theorem wd_205 {Z : State} {a0 : Array Value} (G : Glb Z a0) : (Jvm.Cond.methodLink "java/lang/String" (549 : Nat) ({ cls := "java/lang/AbstractStringBuilder", name := "length", desc := "()I" } : Jvm.MethodName)).before a0 Z = true := G.1 _ (List.mem_of_getElem? (i := 205) rfl)
theorem wd_206 {Z : State} {a0 : Array Value} (G : Glb Z a0) : (Jvm.Cond.declares ({ cls := "java/lang/AbstractStringBuilder", name := "length", desc := "()I" } : Jvm.MethodName)).before a0 Z = true := G.1 _ (List.mem_of_getElem? (i := 206) rfl)
theorem wd_207 {Z : State} {a0 : Array Value} (G : Glb Z a0) : (Jvm.Cond.instanceMethod ({ cls := "java/lang/AbstractStringBuilder", name := "length", desc := "()I" } : Jvm.MethodName)).before a0 Z = true := G.1 _ (List.mem_of_getElem? (i := 207) rfl)
theorem wd_208 {Z : State} {a0 : Array Value} (G : Glb Z a0) : (Jvm.Cond.selects "java/lang/StringBuilder" ({ cls := "java/lang/AbstractStringBuilder", name := "length", desc := "()I" } : Jvm.MethodName) ({ cls := "java/lang/StringBuilder", name := "length", desc := "()I" } : Jvm.MethodName)).before a0 Z = true := G.1 _ (List.mem_of_getElem? (i := 208) rfl)
theorem wd_209 {Z : State} {a0 : Array Value} (G : Glb Z a0) : (Jvm.Cond.instanceMethod ({ cls := "java/lang/StringBuilder", name := "length", desc := "()I" } : Jvm.MethodName)).before a0 Z = true := G.1 _ (List.mem_of_getElem? (i := 209) rfl)
theorem wd_210 {Z : State} {a0 : Array Value} (G : Glb Z a0) : (Jvm.Cond.code ({ cls := "java/lang/StringBuilder", name := "length", desc := "()I" } : Jvm.MethodName) jdk_67_method_93_code (1 : Nat) (Option.some Jvm.ClassFile.FieldType.int)).before a0 Z = true := G.1 _ (List.mem_of_getElem? (i := 210) rfl)
theorem wd_211 {Z : State} {a0 : Array Value} (G : Glb Z a0) : (Jvm.Cond.methodLink "java/lang/StringBuilder" (343 : Nat) ({ cls := "java/lang/AbstractStringBuilder", name := "length", desc := "()I" } : Jvm.MethodName)).before a0 Z = true := G.1 _ (List.mem_of_getElem? (i := 211) rfl)
theorem wd_212 {Z : State} {a0 : Array Value} (G : Glb Z a0) : (Jvm.Cond.code ({ cls := "java/lang/AbstractStringBuilder", name := "length", desc := "()I" } : Jvm.MethodName) jdk_68_method_6_code (1 : Nat) (Option.some Jvm.ClassFile.FieldType.int)).before a0 Z = true := G.1 _ (List.mem_of_getElem? (i := 212) rfl)
theorem wd_213 {Z : State} {a0 : Array Value} (G : Glb Z a0) : (Jvm.Cond.methodLink "java/lang/String" (1047 : Nat) ({ cls := "java/lang/AbstractStringBuilder", name := "isLatin1", desc := "()Z" } : Jvm.MethodName)).before a0 Z = true := G.1 _ (List.mem_of_getElem? (i := 213) rfl)
theorem wd_214 {Z : State} {a0 : Array Value} (G : Glb Z a0) : (Jvm.Cond.methodLink "java/lang/String" (54 : Nat) ({ cls := "java/util/Arrays", name := "copyOfRange", desc := "([BII)[B" } : Jvm.MethodName)).before a0 Z = true := G.1 _ (List.mem_of_getElem? (i := 214) rfl)
theorem wd_215 {Z : State} {a0 : Array Value} (G : Glb Z a0) : (Jvm.Cond.static ({ cls := "java/util/Arrays", name := "copyOfRange", desc := "([BII)[B" } : Jvm.MethodName)).before a0 Z = true := G.1 _ (List.mem_of_getElem? (i := 215) rfl)
theorem wd_216 {Z : State} {a0 : Array Value} (G : Glb Z a0) : (Jvm.Cond.initialized "java/util/Arrays").before a0 Z = true := G.1 _ (List.mem_of_getElem? (i := 216) rfl)
theorem wd_217 {Z : State} {a0 : Array Value} (G : Glb Z a0) : (Jvm.Cond.code ({ cls := "java/util/Arrays", name := "copyOfRange", desc := "([BII)[B" } : Jvm.MethodName) jdk_65_method_132_code (3 : Nat) (Option.some (Jvm.ClassFile.FieldType.array Jvm.ClassFile.FieldType.byte))).before a0 Z = true := G.1 _ (List.mem_of_getElem? (i := 217) rfl)
theorem wd_218 {Z : State} {a0 : Array Value} (G : Glb Z a0) : (Jvm.Cond.methodLink "java/util/Arrays" (339 : Nat) ({ cls := "java/util/Arrays", name := "copyOfRangeByte", desc := "([BII)[B" } : Jvm.MethodName)).before a0 Z = true := G.1 _ (List.mem_of_getElem? (i := 218) rfl)
theorem wd_219 {Z : State} {a0 : Array Value} (G : Glb Z a0) : (Jvm.Cond.static ({ cls := "java/util/Arrays", name := "copyOfRangeByte", desc := "([BII)[B" } : Jvm.MethodName)).before a0 Z = true := G.1 _ (List.mem_of_getElem? (i := 219) rfl)
theorem wd_220 {Z : State} {a0 : Array Value} (G : Glb Z a0) : (Jvm.Cond.code ({ cls := "java/util/Arrays", name := "copyOfRangeByte", desc := "([BII)[B" } : Jvm.MethodName) jdk_65_method_133_code (5 : Nat) (Option.some (Jvm.ClassFile.FieldType.array Jvm.ClassFile.FieldType.byte))).before a0 Z = true := G.1 _ (List.mem_of_getElem? (i := 220) rfl)
theorem wd_221 {Z : State} {a0 : Array Value} (G : Glb Z a0) : (Jvm.Cond.methodLink "java/util/Arrays" (343 : Nat) ({ cls := "java/util/Arrays", name := "checkLength", desc := "(II)V" } : Jvm.MethodName)).before a0 Z = true := G.1 _ (List.mem_of_getElem? (i := 221) rfl)
theorem wd_222 {Z : State} {a0 : Array Value} (G : Glb Z a0) : (Jvm.Cond.static ({ cls := "java/util/Arrays", name := "checkLength", desc := "(II)V" } : Jvm.MethodName)).before a0 Z = true := G.1 _ (List.mem_of_getElem? (i := 222) rfl)
theorem wd_223 {Z : State} {a0 : Array Value} (G : Glb Z a0) : (Jvm.Cond.code ({ cls := "java/util/Arrays", name := "checkLength", desc := "(II)V" } : Jvm.MethodName) jdk_65_method_131_code (2 : Nat) (Option.none : Option Jvm.ClassFile.FieldType)).before a0 Z = true := G.1 _ (List.mem_of_getElem? (i := 223) rfl)
theorem wd_224 {Z : State} {a0 : Array Value} (G : Glb Z a0) : (Jvm.Cond.methodLink "java/util/Arrays" (304 : Nat) ({ cls := "java/lang/Math", name := "min", desc := "(II)I" } : Jvm.MethodName)).before a0 Z = true := G.1 _ (List.mem_of_getElem? (i := 224) rfl)
theorem wd_225 {Z : State} {a0 : Array Value} (G : Glb Z a0) : (Jvm.Cond.static ({ cls := "java/lang/Math", name := "min", desc := "(II)I" } : Jvm.MethodName)).before a0 Z = true := G.1 _ (List.mem_of_getElem? (i := 225) rfl)
theorem wd_226 {Z : State} {a0 : Array Value} (G : Glb Z a0) : (Jvm.Cond.initialized "java/lang/Math").before a0 Z = true := G.1 _ (List.mem_of_getElem? (i := 226) rfl)
theorem wd_227 {Z : State} {a0 : Array Value} (G : Glb Z a0) : (Jvm.Cond.code ({ cls := "java/lang/Math", name := "min", desc := "(II)I" } : Jvm.MethodName) jdk_29_method_69_code (2 : Nat) (Option.some Jvm.ClassFile.FieldType.int)).before a0 Z = true := G.1 _ (List.mem_of_getElem? (i := 227) rfl)
theorem wd_228 {Z : State} {a0 : Array Value} (G : Glb Z a0) : (Jvm.Cond.methodLink "java/util/Arrays" (150 : Nat) ({ cls := "java/lang/System", name := "arraycopy", desc := "(Ljava/lang/Object;ILjava/lang/Object;II)V" } : Jvm.MethodName)).before a0 Z = true := G.1 _ (List.mem_of_getElem? (i := 228) rfl)
theorem wd_229 {Z : State} {a0 : Array Value} (G : Glb Z a0) : (Jvm.Cond.methodLink "com/example/bell_counter/bellcounter/redis/RedisUrlToStringPinLaw" (29 : Nat) ({ cls := "java/lang/String", name := "length", desc := "()I" } : Jvm.MethodName)).before a0 Z = true := G.1 _ (List.mem_of_getElem? (i := 229) rfl)
theorem wd_230 {Z : State} {a0 : Array Value} (G : Glb Z a0) : (Jvm.Cond.methodLink "com/example/bell_counter/bellcounter/redis/RedisUrlToStringPinLaw" (33 : Nat) ({ cls := "java/lang/String", name := "charAt", desc := "(I)C" } : Jvm.MethodName)).before a0 Z = true := G.1 _ (List.mem_of_getElem? (i := 230) rfl)
theorem wd_231 {Z : State} {a0 : Array Value} (G : Glb Z a0) : (Jvm.Cond.declares ({ cls := "java/lang/String", name := "charAt", desc := "(I)C" } : Jvm.MethodName)).before a0 Z = true := G.1 _ (List.mem_of_getElem? (i := 231) rfl)
theorem wd_232 {Z : State} {a0 : Array Value} (G : Glb Z a0) : (Jvm.Cond.instanceMethod ({ cls := "java/lang/String", name := "charAt", desc := "(I)C" } : Jvm.MethodName)).before a0 Z = true := G.1 _ (List.mem_of_getElem? (i := 232) rfl)
theorem wd_233 {Z : State} {a0 : Array Value} (G : Glb Z a0) : (Jvm.Cond.selects "java/lang/String" ({ cls := "java/lang/String", name := "charAt", desc := "(I)C" } : Jvm.MethodName) ({ cls := "java/lang/String", name := "charAt", desc := "(I)C" } : Jvm.MethodName)).before a0 Z = true := G.1 _ (List.mem_of_getElem? (i := 233) rfl)
theorem wd_234 {Z : State} {a0 : Array Value} (G : Glb Z a0) : (Jvm.Cond.code ({ cls := "java/lang/String", name := "charAt", desc := "(I)C" } : Jvm.MethodName) jdk_42_method_56_code (2 : Nat) (Option.some Jvm.ClassFile.FieldType.char)).before a0 Z = true := G.1 _ (List.mem_of_getElem? (i := 234) rfl)
theorem wd_235 {Z : State} {a0 : Array Value} (G : Glb Z a0) : (Jvm.Cond.methodLink "java/lang/String" (495 : Nat) ({ cls := "java/lang/StringLatin1", name := "charAt", desc := "([BI)C" } : Jvm.MethodName)).before a0 Z = true := G.1 _ (List.mem_of_getElem? (i := 235) rfl)
theorem wd_236 {Z : State} {a0 : Array Value} (G : Glb Z a0) : (Jvm.Cond.static ({ cls := "java/lang/StringLatin1", name := "charAt", desc := "([BI)C" } : Jvm.MethodName)).before a0 Z = true := G.1 _ (List.mem_of_getElem? (i := 236) rfl)
theorem wd_237 {Z : State} {a0 : Array Value} (G : Glb Z a0) : (Jvm.Cond.code ({ cls := "java/lang/StringLatin1", name := "charAt", desc := "([BI)C" } : Jvm.MethodName) jdk_43_method_2_code (2 : Nat) (Option.some Jvm.ClassFile.FieldType.char)).before a0 Z = true := G.1 _ (List.mem_of_getElem? (i := 237) rfl)
theorem wd_238 {Z : State} {a0 : Array Value} (G : Glb Z a0) : (Jvm.Cond.methodLink "java/lang/StringLatin1" (9 : Nat) ({ cls := "java/lang/String", name := "checkIndex", desc := "(II)V" } : Jvm.MethodName)).before a0 Z = true := G.1 _ (List.mem_of_getElem? (i := 238) rfl)
theorem wd_239 {Z : State} {a0 : Array Value} (G : Glb Z a0) : (Jvm.Cond.static ({ cls := "java/lang/String", name := "checkIndex", desc := "(II)V" } : Jvm.MethodName)).before a0 Z = true := G.1 _ (List.mem_of_getElem? (i := 239) rfl)
theorem wd_240 {Z : State} {a0 : Array Value} (G : Glb Z a0) : (Jvm.Cond.code ({ cls := "java/lang/String", name := "checkIndex", desc := "(II)V" } : Jvm.MethodName) jdk_42_method_155_code (2 : Nat) (Option.none : Option Jvm.ClassFile.FieldType)).before a0 Z = true := G.1 _ (List.mem_of_getElem? (i := 240) rfl)
theorem wd_241 {Z : State} {a0 : Array Value} (G : Glb Z a0) : (Jvm.Cond.fieldLink "java/lang/String" (1053 : Nat) "jdk/internal/util/Preconditions" "SIOOBE_FORMATTER" "Ljava/util/function/BiFunction;").before a0 Z = true := G.1 _ (List.mem_of_getElem? (i := 241) rfl)
theorem wd_242 {Z : State} {a0 : Array Value} (G : Glb Z a0) : (Jvm.Cond.initialized "jdk/internal/util/Preconditions").before a0 Z = true := G.1 _ (List.mem_of_getElem? (i := 242) rfl)
theorem wd_243 {Z : State} {a0 : Array Value} (G : Glb Z a0) : (Jvm.Cond.methodLink "java/lang/String" (1059 : Nat) ({ cls := "jdk/internal/util/Preconditions", name := "checkIndex", desc := "(IILjava/util/function/BiFunction;)I" } : Jvm.MethodName)).before a0 Z = true := G.1 _ (List.mem_of_getElem? (i := 243) rfl)
theorem wd_244 {Z : State} {a0 : Array Value} (G : Glb Z a0) : (Jvm.Cond.static ({ cls := "jdk/internal/util/Preconditions", name := "checkIndex", desc := "(IILjava/util/function/BiFunction;)I" } : Jvm.MethodName)).before a0 Z = true := G.1 _ (List.mem_of_getElem? (i := 244) rfl)
theorem wd_245 {Z : State} {a0 : Array Value} (G : Glb Z a0) : (Jvm.Cond.code ({ cls := "jdk/internal/util/Preconditions", name := "checkIndex", desc := "(IILjava/util/function/BiFunction;)I" } : Jvm.MethodName) jdk_41_method_11_code (3 : Nat) (Option.some Jvm.ClassFile.FieldType.int)).before a0 Z = true := G.1 _ (List.mem_of_getElem? (i := 245) rfl)
theorem wd_246 {Z : State} {a0 : Array Value} (G : Glb Z a0) : (Jvm.Cond.methodLink "com/example/bell_counter/bellcounter/redis/RedisUrlToStringPinLaw" (37 : Nat) ({ cls := "com/example/bell_counter/bellcounter/redis/RedisUrlToStringPinLaw", name := "checkNum", desc := "(Ljava/lang/String;III)Z" } : Jvm.MethodName)).before a0 Z = true := G.1 _ (List.mem_of_getElem? (i := 246) rfl)
theorem wd_247 {Z : State} {a0 : Array Value} (G : Glb Z a0) : (Jvm.Cond.static ({ cls := "com/example/bell_counter/bellcounter/redis/RedisUrlToStringPinLaw", name := "checkNum", desc := "(Ljava/lang/String;III)Z" } : Jvm.MethodName)).before a0 Z = true := G.1 _ (List.mem_of_getElem? (i := 247) rfl)
theorem wd_248 {Z : State} {a0 : Array Value} (G : Glb Z a0) : (Jvm.Cond.code ({ cls := "com/example/bell_counter/bellcounter/redis/RedisUrlToStringPinLaw", name := "checkNum", desc := "(Ljava/lang/String;III)Z" } : Jvm.MethodName) method_6_code (4 : Nat) (Option.some Jvm.ClassFile.FieldType.boolean)).before a0 Z = true := G.1 _ (List.mem_of_getElem? (i := 248) rfl)
theorem wd_249 {Z : State} {a0 : Array Value} (G : Glb Z a0) : (Jvm.Cond.methodLink "com/example/bell_counter/bellcounter/redis/RedisUrlToStringPinLaw" (49 : Nat) ({ cls := "com/example/bell_counter/bellcounter/redis/RedisUrlToStringPinLaw", name := "digitOk", desc := "(Ljava/lang/String;IIII)Z" } : Jvm.MethodName)).before a0 Z = true := G.1 _ (List.mem_of_getElem? (i := 249) rfl)
theorem wd_250 {Z : State} {a0 : Array Value} (G : Glb Z a0) : (Jvm.Cond.static ({ cls := "com/example/bell_counter/bellcounter/redis/RedisUrlToStringPinLaw", name := "digitOk", desc := "(Ljava/lang/String;IIII)Z" } : Jvm.MethodName)).before a0 Z = true := G.1 _ (List.mem_of_getElem? (i := 250) rfl)
theorem wd_251 {Z : State} {a0 : Array Value} (G : Glb Z a0) : (Jvm.Cond.code ({ cls := "com/example/bell_counter/bellcounter/redis/RedisUrlToStringPinLaw", name := "digitOk", desc := "(Ljava/lang/String;IIII)Z" } : Jvm.MethodName) method_5_code (5 : Nat) (Option.some Jvm.ClassFile.FieldType.boolean)).before a0 Z = true := G.1 _ (List.mem_of_getElem? (i := 251) rfl)
theorem wd_252 {Z : State} {a0 : Array Value} (G : Glb Z a0) : (Jvm.Cond.methodLink "com/example/bell_counter/bellcounter/redis/RedisUrlToStringPinLaw" (46 : Nat) ({ cls := "com/example/bell_counter/bellcounter/redis/RedisUrlToStringPinLaw", name := "pow10", desc := "(I)I" } : Jvm.MethodName)).before a0 Z = true := G.1 _ (List.mem_of_getElem? (i := 252) rfl)
theorem wd_253 {Z : State} {a0 : Array Value} (G : Glb Z a0) : (Jvm.Cond.static ({ cls := "com/example/bell_counter/bellcounter/redis/RedisUrlToStringPinLaw", name := "pow10", desc := "(I)I" } : Jvm.MethodName)).before a0 Z = true := G.1 _ (List.mem_of_getElem? (i := 253) rfl)
theorem wd_254 {Z : State} {a0 : Array Value} (G : Glb Z a0) : (Jvm.Cond.code ({ cls := "com/example/bell_counter/bellcounter/redis/RedisUrlToStringPinLaw", name := "pow10", desc := "(I)I" } : Jvm.MethodName) method_4_code (1 : Nat) (Option.some Jvm.ClassFile.FieldType.int)).before a0 Z = true := G.1 _ (List.mem_of_getElem? (i := 254) rfl)
set_option maxRecDepth 65536 in
theorem wd_255 {Z : State} {a0 : Array Value} (G : Glb Z a0) : (Jvm.Cond.stringLink "com/example/bell_counter/bellcounter/redis/RedisUrl" (115 : Nat) (txtAt 255)).before a0 Z = true := G.1 _ (List.mem_of_getElem? (i := 255) rfl)
set_option maxRecDepth 65536 in
theorem wd_256 {Z : State} {a0 : Array Value} (G : Glb Z a0) : (Jvm.Cond.stringLink "com/example/bell_counter/bellcounter/redis/RedisUrl" (120 : Nat) (txtAt 256)).before a0 Z = true := G.1 _ (List.mem_of_getElem? (i := 256) rfl)
theorem wd_257 {Z : State} {a0 : Array Value} (G : Glb Z a0) : (Jvm.Cond.fieldLink "java/lang/Integer" (87 : Nat) "java/lang/Integer" "DigitTens" "[B").before a0 Z = true := G.1 _ (List.mem_of_getElem? (i := 257) rfl)
theorem wd_258 {Z : State} {a0 : Array Value} (G : Glb Z a0) : (Jvm.Cond.methodLink "java/lang/AbstractStringBuilder" (104 : Nat) ({ cls := "java/lang/AbstractStringBuilder", name := "newCapacity", desc := "(I)I" } : Jvm.MethodName)).before a0 Z = true := G.1 _ (List.mem_of_getElem? (i := 258) rfl)
theorem wd_259 {Z : State} {a0 : Array Value} (G : Glb Z a0) : (Jvm.Cond.instanceMethod ({ cls := "java/lang/AbstractStringBuilder", name := "newCapacity", desc := "(I)I" } : Jvm.MethodName)).before a0 Z = true := G.1 _ (List.mem_of_getElem? (i := 259) rfl)
theorem wd_261 {Z : State} {a0 : Array Value} (G : Glb Z a0) : (Jvm.Cond.selects "java/lang/StringBuilder" ({ cls := "java/lang/AbstractStringBuilder", name := "newCapacity", desc := "(I)I" } : Jvm.MethodName) ({ cls := "java/lang/AbstractStringBuilder", name := "newCapacity", desc := "(I)I" } : Jvm.MethodName)).before a0 Z = true := G.1 _ (List.mem_of_getElem? (i := 261) rfl)
theorem wd_262 {Z : State} {a0 : Array Value} (G : Glb Z a0) : (Jvm.Cond.code ({ cls := "java/lang/AbstractStringBuilder", name := "newCapacity", desc := "(I)I" } : Jvm.MethodName) jdk_68_method_10_code (6 : Nat) (Option.some Jvm.ClassFile.FieldType.int)).before a0 Z = true := G.1 _ (List.mem_of_getElem? (i := 262) rfl)
theorem wd_263 {Z : State} {a0 : Array Value} (G : Glb Z a0) : (Jvm.Cond.methodLink "java/lang/AbstractStringBuilder" (114 : Nat) ({ cls := "jdk/internal/util/ArraysSupport", name := "newLength", desc := "(III)I" } : Jvm.MethodName)).before a0 Z = true := G.1 _ (List.mem_of_getElem? (i := 263) rfl)
theorem wd_264 {Z : State} {a0 : Array Value} (G : Glb Z a0) : (Jvm.Cond.static ({ cls := "jdk/internal/util/ArraysSupport", name := "newLength", desc := "(III)I" } : Jvm.MethodName)).before a0 Z = true := G.1 _ (List.mem_of_getElem? (i := 264) rfl)
theorem wd_265 {Z : State} {a0 : Array Value} (G : Glb Z a0) : (Jvm.Cond.initialized "jdk/internal/util/ArraysSupport").before a0 Z = true := G.1 _ (List.mem_of_getElem? (i := 265) rfl)
theorem wd_266 {Z : State} {a0 : Array Value} (G : Glb Z a0) : (Jvm.Cond.code ({ cls := "jdk/internal/util/ArraysSupport", name := "newLength", desc := "(III)I" } : Jvm.MethodName) jdk_48_method_27_code (4 : Nat) (Option.some Jvm.ClassFile.FieldType.int)).before a0 Z = true := G.1 _ (List.mem_of_getElem? (i := 266) rfl)
theorem wd_267 {Z : State} {a0 : Array Value} (G : Glb Z a0) : (Jvm.Cond.methodLink "jdk/internal/util/ArraysSupport" (194 : Nat) ({ cls := "java/lang/Math", name := "max", desc := "(II)I" } : Jvm.MethodName)).before a0 Z = true := G.1 _ (List.mem_of_getElem? (i := 267) rfl)
theorem wd_268 {Z : State} {a0 : Array Value} (G : Glb Z a0) : (Jvm.Cond.static ({ cls := "java/lang/Math", name := "max", desc := "(II)I" } : Jvm.MethodName)).before a0 Z = true := G.1 _ (List.mem_of_getElem? (i := 268) rfl)
theorem wd_269 {Z : State} {a0 : Array Value} (G : Glb Z a0) : (Jvm.Cond.code ({ cls := "java/lang/Math", name := "max", desc := "(II)I" } : Jvm.MethodName) jdk_29_method_65_code (2 : Nat) (Option.some Jvm.ClassFile.FieldType.int)).before a0 Z = true := G.1 _ (List.mem_of_getElem? (i := 269) rfl)
theorem wd_270 {Z : State} {a0 : Array Value} (G : Glb Z a0) : (Jvm.Cond.constant "jdk/internal/util/ArraysSupport" (200 : Nat) (2147483639 : Int32)).before a0 Z = true := G.1 _ (List.mem_of_getElem? (i := 270) rfl)
theorem wd_271 {Z : State} {a0 : Array Value} (G : Glb Z a0) : (Jvm.Cond.constant "java/lang/AbstractStringBuilder" (39 : Nat) (2147483647 : Int32)).before a0 Z = true := G.1 _ (List.mem_of_getElem? (i := 271) rfl)
theorem wd_272 {Z : State} {a0 : Array Value} (G : Glb Z a0) : (Jvm.Cond.methodLink "java/lang/AbstractStringBuilder" (108 : Nat) ({ cls := "java/util/Arrays", name := "copyOf", desc := "([BI)[B" } : Jvm.MethodName)).before a0 Z = true := G.1 _ (List.mem_of_getElem? (i := 272) rfl)
theorem wd_273 {Z : State} {a0 : Array Value} (G : Glb Z a0) : (Jvm.Cond.static ({ cls := "java/util/Arrays", name := "copyOf", desc := "([BI)[B" } : Jvm.MethodName)).before a0 Z = true := G.1 _ (List.mem_of_getElem? (i := 273) rfl)
theorem wd_274 {Z : State} {a0 : Array Value} (G : Glb Z a0) : (Jvm.Cond.code ({ cls := "java/util/Arrays", name := "copyOf", desc := "([BI)[B" } : Jvm.MethodName) jdk_65_method_121_code (3 : Nat) (Option.some (Jvm.ClassFile.FieldType.array Jvm.ClassFile.FieldType.byte))).before a0 Z = true := G.1 _ (List.mem_of_getElem? (i := 274) rfl)
theorem wd_275 {Z : State} {a0 : Array Value} (G : Glb Z a0) : (Jvm.Cond.constant "com/example/bell_counter/bellcounter/redis/RedisUrlToStringPinLaw" (41 : Nat) (100000 : Int32)).before a0 Z = true := G.1 _ (List.mem_of_getElem? (i := 275) rfl)
theorem wd_276 {Z : State} {a0 : Array Value} (G : Glb Z a0) : (Jvm.Cond.constant "com/example/bell_counter/bellcounter/redis/RedisUrlToStringPinLaw" (42 : Nat) (1000000 : Int32)).before a0 Z = true := G.1 _ (List.mem_of_getElem? (i := 276) rfl)
theorem wd_277 {Z : State} {a0 : Array Value} (G : Glb Z a0) : (Jvm.Cond.constant "com/example/bell_counter/bellcounter/redis/RedisUrlToStringPinLaw" (43 : Nat) (10000000 : Int32)).before a0 Z = true := G.1 _ (List.mem_of_getElem? (i := 277) rfl)
theorem wd_278 {Z : State} {a0 : Array Value} (G : Glb Z a0) : (Jvm.Cond.constant "com/example/bell_counter/bellcounter/redis/RedisUrlToStringPinLaw" (44 : Nat) (100000000 : Int32)).before a0 Z = true := G.1 _ (List.mem_of_getElem? (i := 278) rfl)
theorem wd_279 {Z : State} {a0 : Array Value} (G : Glb Z a0) : (Jvm.Cond.constant "com/example/bell_counter/bellcounter/redis/RedisUrlToStringPinLaw" (45 : Nat) (1000000000 : Int32)).before a0 Z = true := G.1 _ (List.mem_of_getElem? (i := 279) rfl)
theorem wd_280 {Z : State} {a0 : Array Value} (G : Glb Z a0) : (Jvm.Cond.methodLink "java/util/Arrays" (310 : Nat) ({ cls := "[B", name := "clone", desc := "()Ljava/lang/Object;" } : Jvm.MethodName)).before a0 Z = true := G.1 _ (List.mem_of_getElem? (i := 280) rfl)
theorem wd_281 {Z : State} {a0 : Array Value} (G : Glb Z a0) : (Jvm.Cond.sameMethod "[B" "java/lang/Object" "clone" "()Ljava/lang/Object;").before a0 Z = true := G.1 _ (List.mem_of_getElem? (i := 281) rfl)
theorem wd_283 {Z : State} {a0 : Array Value} (G : Glb Z a0) : (Jvm.Cond.instanceMethod ({ cls := "java/lang/Object", name := "clone", desc := "()Ljava/lang/Object;" } : Jvm.MethodName)).before a0 Z = true := G.1 _ (List.mem_of_getElem? (i := 283) rfl)
theorem wd_284 {Z : State} {a0 : Array Value} (G : Glb Z a0) : (Jvm.Cond.selects "[B" ({ cls := "[B", name := "clone", desc := "()Ljava/lang/Object;" } : Jvm.MethodName) ({ cls := "java/lang/Object", name := "clone", desc := "()Ljava/lang/Object;" } : Jvm.MethodName)).before a0 Z = true := G.1 _ (List.mem_of_getElem? (i := 284) rfl)
theorem wd_285 {Z : State} {a0 : Array Value} (G : Glb Z a0) : (Jvm.Cond.native ({ cls := "java/lang/Object", name := "clone", desc := "()Ljava/lang/Object;" } : Jvm.MethodName)).before a0 Z = true := G.1 _ (List.mem_of_getElem? (i := 285) rfl)
theorem wd_286 {Z : State} {a0 : Array Value} (G : Glb Z a0) : (Jvm.Cond.castable "[B" "java/lang/Cloneable").before a0 Z = true := G.1 _ (List.mem_of_getElem? (i := 286) rfl)
theorem wd_287 {Z : State} {a0 : Array Value} (G : Glb Z a0) : (Jvm.Cond.classLink "java/util/Arrays" (311 : Nat) "[B").before a0 Z = true := G.1 _ (List.mem_of_getElem? (i := 287) rfl)
theorem G_SA {Z : State} {a0 : Array Value} (G : Glb Z a0) : ∀ a ∈ Bundle.stringAtoms, a.before a0 Z = true := fun a ha => G.1 a ((by decide +kernel : ∀ a ∈ Bundle.stringAtoms, a ∈ tables_1) a ha)
theorem G_EL {Z : State} {a0 : Array Value} (G : Glb Z a0) : EW Z a0 EL0 := (show EW Z a0 [("com/example/bell_counter/bellcounter/redis/RedisUrl", 115), ("com/example/bell_counter/bellcounter/redis/RedisUrl", 120), ("com/example/bell_counter/bellcounter/redis/RedisUrl", 132), ("com/example/bell_counter/bellcounter/redis/RedisUrl", 145), ("com/example/bell_counter/bellcounter/redis/RedisUrl", 147)] from EW.cons (wd_255 G) (by decide +kernel) (EW.cons (wd_256 G) (by decide +kernel) (EW.cons (wd_187 G) (by decide +kernel) (EW.cons (wd_65 G) (by decide +kernel) (EW.cons (wd_122 G) (by decide +kernel) (EW.nil))))))
theorem Ct.in {l : Launch} {Z : State} {a0 : Array Value} (G : Glb Z a0) {ml : Nat} {H : HP} {ls : List Slot} {y : MethodName} {bytes : ByteArray} {ret : Option FieldType} {rm : Room} {wz : List Jvm.Cond} {as : List Value} {Q : Option Value → HP → Prop} (hpl : plainFor y = true) (hls : locsOf as ml = ls) (hlen : ls.length = ml)
    (body : ∀ D, Wk l Z a0 EL0 y.cls bytes ml y.name ret rm D 0 ls [] H 0 0 → ∃ v H' k n, Rt Z EL0 D v H' k n ∧ Q v H' ∧ k ≤ rm.cells ∧ n ≤ rm.slots) : Ct l Z EL0 y bytes ml ret rm wz as H Q := Ct.intro hpl (G_EL G) (G_SA G) hls hlen body

/-! numbers -/
theorem n32_toInt {i : Nat} (h : i < 2 ^ 31) : (i.toInt32).toInt = i := by simp [Nat.toInt32, Int32.toInt_ofNat_of_lt h]
theorem n32_lt {i j : Nat} (hi : i < 2 ^ 31) (hj : j < 2 ^ 31) : i.toInt32 < j.toInt32 ↔ i < j := by
  rw [Int32.lt_iff_toInt_lt, n32_toInt hi, n32_toInt hj]; omega
theorem n32_inj {i j : Nat} (hi : i < 2 ^ 31) (hj : j < 2 ^ 31) : i.toInt32 = j.toInt32 ↔ i = j := by
  constructor
  · intro h; have := congrArg Int32.toInt h; rw [n32_toInt hi, n32_toInt hj] at this; omega
  · rintro rfl; rfl
theorem n32_succ (i : Nat) : i.toInt32 + 1 = (i + 1).toInt32 := by
  show Int32.ofNat i + Int32.ofNat 1 = Int32.ofNat (i + 1)
  rw [Int32.ofNat_add]
theorem n32_add (i j : Nat) : i.toInt32 + j.toInt32 = (i + j).toInt32 := by
  show Int32.ofNat i + Int32.ofNat j = Int32.ofNat (i + j)
  rw [Int32.ofNat_add]
theorem n32_shl0 (x : Int32) : x <<< ((0 : Int32) &&& 31) = x := by
  apply Int32.toInt_inj.mp
  have a := c_ishl x 0 0 (by decide)
  have r1 := rng32 (x <<< ((0 : Int32) &&& 31))
  have r2 := rng32 x
  simp only [Nat.pow_zero] at a
  omega

theorem G_compact {Z : State} {a0 : Array Value} (G : Glb Z a0) : ∃ x : Int32, ¬ x = 0 ∧ Sta Z Z.heap "java/lang/String" "COMPACT_STRINGS" "Z" (.int x) := by
  obtain ⟨x, e⟩ := is_v (Cond.before_iff.mp (G.2.1 _ (List.mem_of_getElem? (i := 1) rfl)))
  have n := not_v (Cond.before_iff.mp (G.2.1 _ (List.mem_of_getElem? (i := 2) rfl)))
  exact ⟨x, gotF (Cond.eq_ints e (Term.int_eval 0)) n, Sta.start e (Or.inl (G.2.1 _ (List.mem_of_getElem? (i := 0) rfl)))⟩

theorem stEq {args : Array Value} {s : State} {t : Term} {z : Int32} (h : (Jvm.Cond.eq t (.int z)).value args s none s [] = some true) : t.eval args s none [] s = some (.int z) := by
  obtain ⟨x, y, hx, hy, k1, -⟩ := cmp_v (Or.inl h)
  cases (Term.int_eval z).symm.trans hy
  cases x <;> simp [Kin, Value.isRef] at k1
  rename_i v
  have q : v = z := by simpa [Cond.value, hx, Term.eval] using h
  rw [hx, q]


/-! ## new String(char[]) -/
abbrev chs (cs : List Int32) : List Value := cs.map Value.int
abbrev b8 (c : Int32) : Int32 := c.toInt8.toInt32
abbrev lo8 (cs : List Int32) : List Value := cs.map fun c => Value.int (b8 c)
def pfx : List Int32 → Nat
  | [] => 0
  | c :: r => if (255 : Int32) < c then 0 else pfx r + 1
theorem pfx_le : ∀ cs, pfx cs ≤ cs.length
  | [] => Nat.le_refl _
  | c :: r => by unfold pfx; split <;> simp [pfx_le r]
theorem pfx_all : ∀ {cs}, (∀ c ∈ cs, ¬ (255 : Int32) < c) → pfx cs = cs.length
  | [], _ => rfl
  | c :: r, h => by
    unfold pfx
    rw [if_neg (h c (List.mem_cons_self ..)), pfx_all fun x hx => h x (List.mem_cons_of_mem _ hx)]; rfl
section JStr
variable {l : Launch} {Z : State} {a0 : Array Value} {D : Dyn} {H : HP}
set_option maxRecDepth 65536 in
theorem l_cmp5 (G : Glb Z a0) {s t : Addr} {cs : List Int32} {vs : List Value} (F : Ar Z H s .char (chs cs)) (hl : vs.length = cs.length) (hne : s ≠ t) :
    ∀ (q : List Int32) (i : Nat) (H1 : HP) (s6 : Slot), cs.drop i = q → i ≤ cs.length → Kp H H1 [t] → H1.2 t → Ar Z H1 t .byte (lo8 (cs.take i) ++ vs.drop i) → (s6 = .unset ∨ ∃ x, s6 = .val (.int x)) →
      Wk l Z a0 EL0 "java/lang/StringUTF16" jdk_52_method_21_code 7 "compress" (some .int) ({ frames := 0, cells := 0, slots := 0, locals := 0 } : Room) D 3 [.val (.ref s), .val (.int i.toInt32), .val (.ref t), .val (.int i.toInt32), .val (.int cs.length.toInt32), .val (.int i.toInt32), s6] [] H1 0 0 →
      ∃ H', Rt Z EL0 D (some (.int (i + pfx q).toInt32)) H' 0 0 ∧ Kp H H' [t] ∧ Ar Z H' t .byte (lo8 (cs.take (i + pfx q)) ++ vs.drop (i + pfx q)) := by
  have hn : cs.length < 2 ^ 31 := by simpa using F.len
  intro q
  induction q with
  | nil =>
    intro i H1 s6 hd hi K o T h6 A0
    have e : i = cs.length := by have := List.drop_eq_nil_iff.mp hd; omega
    subst e
    have A1 := A0.run [(3, .iload 5, 5, 0), (5, .iload 4, 7, 0)] (pe := 7) (by decide +kernel) rfl
    have A2 := A1.icT (cd := .ge) (o := 37) (by decide +kernel) Int32.lt_irrefl (pe := 44) (by decide)
    have A3 := A2.run [(44, .iload 4, 46, 0)] (pe := 46) (by decide +kernel) rfl
    have A4 := A3.retI (by decide +kernel)
    exact ⟨_, A4, K, T⟩
  | cons c r ih =>
    intro i H1 s6 hd hi K o T h6 A0
    have hlt : i < cs.length := by
      rcases Nat.lt_or_ge i cs.length with h | h
      · exact h
      · rw [List.drop_eq_nil_of_le h] at hd; cases hd
    have hc : cs[i]? = some c := by have := congrArg List.head? hd; simpa [List.head?_drop] using this
    have hr : cs.drop (i + 1) = r := by have := congrArg List.tail hd; simpa using this
    have A1 := A0.run [(3, .iload 5, 5, 0), (5, .iload 4, 7, 0)] (pe := 7) (by decide +kernel) rfl
    have A2 := A1.icF (cd := .ge) (o := 37) (by decide +kernel) (by show ¬ ¬ _ < _; exact not_not_intro ((n32_lt (by omega) hn).mpr hlt))
    have A3 := A2.run [(10, .aload_n 0, 11, 0), (11, .iload_n 1, 12, 0)] (pe := 12) (by decide +kernel) rfl
    have A4 := A3.caload (F.ky K (by simpa using hne)) (by decide +kernel) rfl (v := .int c) (by simp [hc])
    have A6 : Wk l Z a0 EL0 "java/lang/StringUTF16" jdk_52_method_21_code 7 "compress" (some .int) ({ frames := 0, cells := 0, slots := 0, locals := 0 } : Room) D 20 [.val (.ref s), .val (.int i.toInt32), .val (.ref t), .val (.int i.toInt32), .val (.int cs.length.toInt32), .val (.int i.toInt32), .val (.int c)] [.int 255, .int c] H1 0 0 := by
      rcases h6 with rfl | ⟨x, rfl⟩
      · exact A4.run [(13, .istore 6, 15, 0), (15, .iload 6, 17, 0), (17, .sipush 255, 20, 255)] (pe := 20) (by decide +kernel) rfl
      · exact A4.run [(13, .istore 6, 15, 0), (15, .iload 6, 17, 0), (17, .sipush 255, 20, 255)] (pe := 20) (by decide +kernel) rfl
    by_cases h255 : (255 : Int32) < c
    · have A7 := A6.icF (cd := .le) (o := 6) (by decide +kernel) (by show ¬ ¬ _ < _; exact not_not_intro h255)
      have A8 := A7.run [(23, .iload 5, 25, 0)] (pe := 25) (by decide +kernel) rfl
      have A9 := A8.retI (by decide +kernel)
      have e : pfx (c :: r) = 0 := by simp [pfx, h255]
      rw [e]
      exact ⟨_, A9, K, T⟩
    · have A7 := A6.icT (cd := .le) (o := 6) (by decide +kernel) (by show ¬ _ < _; exact h255) (pe := 26) (by decide)
      have A8 := A7.run [(26, .aload_n 2, 27, 0), (27, .iload_n 3, 28, 0), (28, .iload 6, 30, 0), (30, .i2b, 31, 0)] (pe := 31) (by decide +kernel) rfl
      obtain ⟨H2, A9, K2, T2⟩ := A8.bastore T o (by decide +kernel) rfl (by simp; omega) (x2 := b8 c) (by simp [nar])
      have A10 := A9.run [(32, .iinc 1 1, 35, 1), (35, .iinc 3 1, 38, 1), (38, .iinc 5 1, 41, 1), (41, .goto (-38), 3, 0)] (pe := 3) (by decide +kernel) rfl
      have e : pfx (c :: r) = pfx r + 1 := by simp [pfx, h255]
      have hl2 : (lo8 (cs.take i) ++ vs.drop i).set i (.int (b8 c)) = lo8 (cs.take (i + 1)) ++ vs.drop (i + 1) := by
        have h1 : (lo8 (cs.take i)).length = i := by simp; omega
        have h2 : vs.drop i = vs[i]'(by omega) :: vs.drop (i + 1) := by rw [List.drop_eq_getElem_cons]
        rw [List.set_append_right _ _ (by omega), h1, Nat.sub_self, h2, List.set_cons_zero]
        rw [List.take_add_one, hc]
        simp
      rw [hl2] at T2
      rw [n32_succ] at A10
      obtain ⟨H', B1, B2, B3⟩ := ih (i + 1) H2 _ hr hlt (K.trans K2 fun x hx => Or.inl hx) (K2.2 _ o) T2 (Or.inr ⟨c, rfl⟩) A10
      rw [e]
      rw [show i + (pfx r + 1) = i + 1 + pfx r by omega]
      exact ⟨H', B1, B2, B3⟩
theorem c_cmp5 (G : Glb Z a0) {s t : Addr} {cs : List Int32} {vs : List Value} (F : Ar Z H s .char (chs cs)) (T : Ar Z H t .byte vs) (o : H.2 t) (hl : vs.length = cs.length) (hne : s ≠ t) :
    Ct l Z EL0 (⟨"java/lang/StringUTF16", "compress", "([CI[BII)I"⟩ : MethodName) jdk_52_method_21_code 7 ((some .int)) ({ frames := 0, cells := 0, slots := 0, locals := 0 } : Room) [] [.ref s, .int 0, .ref t, .int 0, .int cs.length.toInt32] H (fun v H' => v = some (.int (pfx cs).toInt32) ∧ Kp H H' [t] ∧ Ar Z H' t .byte (lo8 (cs.take (pfx cs)) ++ vs.drop (pfx cs))) := by
  refine Ct.in G (by first | exact plainFor_of_name (by simp [plainName, overriddenIn]; done) | decide +kernel) (ls := [.val (.ref s), .val (.int 0), .val (.ref t), .val (.int 0), .val (.int cs.length.toInt32), .unset, .unset]) rfl rfl fun D A0 => ?_
  have A1 := A0.run [(0, .iconst 0, 1, 0), (1, .istore 5, 3, 0)] (pe := 3) (by decide +kernel) rfl
  obtain ⟨H', B1, B2, B3⟩ := l_cmp5 G F hl hne cs 0 H .unset rfl (Nat.zero_le _) (Kp.refl H |>.wide fun x hx => nomatch hx) o (by simpa using T) (Or.inl rfl) A1
  rw [Nat.zero_add] at B1 B3
  exact ⟨_, H', 0, 0, B1, ⟨rfl, B2, B3⟩, Nat.le_refl _, Nat.le_refl _⟩
/-- all chars below 256 -/
abbrev Lat (cs : List Int32) : Prop := ∀ c ∈ cs, ¬ (255 : Int32) < c
theorem c_cmp3 (G : Glb Z a0) {s : Addr} {cs : List Int32} (F : Ar Z H s .char (chs cs)) (hn : cs.length ≤ 2) (hla : Lat cs) :
    Ct l Z EL0 (⟨"java/lang/StringUTF16", "compress", "([CII)[B"⟩ : MethodName) jdk_52_method_16_code 6 ((some (.array .byte))) ({ frames := 1, cells := 1, slots := 2, locals := 18 } : Room) [] [.ref s, .int 0, .int cs.length.toInt32] H (fun v H' => ∃ t, v = some (.ref t) ∧ H.1.size ≤ t ∧ Kp H H' [] ∧ Ar Z H' t .byte (lo8 cs) ∧ H'.2 t) := by
  refine Ct.in G (by first | exact plainFor_of_name (by simp [plainName, overriddenIn]; done) | decide +kernel) (ls := [.val (.ref s), .val (.int 0), .val (.int cs.length.toInt32), .unset, .unset, .unset]) rfl rfl fun D A0 => ?_
  have A1 := A0.run [(0, .iload_n 2, 1, 0)] (pe := 1) (by decide +kernel) rfl
  obtain ⟨t, H1, A2, hge, K1, T1, o1⟩ := A1.newA (aty := .byte) (wd_19 G) (by decide +kernel) rfl (cap := 2) hn (by decide) (by decide) (by decide)
  have A3 := A2.run [(3, .astore_n 3, 4, 0), (4, .aload_n 0, 5, 0), (5, .iload_n 1, 6, 0), (6, .aload_n 3, 7, 0), (7, .iconst 0, 8, 0), (8, .iload_n 2, 9, 0)] (pe := 9) (by decide +kernel) rfl
  have hne : s ≠ t := Nat.ne_of_lt (Nat.lt_of_lt_of_le F.lt hge)
  obtain ⟨_, HA4, qA4, A4, moA4, szA4⟩ := A3.callS (argsL := [.ref s, .int 0, .ref t, .int 0, .int cs.length.toInt32]) (wd_20 G) (wd_21 G) (wd_17 G) (wd_22 G) (c_cmp5 G (F.ky K1) T1 o1 (by simp) hne) (by decide) ⟨_, _, (by decide +kernel : parseMethodDescriptor "([CI[BII)I" = some ⟨[(.array .char), .int, (.array .byte), .int, .int], some .int⟩), rfl⟩ (by decide +kernel) (Wd := 0) (by decide) (Nat.le_of_ble_eq_true rfl) (by decide) (by decide) (by decide)
  obtain ⟨rfl, K2, T2⟩ := qA4
  rw [pfx_all hla] at T2 A4
  have A5 := A4.run [(12, .istore 4, 14, 0), (14, .iload 4, 16, 0), (16, .iload_n 2, 17, 0)] (pe := 17) (by decide +kernel) rfl
  have A6 := A5.icT (cd := .eq) (o := 40) (by decide +kernel) rfl (pe := 57) (by decide)
  have A7 := A6.run [(57, .aload_n 3, 58, 0)] (pe := 58) (by decide +kernel) rfl
  have A8 := A7.retA (by decide +kernel) rfl rfl
  refine ⟨_, _, _, _, A8, ⟨t, rfl, hge, K1.trans K2 (fun x hx => Or.inr ?_), by simpa using T2, moA4 _ o1⟩, by decide, by decide⟩
  cases List.mem_singleton.mp hx; exact hge
theorem c_cfa (G : Glb Z a0) {t : Addr} {n : Nat} {vs : List Value} (F : Ar Z H t .byte vs) (hl : vs.length = n) :
    Ct l Z EL0 (⟨"java/lang/StringUTF16", "coderFromArrayLen", "([BI)B"⟩ : MethodName) jdk_52_method_15_code 2 ((some .byte)) ({ frames := 0, cells := 0, slots := 0, locals := 0 } : Room) [] [.ref t, .int n.toInt32] H (fun v H' => v = some (.int 0) ∧ H = H') := by
  refine Ct.in G (by first | exact plainFor_of_name (by simp [plainName, overriddenIn]; done) | decide +kernel) (ls := [.val (.ref t), .val (.int n.toInt32)]) rfl rfl fun D A0 => ?_
  have A1 := A0.run [(0, .iload_n 1, 1, 0), (1, .aload_n 0, 2, 0)] (pe := 2) (by decide +kernel) rfl
  have A2 := A1.alen F (by decide +kernel) (z := n.toInt32) (by rw [hl])
  have A3 := A2.run [(3, .isub, 4, 0), (4, .bipush 31, 6, 31), (6, .iushr, 7, 0), (7, .i2b, 8, 0)] (pe := 8) (by decide +kernel) rfl
  have A4 := A3.retB (by decide +kernel) (x2 := 0) (by rw [Int32.sub_self]; decide)
  exact ⟨_, _, _, _, A4, ⟨rfl, rfl⟩, Nat.le_refl _, Nat.le_refl _⟩
/-- a char's value -/
abbrev isC (c : Int32) : Prop := 0 ≤ c.toInt ∧ c.toInt < 65536
abbrev e16 (c : Int32) : List Value := [.int (b8 c), .int (b8 (c >>> (8 &&& 31)))]
abbrev enc16 (cs : List Int32) : List Value := cs.flatMap e16
/-- the String a says cs -/
def Str (Z : State) (H : HP) (a : Addr) (cs : List Int32) : Prop := Exa Z H.1 a "java/lang/String" ∧ (∀ c ∈ cs, isC c) ∧ ∃ t, Fld Z H.1 a "java/lang/String" "value" "[B" (.ref t) ∧
  (Lat cs ∧ Fld Z H.1 a "java/lang/String" "coder" "B" (.int 0) ∧ Ar Z H t .byte (lo8 cs) ∨ ¬ Lat cs ∧ Fld Z H.1 a "java/lang/String" "coder" "B" (.int 1) ∧ Ar Z H t .byte (enc16 cs))
theorem Str.ky {H H' : HP} {a : Addr} {cs : List Int32} (S : Str Z H a cs) (K : Kp H H' []) : Str Z H' a cs := by
  obtain ⟨h1, h2, t, h3, h4⟩ := S
  exact ⟨h1.ky K, h2, t, h3.ky K, h4.imp (fun ⟨q1, q2, q3⟩ => ⟨q1, q2.ky K, q3.ky K⟩) (fun ⟨q1, q2, q3⟩ => ⟨q1, q2.ky K, q3.ky K⟩)⟩
theorem Ar.kyE {H H' : HP} {t x : Addr} {ty : FieldType} {vs : List Value} {C : String} {q : Nat} (F : Ar Z H t ty vs) (K : Kp H H' [x]) (E : Exa Z H.1 x C) (wi : (Jvm.Cond.instantiable C q).before a0 Z = true) : Ar Z H' t ty vs :=
  F.ky K (by obtain ⟨c, A, -⟩ := F; simpa using Ne.symm (ne_arr E wi A))
theorem Str.kyE {H H' : HP} {a x : Addr} {cs : List Int32} {C : String} {q : Nat} (S : Str Z H a cs) (K : Kp H H' [x]) (E : Exa Z H.1 x C) (hC : C ≠ "java/lang/String") (wi : (Jvm.Cond.instantiable C q).before a0 Z = true) : Str Z H' a cs := by
  obtain ⟨h1, h2, t, h3, h4⟩ := S
  have ha : a ∉ [x] := by simpa using Ne.symm (ne_exa E h1 hC)
  exact ⟨h1.ky K, h2, t, h3.ky K ha, h4.imp (fun ⟨q1, q2, q3⟩ => ⟨q1, q2.ky K ha, q3.kyE K E wi⟩) (fun ⟨q1, q2, q3⟩ => ⟨q1, q2.ky K ha, q3.kyE K E wi⟩)⟩
theorem Str.lt {H : HP} {a : Addr} {cs : List Int32} (S : Str Z H a cs) : a < H.1.size := S.1.lt
theorem Str.opL {H : HP} {a : Addr} {cs : List Int32} (S : Str Z H a cs) (h : Lat cs) : Exa Z H.1 a "java/lang/String" ∧ ∃ t, Fld Z H.1 a "java/lang/String" "value" "[B" (.ref t) ∧ Fld Z H.1 a "java/lang/String" "coder" "B" (.int 0) ∧ Ar Z H t .byte (lo8 cs) := by
  obtain ⟨h1, h2, t, h3, h4⟩ := S
  rcases h4 with ⟨-, q⟩ | ⟨q, -⟩
  · exact ⟨h1, t, h3, q⟩
  · exact absurd h q
theorem Str.opU {H : HP} {a : Addr} {cs : List Int32} (S : Str Z H a cs) (h : ¬ Lat cs) : Exa Z H.1 a "java/lang/String" ∧ ∃ t, Fld Z H.1 a "java/lang/String" "value" "[B" (.ref t) ∧ Fld Z H.1 a "java/lang/String" "coder" "B" (.int 1) ∧ Ar Z H t .byte (enc16 cs) := by
  obtain ⟨h1, h2, t, h3, h4⟩ := S
  rcases h4 with ⟨q, -⟩ | ⟨-, q⟩
  · exact absurd q h
  · exact ⟨h1, t, h3, q⟩
theorem isC_of {H : HP} {s : Addr} {cs : List Int32} (F : Ar Z H s .char (chs cs)) : ∀ c ∈ cs, isC c := fun c hc => by
  have h := rng_char (F.fits (.int c) (List.mem_map_of_mem hc))
  rw [Int32.lt_iff_toInt_lt, Int32.lt_iff_toInt_lt] at h
  have e1 : (0 : Int32).toInt = 0 := by decide
  have e2 : (65535 : Int32).toInt = 65535 := by decide
  omega
set_option maxRecDepth 65536 in
theorem c_sI4L (G : Glb Z a0) {x s : Addr} {cs : List Int32} (F : Ar Z H s .char (chs cs)) (hn : cs.length ≤ 2) (h0 : cs ≠ []) (hla : Lat cs) (E : Exa Z H.1 x "java/lang/String") (V : Fld Z H.1 x "java/lang/String" "value" "[B" .null) (C : Fld Z H.1 x "java/lang/String" "coder" "B" (.int 0)) (o : H.2 x) :
    Ct l Z EL0 (⟨"java/lang/String", "<init>", "([CIILjava/lang/Void;)V"⟩ : MethodName) jdk_42_method_149_code 6 (none) ({ frames := 2, cells := 4, slots := 4, locals := 35 } : Room) [] [.ref x, .ref s, .int 0, .int cs.length.toInt32, .null] H (fun v H' => v = none ∧ Kp H H' [x] ∧ Str Z H' x cs) := by
  refine Ct.in G (by first | exact plainFor_of_name (by simp [plainName, overriddenIn]; done) | decide +kernel) (ls := [.val (.ref x), .val (.ref s), .val (.int 0), .val (.int cs.length.toInt32), .val .null, .unset]) rfl rfl fun D A0 => ?_
  have hn31 : cs.length < 2 ^ 31 := by omega
  obtain ⟨cz, hcz, cS⟩ := G_compact G
  have A1 := A0.run [(0, .aload_n 0, 1, 0)] (pe := 1) (by decide +kernel) rfl
  have A2 := A1.initO (wd_11 G) (wd_12 G) (wd_13 G) (by decide +kernel) (Wd := 0) (by decide) (Nat.le_of_ble_eq_true rfl) (by decide)
  have A3 := A2.run [(4, .iload_n 3, 5, 0)] (pe := 5) (by decide +kernel) rfl
  have A4 := A3.ifT (cd := .ne) (o := 22) (by decide +kernel) (by show ¬ _ = _; exact fun e => h0 (List.length_eq_zero_iff.mp ((n32_inj (j := 0) hn31 (by decide)).mp e))) (pe := 27) (by decide)
  have A5 := A4.getS (wd_14 G) cS (by decide +kernel)
  have A6 := A5.ifF (cd := .eq) (o := 28) (by decide +kernel) hcz
  have A7 := A6.run [(33, .aload_n 1, 34, 0), (34, .iload_n 2, 35, 0), (35, .iload_n 3, 36, 0)] (pe := 36) (by decide +kernel) rfl
  obtain ⟨_, HA8, qA8, A8, moA8, szA8⟩ := A7.callS (argsL := [.ref s, .int 0, .int cs.length.toInt32]) (wd_15 G) (wd_16 G) (wd_17 G) (wd_18 G) (c_cmp3 G F hn hla) (by decide) ⟨_, _, (by decide +kernel : parseMethodDescriptor "([CII)[B" = some ⟨[(.array .char), .int, .int], some (.array .byte)⟩), rfl⟩ (by decide +kernel) (Wd := 0) (by decide) (Nat.le_of_ble_eq_true rfl) (by decide) (by decide) (by decide)
  obtain ⟨t, rfl, hge, K1, T1, o1⟩ := qA8
  have A9 := A8.run [(39, .astore 5, 41, 0), (41, .aload_n 0, 42, 0), (42, .aload 5, 44, 0), (44, .iload_n 3, 45, 0)] (pe := 45) (by decide +kernel) rfl
  obtain ⟨_, HA10, qA10, A10, moA10, szA10⟩ := A9.callS (argsL := [.ref t, .int cs.length.toInt32]) (wd_23 G) (wd_24 G) (wd_17 G) (wd_25 G) (c_cfa G T1 (by simp)) (by decide) ⟨_, _, (by decide +kernel : parseMethodDescriptor "([BI)B" = some ⟨[(.array .byte), .int], some .byte⟩), rfl⟩ (by decide +kernel) (Wd := 1) (by decide) (Nat.le_of_ble_eq_true rfl) (by decide) (by decide) (by decide)
  obtain ⟨rfl, rfl⟩ := qA10
  obtain ⟨H2, A11, K2, W2⟩ := A10.putFin (wd_26 G) (C.ky K1) (E.ky K1) (wd_27 G) rfl rfl (wd_2 G) (K1.2 _ o) (by decide +kernel) (ty := .byte) (by decide) rfl rfl
  have A12 := A11.run [(51, .aload_n 0, 52, 0), (52, .aload 5, 54, 0)] (pe := 54) (by decide +kernel) rfl
  have V2 := (V.ky K1).other W2 (Or.inr (slot_ne (Or.inr (wd_29 G)) (Or.inr (wd_27 G)) (by decide) (t := .array .byte) (by decide) (t' := .byte) (by decide)))
  obtain ⟨H3, A13, K3, W3⟩ := A12.putFin (wd_28 G) V2 ((E.ky K1).ky K2) (wd_29 G) rfl rfl (wd_2 G) (K2.2 _ (K1.2 _ o)) (by decide +kernel) (ty := .array .byte) (by decide) rfl rfl
  have A14 := A13.ret (by decide +kernel)
  have hxt : t ≠ x := Nat.ne_of_gt (Nat.lt_of_lt_of_le E.lt hge)
  have C3 := ((C.ky K1).same W2).other W3 (Or.inr (slot_ne (Or.inr (wd_27 G)) (Or.inr (wd_29 G)) (by decide) (t := .byte) (by decide) (t' := .array .byte) (by decide)))
  refine ⟨_, _, _, _, A14, ⟨rfl, (K1.wide fun x hx => nomatch hx).trans (K2.trans K3 fun x hx => Or.inl hx) fun x hx => Or.inl hx, (((E.ky K1).ky K2).ky K3), isC_of F, t, V2.same W3, Or.inl ⟨hla, C3, (T1.ky K2 (by simpa using hxt)).ky K3 (by simpa using hxt)⟩⟩, by decide, by decide⟩
theorem c_sI1 (G : Glb Z a0) {x s : Addr} {cs : List Int32} (F : Ar Z H s .char (chs cs)) (M : Ct l Z EL0 (⟨"java/lang/String", "<init>", "([CIILjava/lang/Void;)V"⟩ : MethodName) jdk_42_method_149_code 6 (none) ({ frames := 2, cells := 4, slots := 4, locals := 35 } : Room) [] [.ref x, .ref s, .int 0, .int cs.length.toInt32, .null] H (fun v H' => v = none ∧ Kp H H' [x] ∧ Str Z H' x cs)) :
    Ct l Z EL0 (⟨"java/lang/String", "<init>", "([C)V"⟩ : MethodName) jdk_42_method_3_code 2 (none) ({ frames := 3, cells := 4, slots := 4, locals := 52 } : Room) [] [.ref x, .ref s] H (fun v H' => v = none ∧ Kp H H' [x] ∧ Str Z H' x cs) := by
  refine Ct.in G (by first | exact plainFor_of_name (by simp [plainName, overriddenIn]; done) | decide +kernel) (ls := [.val (.ref x), .val (.ref s)]) rfl rfl fun D A0 => ?_
  have A1 := A0.run [(0, .aload_n 0, 1, 0), (1, .aload_n 1, 2, 0), (2, .iconst 0, 3, 0), (3, .aload_n 1, 4, 0)] (pe := 4) (by decide +kernel) rfl
  have A2 := A1.alen F (by decide +kernel) (z := cs.length.toInt32) (by simp)
  have A3 := A2.run [(5, .aconst_null, 6, 0)] (pe := 6) (by decide +kernel) rfl
  obtain ⟨_, HA4, qA4, A4, moA4, szA4⟩ := A3.callI (argsL := [.ref s, .int 0, .int cs.length.toInt32, .null]) rfl (wd_7 G) (wd_8 G) (wd_3 G) (wd_10 G) (M) (by decide) ⟨_, _, (by decide +kernel : parseMethodDescriptor "([CIILjava/lang/Void;)V" = some ⟨[(.array .char), .int, .int, (.object "java/lang/Void")], none⟩), rfl⟩ (by decide +kernel) (Wd := 0) (by decide) (Nat.le_of_ble_eq_true rfl) (by decide) (by decide) (by decide)
  obtain ⟨rfl, K1, S1⟩ := qA4
  have A5 := A4.ret (by decide +kernel)
  exact ⟨_, _, _, _, A5, ⟨rfl, K1, S1⟩, by decide, by decide⟩
end JStr

theorem b8_back {c : Int32} (h : isC c) (h2 : ¬ (255 : Int32) < c) : (b8 c &&& 255).toUInt32.toUInt16.toUInt32.toInt32 = c := by
  rw [i2c_mask]
  apply Int32.toInt_inj.mp
  rw [c_mask _ 255 8 (by decide) (by decide)]
  have h3 := c_i2b c
  show (b8 c).toInt % _ = _
  simp only [b8] at *
  rw [Int32.lt_iff_toInt_lt, show (255 : Int32).toInt = 255 by decide] at h2
  omega
theorem b8_back' {c : Int32} (h : isC c) (h2 : ¬ (255 : Int32) < c) : b8 c &&& 255 = c := by rw [← i2c_mask]; exact b8_back h h2
theorem isC_nar {c : Int32} (h : isC c) : nar .char c = c := by
  apply Int32.toInt_inj.mp
  have := c_i2c c
  show (c.toUInt32.toUInt16.toUInt32.toInt32).toInt = _
  omega
theorem okc_mask (i : Int32) : isC (i &&& 255) ∧ ¬ (255 : Int32) < i &&& 255 := by
  have h := c_and i 255 (by decide)
  have e : (255 : Int32).toInt = 255 := by decide
  rw [Int32.lt_iff_toInt_lt]
  simp only [isC]; omega
theorem okc_i2c (i : Int32) : (i &&& 255).toUInt32.toUInt16.toUInt32.toInt32 = i &&& 255 := i2c_mask i
theorem lat1 {a : Int32} (ha : ¬ (255 : Int32) < a) : Lat [a] := fun e he => by simp at he; subst he; exact ha
theorem latC {a : Int32} {cs : List Int32} (ha : ¬ (255 : Int32) < a) (h : Lat cs) : Lat (a :: cs) := fun e he => by
  rcases List.mem_cons.mp he with rfl | he
  · exact ha
  · exact h e he
theorem lat2 {a b : Int32} (ha : ¬ (255 : Int32) < a) (hb : ¬ (255 : Int32) < b) : Lat [a, b] := latC ha (lat1 hb)
theorem lat3 {a b c : Int32} (ha : ¬ (255 : Int32) < a) (hb : ¬ (255 : Int32) < b) (hc : ¬ (255 : Int32) < c) : Lat [a, b, c] := latC ha (lat2 hb hc)

/-! longs -/
theorem n64_toInt {i : Nat} (h : i < 2 ^ 63) : (i.toInt64).toInt = i := by simp [Nat.toInt64, Int64.toInt_ofNat_of_lt h]
theorem n64_inj {i j : Nat} (hi : i < 2 ^ 63) (hj : j < 2 ^ 63) : i.toInt64 = j.toInt64 ↔ i = j := by
  constructor
  · intro h; have := congrArg Int64.toInt h; rw [n64_toInt hi, n64_toInt hj] at this; omega
  · rintro rfl; rfl
theorem n64_add (i j : Nat) : i.toInt64 + j.toInt64 = (i + j).toInt64 := by
  show Int64.ofNat i + Int64.ofNat j = Int64.ofNat (i + j)
  rw [Int64.ofNat_add]
theorem n64_mul (i j : Nat) : i.toInt64 * j.toInt64 = (i * j).toInt64 := by
  show Int64.ofNat i * Int64.ofNat j = Int64.ofNat (i * j)
  rw [Int64.ofNat_mul]
theorem n64_div {i j : Nat} (hi : i < 2 ^ 63) (hj : j < 2 ^ 63) : i.toInt64 / j.toInt64 = (i / j).toInt64 := by
  have q : i / j < 2 ^ 63 := Nat.lt_of_le_of_lt (Nat.div_le_self _ _) hi
  apply Int64.toInt_inj.mp
  have h1 : j.toInt64 ≠ -1 := fun e => by have := congrArg Int64.toInt e; rw [n64_toInt hj, show (-1 : Int64).toInt = -1 by decide] at this; omega
  rw [(c_ldiv i.toInt64 j.toInt64 j (n64_toInt hj) h1).1 (by rw [n64_toInt hi]; omega), n64_toInt hi, n64_toInt q]
  rfl
theorem n64_mod {i j : Nat} (hi : i < 2 ^ 63) (hj : j < 2 ^ 63) : i.toInt64 % j.toInt64 = (i % j).toInt64 := by
  have q : i % j < 2 ^ 63 := Nat.lt_of_le_of_lt (Nat.mod_le _ _) hi
  apply Int64.toInt_inj.mp
  have h := (c_lrem i.toInt64 j.toInt64 j (n64_toInt hj)).1 (by rw [n64_toInt hi]; omega)
  rw [lrem_mod] at h
  rw [h, n64_toInt hi, n64_toInt q]
  rfl
theorem n64_32 (i : Nat) : i.toInt64.toInt32 = i.toInt32 := by
  apply Int32.toInt_inj.mp
  rw [Int64.toInt_toInt32]
  simp only [Nat.toInt64, Nat.toInt32, Int64.toInt_ofNat', Int32.toInt_ofNat']
  exact Int.bmod_bmod_of_dvd (by decide)
theorem n32_64 {i : Nat} (h : i < 2 ^ 31) : i.toInt32.toInt64 = i.toInt64 := by
  apply Int64.toInt_inj.mp
  rw [c_i2l, n32_toInt h, n64_toInt (by omega)]
theorem n32_sub {i j : Nat} (h : j ≤ i) : i.toInt32 - j.toInt32 = (i - j).toInt32 := by
  have e : i.toInt32 = (i - j).toInt32 + j.toInt32 := by rw [n32_add]; congr 1; omega
  rw [e, Int32.add_sub_cancel]
theorem n32_c {i : Nat} (h : i < 65536) : isC i.toInt32 := by
  have := n32_toInt (i := i) (by omega)
  simp only [isC]; omega
theorem n32_i2c {i : Nat} (h : i < 65536) : i.toInt32.toUInt32.toUInt16.toUInt32.toInt32 = i.toInt32 := isC_nar (n32_c h)
theorem cmp_same (x : Int64) : XT.cmpL x x = 0 := by simp [XT.cmpL]


section JLen
variable {l : Launch} {Z : State} {a0 : Array Value} {D : Dyn} {H : HP}
theorem enc16_len : ∀ cs : List Int32, (enc16 cs).length = 2 * cs.length
  | [] => rfl
  | c :: r => by have := enc16_len r; simp only [enc16, List.flatMap_cons, List.length_append] at this ⊢; simp [e16]; simp at this; omega
theorem c_sCod (G : Glb Z a0) {a : Addr} {b : Int32} (F : Fld Z H.1 a "java/lang/String" "coder" "B" (.int b)) (hb : b = 0 ∨ b = 1) :
    Ct l Z EL0 (⟨"java/lang/String", "coder", "()B"⟩ : MethodName) jdk_42_method_152_code 1 ((some .byte)) ({ frames := 0, cells := 0, slots := 0, locals := 0 } : Room) [] [.ref a] H (fun v H' => v = some (.int b) ∧ H = H') := by
  refine Ct.in G (by first | exact plainFor_of_name (by simp [plainName, overriddenIn]; done) | decide +kernel) (ls := [.val (.ref a)]) rfl rfl fun D A0 => ?_
  obtain ⟨cz, hcz, cS⟩ := G_compact G
  have A1 := A0.getS (wd_14 G) cS (by decide +kernel)
  have A2 := A1.ifF (cd := .eq) (o := 10) (by decide +kernel) hcz
  have A3 := A2.run [(6, .aload_n 0, 7, 0)] (pe := 7) (by decide +kernel) rfl
  have A4 := A3.getF (wd_26 G) F (by decide +kernel)
  have A5 := A4.run [(10, .goto 4, 14, 0)] (pe := 14) (by decide +kernel) rfl
  exact ⟨_, _, _, _, A5.retB (by decide +kernel) (x2 := b) (by rcases hb with rfl | rfl <;> decide), ⟨rfl, rfl⟩, by decide, by decide⟩
theorem n32_shr1 {n : Nat} (h : 2 * n < 2 ^ 31) : (2 * n).toInt32 >>> ((1 : Int32) &&& 31) = n.toInt32 := by
  apply Int32.toInt_inj.mp
  rw [c_ishr _ 1 1 (by decide), n32_toInt h, n32_toInt (by omega)]
  omega
theorem n32_shr0 (x : Int32) : x >>> ((0 : Int32) &&& 31) = x := by
  apply Int32.toInt_inj.mp
  rw [c_ishr _ 0 0 (by decide)]; simp
theorem c_sLen (G : Glb Z a0) {a : Addr} {cs : List Int32} (S : Str Z H a cs) :
    Ct l Z EL0 (⟨"java/lang/String", "length", "()I"⟩ : MethodName) jdk_42_method_54_code 1 ((some .int)) ({ frames := 1, cells := 0, slots := 0, locals := 13 } : Room) [] [.ref a] H (fun v H' => v = some (.int cs.length.toInt32) ∧ H = H') := by
  refine Ct.in G (by first | exact plainFor_of_name (by simp [plainName, overriddenIn]; done) | decide +kernel) (ls := [.val (.ref a)]) rfl rfl fun D A0 => ?_
  obtain ⟨E, hC, t, F, q⟩ := S
  have A1 := A0.run [(0, .aload_n 0, 1, 0)] (pe := 1) (by decide +kernel) rfl
  have A2 := A1.getF (wd_28 G) F (by decide +kernel)
  rcases q with ⟨-, C, T⟩ | ⟨-, C, T⟩
  · have A3 := A2.alen T (by decide +kernel) (z := cs.length.toInt32) (by simp)
    have A4 := A3.run [(5, .aload_n 0, 6, 0)] (pe := 6) (by decide +kernel) rfl
    obtain ⟨_, HA5, qA5, A5, moA5, szA5⟩ := A4.callV (argsL := []) (wd_87 G) (wd_88 G) (wd_90 G) rfl (wd_90 G) (wd_89 G) (wd_3 G) (wd_91 G) E (c_sCod G C (Or.inl rfl)) (by decide) ⟨_, _, (by decide +kernel : parseMethodDescriptor "()B" = some ⟨[], some .byte⟩), rfl⟩ (by decide +kernel) (Wd := 1) (by decide) (Nat.le_of_ble_eq_true rfl) (by decide) (by decide) (by decide)
    obtain ⟨rfl, rfl⟩ := qA5
    have A6 := A5.run [(9, .ishr, 10, 0)] (pe := 10) (by decide +kernel) rfl
    rw [n32_shr0] at A6
    exact ⟨_, _, _, _, A6.retI (by decide +kernel), ⟨rfl, rfl⟩, by decide, by decide⟩
  · have A3 := A2.alen T (by decide +kernel) (z := (2 * cs.length).toInt32) (by rw [enc16_len])
    have A4 := A3.run [(5, .aload_n 0, 6, 0)] (pe := 6) (by decide +kernel) rfl
    obtain ⟨_, HA5, qA5, A5, moA5, szA5⟩ := A4.callV (argsL := []) (wd_87 G) (wd_88 G) (wd_90 G) rfl (wd_90 G) (wd_89 G) (wd_3 G) (wd_91 G) E (c_sCod G C (Or.inr rfl)) (by decide) ⟨_, _, (by decide +kernel : parseMethodDescriptor "()B" = some ⟨[], some .byte⟩), rfl⟩ (by decide +kernel) (Wd := 1) (by decide) (Nat.le_of_ble_eq_true rfl) (by decide) (by decide) (by decide)
    obtain ⟨rfl, rfl⟩ := qA5
    have A6 := A5.run [(9, .ishr, 10, 0)] (pe := 10) (by decide +kernel) rfl
    rw [n32_shr1 (by rw [← enc16_len]; exact T.len)] at A6
    exact ⟨_, _, _, _, A6.retI (by decide +kernel), ⟨rfl, rfl⟩, by decide, by decide⟩
end JLen


section JCh
variable {l : Launch} {Z : State} {a0 : Array Value} {D : Dyn} {H : HP}
theorem G_fmt {Z : State} {a0 : Array Value} (G : Glb Z a0) : ∃ x : Value, x.isRef = true ∧ Sta Z Z.heap "jdk/internal/util/Preconditions" "SIOOBE_FORMATTER" "Ljava/util/function/BiFunction;" x := by
  obtain ⟨x, e, r⟩ := isR_v (Cond.before_iff.mp (G.2.1 _ (List.mem_of_getElem? (i := 8) rfl)))
  exact ⟨x, r, Sta.start e (Or.inl (G.2.1 _ (List.mem_of_getElem? (i := 7) rfl)))⟩
theorem c_isL (G : Glb Z a0) {a : Addr} {b : Int32} (F : Fld Z H.1 a "java/lang/String" "coder" "B" (.int b)) (r : Int32) (hb : b = 0 ∧ r = 1 ∨ b = 1 ∧ r = 0) :
    Ct l Z EL0 (⟨"java/lang/String", "isLatin1", "()Z"⟩ : MethodName) jdk_42_method_154_code 1 ((some .boolean)) ({ frames := 0, cells := 0, slots := 0, locals := 0 } : Room) [] [.ref a] H (fun v H' => v = some (.int r) ∧ H = H') := by
  refine Ct.in G (by first | exact plainFor_of_name (by simp [plainName, overriddenIn]; done) | decide +kernel) (ls := [.val (.ref a)]) rfl rfl fun D A0 => ?_
  obtain ⟨cz, hcz, cS⟩ := G_compact G
  have A1 := A0.getS (wd_14 G) cS (by decide +kernel)
  have A2 := A1.ifF (cd := .eq) (o := 14) (by decide +kernel) hcz
  have A3 := A2.run [(6, .aload_n 0, 7, 0)] (pe := 7) (by decide +kernel) rfl
  have A4 := A3.getF (wd_26 G) F (by decide +kernel)
  rcases hb with ⟨rfl, rfl⟩ | ⟨rfl, rfl⟩
  · have A5 := A4.ifF (cd := .ne) (o := 7) (by decide +kernel) (by show ¬ ¬ _ = _; decide)
    have A6 := A5.run [(13, .iconst 1, 14, 1), (14, .goto 4, 18, 0)] (pe := 18) (by decide +kernel) rfl
    exact ⟨_, _, _, _, A6.retZ (by decide +kernel) rfl, ⟨rfl, rfl⟩, by decide, by decide⟩
  · have A5 := A4.ifT (cd := .ne) (o := 7) (by decide +kernel) (by show ¬ _ = _; decide) (pe := 17) (by decide)
    have A6 := A5.run [(17, .iconst 0, 18, 0)] (pe := 18) (by decide +kernel) rfl
    exact ⟨_, _, _, _, A6.retZ (by decide +kernel) rfl, ⟨rfl, rfl⟩, by decide, by decide⟩
theorem c_pci (G : Glb Z a0) {i n : Nat} {f : Value} (hf : f.isRef = true) (hi : i < n) (hn : n < 2 ^ 31) :
    Ct l Z EL0 (⟨"jdk/internal/util/Preconditions", "checkIndex", "(IILjava/util/function/BiFunction;)I"⟩ : MethodName) jdk_41_method_11_code 3 ((some .int)) ({ frames := 0, cells := 0, slots := 0, locals := 0 } : Room) [] [.int i.toInt32, .int n.toInt32, f] H (fun v H' => v = some (.int i.toInt32) ∧ H = H') := by
  have key : ∀ s : Slot, locsOf [.int i.toInt32, .int n.toInt32, f] 3 = [.val (.int i.toInt32), .val (.int n.toInt32), s] → Ct l Z EL0 (⟨"jdk/internal/util/Preconditions", "checkIndex", "(IILjava/util/function/BiFunction;)I"⟩ : MethodName) jdk_41_method_11_code 3 ((some .int)) ({ frames := 0, cells := 0, slots := 0, locals := 0 } : Room) [] [.int i.toInt32, .int n.toInt32, f] H (fun v H' => v = some (.int i.toInt32) ∧ H = H') := by
    intro s hs
    refine Ct.in G (by first | exact plainFor_of_name (by simp [plainName, overriddenIn]; done) | decide +kernel) (ls := [.val (.int i.toInt32), .val (.int n.toInt32), s]) hs rfl fun D A0 => ?_
    have A1 := A0.run [(0, .iload_n 0, 1, 0)] (pe := 1) (by decide +kernel) rfl
    have A2 := A1.ifF (cd := .lt) (o := 8) (by decide +kernel) (nonneg_nat (by omega))
    have A3 := A2.run [(4, .iload_n 0, 5, 0), (5, .iload_n 1, 6, 0)] (pe := 6) (by decide +kernel) rfl
    have A4 := A3.icT (cd := .lt) (o := 10) (by decide +kernel) ((n32_lt (by omega) hn).mpr hi) (pe := 16) (by decide)
    have A5 := A4.run [(16, .iload_n 0, 17, 0)] (pe := 17) (by decide +kernel) rfl
    exact ⟨_, _, _, _, A5.retI (by decide +kernel), ⟨rfl, rfl⟩, by decide, by decide⟩
  rcases ref_cases hf with rfl | ⟨x, rfl⟩ <;> exact key _ rfl
theorem c_sci (G : Glb Z a0) {i n : Nat} (hi : i < n) (hn : n < 2 ^ 31) :
    Ct l Z EL0 (⟨"java/lang/String", "checkIndex", "(II)V"⟩ : MethodName) jdk_42_method_155_code 2 (none) ({ frames := 1, cells := 0, slots := 0, locals := 14 } : Room) [] [.int i.toInt32, .int n.toInt32] H (fun v H' => v = none ∧ H = H') := by
  refine Ct.in G (by first | exact plainFor_of_name (by simp [plainName, overriddenIn]; done) | decide +kernel) (ls := [.val (.int i.toInt32), .val (.int n.toInt32)]) rfl rfl fun D A0 => ?_
  obtain ⟨f, hf, fS⟩ := G_fmt G
  have A1 := A0.run [(0, .iload_n 0, 1, 0), (1, .iload_n 1, 2, 0)] (pe := 2) (by decide +kernel) rfl
  have A2 := A1.getS (wd_241 G) fS (by decide +kernel)
  obtain ⟨_, HA3, qA3, A3, moA3, szA3⟩ := A2.callS (argsL := [.int i.toInt32, .int n.toInt32, f]) (wd_243 G) (wd_244 G) (wd_242 G) (wd_245 G) (c_pci G hf hi hn) (by decide) ⟨_, _, (by decide +kernel : parseMethodDescriptor "(IILjava/util/function/BiFunction;)I" = some ⟨[.int, .int, (.object "java/util/function/BiFunction")], some .int⟩), rfl⟩ (by decide +kernel) (Wd := 0) (by decide) (Nat.le_of_ble_eq_true rfl) (by decide) (by decide) (by decide)
  obtain ⟨rfl, rfl⟩ := qA3
  have A4 := A3.run [(8, .pop, 9, 0)] (pe := 9) (by decide +kernel) rfl
  exact ⟨_, _, _, _, A4.ret (by decide +kernel), ⟨rfl, rfl⟩, by decide, by decide⟩
end JCh


section JCh1
variable {l : Launch} {Z : State} {a0 : Array Value} {D : Dyn} {H : HP}
theorem c_lch (G : Glb Z a0) {t : Addr} {cs : List Int32} {i : Nat} {c : Int32} (T : Ar Z H t .byte (lo8 cs)) (hla : Lat cs) (hC : ∀ c ∈ cs, isC c) (hc : cs[i]? = some c) :
    Ct l Z EL0 (⟨"java/lang/StringLatin1", "charAt", "([BI)C"⟩ : MethodName) jdk_43_method_2_code 2 ((some .char)) ({ frames := 2, cells := 0, slots := 0, locals := 27 } : Room) [] [.ref t, .int i.toInt32] H (fun v H' => v = some (.int c) ∧ H = H') := by
  refine Ct.in G (by first | exact plainFor_of_name (by simp [plainName, overriddenIn]; done) | decide +kernel) (ls := [.val (.ref t), .val (.int i.toInt32)]) rfl rfl fun D A0 => ?_
  have hi : i < cs.length := (List.getElem?_eq_some_iff.mp hc).1
  have hm : c ∈ cs := List.mem_of_getElem? hc
  have hn : cs.length < 2 ^ 31 := by simpa using T.len
  have A1 := A0.run [(0, .iload_n 1, 1, 0), (1, .aload_n 0, 2, 0)] (pe := 2) (by decide +kernel) rfl
  have A2 := A1.alen T (by decide +kernel) (z := cs.length.toInt32) (by simp)
  obtain ⟨_, HA3, qA3, A3, moA3, szA3⟩ := A2.callS (argsL := [.int i.toInt32, .int cs.length.toInt32]) (wd_238 G) (wd_239 G) (wd_3 G) (wd_240 G) (c_sci G hi hn) (by decide) ⟨_, _, (by decide +kernel : parseMethodDescriptor "(II)V" = some ⟨[.int, .int], none⟩), rfl⟩ (by decide +kernel) (Wd := 0) (by decide) (Nat.le_of_ble_eq_true rfl) (by decide) (by decide) (by decide)
  obtain ⟨rfl, rfl⟩ := qA3
  have A4 := A3.run [(6, .aload_n 0, 7, 0), (7, .iload_n 1, 8, 0)] (pe := 8) (by decide +kernel) rfl
  have A5 := A4.baload T (by decide +kernel) rfl (v := .int (b8 c)) (by simp [hc])
  have A6 := A5.run [(9, .sipush 255, 12, 255), (12, .iand, 13, 0), (13, .i2c, 14, 0)] (pe := 14) (by decide +kernel) rfl
  rw [b8_back (hC c hm) (hla c hm)] at A6
  exact ⟨_, _, _, _, A6.retC (by decide +kernel) (isC_nar (hC c hm)), ⟨rfl, rfl⟩, by decide, by decide⟩
theorem c_schL (G : Glb Z a0) {a : Addr} {cs : List Int32} {i : Nat} {c : Int32} (S : Str Z H a cs) (hla : Lat cs) (hc : cs[i]? = some c) :
    Ct l Z EL0 (⟨"java/lang/String", "charAt", "(I)C"⟩ : MethodName) jdk_42_method_56_code 2 ((some .char)) ({ frames := 3, cells := 0, slots := 0, locals := 40 } : Room) [] [.ref a, .int i.toInt32] H (fun v H' => v = some (.int c) ∧ H = H') := by
  refine Ct.in G (by first | exact plainFor_of_name (by simp [plainName, overriddenIn]; done) | decide +kernel) (ls := [.val (.ref a), .val (.int i.toInt32)]) rfl rfl fun D A0 => ?_
  have hC := S.2.1
  obtain ⟨E, t, F, C, T⟩ := S.opL hla
  have A1 := A0.run [(0, .aload_n 0, 1, 0)] (pe := 1) (by decide +kernel) rfl
  obtain ⟨_, HA2, qA2, A2, moA2, szA2⟩ := A1.callV (argsL := []) (wd_92 G) (wd_93 G) (wd_95 G) rfl (wd_95 G) (wd_94 G) (wd_3 G) (wd_96 G) E (c_isL G C 1 (Or.inl ⟨rfl, rfl⟩)) (by decide) ⟨_, _, (by decide +kernel : parseMethodDescriptor "()Z" = some ⟨[], some .boolean⟩), rfl⟩ (by decide +kernel) (Wd := 0) (by decide) (Nat.le_of_ble_eq_true rfl) (by decide) (by decide) (by decide)
  obtain ⟨rfl, rfl⟩ := qA2
  have A3 := A2.ifF (cd := .eq) (o := 12) (by decide +kernel) (by show ¬ _ = _; decide)
  have A4 := A3.run [(7, .aload_n 0, 8, 0)] (pe := 8) (by decide +kernel) rfl
  have A5 := A4.getF (wd_28 G) F (by decide +kernel)
  have A6 := A5.run [(11, .iload_n 1, 12, 0)] (pe := 12) (by decide +kernel) rfl
  obtain ⟨_, HA7, qA7, A7, moA7, szA7⟩ := A6.callS (argsL := [.ref t, .int i.toInt32]) (wd_235 G) (wd_236 G) (wd_99 G) (wd_237 G) (c_lch G T hla hC hc) (by decide) ⟨_, _, (by decide +kernel : parseMethodDescriptor "([BI)C" = some ⟨[(.array .byte), .int], some .char⟩), rfl⟩ (by decide +kernel) (Wd := 0) (by decide) (Nat.le_of_ble_eq_true rfl) (by decide) (by decide) (by decide)
  obtain ⟨rfl, rfl⟩ := qA7
  exact ⟨_, _, _, _, A7.retC (by decide +kernel) (isC_nar (hC c (List.mem_of_getElem? hc))), ⟨rfl, rfl⟩, by decide, by decide⟩
end JCh1

abbrev bit (p : Prop) [Decidable p] : Int32 := if p then 1 else 0
theorem bit_isB (p : Prop) [Decidable p] : nar .boolean (bit p) = bit p := by by_cases h : p <;> simp [bit, h, nar]

def isB (b : Int32) : Prop := b = 0 ∨ b = 1
theorem isB.fits {b : Int32} (h : isB b) : fits .boolean (.int b) = true := by rcases h with rfl | rfl <;> decide
theorem isB.nar {b : Int32} (h : isB b) : nar .boolean b = b := by rcases h with rfl | rfl <;> decide
theorem isB.narrow {b : Int32} (h : isB b) : narrow .boolean (.int b) = .int b := by rcases h with rfl | rfl <;> decide


section JEmp
variable {l : Launch} {Z : State} {a0 : Array Value} {D : Dyn} {H : HP}
theorem c_sEmp (G : Glb Z a0) {a : Addr} {cs : List Int32} (S : Str Z H a cs) : Ct l Z EL0 (⟨"java/lang/String", "isEmpty", "()Z"⟩ : MethodName) jdk_42_method_55_code 1 ((some .boolean)) ({ frames := 0, cells := 0, slots := 0, locals := 0 } : Room) [] [.ref a] H (fun v H' => v = some (.int (bit (cs = []))) ∧ H = H') := by
  refine Ct.in G (by first | exact plainFor_of_name (by simp [plainName, overriddenIn]; done) | decide +kernel) (ls := [.val (.ref a)]) rfl rfl fun D A0 => ?_
  obtain ⟨E, hC, t, F, q⟩ := S
  have A1 := A0.run [(0, .aload_n 0, 1, 0)] (pe := 1) (by decide +kernel) rfl
  have A2 := A1.getF (wd_28 G) F (by decide +kernel)
  obtain ⟨vs, T, hvs⟩ : ∃ vs, Ar Z H t .byte vs ∧ (vs.length = 0 ↔ cs = []) := by
    rcases q with ⟨-, -, T⟩ | ⟨-, -, T⟩
    · exact ⟨_, T, by simp⟩
    · exact ⟨_, T, by rw [enc16_len, ← List.length_eq_zero_iff]; omega⟩
  have A3 := A2.alen T (by decide +kernel) (z := vs.length.toInt32) rfl
  by_cases h : cs = []
  · have A4 := A3.ifF (cd := .ne) (o := 7) (by decide +kernel) (not_not_intro (by rw [hvs.mpr h]; rfl))
    have A5 := A4.run [(8, .iconst 1, 9, 1), (9, .goto 4, 13, 0)] (pe := 13) (by decide +kernel) rfl
    exact ⟨_, _, _, _, A5.retZ (by decide +kernel) rfl, ⟨by rw [bit, if_pos h]; rfl, rfl⟩, by decide, by decide⟩
  · have A4 := A3.ifT (cd := .ne) (o := 7) (by decide +kernel) (fun e => h (hvs.mp ((n32_inj (j := 0) T.len (by decide)).mp e))) (pe := 12) (by decide)
    have A5 := A4.run [(12, .iconst 0, 13, 0)] (pe := 13) (by decide +kernel) rfl
    exact ⟨_, _, _, _, A5.retZ (by decide +kernel) rfl, ⟨by rw [bit, if_neg h]; rfl, rfl⟩, by decide, by decide⟩
end JEmp


/-! ## StringBuilder, Latin-1, with room -/
abbrev SBn : String := "java/lang/StringBuilder"
abbrev ASB : String := "java/lang/AbstractStringBuilder"
section JSb
variable {l : Launch} {Z : State} {a0 : Array Value} {D : Dyn} {H : HP}
/-- a String with its array named -/
def StrT (Z : State) (H : HP) (a t : Addr) (cs : List Int32) : Prop := Exa Z H.1 a "java/lang/String" ∧ (∀ c ∈ cs, isC c) ∧ Fld Z H.1 a "java/lang/String" "value" "[B" (.ref t) ∧
  (Lat cs ∧ Fld Z H.1 a "java/lang/String" "coder" "B" (.int 0) ∧ Ar Z H t .byte (lo8 cs) ∨ ¬ Lat cs ∧ Fld Z H.1 a "java/lang/String" "coder" "B" (.int 1) ∧ Ar Z H t .byte (enc16 cs))
theorem StrT.str {a t : Addr} {cs : List Int32} (S : StrT Z H a t cs) : Str Z H a cs := ⟨S.1, S.2.1, t, S.2.2.1, S.2.2.2⟩
theorem Str.t {a : Addr} {cs : List Int32} (S : Str Z H a cs) : ∃ t, StrT Z H a t cs ∧ t < H.1.size := by
  obtain ⟨h1, h2, t, h3, h4⟩ := S
  refine ⟨t, ⟨h1, h2, h3, h4⟩, ?_⟩
  rcases h4 with ⟨-, -, T⟩ | ⟨-, -, T⟩ <;> exact T.lt
theorem StrT.ky {H H' : HP} {a t : Addr} {cs : List Int32} {ws : List Addr} (S : StrT Z H a t cs) (K : Kp H H' ws) (ha : a ∉ ws) (ht : t ∉ ws) : StrT Z H' a t cs := by
  obtain ⟨h1, h2, h3, h4⟩ := S
  exact ⟨h1.ky K, h2, h3.ky K ha, h4.imp (fun ⟨q1, q2, q3⟩ => ⟨q1, q2.ky K ha, q3.ky K ht⟩) (fun ⟨q1, q2, q3⟩ => ⟨q1, q2.ky K ha, q3.ky K ht⟩)⟩
theorem StrT.lat {a t : Addr} {cs : List Int32} (S : StrT Z H a t cs) (h : Lat cs) : Fld Z H.1 a "java/lang/String" "coder" "B" (.int 0) ∧ Ar Z H t .byte (lo8 cs) := by
  obtain ⟨-, -, -, h4⟩ := S
  rcases h4 with ⟨-, q⟩ | ⟨q, -⟩
  · exact q
  · exact absurd h q
/-- a Latin-1 builder that says cs -/
def SB (Z : State) (H : HP) (a v : Addr) (cs : List Int32) (rs : List Value) : Prop :=
  Exa Z H.1 a SBn ∧ Fld Z H.1 a ASB "value" "[B" (.ref v) ∧ Fld Z H.1 a ASB "coder" "B" (.int 0) ∧ Fld Z H.1 a ASB "count" "I" (.int cs.length.toInt32) ∧ Ar Z H v .byte (lo8 cs ++ rs) ∧ Lat cs ∧ (∀ c ∈ cs, isC c) ∧ H.2 a ∧ H.2 v
theorem SB.ky {H H' : HP} {a v : Addr} {cs : List Int32} {rs : List Value} {ws : List Addr} (S : SB Z H a v cs rs) (K : Kp H H' ws) (ha : a ∉ ws := by exact List.not_mem_nil) (hv : v ∉ ws := by exact List.not_mem_nil) : SB Z H' a v cs rs := by
  obtain ⟨h1, h2, h3, h4, h5, h6, h7, h8, h9⟩ := S
  exact ⟨h1.ky K, h2.ky K ha, h3.ky K ha, h4.ky K ha, h5.ky K hv, h6, h7, K.2 _ h8, K.2 _ h9⟩
theorem SB.ne (G : Glb Z a0) {a v : Addr} {cs : List Int32} {rs : List Value} (S : SB Z H a v cs rs) : a ≠ v := by
  obtain ⟨h1, -, -, -, ⟨c, A, -⟩, -⟩ := S
  exact ne_arr h1 (wd_105 G) A
theorem sl_vc (G : Glb Z a0) : Jvm.RoadKit.slotOf Z ASB "value" "[B" ≠ Jvm.RoadKit.slotOf Z ASB "coder" "B" := slot_ne (Or.inl (wd_119 G)) (Or.inl (wd_121 G)) (by decide) (t := .array .byte) (by decide) (t' := .byte) (by decide)
theorem sl_vn (G : Glb Z a0) : Jvm.RoadKit.slotOf Z ASB "value" "[B" ≠ Jvm.RoadKit.slotOf Z ASB "count" "I" := slot_ne (Or.inl (wd_119 G)) (Or.inl (wd_139 G)) (by decide) (t := .array .byte) (by decide) (t' := .int) (by decide)
theorem sl_cn (G : Glb Z a0) : Jvm.RoadKit.slotOf Z ASB "coder" "B" ≠ Jvm.RoadKit.slotOf Z ASB "count" "I" := slot_ne (Or.inl (wd_121 G)) (Or.inl (wd_139 G)) (by decide) (t := .byte) (by decide) (t' := .int) (by decide)
set_option maxRecDepth 65536 in
theorem c_asbI (G : Glb Z a0) {x : Addr} (E : Exa Z H.1 x SBn) (V : Fld Z H.1 x ASB "value" "[B" .null) (C : Fld Z H.1 x ASB "coder" "B" (.int 0)) (N : Fld Z H.1 x ASB "count" "I" (.int 0)) (o : H.2 x) :
    Ct l Z EL0 (⟨"java/lang/AbstractStringBuilder", "<init>", "(I)V"⟩ : MethodName) jdk_68_method_2_code 2 (none) ({ frames := 1, cells := 1, slots := 16, locals := 12 } : Room) [] [.ref x, .int 16] H (fun v H' => v = none ∧ Kp H H' [x] ∧ ∃ t, H.1.size ≤ t ∧ SB Z H' x t [] (List.replicate 16 (.int 0))) := by
  refine Ct.in G (by first | exact plainFor_of_name (by simp [plainName, overriddenIn]; done) | decide +kernel) (ls := [.val (.ref x), .val (.int 16)]) rfl rfl fun D A0 => ?_
  obtain ⟨cz, hcz, cS⟩ := G_compact G
  have A1 := A0.run [(0, .aload_n 0, 1, 0)] (pe := 1) (by decide +kernel) rfl
  have A2 := A1.initO (wd_116 G) (wd_12 G) (wd_13 G) (by decide +kernel) (Wd := 0) (by decide) (Nat.le_of_ble_eq_true rfl) (by decide)
  have A3 := A2.getS (wd_117 G) cS (by decide +kernel)
  have A4 := A3.ifF (cd := .eq) (o := 18) (by decide +kernel) hcz
  have A5 := A4.run [(10, .aload_n 0, 11, 0), (11, .iload_n 1, 12, 0)] (pe := 12) (by decide +kernel) rfl
  obtain ⟨t, H1, A6, hge, K1, T1, o1⟩ := A5.newA (aty := .byte) (wd_19 G) (by decide +kernel) (N := 16) rfl (cap := 16) (by decide) (by decide) (by decide) (by decide)
  obtain ⟨H2, A7, K2, W2⟩ := A6.putF (wd_118 G) (V.ky K1) (E.ky K1) (wd_119 G) (wd_105 G) (K1.2 _ o) (by decide +kernel) (ty := .array .byte) (by decide) rfl rfl
  have A8 := A7.run [(17, .aload_n 0, 18, 0), (18, .iconst 0, 19, 0)] (pe := 19) (by decide +kernel) rfl
  have C2 := (C.ky K1).other W2 (Or.inr (Ne.symm (sl_vc G)))
  obtain ⟨H3, A9, K3, W3⟩ := A8.putF (wd_120 G) C2 ((E.ky K1).ky K2) (wd_121 G) (wd_105 G) (K2.2 _ (K1.2 _ o)) (by decide +kernel) (ty := .byte) (by decide) rfl rfl
  have A10 := A9.run [(22, .goto 16, 38, 0)] (pe := 38) (by decide +kernel) rfl
  have A11 := A10.ret (by decide +kernel)
  have htx : t ∉ [x] := by simpa using Nat.ne_of_gt (Nat.lt_of_lt_of_le E.lt hge)
  refine ⟨_, _, _, _, A11, ⟨rfl, ((K1.wide fun x hx => nomatch hx).trans K2 fun x hx => Or.inl hx).trans K3 fun x hx => Or.inl hx, t, hge, ((E.ky K1).ky K2).ky K3, ((V.ky K1).same W2).other W3 (Or.inr (sl_vc G)), C2.same W3, ((N.ky K1).other W2 (Or.inr (Ne.symm (sl_vn G)))).other W3 (Or.inr (Ne.symm (sl_cn G))), (T1.ky K2 htx).ky K3 htx, (fun c hc => nomatch hc), (fun c hc => nomatch hc), K3.2 _ (K2.2 _ (K1.2 _ o)), K3.2 _ (K2.2 _ o1)⟩, by decide, by decide⟩
theorem c_sbI (G : Glb Z a0) {x : Addr} (E : Exa Z H.1 x SBn) (V : Fld Z H.1 x ASB "value" "[B" .null) (C : Fld Z H.1 x ASB "coder" "B" (.int 0)) (N : Fld Z H.1 x ASB "count" "I" (.int 0)) (o : H.2 x) :
    Ct l Z EL0 (⟨"java/lang/StringBuilder", "<init>", "()V"⟩ : MethodName) jdk_67_method_1_code 1 (none) ({ frames := 2, cells := 1, slots := 16, locals := 25 } : Room) [] [.ref x] H (fun v H' => v = none ∧ Kp H H' [x] ∧ ∃ t, H.1.size ≤ t ∧ SB Z H' x t [] (List.replicate 16 (.int 0))) := by
  refine Ct.in G (by first | exact plainFor_of_name (by simp [plainName, overriddenIn]; done) | decide +kernel) (ls := [.val (.ref x)]) rfl rfl fun D A0 => ?_
  have A1 := A0.run [(0, .aload_n 0, 1, 0), (1, .bipush 16, 3, 16)] (pe := 3) (by decide +kernel) rfl
  obtain ⟨_, HA2, qA2, A2, moA2, szA2⟩ := A1.callI (argsL := [.int 16]) rfl (wd_110 G) (wd_111 G) (wd_114 G) (wd_115 G) (c_asbI G E V C N o) (by decide) ⟨_, _, (by decide +kernel : parseMethodDescriptor "(I)V" = some ⟨[.int], none⟩), rfl⟩ (by decide +kernel) (Wd := 0) (by decide) (Nat.le_of_ble_eq_true rfl) (by decide) (by decide) (by decide)
  obtain ⟨rfl, K, q⟩ := qA2
  exact ⟨_, _, _, _, A2.ret (by decide +kernel), ⟨rfl, K, q⟩, by decide, by decide⟩
/-- there is room: nothing is done -/
theorem c_ens (G : Glb Z a0) {a v : Addr} {cs : List Int32} {rs : List Value} {m : Nat} (S : SB Z H a v cs rs) (hm : m ≤ cs.length + rs.length) :
    Ct l Z EL0 (⟨"java/lang/AbstractStringBuilder", "ensureCapacityInternal", "(I)V"⟩ : MethodName) jdk_68_method_9_code 3 (none) ({ frames := 0, cells := 0, slots := 0, locals := 0 } : Room) [] [.ref a, .int m.toInt32] H (fun v H' => v = none ∧ H = H') := by
  refine Ct.in G (by first | exact plainFor_of_name (by simp [plainName, overriddenIn]; done) | decide +kernel) (ls := [.val (.ref a), .val (.int m.toInt32), .unset]) rfl rfl fun D A0 => ?_
  obtain ⟨E, V, C, N, T, -⟩ := S
  have hL := T.len; simp at hL
  have A1 := A0.run [(0, .aload_n 0, 1, 0)] (pe := 1) (by decide +kernel) rfl
  have A2 := A1.getF (wd_118 G) V (by decide +kernel)
  have A3 := A2.alen T (by decide +kernel) (z := (cs.length + rs.length).toInt32) (by simp)
  have A4 := A3.run [(5, .aload_n 0, 6, 0)] (pe := 6) (by decide +kernel) rfl
  have A5 := A4.getF (wd_120 G) C (by decide +kernel)
  have A6 := A5.run [(9, .ishr, 10, 0)] (pe := 10) (by decide +kernel) rfl
  rw [n32_shr0] at A6
  have A7 := A6.run [(10, .istore_n 2, 11, 0), (11, .iload_n 1, 12, 0), (12, .iload_n 2, 13, 0), (13, .isub, 14, 0)] (pe := 14) (by decide +kernel) rfl
  have hle : ¬ (0 : Int32) < m.toInt32 - (cs.length + rs.length).toInt32 := by
    have e := c_isub m.toInt32 (cs.length + rs.length).toInt32
    rw [n32_toInt (by omega), n32_toInt hL] at e
    have r := rng32 (m.toInt32 - (cs.length + rs.length).toInt32)
    rw [Int32.lt_iff_toInt_lt, show (0 : Int32).toInt = 0 by decide]; omega
  have A8 := A7.ifT (cd := .le) (o := 24) (by decide +kernel) hle (pe := 38) (by decide)
  exact ⟨_, _, _, _, A8.ret (by decide +kernel), ⟨rfl, rfl⟩, Nat.zero_le _, Nat.zero_le _⟩
theorem c_inf (G : Glb Z a0) {a v s t : Addr} {cs ds : List Int32} {rs : List Value} (S : SB Z H a v cs rs) (T : StrT Z H s t ds) (hla : Lat ds) :
    Ct l Z EL0 (⟨"java/lang/AbstractStringBuilder", "inflateIfNeededFor", "(Ljava/lang/String;)V"⟩ : MethodName) jdk_68_method_71_code 2 (none) ({ frames := 1, cells := 0, slots := 0, locals := 13 } : Room) [] [.ref a, .ref s] H (fun v H' => v = none ∧ H = H') := by
  refine Ct.in G (by first | exact plainFor_of_name (by simp [plainName, overriddenIn]; done) | decide +kernel) (ls := [.val (.ref a), .val (.ref s)]) rfl rfl fun D A0 => ?_
  obtain ⟨cz, hcz, cS⟩ := G_compact G
  have A1 := A0.getS (wd_117 G) cS (by decide +kernel)
  have A2 := A1.ifF (cd := .eq) (o := 18) (by decide +kernel) hcz
  have A3 := A2.run [(6, .aload_n 0, 7, 0)] (pe := 7) (by decide +kernel) rfl
  have A4 := A3.getF (wd_120 G) S.2.2.1 (by decide +kernel)
  have A5 := A4.run [(10, .aload_n 1, 11, 0)] (pe := 11) (by decide +kernel) rfl
  obtain ⟨_, HA6, qA6, A6, moA6, szA6⟩ := A5.callV (argsL := []) (wd_155 G) (wd_88 G) (wd_90 G) rfl (wd_90 G) (wd_89 G) (wd_3 G) (wd_91 G) T.1 (c_sCod G (T.lat hla).1 (Or.inl rfl)) (by decide) ⟨_, _, (by decide +kernel : parseMethodDescriptor "()B" = some ⟨[], some .byte⟩), rfl⟩ (by decide +kernel) (Wd := 1) (by decide) (Nat.le_of_ble_eq_true rfl) (by decide) (by decide) (by decide)
  obtain ⟨rfl, rfl⟩ := qA6
  have A7 := A6.icT (cd := .eq) (o := 7) (by decide +kernel) rfl (pe := 21) (by decide)
  exact ⟨_, _, _, _, A7.ret (by decide +kernel), ⟨rfl, rfl⟩, by decide, by decide⟩
theorem c_gby (G : Glb Z a0) {s t v : Addr} {ds : List Int32} {vs : List Value} {i : Nat} (T : StrT Z H s t ds) (hla : Lat ds) (B : Ar Z H v .byte vs) (o : H.2 v) (hi : i + ds.length ≤ vs.length) :
    Ct l Z EL0 (⟨"java/lang/String", "getBytes", "([BIB)V"⟩ : MethodName) jdk_42_method_147_code 4 (none) ({ frames := 1, cells := 0, slots := 0, locals := 18 } : Room) [] [.ref s, .ref v, .int i.toInt32, .int 0] H (fun v' H' => v' = none ∧ Kp H H' [v] ∧ Ar Z H' v .byte (vs.take i ++ lo8 ds ++ vs.drop (i + ds.length))) := by
  refine Ct.in G (by first | exact plainFor_of_name (by simp [plainName, overriddenIn]; done) | decide +kernel) (ls := [.val (.ref s), .val (.ref v), .val (.int i.toInt32), .val (.int 0)]) rfl rfl fun D A0 => ?_
  obtain ⟨hc0, hT⟩ := T.lat hla
  have A1 := A0.run [(0, .aload_n 0, 1, 0)] (pe := 1) (by decide +kernel) rfl
  obtain ⟨_, HA2, qA2, A2, moA2, szA2⟩ := A1.callV (argsL := []) (wd_87 G) (wd_88 G) (wd_90 G) rfl (wd_90 G) (wd_89 G) (wd_3 G) (wd_91 G) T.1 (c_sCod G hc0 (Or.inl rfl)) (by decide) ⟨_, _, (by decide +kernel : parseMethodDescriptor "()B" = some ⟨[], some .byte⟩), rfl⟩ (by decide +kernel) (Wd := 0) (by decide) (Nat.le_of_ble_eq_true rfl) (by decide) (by decide) (by decide)
  obtain ⟨rfl, rfl⟩ := qA2
  have A3 := A2.run [(4, .iload_n 3, 5, 0)] (pe := 5) (by decide +kernel) rfl
  have A4 := A3.icF (cd := .ne) (o := 23) (by decide +kernel) (not_not_intro rfl)
  have A5 := A4.run [(8, .aload_n 0, 9, 0)] (pe := 9) (by decide +kernel) rfl
  have A6 := A5.getF (wd_28 G) T.2.2.1 (by decide +kernel)
  have A7 := A6.run [(12, .iconst 0, 13, 0), (13, .aload_n 1, 14, 0), (14, .iload_n 2, 15, 0), (15, .iload_n 3, 16, 0), (16, .ishl, 17, 0), (17, .aload_n 0, 18, 0)] (pe := 18) (by decide +kernel) rfl
  rw [n32_shl0] at A7
  have A8 := A7.getF (wd_28 G) T.2.2.1 (by decide +kernel)
  have A9 := A8.alen hT (by decide +kernel) (z := ds.length.toInt32) (by simp)
  obtain ⟨H1, A10, K, B1⟩ := A9.copy (wd_161 G) (wd_164 G) (wd_162 G) (wd_163 G) hT B rfl o (i := 0) rfl rfl (q := ds.length) rfl (by simp) hi (by decide +kernel) (by decide) (Wd := 0) (by decide) (Nat.le_of_ble_eq_true rfl)
  have A11 := A10.run [(25, .goto 18, 43, 0)] (pe := 43) (by decide +kernel) rfl
  have e : (lo8 ds).take ds.length = lo8 ds := List.take_of_length_le (by simp)
  rw [List.drop_zero, e] at B1
  exact ⟨_, _, _, _, A11.ret (by decide +kernel), ⟨rfl, K, B1⟩, by decide, by decide⟩
theorem c_psa (G : Glb Z a0) {a v s t : Addr} {cs ds : List Int32} {rs : List Value} (S : SB Z H a v cs rs) (T : StrT Z H s t ds) (hla : Lat ds) (hr : ds.length ≤ rs.length) :
    Ct l Z EL0 (⟨"java/lang/AbstractStringBuilder", "putStringAt", "(ILjava/lang/String;)V"⟩ : MethodName) jdk_68_method_73_code 3 (none) ({ frames := 2, cells := 0, slots := 0, locals := 33 } : Room) [] [.ref a, .int cs.length.toInt32, .ref s] H (fun v' H' => v' = none ∧ Kp H H' [v] ∧ Ar Z H' v .byte (lo8 (cs ++ ds) ++ rs.drop ds.length)) := by
  refine Ct.in G (by first | exact plainFor_of_name (by simp [plainName, overriddenIn]; done) | decide +kernel) (ls := [.val (.ref a), .val (.int cs.length.toInt32), .val (.ref s)]) rfl rfl fun D A0 => ?_
  have A1 := A0.run [(0, .aload_n 0, 1, 0), (1, .aload_n 2, 2, 0)] (pe := 2) (by decide +kernel) rfl
  obtain ⟨_, HA2, qA2, A2, moA2, szA2⟩ := A1.callV (argsL := [.ref s]) (wd_150 G) (decl_of (wd_151 G) (wd_154 G)) (wd_153 G) rfl (wd_153 G) (wd_151 G) (wd_114 G) (wd_154 G) S.1 (c_inf G S T hla) (by decide) ⟨_, _, (by decide +kernel : parseMethodDescriptor "(Ljava/lang/String;)V" = some ⟨[(.object "java/lang/String")], none⟩), rfl⟩ (by decide +kernel) (Wd := 0) (by decide) (Nat.le_of_ble_eq_true rfl) (by decide) (by decide) (by decide)
  obtain ⟨rfl, rfl⟩ := qA2
  have A3 := A2.run [(5, .aload_n 2, 6, 0), (6, .aload_n 0, 7, 0)] (pe := 7) (by decide +kernel) rfl
  have A4 := A3.getF (wd_118 G) S.2.1 (by decide +kernel)
  have A5 := A4.run [(10, .iload_n 1, 11, 0), (11, .aload_n 0, 12, 0)] (pe := 12) (by decide +kernel) rfl
  have A6 := A5.getF (wd_120 G) S.2.2.1 (by decide +kernel)
  obtain ⟨_, HA7, qA7, A7, moA7, szA7⟩ := A6.callV (argsL := [.ref v, .int cs.length.toInt32, .int 0]) (wd_156 G) (wd_157 G) (wd_159 G) rfl (wd_159 G) (wd_158 G) (wd_3 G) (wd_160 G) T.1 (c_gby G T hla S.2.2.2.2.1 S.2.2.2.2.2.2.2.2 (by simp; omega)) (by decide) ⟨_, _, (by decide +kernel : parseMethodDescriptor "([BIB)V" = some ⟨[(.array .byte), .int, .byte], none⟩), rfl⟩ (by decide +kernel) (Wd := 0) (by decide) (Nat.le_of_ble_eq_true rfl) (by decide) (by decide) (by decide)
  obtain ⟨rfl, K, B⟩ := qA7
  refine ⟨_, _, _, _, A7.ret (by decide +kernel), ⟨rfl, K, ?_⟩, by decide, by decide⟩
  have e : (lo8 cs ++ rs).take cs.length = lo8 cs := by rw [List.take_append_of_le_length (by simp)]; exact List.take_of_length_le (by simp)
  have e2 : (lo8 cs ++ rs).drop (cs.length + ds.length) = rs.drop ds.length := by rw [List.drop_append]; simp
  rw [e, e2] at B
  rw [show lo8 (cs ++ ds) = lo8 cs ++ lo8 ds from List.map_append]
  exact B
set_option maxRecDepth 65536 in
theorem c_asbA (G : Glb Z a0) {a v s t : Addr} {cs ds : List Int32} {rs : List Value} (S : SB Z H a v cs rs) (T : StrT Z H s t ds) (hla : Lat ds) (hr : ds.length ≤ rs.length) :
    Ct l Z EL0 (⟨"java/lang/AbstractStringBuilder", "append", "(Ljava/lang/String;)Ljava/lang/AbstractStringBuilder;"⟩ : MethodName) jdk_68_method_22_code 3 ((some (.object "java/lang/AbstractStringBuilder"))) ({ frames := 3, cells := 0, slots := 0, locals := 47 } : Room) [] [.ref a, .ref s] H (fun v' H' => v' = some (.ref a) ∧ Kp H H' [a, v] ∧ SB Z H' a v (cs ++ ds) (rs.drop ds.length)) := by
  refine Ct.in G (by first | exact plainFor_of_name (by simp [plainName, overriddenIn]; done) | decide +kernel) (ls := [.val (.ref a), .val (.ref s), .unset]) rfl rfl fun D A0 => ?_
  have A1 := A0.run [(0, .aload_n 1, 1, 0)] (pe := 1) (by decide +kernel) rfl
  have A2 := A1.nnullT (o := 8) (by decide +kernel) (pe := 9) (by decide)
  have A3 := A2.run [(9, .aload_n 1, 10, 0)] (pe := 10) (by decide +kernel) rfl
  obtain ⟨_, HA4, qA4, A4, moA4, szA4⟩ := A3.callV (argsL := []) (wd_133 G) (wd_134 G) (wd_136 G) rfl (wd_136 G) (wd_135 G) (wd_3 G) (wd_137 G) T.1 (c_sLen G T.str) (by decide) ⟨_, _, (by decide +kernel : parseMethodDescriptor "()I" = some ⟨[], some .int⟩), rfl⟩ (by decide +kernel) (Wd := 0) (by decide) (Nat.le_of_ble_eq_true rfl) (by decide) (by decide) (by decide)
  obtain ⟨rfl, rfl⟩ := qA4
  have A5 := A4.run [(13, .istore_n 2, 14, 0), (14, .aload_n 0, 15, 0), (15, .aload_n 0, 16, 0)] (pe := 16) (by decide +kernel) rfl
  have A6 := A5.getF (wd_138 G) S.2.2.2.1 (by decide +kernel)
  have A7 := A6.run [(19, .iload_n 2, 20, 0), (20, .iadd, 21, 0)] (pe := 21) (by decide +kernel) rfl
  rw [n32_add] at A7
  obtain ⟨_, HA8, qA8, A8, moA8, szA8⟩ := A7.callV (argsL := [.int (cs.length + ds.length).toInt32]) (wd_140 G) (decl_of (wd_141 G) (wd_144 G)) (wd_143 G) rfl (wd_143 G) (wd_141 G) (wd_114 G) (wd_144 G) S.1 (c_ens G S (by omega)) (by decide) ⟨_, _, (by decide +kernel : parseMethodDescriptor "(I)V" = some ⟨[.int], none⟩), rfl⟩ (by decide +kernel) (Wd := 0) (by decide) (Nat.le_of_ble_eq_true rfl) (by decide) (by decide) (by decide)
  obtain ⟨rfl, rfl⟩ := qA8
  have A9 := A8.run [(24, .aload_n 0, 25, 0), (25, .aload_n 0, 26, 0)] (pe := 26) (by decide +kernel) rfl
  have A10 := A9.getF (wd_138 G) S.2.2.2.1 (by decide +kernel)
  have A11 := A10.run [(29, .aload_n 1, 30, 0)] (pe := 30) (by decide +kernel) rfl
  obtain ⟨_, HA12, qA12, A12, moA12, szA12⟩ := A11.callV (argsL := [.int cs.length.toInt32, .ref s]) (wd_145 G) (decl_of (wd_146 G) (wd_149 G)) (wd_148 G) rfl (wd_148 G) (wd_146 G) (wd_114 G) (wd_149 G) S.1 (c_psa G S T hla hr) (by decide) ⟨_, _, (by decide +kernel : parseMethodDescriptor "(ILjava/lang/String;)V" = some ⟨[.int, (.object "java/lang/String")], none⟩), rfl⟩ (by decide +kernel) (Wd := 0) (by decide) (Nat.le_of_ble_eq_true rfl) (by decide) (by decide) (by decide)
  obtain ⟨rfl, K1, B1⟩ := qA12
  have hav : a ∉ [v] := by simpa using S.ne G
  have hva : v ∉ [a] := by simpa using Ne.symm (S.ne G)
  obtain ⟨E, V, C, N, T0, la, lc, o1, o2⟩ := S
  have A13 := A12.run [(33, .aload_n 0, 34, 0), (34, .dup, 35, 0)] (pe := 35) (by decide +kernel) rfl
  have A14 := A13.getF (wd_138 G) (N.ky K1 hav) (by decide +kernel)
  have A15 := A14.run [(38, .iload_n 2, 39, 0), (39, .iadd, 40, 0)] (pe := 40) (by decide +kernel) rfl
  rw [n32_add] at A15
  obtain ⟨H3, A16, K3, W3⟩ := A15.putF (wd_138 G) (N.ky K1 hav) (E.ky K1) (wd_139 G) (wd_105 G) (K1.2 _ o1) (by decide +kernel) (ty := .int) (by decide) rfl rfl
  have A17 := A16.run [(43, .aload_n 0, 44, 0)] (pe := 44) (by decide +kernel) rfl
  refine ⟨_, _, _, _, A17.retA (by decide +kernel) rfl rfl, ⟨rfl, (K1.wide fun x hx => Or.inl (by simp at hx; simp [hx])).trans K3 fun x hx => Or.inl (by simp at hx; simp [hx]), (E.ky K1).ky K3, (V.ky K1 hav).other W3 (Or.inr (sl_vn G)), (C.ky K1 hav).other W3 (Or.inr (sl_cn G)), by rw [List.length_append]; exact (N.ky K1 hav).same W3, B1.ky K3 hva, ?_, ?_, K3.2 _ (K1.2 _ o1), K3.2 _ (K1.2 _ o2)⟩, by decide, by decide⟩
  · exact fun c hc => (List.mem_append.mp hc).elim (la c) (hla c)
  · exact fun c hc => (List.mem_append.mp hc).elim (lc c) (T.2.1 c)
theorem c_sbA (G : Glb Z a0) {a v s t : Addr} {cs ds : List Int32} {rs : List Value} (S : SB Z H a v cs rs) (T : StrT Z H s t ds) (hla : Lat ds) (hr : ds.length ≤ rs.length) :
    Ct l Z EL0 (⟨"java/lang/StringBuilder", "append", "(Ljava/lang/String;)Ljava/lang/StringBuilder;"⟩ : MethodName) jdk_67_method_7_code 2 ((some (.object "java/lang/StringBuilder"))) ({ frames := 4, cells := 0, slots := 0, locals := 61 } : Room) [] [.ref a, .ref s] H (fun v' H' => v' = some (.ref a) ∧ Kp H H' [a, v] ∧ SB Z H' a v (cs ++ ds) (rs.drop ds.length)) := by
  refine Ct.in G (by first | exact plainFor_of_name (by simp [plainName, overriddenIn]; done) | decide +kernel) (ls := [.val (.ref a), .val (.ref s)]) rfl rfl fun D A0 => ?_
  have A1 := A0.run [(0, .aload_n 0, 1, 0), (1, .aload_n 1, 2, 0)] (pe := 2) (by decide +kernel) rfl
  obtain ⟨_, HA2, qA2, A2, moA2, szA2⟩ := A1.callU (argsL := [.ref s]) (wd_128 G) (wd_131 G) (wd_143 G) rfl (wd_130 G) (wd_129 G) (by decide) (wd_114 G) (wd_132 G) S.1 (c_asbA G S T hla hr) (by decide) ⟨_, _, (by decide +kernel : parseMethodDescriptor "(Ljava/lang/String;)Ljava/lang/AbstractStringBuilder;" = some ⟨[(.object "java/lang/String")], some (.object "java/lang/AbstractStringBuilder")⟩), rfl⟩ (by decide +kernel) (Wd := 0) (by decide) (Nat.le_of_ble_eq_true rfl) (by decide) (by decide) (by decide)
  obtain ⟨rfl, K, S2⟩ := qA2
  have A3 := A2.run [(5, .pop, 6, 0), (6, .aload_n 0, 7, 0)] (pe := 7) (by decide +kernel) rfl
  exact ⟨_, _, _, _, A3.retA (by decide +kernel) rfl rfl, ⟨rfl, K, S2⟩, by decide, by decide⟩
end JSb

section JCpr
variable {l : Launch} {Z : State} {a0 : Array Value} {D : Dyn} {H : HP}
theorem c_mmin (G : Glb Z a0) {i j : Nat} (hi : i < 2 ^ 31) (hj : j < 2 ^ 31) : Ct l Z EL0 (⟨"java/lang/Math", "min", "(II)I"⟩ : MethodName) jdk_29_method_69_code 2 ((some .int)) ({ frames := 0, cells := 0, slots := 0, locals := 0 } : Room) [] [.int i.toInt32, .int j.toInt32] H (fun v H' => v = some (.int (min i j).toInt32) ∧ H = H') := by
  refine Ct.in G (by decide +kernel) (ls := [.val (.int i.toInt32), .val (.int j.toInt32)]) rfl rfl fun D A0 => ?_
  have A1 := A0.run [(0, .iload_n 0, 1, 0), (1, .iload_n 1, 2, 0)] (pe := 2) (by decide +kernel) rfl
  by_cases h : j < i
  · have A2 := A1.icT (cd := .gt) (o := 7) (by decide +kernel) ((n32_lt hj hi).mpr h) (pe := 9) (by decide)
    have A3 := A2.run [(9, .iload_n 1, 10, 0)] (pe := 10) (by decide +kernel) rfl
    exact ⟨_, _, _, _, A3.retI (by decide +kernel), ⟨by rw [Nat.min_eq_right (by omega)], rfl⟩, by decide, by decide⟩
  · have A2 := A1.icF (cd := .gt) (o := 7) (by decide +kernel) (fun q => h ((n32_lt hj hi).mp q))
    have A3 := A2.run [(5, .iload_n 0, 6, 0), (6, .goto 4, 10, 0)] (pe := 10) (by decide +kernel) rfl
    exact ⟨_, _, _, _, A3.retI (by decide +kernel), ⟨by rw [Nat.min_eq_left (by omega)], rfl⟩, by decide, by decide⟩
theorem c_chl (G : Glb Z a0) {i j : Nat} (hi : i < 2 ^ 31) (hj : j < 2 ^ 31) (h : i ≤ j) : Ct l Z EL0 (⟨"java/util/Arrays", "checkLength", "(II)V"⟩ : MethodName) jdk_65_method_131_code 2 (none) ({ frames := 0, cells := 0, slots := 0, locals := 0 } : Room) [] [.int i.toInt32, .int j.toInt32] H (fun v H' => v = none ∧ H = H') := by
  refine Ct.in G (by first | exact plainFor_of_name (by simp [plainName, overriddenIn]; done) | decide +kernel) (ls := [.val (.int i.toInt32), .val (.int j.toInt32)]) rfl rfl fun D A0 => ?_
  have A1 := A0.run [(0, .iload_n 1, 1, 0), (1, .iload_n 0, 2, 0)] (pe := 2) (by decide +kernel) rfl
  have A2 := A1.icT (cd := .ge) (o := 35) (by decide +kernel) (fun q => by have := (n32_lt hj hi).mp q; omega) (pe := 37) (by decide)
  exact ⟨_, _, _, _, A2.ret (by decide +kernel), ⟨rfl, rfl⟩, by decide, by decide⟩
set_option maxRecDepth 65536 in
theorem c_cpb (G : Glb Z a0) {t : Addr} {vs : List Value} {i j : Nat} (T : Ar Z H t .byte vs) (h1 : i ≤ j) (h2 : j ≤ vs.length) (h3 : j - i ≤ 34) :
    Ct l Z EL0 (⟨"java/util/Arrays", "copyOfRangeByte", "([BII)[B"⟩ : MethodName) jdk_65_method_133_code 5 ((some (.array .byte))) ({ frames := 1, cells := 1, slots := 34, locals := 18 } : Room) [] [.ref t, .int i.toInt32, .int j.toInt32] H (fun v H' => ∃ u, v = some (.ref u) ∧ H.1.size ≤ u ∧ Kp H H' [] ∧ Ar Z H' u .byte ((vs.drop i).take (j - i)) ∧ H'.2 u) := by
  refine Ct.in G (by first | exact plainFor_of_name (by simp [plainName, overriddenIn]; done) | decide +kernel) (ls := [.val (.ref t), .val (.int i.toInt32), .val (.int j.toInt32), .unset, .unset]) rfl rfl fun D A0 => ?_
  have hL := T.len
  have A1 := A0.run [(0, .iload_n 1, 1, 0), (1, .iload_n 2, 2, 0)] (pe := 2) (by decide +kernel) rfl
  obtain ⟨_, HA2, qA2, A2, moA2, szA2⟩ := A1.callS (argsL := [.int i.toInt32, .int j.toInt32]) (wd_221 G) (wd_222 G) (wd_216 G) (wd_223 G) (c_chl G (by omega) (by omega) h1) (by decide) ⟨_, _, (by decide +kernel : parseMethodDescriptor "(II)V" = some ⟨[.int, .int], none⟩), rfl⟩ (by decide +kernel) (Wd := 0) (by decide) (Nat.le_of_ble_eq_true rfl) (by decide) (by decide) (by decide)
  obtain ⟨rfl, rfl⟩ := qA2
  have A3 := A2.run [(5, .iload_n 2, 6, 0), (6, .iload_n 1, 7, 0), (7, .isub, 8, 0)] (pe := 8) (by decide +kernel) rfl
  rw [n32_sub h1] at A3
  have A4 := A3.run [(8, .istore_n 3, 9, 0), (9, .iload_n 3, 10, 0)] (pe := 10) (by decide +kernel) rfl
  obtain ⟨u, H1, A5, hge, K1, U1, o1⟩ := A4.newA (aty := .byte) (wd_19 G) (by decide +kernel) (N := j - i) rfl (cap := 34) h3 (by decide) (by decide) (by decide)
  have A6 := A5.run [(12, .astore 4, 14, 0), (14, .aload_n 0, 15, 0), (15, .iload_n 1, 16, 0), (16, .aload 4, 18, 0), (18, .iconst 0, 19, 0), (19, .aload_n 0, 20, 0)] (pe := 20) (by decide +kernel) rfl
  have A7 := A6.alen (T.ky K1) (by decide +kernel) rfl
  have A8 := A7.run [(21, .iload_n 1, 22, 0), (22, .isub, 23, 0)] (pe := 23) (by decide +kernel) rfl
  rw [n32_sub (by omega)] at A8
  have A9 := A8.run [(23, .iload_n 3, 24, 0)] (pe := 24) (by decide +kernel) rfl
  obtain ⟨_, HA10, qA10, A10, moA10, szA10⟩ := A9.callS (argsL := [.int (vs.length - i).toInt32, .int (j - i).toInt32]) (wd_224 G) (wd_225 G) (wd_226 G) (wd_227 G) (c_mmin G (by omega) (by omega)) (by decide) ⟨_, _, (by decide +kernel : parseMethodDescriptor "(II)I" = some ⟨[.int, .int], some .int⟩), rfl⟩ (by decide +kernel) (Wd := 4) (by decide) (Nat.le_of_ble_eq_true rfl) (by decide) (by decide) (by decide)
  obtain ⟨rfl, rfl⟩ := qA10
  rw [Nat.min_eq_right (by omega)] at A10
  obtain ⟨H2, A11, K2, U2⟩ := A10.copy (wd_228 G) (wd_164 G) (wd_162 G) (wd_163 G) (T.ky K1) U1 rfl o1 (i := i) rfl (j := 0) rfl (q := j - i) rfl (by omega) (by simp) (by decide +kernel) (by decide) (Wd := 0) (by decide) (Nat.le_of_ble_eq_true rfl)
  have A12 := A11.run [(30, .aload 4, 32, 0)] (pe := 32) (by decide +kernel) rfl
  have e : (List.replicate (j - i) (defaultValue (newarray.typeOf .byte))).drop (0 + (j - i)) = [] := List.drop_eq_nil_of_le (by simp)
  rw [e, List.take_zero, List.nil_append, List.append_nil] at U2
  exact ⟨_, _, _, _, A12.retA (by decide +kernel) rfl rfl, ⟨u, rfl, hge, K1.trans K2 (fun y hy => by cases List.mem_singleton.mp hy; exact Or.inr hge), U2, K2.2 _ o1⟩, by decide, by decide⟩
theorem c_cpr (G : Glb Z a0) {t : Addr} {vs : List Value} {i j : Nat} (T : Ar Z H t .byte vs) (h1 : i ≤ j) (h2 : j ≤ vs.length) (h3 : j - i ≤ 34) (h4 : i = 0 → j ≠ vs.length) :
    Ct l Z EL0 (⟨"java/util/Arrays", "copyOfRange", "([BII)[B"⟩ : MethodName) jdk_65_method_132_code 3 ((some (.array .byte))) ({ frames := 2, cells := 1, slots := 34, locals := 34 } : Room) [] [.ref t, .int i.toInt32, .int j.toInt32] H (fun v H' => ∃ u, v = some (.ref u) ∧ H.1.size ≤ u ∧ Kp H H' [] ∧ Ar Z H' u .byte ((vs.drop i).take (j - i)) ∧ H'.2 u) := by
  refine Ct.in G (by first | exact plainFor_of_name (by simp [plainName, overriddenIn]; done) | decide +kernel) (ls := [.val (.ref t), .val (.int i.toInt32), .val (.int j.toInt32)]) rfl rfl fun D A0 => ?_
  have hL := T.len
  have A1 := A0.run [(0, .iload_n 1, 1, 0)] (pe := 1) (by decide +kernel) rfl
  have key : Wk l Z a0 EL0 "java/util/Arrays" jdk_65_method_132_code 3 "copyOfRange" (some (.array .byte)) ({ frames := 2, cells := 1, slots := 34, locals := 34 } : Room) D 10 [.val (.ref t), .val (.int i.toInt32), .val (.int j.toInt32)] [] H 0 0 := by
    by_cases h : i = 0
    · have B1 := A1.ifF (cd := .ne) (o := 9) (by decide +kernel) (not_not_intro (by rw [h]; rfl))
      have B2 := B1.run [(4, .iload_n 2, 5, 0), (5, .aload_n 0, 6, 0)] (pe := 6) (by decide +kernel) rfl
      have B3 := B2.alen T (by decide +kernel) rfl
      have B4 := B3.icF (cd := .eq) (o := 10) (by decide +kernel) (fun q => h4 h ((n32_inj (by omega) hL).mp q))
      exact B4
    · have B1 := A1.ifT (cd := .ne) (o := 9) (by decide +kernel) (fun q => h ((n32_inj (j := 0) (by omega) (by decide)).mp q)) (pe := 10) (by decide)
      exact B1
  have A2 := key.run [(10, .aload_n 0, 11, 0), (11, .iload_n 1, 12, 0), (12, .iload_n 2, 13, 0)] (pe := 13) (by decide +kernel) rfl
  obtain ⟨_, HA3, qA3, A3, moA3, szA3⟩ := A2.callS (argsL := [.ref t, .int i.toInt32, .int j.toInt32]) (wd_218 G) (wd_219 G) (wd_216 G) (wd_220 G) (c_cpb G T h1 h2 h3) (by decide) ⟨_, _, (by decide +kernel : parseMethodDescriptor "([BII)[B" = some ⟨[(.array .byte), .int, .int], some (.array .byte)⟩), rfl⟩ (by decide +kernel) (Wd := 0) (by decide) (Nat.le_of_ble_eq_true rfl) (by decide) (by decide) (by decide)
  obtain ⟨u, rfl, q⟩ := qA3
  exact ⟨_, _, _, _, A3.retA (by decide +kernel) rfl rfl, ⟨u, rfl, q⟩, by decide, by decide⟩
end JCpr

section JSb2
variable {l : Launch} {Z : State} {a0 : Array Value} {D : Dyn} {H : HP}
theorem c_gva (G : Glb Z a0) {a v : Addr} (V : Fld Z H.1 a ASB "value" "[B" (.ref v)) : Ct l Z EL0 (⟨"java/lang/AbstractStringBuilder", "getValue", "()[B"⟩ : MethodName) jdk_68_method_64_code 1 ((some (.array .byte))) ({ frames := 0, cells := 0, slots := 0, locals := 0 } : Room) [] [.ref a] H (fun v' H' => v' = some (.ref v) ∧ H = H') := by
  refine Ct.in G (by first | exact plainFor_of_name (by simp [plainName, overriddenIn]; done) | decide +kernel) (ls := [.val (.ref a)]) rfl rfl fun D A0 => ?_
  have A1 := A0.run [(0, .aload_n 0, 1, 0)] (pe := 1) (by decide +kernel) rfl
  have A2 := A1.getF (wd_118 G) V (by decide +kernel)
  exact ⟨_, _, _, _, A2.retA (by decide +kernel) rfl rfl, ⟨rfl, rfl⟩, by decide, by decide⟩
theorem c_asbL (G : Glb Z a0) {a : Addr} {n : Int32} (N : Fld Z H.1 a ASB "count" "I" (.int n)) : Ct l Z EL0 (⟨"java/lang/AbstractStringBuilder", "length", "()I"⟩ : MethodName) jdk_68_method_6_code 1 ((some .int)) ({ frames := 0, cells := 0, slots := 0, locals := 0 } : Room) [] [.ref a] H (fun v' H' => v' = some (.int n) ∧ H = H') := by
  refine Ct.in G (by first | exact plainFor_of_name (by simp [plainName, overriddenIn]; done) | decide +kernel) (ls := [.val (.ref a)]) rfl rfl fun D A0 => ?_
  have A1 := A0.run [(0, .aload_n 0, 1, 0)] (pe := 1) (by decide +kernel) rfl
  have A2 := A1.getF (wd_138 G) N (by decide +kernel)
  exact ⟨_, _, _, _, A2.retI (by decide +kernel), ⟨rfl, rfl⟩, by decide, by decide⟩
theorem c_sbL (G : Glb Z a0) {a : Addr} {n : Int32} (E : Exa Z H.1 a SBn) (N : Fld Z H.1 a ASB "count" "I" (.int n)) : Ct l Z EL0 (⟨"java/lang/StringBuilder", "length", "()I"⟩ : MethodName) jdk_67_method_93_code 1 ((some .int)) ({ frames := 1, cells := 0, slots := 0, locals := 12 } : Room) [] [.ref a] H (fun v' H' => v' = some (.int n) ∧ H = H') := by
  refine Ct.in G (by first | exact plainFor_of_name (by simp [plainName, overriddenIn]; done) | decide +kernel) (ls := [.val (.ref a)]) rfl rfl fun D A0 => ?_
  have A1 := A0.run [(0, .aload_n 0, 1, 0)] (pe := 1) (by decide +kernel) rfl
  obtain ⟨_, HA2, qA2, A2, moA2, szA2⟩ := A1.callU (argsL := []) (wd_211 G) (wd_206 G) (wd_143 G) rfl (wd_130 G) (wd_207 G) (by decide) (wd_114 G) (wd_212 G) E (c_asbL G N) (by decide) ⟨_, _, (by decide +kernel : parseMethodDescriptor "()I" = some ⟨[], some .int⟩), rfl⟩ (by decide +kernel) (Wd := 0) (by decide) (Nat.le_of_ble_eq_true rfl) (by decide) (by decide) (by decide)
  obtain ⟨rfl, rfl⟩ := qA2
  exact ⟨_, _, _, _, A2.retI (by decide +kernel), ⟨rfl, rfl⟩, by decide, by decide⟩
theorem c_asbLat (G : Glb Z a0) {a : Addr} (C : Fld Z H.1 a ASB "coder" "B" (.int 0)) : Ct l Z EL0 (⟨"java/lang/AbstractStringBuilder", "isLatin1", "()Z"⟩ : MethodName) jdk_68_method_68_code 1 ((some .boolean)) ({ frames := 0, cells := 0, slots := 0, locals := 0 } : Room) [] [.ref a] H (fun v' H' => v' = some (.int 1) ∧ H = H') := by
  refine Ct.in G (by first | exact plainFor_of_name (by simp [plainName, overriddenIn]; done) | decide +kernel) (ls := [.val (.ref a)]) rfl rfl fun D A0 => ?_
  obtain ⟨cz, hcz, cS⟩ := G_compact G
  have A1 := A0.getS (wd_117 G) cS (by decide +kernel)
  have A2 := A1.ifF (cd := .eq) (o := 14) (by decide +kernel) hcz
  have A3 := A2.run [(6, .aload_n 0, 7, 0)] (pe := 7) (by decide +kernel) rfl
  have A4 := A3.getF (wd_120 G) C (by decide +kernel)
  have A5 := A4.ifF (cd := .ne) (o := 7) (by decide +kernel) (not_not_intro rfl)
  have A6 := A5.run [(13, .iconst 1, 14, 1), (14, .goto 4, 18, 0)] (pe := 18) (by decide +kernel) rfl
  exact ⟨_, _, _, _, A6.retZ (by decide +kernel) rfl, ⟨rfl, rfl⟩, by decide, by decide⟩
set_option maxRecDepth 65536 in
theorem c_sIA (G : Glb Z a0) {x a v : Addr} {cs : List Int32} {rs : List Value} (S : SB Z H a v cs rs) (hr : rs ≠ []) (hc : cs.length ≤ 34) (E : Exa Z H.1 x "java/lang/String") (V : Fld Z H.1 x "java/lang/String" "value" "[B" .null) (C : Fld Z H.1 x "java/lang/String" "coder" "B" (.int 0)) (o : H.2 x) :
    Ct l Z EL0 (⟨"java/lang/String", "<init>", "(Ljava/lang/AbstractStringBuilder;Ljava/lang/Void;)V"⟩ : MethodName) jdk_42_method_150_code 5 (none) ({ frames := 3, cells := 1, slots := 34, locals := 49 } : Room) [] [.ref x, .ref a, .null] H (fun v' H' => v' = none ∧ Kp H H' [x] ∧ Str Z H' x cs) := by
  refine Ct.in G (by first | exact plainFor_of_name (by simp [plainName, overriddenIn]; done) | decide +kernel) (ls := [.val (.ref x), .val (.ref a), .val .null, .unset, .unset]) rfl rfl fun D A0 => ?_
  obtain ⟨SE, SV, SC, SN, ST, la, lc, o1, o2⟩ := S
  have hL := ST.len; simp at hL
  have hr' : 0 < rs.length := List.length_pos_iff.mpr hr
  have A1 := A0.run [(0, .aload_n 0, 1, 0)] (pe := 1) (by decide +kernel) rfl
  have A2 := A1.initO (wd_11 G) (wd_12 G) (wd_13 G) (by decide +kernel) (Wd := 0) (by decide) (Nat.le_of_ble_eq_true rfl) (by decide)
  have A3 := A2.run [(4, .aload_n 1, 5, 0)] (pe := 5) (by decide +kernel) rfl
  obtain ⟨_, HA4, qA4, A4, moA4, szA4⟩ := A3.callV (argsL := []) (wd_200 G) (wd_201 G) (wd_203 G) rfl (wd_203 G) (wd_202 G) (wd_114 G) (wd_204 G) SE (c_gva G SV) (by decide) ⟨_, _, (by decide +kernel : parseMethodDescriptor "()[B" = some ⟨[], some (.array .byte)⟩), rfl⟩ (by decide +kernel) (Wd := 0) (by decide) (Nat.le_of_ble_eq_true rfl) (by decide) (by decide) (by decide)
  obtain ⟨rfl, rfl⟩ := qA4
  have A5 := A4.run [(8, .astore_n 3, 9, 0), (9, .aload_n 1, 10, 0)] (pe := 10) (by decide +kernel) rfl
  obtain ⟨_, HA6, qA6, A6, moA6, szA6⟩ := A5.callV (argsL := []) (wd_205 G) (wd_206 G) (wd_143 G) rfl (wd_208 G) (wd_209 G) (wd_106 G) (wd_210 G) SE (c_sbL G SE SN) (by decide) ⟨_, _, (by decide +kernel : parseMethodDescriptor "()I" = some ⟨[], some .int⟩), rfl⟩ (by decide +kernel) (Wd := 0) (by decide) (Nat.le_of_ble_eq_true rfl) (by decide) (by decide) (by decide)
  obtain ⟨rfl, rfl⟩ := qA6
  have A7 := A6.run [(13, .istore 4, 15, 0), (15, .aload_n 1, 16, 0)] (pe := 16) (by decide +kernel) rfl
  obtain ⟨_, HA8, qA8, A8, moA8, szA8⟩ := A7.callV (argsL := []) (wd_213 G) (wd_179 G) (wd_181 G) rfl (wd_181 G) (wd_180 G) (wd_114 G) (wd_182 G) SE (c_asbLat G SC) (by decide) ⟨_, _, (by decide +kernel : parseMethodDescriptor "()Z" = some ⟨[], some .boolean⟩), rfl⟩ (by decide +kernel) (Wd := 0) (by decide) (Nat.le_of_ble_eq_true rfl) (by decide) (by decide) (by decide)
  obtain ⟨rfl, rfl⟩ := qA8
  have A9 := A8.ifF (cd := .eq) (o := 22) (by decide +kernel) (by show ¬ _ = _; decide)
  have A10 := A9.run [(22, .aload_n 0, 23, 0), (23, .iconst 0, 24, 0)] (pe := 24) (by decide +kernel) rfl
  obtain ⟨H2, A11, K2, W2⟩ := A10.putFin (wd_26 G) C E (wd_27 G) rfl rfl (wd_2 G) o (by decide +kernel) (ty := .byte) (by decide) rfl rfl
  have A12 := A11.run [(27, .aload_n 0, 28, 0), (28, .aload_n 3, 29, 0), (29, .iconst 0, 30, 0), (30, .iload 4, 32, 0)] (pe := 32) (by decide +kernel) rfl
  have hvx : v ∉ [x] := by
    obtain ⟨cA, A, -⟩ := ST
    simpa using Ne.symm (ne_arr E (wd_2 G) A)
  obtain ⟨_, HA13, qA13, A13, moA13, szA13⟩ := A12.callS (argsL := [.ref v, .int (0 : Nat).toInt32, .int cs.length.toInt32]) (wd_214 G) (wd_215 G) (wd_216 G) (wd_217 G) (c_cpr G (ST.ky K2 hvx) (i := 0) (j := cs.length) (by omega) (by simp) (by omega) (fun _ => by simp; omega)) (by decide) ⟨_, _, (by decide +kernel : parseMethodDescriptor "([BII)[B" = some ⟨[(.array .byte), .int, .int], some (.array .byte)⟩), rfl⟩ (by decide +kernel) (Wd := 1) (by decide) (Nat.le_of_ble_eq_true rfl) (by decide) (by decide) (by decide)
  obtain ⟨u, rfl, hge, K3, U, o3⟩ := qA13
  have sne := slot_ne (Z := Z) (Or.inr (wd_27 G)) (Or.inr (wd_29 G)) (by decide) (t := .byte) (by decide) (t' := .array .byte) (by decide)
  have V3 := ((V.other W2 (Or.inr (Ne.symm sne))).ky K3)
  obtain ⟨H4, A14, K4, W4⟩ := A13.putFin (wd_28 G) V3 ((E.ky K2).ky K3) (wd_29 G) rfl rfl (wd_2 G) (K3.2 _ (K2.2 _ o)) (by decide +kernel) (ty := .array .byte) (by decide) rfl rfl
  have A15 := A14.run [(38, .goto 59, 97, 0)] (pe := 97) (by decide +kernel) rfl
  have e : ((lo8 cs ++ rs).drop 0).take (cs.length - 0) = lo8 cs := by
    rw [List.drop_zero, Nat.sub_zero, List.take_append_of_le_length (by simp)]; exact List.take_of_length_le (by simp)
  rw [e] at U
  have hux : u ∉ [x] := by simpa using Nat.ne_of_gt (Nat.lt_of_lt_of_le (E.ky K2).lt hge)
  refine ⟨_, _, _, _, A15.ret (by decide +kernel), ⟨rfl, (K2.trans K3 fun x hx => nomatch hx).trans K4 fun x hx => Or.inl hx, ((E.ky K2).ky K3).ky K4, lc, u, V3.same W4, Or.inl ⟨la, ((C.same W2).ky K3).other W4 (Or.inr sne), U.ky K4 hux⟩⟩, by decide, by decide⟩
theorem c_sIS (G : Glb Z a0) {x a v : Addr} {cs : List Int32} {rs : List Value} (S : SB Z H a v cs rs) (hr : rs ≠ []) (hc : cs.length ≤ 34) (E : Exa Z H.1 x "java/lang/String") (V : Fld Z H.1 x "java/lang/String" "value" "[B" .null) (C : Fld Z H.1 x "java/lang/String" "coder" "B" (.int 0)) (o : H.2 x) :
    Ct l Z EL0 (⟨"java/lang/String", "<init>", "(Ljava/lang/StringBuilder;)V"⟩ : MethodName) jdk_42_method_53_code 2 (none) ({ frames := 4, cells := 1, slots := 34, locals := 65 } : Room) [] [.ref x, .ref a] H (fun v' H' => v' = none ∧ Kp H H' [x] ∧ Str Z H' x cs) := by
  refine Ct.in G (by first | exact plainFor_of_name (by simp [plainName, overriddenIn]; done) | decide +kernel) (ls := [.val (.ref x), .val (.ref a)]) rfl rfl fun D A0 => ?_
  have A1 := A0.run [(0, .aload_n 0, 1, 0), (1, .aload_n 1, 2, 0), (2, .aconst_null, 3, 0)] (pe := 3) (by decide +kernel) rfl
  obtain ⟨_, HA2, qA2, A2, moA2, szA2⟩ := A1.callI (argsL := [.ref a, .null]) rfl (wd_197 G) (wd_198 G) (wd_3 G) (wd_199 G) (c_sIA G S hr hc E V C o) (by decide) ⟨_, _, (by decide +kernel : parseMethodDescriptor "(Ljava/lang/AbstractStringBuilder;Ljava/lang/Void;)V" = some ⟨[(.object "java/lang/AbstractStringBuilder"), (.object "java/lang/Void")], none⟩), rfl⟩ (by decide +kernel) (Wd := 0) (by decide) (Nat.le_of_ble_eq_true rfl) (by decide) (by decide) (by decide)
  obtain ⟨rfl, q⟩ := qA2
  exact ⟨_, _, _, _, A2.ret (by decide +kernel), ⟨rfl, q⟩, by decide, by decide⟩
theorem c_tos (G : Glb Z a0) {a v : Addr} {cs : List Int32} {rs : List Value} (S : SB Z H a v cs rs) (hr : rs ≠ []) (hc : cs.length ≤ 34) :
    Ct l Z EL0 (⟨"java/lang/StringBuilder", "toString", "()Ljava/lang/String;"⟩ : MethodName) jdk_67_method_42_code 1 ((some (.object "java/lang/String"))) ({ frames := 5, cells := 2, slots := 38, locals := 79 } : Room) [] [.ref a] H (fun v' H' => ∃ s, v' = some (.ref s) ∧ H.1.size ≤ s ∧ Kp H H' [] ∧ Str Z H' s cs) := by
  refine Ct.in G (by first | exact plainFor_of_name (by simp [plainName, overriddenIn]; done) | decide +kernel) (ls := [.val (.ref a)]) rfl rfl fun D A0 => ?_
  obtain ⟨s, H1, A1, hge, K1, E, o, Df⟩ := A0.newO (wd_193 G) (wd_2 G) (wd_3 G) (by decide +kernel) (by decide) (by decide)
  have A2 := A1.run [(3, .dup, 4, 0), (4, .aload_n 0, 5, 0)] (pe := 5) (by decide +kernel) rfl
  obtain ⟨_, HA3, qA3, A3, moA3, szA3⟩ := A2.callI (argsL := [.ref a]) rfl (wd_194 G) (wd_195 G) (wd_3 G) (wd_196 G) (c_sIS G (S.ky K1) hr hc E (Df (Or.inr (wd_29 G)) (t := .array .byte) (by decide)) (Df (Or.inr (wd_27 G)) (t := .byte) (by decide)) o) (by decide) ⟨_, _, (by decide +kernel : parseMethodDescriptor "(Ljava/lang/StringBuilder;)V" = some ⟨[(.object "java/lang/StringBuilder")], none⟩), rfl⟩ (by decide +kernel) (Wd := 1) (by decide) (Nat.le_of_ble_eq_true rfl) (by decide) (by decide) (by decide)
  obtain ⟨rfl, K2, S2⟩ := qA3
  exact ⟨_, _, _, _, A3.retA (by decide +kernel) rfl rfl, ⟨s, rfl, hge, K1.trans K2 (fun y hy => by cases List.mem_singleton.mp hy; exact Or.inr hge), S2⟩, by decide, by decide⟩
end JSb2


/-! ## StringBuilder, Latin-1, that may grow -/
section JGrow
variable {l : Launch} {Z : State} {a0 : Array Value} {D : Dyn} {H : HP}
theorem c_maxI (G : Glb Z a0) {i j : Nat} (hi : i < 2 ^ 31) (hj : j < 2 ^ 31) : Ct l Z EL0 (⟨"java/lang/Math", "max", "(II)I"⟩ : MethodName) jdk_29_method_65_code 2 ((some .int)) ({ frames := 0, cells := 0, slots := 0, locals := 0 } : Room) [] [.int i.toInt32, .int j.toInt32] H (fun v H' => v = some (.int (max i j).toInt32) ∧ H = H') := by
  refine Ct.in G (by decide +kernel) (ls := [.val (.int i.toInt32), .val (.int j.toInt32)]) rfl rfl fun D A0 => ?_
  have A1 := A0.run [(0, .iload_n 0, 1, 0), (1, .iload_n 1, 2, 0)] (pe := 2) (by decide +kernel) rfl
  by_cases h : i < j
  · have A2 := A1.icT (cd := .lt) (o := 7) (by decide +kernel) ((n32_lt hi hj).mpr h) (pe := 9) (by decide)
    have A3 := A2.run [(9, .iload_n 1, 10, 0)] (pe := 10) (by decide +kernel) rfl
    exact ⟨_, _, _, _, A3.retI (by decide +kernel), ⟨by rw [Nat.max_eq_right (by omega)], rfl⟩, by decide, by decide⟩
  · have A2 := A1.icF (cd := .lt) (o := 7) (by decide +kernel) (fun q => h ((n32_lt hi hj).mp q))
    have A3 := A2.run [(5, .iload_n 0, 6, 0), (6, .goto 4, 10, 0)] (pe := 10) (by decide +kernel) rfl
    exact ⟨_, _, _, _, A3.retI (by decide +kernel), ⟨by rw [Nat.max_eq_left (by omega)], rfl⟩, by decide, by decide⟩
theorem c_nlen (G : Glb Z a0) {o i j : Nat} (h : o + max i j < 2 ^ 30) (h0 : 0 < o) : Ct l Z EL0 (⟨"jdk/internal/util/ArraysSupport", "newLength", "(III)I"⟩ : MethodName) jdk_48_method_27_code 4 ((some .int)) ({ frames := 1, cells := 0, slots := 0, locals := 14 } : Room) [] [.int o.toInt32, .int i.toInt32, .int j.toInt32] H (fun v H' => v = some (.int (o + max i j).toInt32) ∧ H = H') := by
  refine Ct.in G (by first | exact plainFor_of_name (by simp [plainName, overriddenIn]; done) | decide +kernel) (ls := [.val (.int o.toInt32), .val (.int i.toInt32), .val (.int j.toInt32), .unset]) rfl rfl fun D A0 => ?_
  have hi := Nat.le_max_left i j
  have hj := Nat.le_max_right i j
  have A1 := A0.run [(0, .iload_n 0, 1, 0), (1, .iload_n 1, 2, 0), (2, .iload_n 2, 3, 0)] (pe := 3) (by decide +kernel) rfl
  obtain ⟨_, HA2, qA2, A2, moA2, szA2⟩ := A1.callS (argsL := [.int i.toInt32, .int j.toInt32]) (wd_267 G) (wd_268 G) (wd_226 G) (wd_269 G) (c_maxI G (by omega) (by omega)) (by decide) ⟨_, _, (by decide +kernel : parseMethodDescriptor "(II)I" = some ⟨[.int, .int], some .int⟩), rfl⟩ (by decide +kernel) (Wd := 1) (by decide) (Nat.le_of_ble_eq_true rfl) (by decide) (by decide) (by decide)
  obtain ⟨rfl, rfl⟩ := qA2
  have A3 := A2.run [(6, .iadd, 7, 0)] (pe := 7) (by decide +kernel) rfl
  rw [n32_add] at A3
  have A4 := A3.run [(7, .istore_n 3, 8, 0), (8, .iconst 0, 9, 0), (9, .iload_n 3, 10, 0)] (pe := 10) (by decide +kernel) rfl
  have A5 := A4.icF (cd := .ge) (o := 11) (by decide +kernel) (not_not_intro ((n32_lt (i := 0) (by decide) (by omega)).mpr (by omega)))
  have A6 := A5.run [(13, .iload_n 3, 14, 0)] (pe := 14) (by decide +kernel) rfl
  have A7 := A6.ldcI (wd_270 G) (by decide +kernel)
  have A8 := A7.icF (cd := .gt) (o := 5) (by decide +kernel) (fun (q : (2147483639 : Int32) < (o + max i j).toInt32) => by rw [Int32.lt_iff_toInt_lt, n32_toInt (by omega), show (2147483639 : Int32).toInt = 2147483639 by decide] at q; omega)
  have A9 := A8.run [(19, .iload_n 3, 20, 0)] (pe := 20) (by decide +kernel) rfl
  exact ⟨_, _, _, _, A9.retI (by decide +kernel), ⟨rfl, rfl⟩, by decide, by decide⟩
theorem n32_shl0' (x : Int32) : x <<< ((0 : Int32) &&& 31) = x := n32_shl0 x
set_option maxRecDepth 65536 in
theorem c_ncap (G : Glb Z a0) {a v : Addr} {cs : List Int32} {rs : List Value} {C m : Nat} (S : SB Z H a v cs rs) (hC : cs.length + rs.length = C) (h1 : C < m) (h2 : m < 2 ^ 28) (h0 : 0 < C) :
    Ct l Z EL0 (⟨"java/lang/AbstractStringBuilder", "newCapacity", "(I)I"⟩ : MethodName) jdk_68_method_10_code 6 ((some .int)) ({ frames := 2, cells := 0, slots := 0, locals := 29 } : Room) [] [.ref a, .int m.toInt32] H (fun v' H' => v' = some (.int (max m (2 * C + 2)).toInt32) ∧ H = H') := by
  refine Ct.in G (by first | exact plainFor_of_name (by simp [plainName, overriddenIn]; done) | decide +kernel) (ls := [.val (.ref a), .val (.int m.toInt32), .unset, .unset, .unset, .unset]) rfl rfl fun D A0 => ?_
  obtain ⟨E, V, Cd, N, T, -⟩ := S
  have A1 := A0.run [(0, .aload_n 0, 1, 0)] (pe := 1) (by decide +kernel) rfl
  have A2 := A1.getF (wd_118 G) V (by decide +kernel)
  have A3 := A2.alen T (by decide +kernel) (z := C.toInt32) (by rw [← hC]; simp)
  have A4 := A3.run [(5, .istore_n 2, 6, 0), (6, .iload_n 1, 7, 0), (7, .aload_n 0, 8, 0)] (pe := 8) (by decide +kernel) rfl
  have A5 := A4.getF (wd_120 G) Cd (by decide +kernel)
  have A6 := A5.run [(11, .ishl, 12, 0)] (pe := 12) (by decide +kernel) rfl
  rw [n32_shl0] at A6
  have A7 := A6.run [(12, .istore_n 3, 13, 0), (13, .iload_n 3, 14, 0), (14, .iload_n 2, 15, 0), (15, .isub, 16, 0)] (pe := 16) (by decide +kernel) rfl
  rw [n32_sub (by omega)] at A7
  have A8 := A7.run [(16, .istore 4, 18, 0), (18, .iload_n 2, 19, 0), (19, .iload 4, 21, 0), (21, .iload_n 2, 22, 0), (22, .iconst 2, 23, 2), (23, .aload_n 0, 24, 0)] (pe := 24) (by decide +kernel) rfl
  have A9 := A8.getF (wd_120 G) Cd (by decide +kernel)
  have A10 := A9.run [(27, .ishl, 28, 0), (28, .iadd, 29, 0)] (pe := 29) (by decide +kernel) rfl
  rw [n32_shl0, show C.toInt32 + 2 = (C + 2).toInt32 from n32_add C 2] at A10
  obtain ⟨_, HA11, qA11, A11, moA11, szA11⟩ := A10.callS (argsL := [.int C.toInt32, .int (m - C).toInt32, .int (C + 2).toInt32]) (wd_263 G) (wd_264 G) (wd_265 G) (wd_266 G) (c_nlen G (by omega) h0) (by decide) ⟨_, _, (by decide +kernel : parseMethodDescriptor "(III)I" = some ⟨[.int, .int, .int], some .int⟩), rfl⟩ (by decide +kernel) (Wd := 0) (by decide) (Nat.le_of_ble_eq_true rfl) (by decide) (by decide) (by decide)
  obtain ⟨rfl, rfl⟩ := qA11
  rw [show C + max (m - C) (C + 2) = max m (2 * C + 2) by omega] at A11
  have A12 := A11.run [(32, .istore 5, 34, 0), (34, .iload 5, 36, 0)] (pe := 36) (by decide +kernel) rfl
  have A13 := A12.ldcI (wd_271 G) (by decide +kernel)
  have A14 := A13.icT (cd := .ne) (o := 13) (by decide +kernel) (fun q => by have := congrArg Int32.toInt q; rw [n32_toInt (by omega), show (2147483647 : Int32).toInt = 2147483647 by decide] at this; omega) (pe := 51) (by decide)
  have A15 := A14.run [(51, .iload 5, 53, 0), (53, .aload_n 0, 54, 0)] (pe := 54) (by decide +kernel) rfl
  have A16 := A15.getF (wd_120 G) Cd (by decide +kernel)
  have A17 := A16.run [(57, .ishr, 58, 0)] (pe := 58) (by decide +kernel) rfl
  rw [n32_shr0] at A17
  exact ⟨_, _, _, _, A17.retI (by decide +kernel), ⟨rfl, rfl⟩, by decide, by decide⟩
set_option maxRecDepth 65536 in
theorem c_cpo (G : Glb Z a0) {t : Addr} {vs : List Value} {n : Nat} (T : Ar Z H t .byte vs) (h1 : vs.length < n) (h2 : n ≤ 70) :
    Ct l Z EL0 (⟨"java/util/Arrays", "copyOf", "([BI)[B"⟩ : MethodName) jdk_65_method_121_code 3 ((some (.array .byte))) ({ frames := 1, cells := 1, slots := 70, locals := 18 } : Room) [] [.ref t, .int n.toInt32] H (fun v H' => ∃ u, v = some (.ref u) ∧ H.1.size ≤ u ∧ Kp H H' [] ∧ Ar Z H' u .byte (vs ++ List.replicate (n - vs.length) (.int 0)) ∧ H'.2 u ∧ Exa Z H'.1 u "[B") := by
  refine Ct.in G (by first | exact plainFor_of_name (by simp [plainName, overriddenIn]; done) | decide +kernel) (ls := [.val (.ref t), .val (.int n.toInt32), .unset]) rfl rfl fun D A0 => ?_
  have hL := T.len
  have hn31 : n < 2 ^ 31 := by omega
  have A1 := A0.run [(0, .iload_n 1, 1, 0), (1, .aload_n 0, 2, 0)] (pe := 2) (by decide +kernel) rfl
  have A2 := A1.alen T (by decide +kernel) rfl
  have A3 := A2.icT (cd := .ne) (o := 11) (by decide +kernel) (fun q => by have := (n32_inj hn31 hL).mp q; omega) (pe := 14) (by decide)
  have A4 := A3.run [(14, .iload_n 1, 15, 0)] (pe := 15) (by decide +kernel) rfl
  obtain ⟨u, H1, A5, hge, K1, U1, o1, Eu⟩ := A4.newAE (aty := .byte) (wd_19 G) (by decide +kernel) (N := n) rfl (cap := 70) h2 (by decide) (by decide) (by decide) (ad := "[B") (by decide)
  have A6 := A5.run [(17, .astore_n 2, 18, 0), (18, .aload_n 0, 19, 0), (19, .iconst 0, 20, 0), (20, .aload_n 2, 21, 0), (21, .iconst 0, 22, 0), (22, .aload_n 0, 23, 0)] (pe := 23) (by decide +kernel) rfl
  have A7 := A6.alen (T.ky K1) (by decide +kernel) rfl
  have A8 := A7.run [(24, .iload_n 1, 25, 0)] (pe := 25) (by decide +kernel) rfl
  obtain ⟨_, HA9, qA9, A9, moA9, szA9⟩ := A8.callS (argsL := [.int vs.length.toInt32, .int n.toInt32]) (wd_224 G) (wd_225 G) (wd_226 G) (wd_227 G) (c_mmin G hL hn31) (by decide) ⟨_, _, (by decide +kernel : parseMethodDescriptor "(II)I" = some ⟨[.int, .int], some .int⟩), rfl⟩ (by decide +kernel) (Wd := 4) (by decide) (Nat.le_of_ble_eq_true rfl) (by decide) (by decide) (by decide)
  obtain ⟨rfl, rfl⟩ := qA9
  rw [Nat.min_eq_left (by omega)] at A9
  obtain ⟨H2, A10, K2, U2⟩ := A9.copy (wd_228 G) (wd_164 G) (wd_162 G) (wd_163 G) (T.ky K1) U1 rfl o1 (i := 0) rfl (j := 0) rfl (q := vs.length) rfl (by omega) (by simp; omega) (by decide +kernel) (by decide) (Wd := 0) (by decide) (Nat.le_of_ble_eq_true rfl)
  have A11 := A10.run [(31, .aload_n 2, 32, 0)] (pe := 32) (by decide +kernel) rfl
  have e : (List.replicate n (defaultValue (newarray.typeOf .byte))).take 0 ++ (vs.drop 0).take vs.length ++ (List.replicate n (defaultValue (newarray.typeOf .byte))).drop (0 + vs.length) = vs ++ List.replicate (n - vs.length) (.int 0) := by
    rw [List.take_zero, List.nil_append, List.drop_zero, List.take_length, List.drop_replicate, Nat.zero_add]; rfl
  rw [e] at U2
  exact ⟨_, _, _, _, A11.retA (by decide +kernel) rfl rfl, ⟨u, rfl, hge, K1.trans K2 (fun y hy => by cases List.mem_singleton.mp hy; exact Or.inr hge), U2, K2.2 _ o1, Eu.ky K2⟩, by decide, by decide⟩
/-- a Latin-1 builder of capacity C that says cs -/
def SBx (Z : State) (H : HP) (a v : Addr) (C : Nat) (cs : List Int32) : Prop := ∃ rs, cs.length + rs.length = C ∧ SB Z H a v cs rs ∧ Exa Z H.1 v "[B"
theorem SBx.ky {H H' : HP} {a v : Addr} {C : Nat} {cs : List Int32} (S : SBx Z H a v C cs) (K : Kp H H' []) : SBx Z H' a v C cs := by
  obtain ⟨rs, h1, h2, h3⟩ := S; exact ⟨rs, h1, h2.ky K, h3.ky K⟩
theorem SBx.e {a v : Addr} {C : Nat} {cs : List Int32} (S : SBx Z H a v C cs) : Exa Z H.1 a SBn := by obtain ⟨rs, h1, h2, h3⟩ := S; exact h2.1
theorem SBx.o {a v : Addr} {C : Nat} {cs : List Int32} (S : SBx Z H a v C cs) : H.2 a ∧ H.2 v := by obtain ⟨rs, h1, h2, h3⟩ := S; exact h2.2.2.2.2.2.2.2
theorem SBx.le {a v : Addr} {C : Nat} {cs : List Int32} (S : SBx Z H a v C cs) : cs.length ≤ C := by obtain ⟨rs, h1, h2, h3⟩ := S; omega
theorem SBx.lat {a v : Addr} {C : Nat} {cs : List Int32} (S : SBx Z H a v C cs) : Lat cs := by obtain ⟨rs, h1, h2, h3⟩ := S; exact h2.2.2.2.2.2.1
abbrev Gr (C m C' : Nat) : Prop := m ≤ C ∧ C' = C ∨ C < m ∧ C' = max m (2 * C + 2)
set_option maxRecDepth 65536 in
theorem c_ensx (G : Glb Z a0) {a v : Addr} {cs : List Int32} {C m : Nat} (S : SBx Z H a v C cs) (h0 : 0 < C) (hg : max m (2 * C + 2) ≤ 70) :
    Ct l Z EL0 (⟨"java/lang/AbstractStringBuilder", "ensureCapacityInternal", "(I)V"⟩ : MethodName) jdk_68_method_9_code 3 (none) ({ frames := 3, cells := 1, slots := 70, locals := 48 } : Room) [] [.ref a, .int m.toInt32] H (fun r H' => r = none ∧ Kp H H' [a] ∧ ∃ v' C', (v' = v ∨ H.1.size ≤ v') ∧ SBx Z H' a v' C' cs ∧ Gr C m C') := by
  refine Ct.in G (by first | exact plainFor_of_name (by simp [plainName, overriddenIn]; done) | decide +kernel) (ls := [.val (.ref a), .val (.int m.toInt32), .unset]) rfl rfl fun D A0 => ?_
  obtain ⟨rs, hC, S0, Ev⟩ := S
  have hav : v ∉ [a] := by simpa using Ne.symm (S0.ne G)
  have S1 := S0
  obtain ⟨E, V, Cd, N, T, la, lc, o1, o2⟩ := S0
  have A1 := A0.run [(0, .aload_n 0, 1, 0)] (pe := 1) (by decide +kernel) rfl
  have A2 := A1.getF (wd_118 G) V (by decide +kernel)
  have A3 := A2.alen T (by decide +kernel) (z := C.toInt32) (by rw [← hC]; simp)
  have A4 := A3.run [(5, .aload_n 0, 6, 0)] (pe := 6) (by decide +kernel) rfl
  have A5 := A4.getF (wd_120 G) Cd (by decide +kernel)
  have A6 := A5.run [(9, .ishr, 10, 0)] (pe := 10) (by decide +kernel) rfl
  rw [n32_shr0] at A6
  have A7 := A6.run [(10, .istore_n 2, 11, 0), (11, .iload_n 1, 12, 0), (12, .iload_n 2, 13, 0), (13, .isub, 14, 0)] (pe := 14) (by decide +kernel) rfl
  have hiff : (0 : Int32) < m.toInt32 - C.toInt32 ↔ C < m := by
    have e := c_isub m.toInt32 C.toInt32
    rw [n32_toInt (by omega), n32_toInt (by omega)] at e
    have r := rng32 (m.toInt32 - C.toInt32)
    rw [Int32.lt_iff_toInt_lt, show (0 : Int32).toInt = 0 by decide]; omega
  by_cases h : C < m
  · have A8 := A7.ifF (cd := .le) (o := 24) (by decide +kernel) (not_not_intro (hiff.mpr h))
    have A9 := A8.run [(17, .aload_n 0, 18, 0), (18, .aload_n 0, 19, 0)] (pe := 19) (by decide +kernel) rfl
    have A10 := A9.getF (wd_118 G) V (by decide +kernel)
    have A11 := A10.run [(22, .aload_n 0, 23, 0), (23, .iload_n 1, 24, 0)] (pe := 24) (by decide +kernel) rfl
    obtain ⟨_, HA12, qA12, A12, moA12, szA12⟩ := A11.callV (argsL := [.int m.toInt32]) (wd_258 G) (decl_of (wd_259 G) (wd_262 G)) (wd_261 G) rfl (wd_261 G) (wd_259 G) (wd_114 G) (wd_262 G) E (c_ncap G S1 hC h (by omega) h0) (by decide) ⟨_, _, (by decide +kernel : parseMethodDescriptor "(I)I" = some ⟨[.int], some .int⟩), rfl⟩ (by decide +kernel) (Wd := 2) (by decide) (Nat.le_of_ble_eq_true rfl) (by decide) (by decide) (by decide)
    obtain ⟨rfl, rfl⟩ := qA12
    have A13 := A12.run [(27, .aload_n 0, 28, 0)] (pe := 28) (by decide +kernel) rfl
    have A14 := A13.getF (wd_120 G) Cd (by decide +kernel)
    have A15 := A14.run [(31, .ishl, 32, 0)] (pe := 32) (by decide +kernel) rfl
    rw [n32_shl0] at A15
    obtain ⟨_, HA16, qA16, A16, moA16, szA16⟩ := A15.callS (argsL := [.ref v, .int (max m (2 * C + 2)).toInt32]) (wd_272 G) (wd_273 G) (wd_216 G) (wd_274 G) (c_cpo G T (by rw [List.length_append, List.length_map, hC]; omega) hg) (by decide) ⟨_, _, (by decide +kernel : parseMethodDescriptor "([BI)[B" = some ⟨[(.array .byte), .int], some (.array .byte)⟩), rfl⟩ (by decide +kernel) (Wd := 1) (by decide) (Nat.le_of_ble_eq_true rfl) (by decide) (by decide) (by decide)
    obtain ⟨u, rfl, hge, K1, U, ou, Eu⟩ := qA16
    obtain ⟨H2, A17, K2, W2⟩ := A16.putF (wd_118 G) (V.ky K1) (E.ky K1) (wd_119 G) (wd_105 G) (K1.2 _ o1) (by decide +kernel) (ty := .array .byte) (by decide) rfl rfl
    have hua : u ∉ [a] := by simpa using Nat.ne_of_gt (Nat.lt_of_lt_of_le E.lt hge)
    refine ⟨_, _, _, _, A17.ret (by decide +kernel), ⟨rfl, (K1.wide fun x hx => nomatch hx).trans K2 fun x hx => Or.inl hx, u, max m (2 * C + 2), Or.inr hge, ⟨rs ++ List.replicate (max m (2 * C + 2) - C) (.int 0), by simp; omega, ⟨(E.ky K1).ky K2, (V.ky K1).same W2, (Cd.ky K1).other W2 (Or.inr (Ne.symm (sl_vc G))), (N.ky K1).other W2 (Or.inr (Ne.symm (sl_vn G))), ?_, la, lc, K2.2 _ (K1.2 _ o1), K2.2 _ ou⟩, Eu.ky K2⟩, Or.inr ⟨h, rfl⟩⟩, by decide, by decide⟩
    have U2 := U.ky K2 hua
    rw [List.length_append, List.length_map, hC, List.append_assoc] at U2
    exact U2
  · have A8 := A7.ifT (cd := .le) (o := 24) (by decide +kernel) (fun q => h (hiff.mp q)) (pe := 38) (by decide)
    exact ⟨_, _, _, _, A8.ret (by decide +kernel), ⟨rfl, (Kp.refl H).wide (fun x hx => nomatch hx), v, C, Or.inl rfl, ⟨rs, hC, S1, Ev⟩, Or.inl ⟨by omega, rfl⟩⟩, by decide, by decide⟩
theorem StrT.kyA (G : Glb Z a0) {H H' : HP} {a s t : Addr} {ds : List Int32} (T : StrT Z H s t ds) (K : Kp H H' [a]) (E : Exa Z H.1 a SBn) : StrT Z H' s t ds := by
  refine T.ky K (by simpa using Ne.symm (ne_exa E T.1 (by decide))) ?_
  obtain ⟨-, -, -, h⟩ := T
  rcases h with ⟨-, -, ⟨c, A, -⟩⟩ | ⟨-, -, ⟨c, A, -⟩⟩ <;> simpa using Ne.symm (ne_arr E (wd_105 G) A)
set_option maxRecDepth 65536 in
theorem c_asbAx (G : Glb Z a0) {a v s t : Addr} {cs ds : List Int32} {C : Nat} (S : SBx Z H a v C cs) (T : StrT Z H s t ds) (hla : Lat ds) (h0 : 0 < C) (hg : max (cs.length + ds.length) (2 * C + 2) ≤ 70) :
    Ct l Z EL0 (⟨"java/lang/AbstractStringBuilder", "append", "(Ljava/lang/String;)Ljava/lang/AbstractStringBuilder;"⟩ : MethodName) jdk_68_method_22_code 3 ((some (.object "java/lang/AbstractStringBuilder"))) ({ frames := 4, cells := 1, slots := 70, locals := 62 } : Room) [] [.ref a, .ref s] H (fun r H' => r = some (.ref a) ∧ Kp H H' [a, v] ∧ ∃ v' C', (v' = v ∨ H.1.size ≤ v') ∧ SBx Z H' a v' C' (cs ++ ds) ∧ Gr C (cs.length + ds.length) C') := by
  refine Ct.in G (by first | exact plainFor_of_name (by simp [plainName, overriddenIn]; done) | decide +kernel) (ls := [.val (.ref a), .val (.ref s), .unset]) rfl rfl fun D A0 => ?_
  have A1 := A0.run [(0, .aload_n 1, 1, 0)] (pe := 1) (by decide +kernel) rfl
  have A2 := A1.nnullT (o := 8) (by decide +kernel) (pe := 9) (by decide)
  have A3 := A2.run [(9, .aload_n 1, 10, 0)] (pe := 10) (by decide +kernel) rfl
  obtain ⟨_, HA4, qA4, A4, moA4, szA4⟩ := A3.callV (argsL := []) (wd_133 G) (wd_134 G) (wd_136 G) rfl (wd_136 G) (wd_135 G) (wd_3 G) (wd_137 G) T.1 (c_sLen G T.str) (by decide) ⟨_, _, (by decide +kernel : parseMethodDescriptor "()I" = some ⟨[], some .int⟩), rfl⟩ (by decide +kernel) (Wd := 0) (by decide) (Nat.le_of_ble_eq_true rfl) (by decide) (by decide) (by decide)
  obtain ⟨rfl, rfl⟩ := qA4
  have A5 := A4.run [(13, .istore_n 2, 14, 0), (14, .aload_n 0, 15, 0), (15, .aload_n 0, 16, 0)] (pe := 16) (by decide +kernel) rfl
  have E0 := S.e
  have N0 : Fld Z H.1 a ASB "count" "I" (.int cs.length.toInt32) := by obtain ⟨rs, -, q, -⟩ := S; exact q.2.2.2.1
  have A6 := A5.getF (wd_138 G) N0 (by decide +kernel)
  have A7 := A6.run [(19, .iload_n 2, 20, 0), (20, .iadd, 21, 0)] (pe := 21) (by decide +kernel) rfl
  rw [n32_add] at A7
  obtain ⟨_, HA8, qA8, A8, moA8, szA8⟩ := A7.callV (argsL := [.int (cs.length + ds.length).toInt32]) (wd_140 G) (decl_of (wd_141 G) (wd_144 G)) (wd_143 G) rfl (wd_143 G) (wd_141 G) (wd_114 G) (wd_144 G) E0 (c_ensx G S h0 hg) (by decide) ⟨_, _, (by decide +kernel : parseMethodDescriptor "(I)V" = some ⟨[.int], none⟩), rfl⟩ (by decide +kernel) (Wd := 0) (by decide) (Nat.le_of_ble_eq_true rfl) (by decide) (by decide) (by decide)
  obtain ⟨rfl, K0, v', C', hv', ⟨rs, hC', S1, Ev⟩, hG⟩ := qA8
  have T1 := T.kyA G K0 E0
  have hr : ds.length ≤ rs.length := by rcases hG with ⟨h, rfl⟩ | ⟨h, rfl⟩ <;> omega
  have A9 := A8.run [(24, .aload_n 0, 25, 0), (25, .aload_n 0, 26, 0)] (pe := 26) (by decide +kernel) rfl
  have A10 := A9.getF (wd_138 G) S1.2.2.2.1 (by decide +kernel)
  have A11 := A10.run [(29, .aload_n 1, 30, 0)] (pe := 30) (by decide +kernel) rfl
  obtain ⟨_, HA12, qA12, A12, moA12, szA12⟩ := A11.callV (argsL := [.int cs.length.toInt32, .ref s]) (wd_145 G) (decl_of (wd_146 G) (wd_149 G)) (wd_148 G) rfl (wd_148 G) (wd_146 G) (wd_114 G) (wd_149 G) S1.1 (c_psa G S1 T1 hla hr) (by decide) ⟨_, _, (by decide +kernel : parseMethodDescriptor "(ILjava/lang/String;)V" = some ⟨[.int, (.object "java/lang/String")], none⟩), rfl⟩ (by decide +kernel) (Wd := 0) (by decide) (Nat.le_of_ble_eq_true rfl) (by decide) (by decide) (by decide)
  obtain ⟨rfl, K1, B1⟩ := qA12
  have hav : a ∉ [v'] := by simpa using S1.ne G
  have hva : v' ∉ [a] := by simpa using Ne.symm (S1.ne G)
  obtain ⟨E, V, Cd, N, T0, la, lc, o1, o2⟩ := S1
  have A13 := A12.run [(33, .aload_n 0, 34, 0), (34, .dup, 35, 0)] (pe := 35) (by decide +kernel) rfl
  have A14 := A13.getF (wd_138 G) (N.ky K1 hav) (by decide +kernel)
  have A15 := A14.run [(38, .iload_n 2, 39, 0), (39, .iadd, 40, 0)] (pe := 40) (by decide +kernel) rfl
  rw [n32_add] at A15
  obtain ⟨H3, A16, K3, W3⟩ := A15.putF (wd_138 G) (N.ky K1 hav) (E.ky K1) (wd_139 G) (wd_105 G) (K1.2 _ o1) (by decide +kernel) (ty := .int) (by decide) rfl rfl
  have A17 := A16.run [(43, .aload_n 0, 44, 0)] (pe := 44) (by decide +kernel) rfl
  have KK : Kp H H3 [a, v] := ((K0.wide fun x hx => Or.inl (by simp at hx; simp [hx])).trans K1 fun x hx => by
    cases List.mem_singleton.mp hx
    rcases hv' with rfl | h
    · exact Or.inl (by simp)
    · exact Or.inr h).trans K3 fun x hx => Or.inl (by simp at hx; simp [hx])
  refine ⟨_, _, _, _, A17.retA (by decide +kernel) rfl rfl, ⟨rfl, KK, v', C', hv', ⟨rs.drop ds.length, by simp; omega, ⟨(E.ky K1).ky K3, (V.ky K1 hav).other W3 (Or.inr (sl_vn G)), (Cd.ky K1 hav).other W3 (Or.inr (sl_cn G)), by rw [List.length_append]; exact (N.ky K1 hav).same W3, B1.ky K3 hva, ?_, ?_, K3.2 _ (K1.2 _ o1), K3.2 _ (K1.2 _ o2)⟩, (Ev.ky K1).ky K3⟩, hG⟩, by decide, by decide⟩
  · exact fun c hc => (List.mem_append.mp hc).elim (la c) (hla c)
  · exact fun c hc => (List.mem_append.mp hc).elim (lc c) (T.2.1 c)
theorem c_sbAx (G : Glb Z a0) {a v s t : Addr} {cs ds : List Int32} {C : Nat} (S : SBx Z H a v C cs) (T : StrT Z H s t ds) (hla : Lat ds) (h0 : 0 < C) (hg : max (cs.length + ds.length) (2 * C + 2) ≤ 70) :
    Ct l Z EL0 (⟨"java/lang/StringBuilder", "append", "(Ljava/lang/String;)Ljava/lang/StringBuilder;"⟩ : MethodName) jdk_67_method_7_code 2 ((some (.object "java/lang/StringBuilder"))) ({ frames := 5, cells := 1, slots := 70, locals := 76 } : Room) [] [.ref a, .ref s] H (fun r H' => r = some (.ref a) ∧ Kp H H' [a, v] ∧ ∃ v' C', (v' = v ∨ H.1.size ≤ v') ∧ SBx Z H' a v' C' (cs ++ ds) ∧ Gr C (cs.length + ds.length) C') := by
  refine Ct.in G (by first | exact plainFor_of_name (by simp [plainName, overriddenIn]; done) | decide +kernel) (ls := [.val (.ref a), .val (.ref s)]) rfl rfl fun D A0 => ?_
  have A1 := A0.run [(0, .aload_n 0, 1, 0), (1, .aload_n 1, 2, 0)] (pe := 2) (by decide +kernel) rfl
  obtain ⟨_, HA2, qA2, A2, moA2, szA2⟩ := A1.callU (argsL := [.ref s]) (wd_128 G) (wd_131 G) (wd_143 G) rfl (wd_130 G) (wd_129 G) (by decide) (wd_114 G) (wd_132 G) S.e (c_asbAx G S T hla h0 hg) (by decide) ⟨_, _, (by decide +kernel : parseMethodDescriptor "(Ljava/lang/String;)Ljava/lang/AbstractStringBuilder;" = some ⟨[(.object "java/lang/String")], some (.object "java/lang/AbstractStringBuilder")⟩), rfl⟩ (by decide +kernel) (Wd := 0) (by decide) (Nat.le_of_ble_eq_true rfl) (by decide) (by decide) (by decide)
  obtain ⟨rfl, q⟩ := qA2
  have A3 := A2.run [(5, .pop, 6, 0), (6, .aload_n 0, 7, 0)] (pe := 7) (by decide +kernel) rfl
  exact ⟨_, _, _, _, A3.retA (by decide +kernel) rfl rfl, ⟨rfl, q⟩, by decide, by decide⟩
set_option maxRecDepth 65536 in
theorem c_asbIx (G : Glb Z a0) {x : Addr} (E : Exa Z H.1 x SBn) (V : Fld Z H.1 x ASB "value" "[B" .null) (C : Fld Z H.1 x ASB "coder" "B" (.int 0)) (N : Fld Z H.1 x ASB "count" "I" (.int 0)) (o : H.2 x) :
    Ct l Z EL0 (⟨"java/lang/AbstractStringBuilder", "<init>", "(I)V"⟩ : MethodName) jdk_68_method_2_code 2 (none) ({ frames := 1, cells := 1, slots := 16, locals := 12 } : Room) [] [.ref x, .int 16] H (fun v H' => v = none ∧ Kp H H' [x] ∧ ∃ t, H.1.size ≤ t ∧ SBx Z H' x t 16 []) := by
  refine Ct.in G (by first | exact plainFor_of_name (by simp [plainName, overriddenIn]; done) | decide +kernel) (ls := [.val (.ref x), .val (.int 16)]) rfl rfl fun D A0 => ?_
  obtain ⟨cz, hcz, cS⟩ := G_compact G
  have A1 := A0.run [(0, .aload_n 0, 1, 0)] (pe := 1) (by decide +kernel) rfl
  have A2 := A1.initO (wd_116 G) (wd_12 G) (wd_13 G) (by decide +kernel) (Wd := 0) (by decide) (Nat.le_of_ble_eq_true rfl) (by decide)
  have A3 := A2.getS (wd_117 G) cS (by decide +kernel)
  have A4 := A3.ifF (cd := .eq) (o := 18) (by decide +kernel) hcz
  have A5 := A4.run [(10, .aload_n 0, 11, 0), (11, .iload_n 1, 12, 0)] (pe := 12) (by decide +kernel) rfl
  obtain ⟨t, H1, A6, hge, K1, T1, o1, Et⟩ := A5.newAE (aty := .byte) (wd_19 G) (by decide +kernel) (N := 16) rfl (cap := 16) (by decide) (by decide) (by decide) (by decide) (ad := "[B") (by decide)
  obtain ⟨H2, A7, K2, W2⟩ := A6.putF (wd_118 G) (V.ky K1) (E.ky K1) (wd_119 G) (wd_105 G) (K1.2 _ o) (by decide +kernel) (ty := .array .byte) (by decide) rfl rfl
  have A8 := A7.run [(17, .aload_n 0, 18, 0), (18, .iconst 0, 19, 0)] (pe := 19) (by decide +kernel) rfl
  have C2 := (C.ky K1).other W2 (Or.inr (Ne.symm (sl_vc G)))
  obtain ⟨H3, A9, K3, W3⟩ := A8.putF (wd_120 G) C2 ((E.ky K1).ky K2) (wd_121 G) (wd_105 G) (K2.2 _ (K1.2 _ o)) (by decide +kernel) (ty := .byte) (by decide) rfl rfl
  have A10 := A9.run [(22, .goto 16, 38, 0)] (pe := 38) (by decide +kernel) rfl
  have A11 := A10.ret (by decide +kernel)
  have htx : t ∉ [x] := by simpa using Nat.ne_of_gt (Nat.lt_of_lt_of_le E.lt hge)
  refine ⟨_, _, _, _, A11, ⟨rfl, ((K1.wide fun x hx => nomatch hx).trans K2 fun x hx => Or.inl hx).trans K3 fun x hx => Or.inl hx, t, hge, List.replicate 16 (.int 0), rfl, ⟨((E.ky K1).ky K2).ky K3, ((V.ky K1).same W2).other W3 (Or.inr (sl_vc G)), C2.same W3, ((N.ky K1).other W2 (Or.inr (Ne.symm (sl_vn G)))).other W3 (Or.inr (Ne.symm (sl_cn G))), (T1.ky K2 htx).ky K3 htx, (fun c hc => nomatch hc), (fun c hc => nomatch hc), K3.2 _ (K2.2 _ (K1.2 _ o)), K3.2 _ (K2.2 _ o1)⟩, (Et.ky K2).ky K3⟩, by decide, by decide⟩
theorem c_sbIx (G : Glb Z a0) {x : Addr} (E : Exa Z H.1 x SBn) (V : Fld Z H.1 x ASB "value" "[B" .null) (C : Fld Z H.1 x ASB "coder" "B" (.int 0)) (N : Fld Z H.1 x ASB "count" "I" (.int 0)) (o : H.2 x) :
    Ct l Z EL0 (⟨"java/lang/StringBuilder", "<init>", "()V"⟩ : MethodName) jdk_67_method_1_code 1 (none) ({ frames := 2, cells := 1, slots := 16, locals := 25 } : Room) [] [.ref x] H (fun v H' => v = none ∧ Kp H H' [x] ∧ ∃ t, H.1.size ≤ t ∧ SBx Z H' x t 16 []) := by
  refine Ct.in G (by first | exact plainFor_of_name (by simp [plainName, overriddenIn]; done) | decide +kernel) (ls := [.val (.ref x)]) rfl rfl fun D A0 => ?_
  have A1 := A0.run [(0, .aload_n 0, 1, 0), (1, .bipush 16, 3, 16)] (pe := 3) (by decide +kernel) rfl
  obtain ⟨_, HA2, qA2, A2, moA2, szA2⟩ := A1.callI (argsL := [.int 16]) rfl (wd_110 G) (wd_111 G) (wd_114 G) (wd_115 G) (c_asbIx G E V C N o) (by decide) ⟨_, _, (by decide +kernel : parseMethodDescriptor "(I)V" = some ⟨[.int], none⟩), rfl⟩ (by decide +kernel) (Wd := 0) (by decide) (Nat.le_of_ble_eq_true rfl) (by decide) (by decide) (by decide)
  obtain ⟨rfl, K, q⟩ := qA2
  exact ⟨_, _, _, _, A2.ret (by decide +kernel), ⟨rfl, K, q⟩, by decide, by decide⟩
theorem c_cprA (G : Glb Z a0) {t : Addr} {vs : List Value} {j : Nat} (T : Ar Z H t .byte vs) (Et : Exa Z H.1 t "[B") (h2 : j ≤ vs.length) (h3 : j ≤ 34) :
    Ct l Z EL0 (⟨"java/util/Arrays", "copyOfRange", "([BII)[B"⟩ : MethodName) jdk_65_method_132_code 3 ((some (.array .byte))) ({ frames := 2, cells := 1, slots := 34, locals := 34 } : Room) [] [.ref t, .int (0 : Nat).toInt32, .int j.toInt32] H (fun v H' => ∃ u, v = some (.ref u) ∧ H.1.size ≤ u ∧ Kp H H' [] ∧ Ar Z H' u .byte ((vs.drop 0).take (j - 0)) ∧ H'.2 u) := by
  by_cases hw : j = vs.length
  · refine Ct.in G (by first | exact plainFor_of_name (by simp [plainName, overriddenIn]; done) | decide +kernel) (ls := [.val (.ref t), .val (.int (0 : Nat).toInt32), .val (.int j.toInt32)]) rfl rfl fun D A0 => ?_
    have A1 := A0.run [(0, .iload_n 1, 1, 0)] (pe := 1) (by decide +kernel) rfl
    have A2 := A1.ifF (cd := .ne) (o := 9) (by decide +kernel) (not_not_intro rfl)
    have A3 := A2.run [(4, .iload_n 2, 5, 0), (5, .aload_n 0, 6, 0)] (pe := 6) (by decide +kernel) rfl
    have A4 := A3.alen T (by decide +kernel) rfl
    have A5 := A4.icT (cd := .eq) (o := 10) (by decide +kernel) (congrArg Nat.toInt32 hw) (pe := 17) (by decide)
    have A6 := A5.run [(17, .aload_n 0, 18, 0)] (pe := 18) (by decide +kernel) rfl
    obtain ⟨u, H1, A7, hge, K1, U, o1, Eu⟩ := A6.clone (wd_280 G) (wd_281 G) (wd_285 G) (wd_283 G) (wd_284 G) (wd_286 G) T Et (by decide +kernel) (by decide) (Wd := 0) (by decide) (by decide) (cap := 34) (by omega) (by decide) (by decide)
    have A8 := A7.castY (wd_287 G) (Ins.self Eu) (by decide +kernel)
    refine ⟨_, _, _, _, A8.retA (by decide +kernel) rfl rfl, ⟨u, rfl, hge, K1, ?_, o1⟩, by decide, by decide⟩
    rw [List.drop_zero, Nat.sub_zero, hw, List.take_length]; exact U
  · exact c_cpr G T (by omega) h2 (by omega) (fun _ => hw)
set_option maxRecDepth 65536 in
theorem c_sIAx (G : Glb Z a0) {x a v : Addr} {cs : List Int32} {rs : List Value} (S : SB Z H a v cs rs) (Ev : Exa Z H.1 v "[B") (hc : cs.length ≤ 34) (E : Exa Z H.1 x "java/lang/String") (V : Fld Z H.1 x "java/lang/String" "value" "[B" .null) (C : Fld Z H.1 x "java/lang/String" "coder" "B" (.int 0)) (o : H.2 x) :
    Ct l Z EL0 (⟨"java/lang/String", "<init>", "(Ljava/lang/AbstractStringBuilder;Ljava/lang/Void;)V"⟩ : MethodName) jdk_42_method_150_code 5 (none) ({ frames := 3, cells := 1, slots := 34, locals := 49 } : Room) [] [.ref x, .ref a, .null] H (fun v' H' => v' = none ∧ Kp H H' [x] ∧ Str Z H' x cs) := by
  refine Ct.in G (by first | exact plainFor_of_name (by simp [plainName, overriddenIn]; done) | decide +kernel) (ls := [.val (.ref x), .val (.ref a), .val .null, .unset, .unset]) rfl rfl fun D A0 => ?_
  obtain ⟨SE, SV, SC, SN, ST, la, lc, o1, o2⟩ := S
  have hL := ST.len; simp at hL
  have A1 := A0.run [(0, .aload_n 0, 1, 0)] (pe := 1) (by decide +kernel) rfl
  have A2 := A1.initO (wd_11 G) (wd_12 G) (wd_13 G) (by decide +kernel) (Wd := 0) (by decide) (Nat.le_of_ble_eq_true rfl) (by decide)
  have A3 := A2.run [(4, .aload_n 1, 5, 0)] (pe := 5) (by decide +kernel) rfl
  obtain ⟨_, HA4, qA4, A4, moA4, szA4⟩ := A3.callV (argsL := []) (wd_200 G) (wd_201 G) (wd_203 G) rfl (wd_203 G) (wd_202 G) (wd_114 G) (wd_204 G) SE (c_gva G SV) (by decide) ⟨_, _, (by decide +kernel : parseMethodDescriptor "()[B" = some ⟨[], some (.array .byte)⟩), rfl⟩ (by decide +kernel) (Wd := 0) (by decide) (Nat.le_of_ble_eq_true rfl) (by decide) (by decide) (by decide)
  obtain ⟨rfl, rfl⟩ := qA4
  have A5 := A4.run [(8, .astore_n 3, 9, 0), (9, .aload_n 1, 10, 0)] (pe := 10) (by decide +kernel) rfl
  obtain ⟨_, HA6, qA6, A6, moA6, szA6⟩ := A5.callV (argsL := []) (wd_205 G) (wd_206 G) (wd_143 G) rfl (wd_208 G) (wd_209 G) (wd_106 G) (wd_210 G) SE (c_sbL G SE SN) (by decide) ⟨_, _, (by decide +kernel : parseMethodDescriptor "()I" = some ⟨[], some .int⟩), rfl⟩ (by decide +kernel) (Wd := 0) (by decide) (Nat.le_of_ble_eq_true rfl) (by decide) (by decide) (by decide)
  obtain ⟨rfl, rfl⟩ := qA6
  have A7 := A6.run [(13, .istore 4, 15, 0), (15, .aload_n 1, 16, 0)] (pe := 16) (by decide +kernel) rfl
  obtain ⟨_, HA8, qA8, A8, moA8, szA8⟩ := A7.callV (argsL := []) (wd_213 G) (wd_179 G) (wd_181 G) rfl (wd_181 G) (wd_180 G) (wd_114 G) (wd_182 G) SE (c_asbLat G SC) (by decide) ⟨_, _, (by decide +kernel : parseMethodDescriptor "()Z" = some ⟨[], some .boolean⟩), rfl⟩ (by decide +kernel) (Wd := 0) (by decide) (Nat.le_of_ble_eq_true rfl) (by decide) (by decide) (by decide)
  obtain ⟨rfl, rfl⟩ := qA8
  have A9 := A8.ifF (cd := .eq) (o := 22) (by decide +kernel) (by show ¬ _ = _; decide)
  have A10 := A9.run [(22, .aload_n 0, 23, 0), (23, .iconst 0, 24, 0)] (pe := 24) (by decide +kernel) rfl
  obtain ⟨H2, A11, K2, W2⟩ := A10.putFin (wd_26 G) C E (wd_27 G) rfl rfl (wd_2 G) o (by decide +kernel) (ty := .byte) (by decide) rfl rfl
  have A12 := A11.run [(27, .aload_n 0, 28, 0), (28, .aload_n 3, 29, 0), (29, .iconst 0, 30, 0), (30, .iload 4, 32, 0)] (pe := 32) (by decide +kernel) rfl
  have hvx : v ∉ [x] := by
    obtain ⟨cA, A, -⟩ := ST
    simpa using Ne.symm (ne_arr E (wd_2 G) A)
  obtain ⟨_, HA13, qA13, A13, moA13, szA13⟩ := A12.callS (argsL := [.ref v, .int (0 : Nat).toInt32, .int cs.length.toInt32]) (wd_214 G) (wd_215 G) (wd_216 G) (wd_217 G) (c_cprA G (ST.ky K2 hvx) (Ev.ky K2) (j := cs.length) (by simp) (by omega)) (by decide) ⟨_, _, (by decide +kernel : parseMethodDescriptor "([BII)[B" = some ⟨[(.array .byte), .int, .int], some (.array .byte)⟩), rfl⟩ (by decide +kernel) (Wd := 1) (by decide) (Nat.le_of_ble_eq_true rfl) (by decide) (by decide) (by decide)
  obtain ⟨u, rfl, hge, K3, U, o3⟩ := qA13
  have sne := slot_ne (Z := Z) (Or.inr (wd_27 G)) (Or.inr (wd_29 G)) (by decide) (t := .byte) (by decide) (t' := .array .byte) (by decide)
  have V3 := ((V.other W2 (Or.inr (Ne.symm sne))).ky K3)
  obtain ⟨H4, A14, K4, W4⟩ := A13.putFin (wd_28 G) V3 ((E.ky K2).ky K3) (wd_29 G) rfl rfl (wd_2 G) (K3.2 _ (K2.2 _ o)) (by decide +kernel) (ty := .array .byte) (by decide) rfl rfl
  have A15 := A14.run [(38, .goto 59, 97, 0)] (pe := 97) (by decide +kernel) rfl
  have e : ((lo8 cs ++ rs).drop 0).take (cs.length - 0) = lo8 cs := by
    rw [List.drop_zero, Nat.sub_zero, List.take_append_of_le_length (by simp)]; exact List.take_of_length_le (by simp)
  rw [e] at U
  have hux : u ∉ [x] := by simpa using Nat.ne_of_gt (Nat.lt_of_lt_of_le (E.ky K2).lt hge)
  refine ⟨_, _, _, _, A15.ret (by decide +kernel), ⟨rfl, (K2.trans K3 fun x hx => nomatch hx).trans K4 fun x hx => Or.inl hx, ((E.ky K2).ky K3).ky K4, lc, u, V3.same W4, Or.inl ⟨la, ((C.same W2).ky K3).other W4 (Or.inr sne), U.ky K4 hux⟩⟩, by decide, by decide⟩
theorem c_sISx (G : Glb Z a0) {x a v : Addr} {cs : List Int32} {rs : List Value} (S : SB Z H a v cs rs) (Ev : Exa Z H.1 v "[B") (hc : cs.length ≤ 34) (E : Exa Z H.1 x "java/lang/String") (V : Fld Z H.1 x "java/lang/String" "value" "[B" .null) (C : Fld Z H.1 x "java/lang/String" "coder" "B" (.int 0)) (o : H.2 x) :
    Ct l Z EL0 (⟨"java/lang/String", "<init>", "(Ljava/lang/StringBuilder;)V"⟩ : MethodName) jdk_42_method_53_code 2 (none) ({ frames := 4, cells := 1, slots := 34, locals := 65 } : Room) [] [.ref x, .ref a] H (fun v' H' => v' = none ∧ Kp H H' [x] ∧ Str Z H' x cs) := by
  refine Ct.in G (by first | exact plainFor_of_name (by simp [plainName, overriddenIn]; done) | decide +kernel) (ls := [.val (.ref x), .val (.ref a)]) rfl rfl fun D A0 => ?_
  have A1 := A0.run [(0, .aload_n 0, 1, 0), (1, .aload_n 1, 2, 0), (2, .aconst_null, 3, 0)] (pe := 3) (by decide +kernel) rfl
  obtain ⟨_, HA2, qA2, A2, moA2, szA2⟩ := A1.callI (argsL := [.ref a, .null]) rfl (wd_197 G) (wd_198 G) (wd_3 G) (wd_199 G) (c_sIAx G S Ev hc E V C o) (by decide) ⟨_, _, (by decide +kernel : parseMethodDescriptor "(Ljava/lang/AbstractStringBuilder;Ljava/lang/Void;)V" = some ⟨[(.object "java/lang/AbstractStringBuilder"), (.object "java/lang/Void")], none⟩), rfl⟩ (by decide +kernel) (Wd := 0) (by decide) (Nat.le_of_ble_eq_true rfl) (by decide) (by decide) (by decide)
  obtain ⟨rfl, q⟩ := qA2
  exact ⟨_, _, _, _, A2.ret (by decide +kernel), ⟨rfl, q⟩, by decide, by decide⟩
theorem c_tosx (G : Glb Z a0) {a v : Addr} {cs : List Int32} {rs : List Value} (S : SB Z H a v cs rs) (Ev : Exa Z H.1 v "[B") (hc : cs.length ≤ 34) :
    Ct l Z EL0 (⟨"java/lang/StringBuilder", "toString", "()Ljava/lang/String;"⟩ : MethodName) jdk_67_method_42_code 1 ((some (.object "java/lang/String"))) ({ frames := 5, cells := 2, slots := 38, locals := 79 } : Room) [] [.ref a] H (fun v' H' => ∃ s, v' = some (.ref s) ∧ H.1.size ≤ s ∧ Kp H H' [] ∧ Str Z H' s cs) := by
  refine Ct.in G (by first | exact plainFor_of_name (by simp [plainName, overriddenIn]; done) | decide +kernel) (ls := [.val (.ref a)]) rfl rfl fun D A0 => ?_
  obtain ⟨s, H1, A1, hge, K1, E, o, Df⟩ := A0.newO (wd_193 G) (wd_2 G) (wd_3 G) (by decide +kernel) (by decide) (by decide)
  have A2 := A1.run [(3, .dup, 4, 0), (4, .aload_n 0, 5, 0)] (pe := 5) (by decide +kernel) rfl
  obtain ⟨_, HA3, qA3, A3, moA3, szA3⟩ := A2.callI (argsL := [.ref a]) rfl (wd_194 G) (wd_195 G) (wd_3 G) (wd_196 G) (c_sISx G (S.ky K1) (Ev.ky K1) hc E (Df (Or.inr (wd_29 G)) (t := .array .byte) (by decide)) (Df (Or.inr (wd_27 G)) (t := .byte) (by decide)) o) (by decide) ⟨_, _, (by decide +kernel : parseMethodDescriptor "(Ljava/lang/StringBuilder;)V" = some ⟨[(.object "java/lang/StringBuilder")], none⟩), rfl⟩ (by decide +kernel) (Wd := 1) (by decide) (Nat.le_of_ble_eq_true rfl) (by decide) (by decide) (by decide)
  obtain ⟨rfl, K2, S2⟩ := qA3
  exact ⟨_, _, _, _, A3.retA (by decide +kernel) rfl rfl, ⟨s, rfl, hge, K1.trans K2 (fun y hy => by cases List.mem_singleton.mp hy; exact Or.inr hge), S2⟩, by decide, by decide⟩
end JGrow


/-! ## decimal digits -/
theorem n32_pred {k : Nat} (h : 1 ≤ k) : k.toInt32 - 1 = (k - 1).toInt32 := n32_sub (i := k) (j := 1) h
def dgs (n : Nat) : List Int32 := if n < 10 then [(48 + n).toInt32] else dgs (n / 10) ++ [(48 + n % 10).toInt32]
termination_by n
decreasing_by omega
theorem dgs_lt {n : Nat} (h : n < 10) : dgs n = [(48 + n).toInt32] := by rw [dgs, if_pos h]
theorem dgs_ge {n : Nat} (h : ¬ n < 10) : dgs n = dgs (n / 10) ++ [(48 + n % 10).toInt32] := by rw [dgs, if_neg h]
theorem dgs_100 {n : Nat} (h : 100 ≤ n) : dgs n = dgs (n / 100) ++ [(48 + n % 100 / 10).toInt32, (48 + n % 100 % 10).toInt32] := by
  rw [dgs_ge (by omega), dgs_ge (n := n / 10) (by omega), Nat.div_div_eq_div_mul, List.append_assoc]
  rw [show n / 10 % 10 = n % 100 / 10 by omega, show n % 10 = n % 100 % 10 by omega]; rfl
theorem dgs_10 {n : Nat} (h : 10 ≤ n) (h2 : n < 100) : dgs n = [(48 + n / 10).toInt32, (48 + n % 10).toInt32] := by
  rw [dgs_ge (by omega), dgs_lt (by omega)]; rfl
theorem dgs_pos (n : Nat) : 0 < (dgs n).length := by
  by_cases h : n < 10
  · rw [dgs_lt h]; simp
  · rw [dgs_ge h]; simp
theorem dgs_len : ∀ (i n : Nat), n < 10 ^ (i + 1) → (i = 0 ∨ 10 ^ i ≤ n) → (dgs n).length = i + 1
  | 0, n, h, _ => by rw [dgs_lt (by simpa using h)]; rfl
  | i + 1, n, h, h2 => by
    have h3 : 10 ^ (i + 1) ≤ n := by omega
    have e : 10 ^ (i + 1) = 10 ^ i * 10 := Nat.pow_succ 10 i
    have e2 : 10 ^ (i + 1 + 1) = 10 ^ (i + 1) * 10 := Nat.pow_succ 10 (i + 1)
    have p : 0 < 10 ^ i := Nat.pow_pos (by decide)
    rw [dgs_ge (by omega), List.length_append, dgs_len i (n / 10) (by omega) (Or.inr (by omega))]; rfl
theorem dgs_get : ∀ (k n : Nat), k < (dgs n).length → (dgs n)[(dgs n).length - 1 - k]? = some (48 + n / 10 ^ k % 10).toInt32
  | 0, n, _ => by
    by_cases h : n < 10
    · rw [dgs_lt h]; simp [Nat.mod_eq_of_lt h]
    · rw [dgs_ge h]; simp
  | k + 1, n, hk => by
    by_cases h : n < 10
    · rw [dgs_lt h] at hk; simp at hk
    · rw [dgs_ge h] at hk ⊢
      have hk' : k < (dgs (n / 10)).length := by simp at hk; omega
      have q := dgs_get k (n / 10) hk'
      rw [List.length_append, List.length_singleton, List.getElem?_append_left (by omega), show (dgs (n / 10)).length + 1 - 1 - (k + 1) = (dgs (n / 10)).length - 1 - k by omega, q, Nat.pow_succ', Nat.div_div_eq_div_mul]
theorem dgs_mem : ∀ (n : Nat), ∀ c ∈ dgs n, ∃ d : Nat, d < 10 ∧ c = (48 + d).toInt32 := by
  intro n
  induction n using Nat.strongRecOn with
  | _ n ih =>
    intro c hc
    by_cases h : n < 10
    · rw [dgs_lt h] at hc; exact ⟨n, h, by simpa using hc⟩
    · rw [dgs_ge h] at hc
      rcases List.mem_append.mp hc with hc | hc
      · exact ih (n / 10) (by omega) c hc
      · exact ⟨n % 10, by omega, by simpa using hc⟩
abbrev INTn : String := "java/lang/Integer"
theorem digWord {Z : State} {a0 : Array Value} {nm : String} {f : Nat → Int32} {ft : Term} (hf : ∀ i, i < 100 → ft.eval a0 Z none [i] Z = some (.int (f i))) (w0 : (Jvm.Cond.initializedFor INTn nm "[B").before a0 Z = true) (w1 : (Jvm.Cond.exactly (.static INTn nm "[B") "[B").before a0 Z = true) (w2 : (Jvm.Cond.eq (.length (.static INTn nm "[B")) (.int 100)).before a0 Z = true) (w3 : (Jvm.Cond.all (.static INTn nm "[B") (.eq (.elem (.static INTn nm "[B") (.index 0)) ft)).before a0 Z = true) (wa : (Jvm.Cond.arrayClass .byte).before a0 Z = true) :
    ∃ d, Sta Z Z.heap INTn nm "[B" (.ref d) ∧ ∃ cl : Cell, Arr Z Z.heap d cl .byte ∧ cl.slots.size = 100 ∧ ∀ r, r < 100 → cl.slots[r]? = some (.int (f r)) := by
  have h1 := Cond.before_iff.mp w1
  obtain ⟨d, e⟩ := exa_v h1
  have hsta := Sta.start e (Or.inl w0)
  have eAll : ∀ idx, (Term.static INTn nm "[B").eval a0 Z none idx Z = some (.ref d) := fun idx => by rw [← e]; simp only [Term.eval]
  clear h1 w0
  generalize Term.static INTn nm "[B" = TT at w1 w2 w3 e eAll
  obtain ⟨d0, cB, Dc, kB, hev, hfcB, hcellD, hkB, hstatD, hclsD, -⟩ := Cond.exactly_spec w1
  cases e.symm.trans hev
  have hl := Cond.eq_int w2 rfl
  obtain ⟨d', D', hev', harrAt, hlen⟩ := Term.length_spec hl
  cases e.symm.trans hev'
  obtain ⟨hcellD', hknD, -, -⟩ := State.arrayAt?_spec harrAt
  cases hcellD.symm.trans hcellD'
  have h31 := Jvm.Free.SBG.length_lt hev harrAt hl
  have hsz : Dc.slots.size = 100 := by
    have e2 : (Term.length TT).eval a0 Z none [] Z = some (.int (Int32.ofNat Dc.slots.size)) := by simp [Term.eval, hev, harrAt, h31]
    have := Option.some.inj (e2.symm.trans hl)
    have h2 : Int32.ofNat Dc.slots.size = Int32.ofNat 100 := by simpa using this
    have := congrArg Int32.toInt h2
    rw [Int32.toInt_ofNat_small h31, Int32.toInt_ofNat_small (by omega)] at this; omega
  obtain ⟨cB', kB', comp, hnameB, hkB', hkindB⟩ := Cond.arrayClass_spec wa
  rw [show ("[" ++ FieldType.toString .byte) = "[B" by decide] at hnameB
  cases hfcB.symm.trans hnameB
  cases hkB.symm.trans hkB'
  refine ⟨d, hsta, Dc, ⟨hcellD, ⟨(fun q h => by rw [h] at hstatD; cases hstatD), kB, (by rw [hclsD]; exact hkB), comp, hkindB⟩, hknD⟩, hsz, fun r hr => ?_⟩
  have q := Cond.all_elim e harrAt (Cond.before_iff.mp w3) r (by omega)
  have hjj : r.toInt32.toNatClampNeg = r := clamp_nat (by omega)
  obtain ⟨x, y, hx, hy, -⟩ := cmp_v (Or.inl q)
  have hel : (Term.elem TT (.index 0)).eval a0 Z none [r] Z = Dc.slots[r]? := by
    simp [Term.eval, eAll [r], harrAt, hjj, nonneg_nat (show r < 2 ^ 31 by omega), hsz, hr]
  rw [hel] at hx
  cases (hf r hr).symm.trans hy
  rw [hx]
  have : (Jvm.Cond.eq (.elem TT (.index 0)) ft).value a0 Z none Z [r] = some true := q
  cases x <;> simp [Cond.value, hel, hx, hf r hr] at this
  rw [this]
section JAppI
variable {l : Launch} {Z : State} {a0 : Array Value} {D : Dyn} {H : HP}
theorem dig1 : ∀ i, i < 100 → i.toInt32 % 10 = Int32.ofNat (i % 10) := by decide
theorem dig2 : ∀ i, i < 100 → i.toInt32 / 10 = Int32.ofNat (i / 10) := by decide
theorem G_one (G : Glb Z a0) : ∃ d, Sta Z Z.heap INTn "DigitOnes" "[B" (.ref d) ∧ ∃ cl : Cell, Arr Z Z.heap d cl .byte ∧ cl.slots.size = 100 ∧ ∀ r, r < 100 → cl.slots[r]? = some (.int (48 + r % 10).toInt32) :=
  digWord (ft := .add (.int 48) (.rem (.index 0) (.int 10))) (fun i hi => by simp [Term.eval]; exact dig1 i hi) (G.2.1 _ (List.mem_of_getElem? (i := 11) rfl)) (G.2.1 _ (List.mem_of_getElem? (i := 12) rfl)) (G.2.1 _ (List.mem_of_getElem? (i := 13) rfl)) (G.2.1 _ (List.mem_of_getElem? (i := 14) rfl)) (wd_19 G)
theorem G_ten (G : Glb Z a0) : ∃ d, Sta Z Z.heap INTn "DigitTens" "[B" (.ref d) ∧ ∃ cl : Cell, Arr Z Z.heap d cl .byte ∧ cl.slots.size = 100 ∧ ∀ r, r < 100 → cl.slots[r]? = some (.int (48 + r / 10).toInt32) :=
  digWord (ft := .add (.int 48) (.div (.index 0) (.int 10))) (fun i hi => by simp [Term.eval]; exact dig2 i hi) (G.2.1 _ (List.mem_of_getElem? (i := 16) rfl)) (G.2.1 _ (List.mem_of_getElem? (i := 17) rfl)) (G.2.1 _ (List.mem_of_getElem? (i := 18) rfl)) (G.2.1 _ (List.mem_of_getElem? (i := 19) rfl)) (wd_19 G)
theorem Wk.ext {own : String} {code : ByteArray} {ml : Nat} {nm : String} {rt : Option FieldType} {R : Room} {pc : Nat} {ls : List Slot} {st : List Value} {k n : Nat} (A : Wk l Z a0 EL0 own code ml nm rt R D pc ls st H k n) : Ext Z.heap H.1 ∧ ∀ y, H.2 y → Z.heap.size ≤ y := by
  obtain ⟨p, e, s, m, args, below, meth, c, s0, H0⟩ := D
  obtain ⟨hx, hown, hc, hml, hnm, hrt, hlk, hEL, hSA, hls, T, L, vm0, k0, X, eT, hS, hk, hZ, hG, hF, hMo, hst⟩ := A
  exact ⟨hG.1, fun y hy => (hG.2.1 y hy).1⟩
/-- a table of digits, in the heap of now -/
theorem dg_now {d : Addr} {cl : Cell} {f : Nat → Nat} (A : Arr Z Z.heap d cl .byte) (hs : cl.slots.size = 100) (hv : ∀ r, r < 100 → cl.slots[r]? = some (.int (48 + f r).toInt32)) (hf : ∀ r, r < 100 → f r < 10) (X : Ext Z.heap H.1) : ∃ vs, Ar Z H d .byte vs ∧ ∀ r, r < 100 → vs[r]? = some (.int (48 + f r).toInt32) := by
  refine ⟨cl.slots.toList, ⟨cl, ⟨X.2 _ _ A.1, A.2⟩, by simp, by simp [hs], fun v hq => ?_⟩, fun r hr => by simpa using hv r hr⟩
  obtain ⟨i, hi⟩ := List.mem_iff_getElem?.mp hq
  have hi' : i < 100 := by have := (List.getElem?_eq_some_iff.mp hi).1; simpa [hs] using this
  have := hv i hi'
  simp at hi
  rw [this] at hi; cases hi
  have hfi := hf i hi'
  have : ∀ q, q < 10 → fits .byte (.int (48 + q).toInt32) = true := by decide
  exact this _ hfi
theorem l_ss (G : Glb Z a0) {n : Nat} (hn : n < 2 ^ 31) {x : Int32} (hx : x.toInt = -(n : Int)) :
    ∀ (r i : Nat) (p : Int32), i + r = 9 → 1 ≤ i → p.toInt = -((10 ^ i : Nat) : Int) → (i = 1 ∨ 10 ^ (i - 1) ≤ n) → Wk l Z a0 EL0 "java/lang/Integer" jdk_33_method_13_code 4 "stringSize" (some .int) ({ frames := 0, cells := 0, slots := 0, locals := 0 } : Room) D 16 [.val (.int x), .val (.int 0), .val (.int p), .val (.int i.toInt32)] [] H 0 0 → Rt Z EL0 D (some (.int (dgs n).length.toInt32)) H 0 0 := by
  intro r
  induction r with
  | zero =>
    intro i p e h1 hp hi A0
    obtain rfl : i = 9 := by omega
    have A1 := A0.run [(16, .iload_n 3, 17, 0), (17, .bipush 10, 19, 10)] (pe := 19) (by decide +kernel) rfl
    have A2 := A1.icF (cd := .ge) (o := 23) (by decide +kernel) (by show ¬ ¬ _ < _; decide)
    have A3 := A2.run [(22, .iload_n 0, 23, 0), (23, .iload_n 2, 24, 0)] (pe := 24) (by decide +kernel) rfl
    by_cases h : n < 10 ^ 9
    · have A4 := A3.icF (cd := .le) (o := 7) (by decide +kernel) (not_not_intro (by rw [Int32.lt_iff_toInt_lt, hx, hp]; omega))
      have A5 := A4.run [(27, .iload_n 3, 28, 0), (28, .iload_n 1, 29, 0), (29, .iadd, 30, 0)] (pe := 30) (by decide +kernel) rfl
      have := dgs_len 8 n h (Or.inr (by omega))
      rw [this]
      exact A5.retI (by decide +kernel)
    · have A4 := A3.icT (cd := .le) (o := 7) (by decide +kernel) (fun q => by rw [Int32.lt_iff_toInt_lt, hx, hp] at q; omega) (pe := 31) (by decide)
      have A5 := A4.run [(31, .bipush 10, 33, 10), (33, .iload_n 2, 34, 0), (34, .imul, 35, 0), (35, .istore_n 2, 36, 0), (36, .iinc 3 1, 39, 1), (39, .goto (-23), 16, 0)] (pe := 16) (by decide +kernel) rfl
      have A6 := A5.run [(16, .iload_n 3, 17, 0), (17, .bipush 10, 19, 10)] (pe := 19) (by decide +kernel) rfl
      have A7 := A6.icT (cd := .ge) (o := 23) (by decide +kernel) (by show ¬ _ < _; decide) (pe := 42) (by decide)
      have A8 := A7.run [(42, .bipush 10, 44, 10), (44, .iload_n 1, 45, 0), (45, .iadd, 46, 0)] (pe := 46) (by decide +kernel) rfl
      have := dgs_len 9 n (by omega) (Or.inr (by omega))
      rw [this]
      exact A8.retI (by decide +kernel)
  | succ r ih =>
    intro i p e h1 hp hi A0
    have hb : 10 ^ i ≤ 10 ^ 8 := Nat.pow_le_pow_right (by decide) (by omega)
    have A1 := A0.run [(16, .iload_n 3, 17, 0), (17, .bipush 10, 19, 10)] (pe := 19) (by decide +kernel) rfl
    have A2 := A1.icF (cd := .ge) (o := 23) (by decide +kernel) (not_not_intro ((n32_lt (j := 10) (by omega) (by decide)).mpr (by omega)))
    have A3 := A2.run [(22, .iload_n 0, 23, 0), (23, .iload_n 2, 24, 0)] (pe := 24) (by decide +kernel) rfl
    by_cases h : n < 10 ^ i
    · have A4 := A3.icF (cd := .le) (o := 7) (by decide +kernel) (not_not_intro (by rw [Int32.lt_iff_toInt_lt, hx, hp]; omega))
      have A5 := A4.run [(27, .iload_n 3, 28, 0), (28, .iload_n 1, 29, 0), (29, .iadd, 30, 0)] (pe := 30) (by decide +kernel) rfl
      obtain ⟨j, rfl⟩ : ∃ j, i = j + 1 := ⟨i - 1, by omega⟩
      have := dgs_len j n h (hi.imp (fun hi => by omega) (fun hi => by simpa using hi))
      rw [this]
      rw [show (j + 1).toInt32 + 0 = (j + 1).toInt32 from Int32.add_zero _] at A5
      exact A5.retI (by decide +kernel)
    · have A4 := A3.icT (cd := .le) (o := 7) (by decide +kernel) (fun q => by rw [Int32.lt_iff_toInt_lt, hx, hp] at q; omega) (pe := 31) (by decide)
      have A5 := A4.run [(31, .bipush 10, 33, 10), (33, .iload_n 2, 34, 0), (34, .imul, 35, 0), (35, .istore_n 2, 36, 0), (36, .iinc 3 1, 39, 1), (39, .goto (-23), 16, 0)] (pe := 16) (by decide +kernel) rfl
      rw [n32_succ] at A5
      have m := c_imul 10 p
      have r1 := rng32 (10 * p)
      rw [show (10 : Int32).toInt = 10 by decide, hp] at m
      have e10 : 10 ^ (i + 1) = 10 ^ i * 10 := Nat.pow_succ 10 i
      refine ih (i + 1) _ (by omega) (by omega) ?_ (Or.inr (by simpa using Nat.le_of_not_lt h)) A5
      rw [e10]; omega
theorem c_ssz (G : Glb Z a0) {n : Nat} (hn : n < 2 ^ 31) : Ct l Z EL0 (⟨"java/lang/Integer", "stringSize", "(I)I"⟩ : MethodName) jdk_33_method_13_code 4 ((some .int)) ({ frames := 0, cells := 0, slots := 0, locals := 0 } : Room) [] [.int n.toInt32] H (fun v H' => v = some (.int (dgs n).length.toInt32) ∧ H = H') := by
  refine Ct.in G (by first | exact plainFor_of_name (by simp [plainName, overriddenIn]; done) | decide +kernel) (ls := [.val (.int n.toInt32), .unset, .unset, .unset]) rfl rfl fun D A0 => ?_
  have A1 := A0.run [(0, .iconst 1, 1, 1), (1, .istore_n 1, 2, 0), (2, .iload_n 0, 3, 0)] (pe := 3) (by decide +kernel) rfl
  have A2 := A1.ifF (cd := .lt) (o := 8) (by decide +kernel) (nonneg_nat hn)
  have A3 := A2.run [(6, .iconst 0, 7, 0), (7, .istore_n 1, 8, 0), (8, .iload_n 0, 9, 0), (9, .ineg, 10, 0), (10, .istore_n 0, 11, 0), (11, .bipush (-10), 13, (-10)), (13, .istore_n 2, 14, 0), (14, .iconst 1, 15, 1), (15, .istore_n 3, 16, 0)] (pe := 16) (by decide +kernel) rfl
  have e := c_ineg n.toInt32
  rw [n32_toInt hn] at e
  have r := rng32 (-n.toInt32)
  exact ⟨_, _, _, _, l_ss G hn (x := -n.toInt32) (by omega) 8 1 _ (by decide) (by decide) (by decide) (Or.inl rfl) A3, ⟨rfl, rfl⟩, by decide, by decide⟩
theorem n32_dec {p : Nat} (h : 1 ≤ p) : p.toInt32 + (-1) = (p - 1).toInt32 := by
  rw [← n32_pred h, Int32.sub_eq_add_neg]
theorem put2 {ws : List Value} {p : Nat} {x y : Value} (h2 : 2 ≤ p) (hp : p ≤ ws.length) : (ws.set (p - 1) y).set (p - 2) x = ws.take (p - 2) ++ [x, y] ++ ws.drop p := by
  obtain ⟨k, rfl⟩ : ∃ k, p = k + 2 := ⟨p - 2, by omega⟩
  have h : ws = ws.take k ++ (ws[k] :: ws[k + 1] :: ws.drop (k + 2)) := by
    rw [← List.drop_eq_getElem_cons (by omega : k + 1 < ws.length), ← List.drop_eq_getElem_cons (by omega : k < ws.length), List.take_append_drop]
  have hl : (ws.take k).length = k := by rw [List.length_take]; omega
  rw [show k + 2 - 1 = k + 1 by omega, show k + 2 - 2 = k by omega]
  conv => lhs; rw [h]
  rw [List.set_append_right _ _ (by omega), hl, show k + 1 - k = 0 + 1 by omega, List.set_cons_succ, List.set_cons_zero, List.set_append_right _ _ (by omega), hl, Nat.sub_self, List.set_cons_zero]
  simp
theorem put1 {ws : List Value} {p : Nat} {y : Value} (h2 : 1 ≤ p) (hp : p ≤ ws.length) : ws.set (p - 1) y = ws.take (p - 1) ++ [y] ++ ws.drop p := by
  rw [List.set_eq_take_append_cons_drop, if_pos (by omega), show p - 1 + 1 = p by omega]; simp
abbrev SU (s : Slot) : Prop := s = .unset ∨ ∃ x, s = .val (.int x)
set_option maxRecDepth 65536 in
set_option maxHeartbeats 1000000 in
theorem l_gc (G : Glb Z a0) {v : Addr} {p0 : Int32} {H0 : HP} : ∀ (m : Nat), m < 2 ^ 31 → ∀ (x : Int32) (p : Nat) (ws : List Value) (s3 s4 : Slot) (H : HP), x.toInt = -(m : Int) → SU s3 → SU s4 → (dgs m).length ≤ p → p ≤ ws.length → Kp H0 H [v] → H.2 v → Ar Z H v .byte ws →
      Wk l Z a0 EL0 "java/lang/Integer" jdk_33_method_12_code 7 "getChars" (some .int) ({ frames := 0, cells := 0, slots := 0, locals := 0 } : Room) D 22 [.val (.int x), .val (.int p0), .val (.ref v), s3, s4, .val (.int p.toInt32), .val (.int 0)] [] H 0 0 →
      ∃ r H', Rt Z EL0 D (some (.int r)) H' 0 0 ∧ Kp H0 H' [v] ∧ Ar Z H' v .byte (ws.take (p - (dgs m).length) ++ lo8 (dgs m) ++ ws.drop p) ∧ H'.2 v := by
  obtain ⟨d1, s1, c1, a1, z1, q1⟩ := G_one G
  obtain ⟨d2, s2, c2, a2, z2, q2⟩ := G_ten G
  intro m
  induction m using Nat.strongRecOn with
  | _ m ih =>
    intro hm x p ws s3 s4 H hx h3 h4 hl hp K o T A0
    have hT := T.len
    have A1 := A0.run [(22, .iload_n 0, 23, 0), (23, .bipush (-100), 25, (-100))] (pe := 25) (by decide +kernel) rfl
    by_cases h : 100 ≤ m
    · have A2 := A1.icF (cd := .gt) (o := 47) (by decide +kernel) (fun (q : (-100 : Int32) < x) => by rw [Int32.lt_iff_toInt_lt, hx, show (-100 : Int32).toInt = -100 by decide] at q; omega)
      have A3 := A2.run [(28, .iload_n 0, 29, 0), (29, .bipush 100, 31, 100)] (pe := 31) (by decide +kernel) rfl
      have A4 := A3.idiv (by decide +kernel) (by decide)
      have e1 := (c_idiv x 100 100 (by decide) (by decide)).2 (by omega)
      have e2 := c_imul (x / 100) 100
      have e3 := c_isub (x / 100 * 100) x
      have r2 := rng32 (x / 100 * 100)
      have r3 := rng32 (x / 100 * 100 - x)
      rw [show (100 : Int32).toInt = 100 by decide] at e2
      have hr : x / 100 * 100 - x = (m % 100).toInt32 := Int32.toInt_inj.mp (by rw [n32_toInt (by omega)]; omega)
      have hlen : (dgs m).length = (dgs (m / 100)).length + 2 := by rw [dgs_100 h, List.length_append]; rfl
      have A5 : Wk l Z a0 EL0 "java/lang/Integer" jdk_33_method_12_code 7 "getChars" (some .int) ({ frames := 0, cells := 0, slots := 0, locals := 0 } : Room) D 49 [.val (.int (x / 100)), .val (.int p0), .val (.ref v), .val (.int (x / 100)), .val (.int (x / 100 * 100 - x)), .val (.int (p.toInt32 + -1)), .val (.int 0)] [.int (p.toInt32 + -1), .ref v] H 0 0 := by
        rcases h3 with rfl | ⟨y3, rfl⟩ <;> rcases h4 with rfl | ⟨y4, rfl⟩ <;> exact A4.run [(32, .istore_n 3, 33, 0), (33, .iload_n 3, 34, 0), (34, .bipush 100, 36, 100), (36, .imul, 37, 0), (37, .iload_n 0, 38, 0), (38, .isub, 39, 0), (39, .istore 4, 41, 0), (41, .iload_n 3, 42, 0), (42, .istore_n 0, 43, 0), (43, .aload_n 2, 44, 0), (44, .iinc 5 (-1), 47, (-1)), (47, .iload 5, 49, 0)] (pe := 49) (by decide +kernel) rfl
      rw [n32_dec (by omega), hr] at A5
      have A6 := A5.getS (wd_186 G) s1 (by decide +kernel)
      have A7 := A6.run [(52, .iload 4, 54, 0)] (pe := 54) (by decide +kernel) rfl
      obtain ⟨vs1, V1, w1⟩ := dg_now a1 z1 q1 (f := fun r => r % 10) (fun r _ => by omega) A0.ext.1
      have A8 := A7.baload V1 (by decide +kernel) rfl (w1 (m % 100) (by omega))
      obtain ⟨H1, A9, K1, T1⟩ := A8.bastore T o (by decide +kernel) rfl (by omega) (x2 := b8 (48 + m % 100 % 10).toInt32) rfl
      have A10 := A9.run [(56, .aload_n 2, 57, 0), (57, .iinc 5 (-1), 60, (-1)), (60, .iload 5, 62, 0)] (pe := 62) (by decide +kernel) rfl
      rw [n32_dec (by omega)] at A10
      have A11 := A10.getS (wd_257 G) s2 (by decide +kernel)
      have A12 := A11.run [(65, .iload 4, 67, 0)] (pe := 67) (by decide +kernel) rfl
      obtain ⟨vs2, V2, w2⟩ := dg_now a2 z2 q2 (f := fun r => r / 10) (fun r _ => by omega) A9.ext.1
      have A13 := A12.baload V2 (by decide +kernel) rfl (w2 (m % 100) (by omega))
      obtain ⟨H2, A14, K2, T2⟩ := A13.bastore T1 (K1.2 _ o) (by decide +kernel) rfl (by simp; omega) (x2 := b8 (48 + m % 100 / 10).toInt32) rfl
      have A15 := A14.run [(69, .goto (-47), 22, 0)] (pe := 22) (by decide +kernel) rfl
      rw [show p - 1 - 1 = p - 2 by omega, put2 (by omega) hp] at T2
      rw [show p - 1 - 1 = p - 2 by omega] at A15
      have hKK : Kp H0 H2 [v] := (K.trans K1 fun y hy => Or.inl hy).trans K2 fun y hy => Or.inl hy
      obtain ⟨rr, H', R, K', T', o'⟩ := ih (m / 100) (by omega) (by omega) (x / 100) (p - 2) _ _ _ H2 (by omega) (Or.inr ⟨_, rfl⟩) (Or.inr ⟨_, rfl⟩) (by omega) (by simp; omega) hKK (K2.2 _ (K1.2 _ o)) T2 A15
      refine ⟨rr, H', R, K', ?_, o'⟩
      have e5 : (ws.take (p - 2) ++ [Value.int (b8 (48 + m % 100 / 10).toInt32), Value.int (b8 (48 + m % 100 % 10).toInt32)] ++ ws.drop p).take (p - 2 - (dgs (m / 100)).length) = ws.take (p - (dgs m).length) := by
        rw [List.append_assoc, List.take_append_of_le_length (by simp; omega), List.take_take]; congr 1; omega
      have e6 : (ws.take (p - 2) ++ [Value.int (b8 (48 + m % 100 / 10).toInt32), Value.int (b8 (48 + m % 100 % 10).toInt32)] ++ ws.drop p).drop (p - 2) = [Value.int (b8 (48 + m % 100 / 10).toInt32), Value.int (b8 (48 + m % 100 % 10).toInt32)] ++ ws.drop p := by
        rw [List.append_assoc, List.drop_append_of_le_length (by simp; omega), List.drop_eq_nil_of_le (by simp; omega), List.nil_append]
      rw [e5, e6] at T'
      rw [dgs_100 h, List.length_append] at *
      simpa [List.map_append, List.append_assoc] using T'
    · have A2 := A1.icT (cd := .gt) (o := 47) (by decide +kernel) (by show _ < _; rw [Int32.lt_iff_toInt_lt, hx, show (-100 : Int32).toInt = -100 by decide]; omega) (pe := 72) (by decide)
      have A3 := A2.run [(72, .aload_n 2, 73, 0), (73, .iinc 5 (-1), 76, (-1)), (76, .iload 5, 78, 0)] (pe := 78) (by decide +kernel) rfl
      have p1 := dgs_pos m
      rw [n32_dec (by omega)] at A3
      have A4 := A3.getS (wd_186 G) s1 (by decide +kernel)
      have A5 := A4.run [(81, .iload_n 0, 82, 0), (82, .ineg, 83, 0)] (pe := 83) (by decide +kernel) rfl
      have e1 := c_ineg x
      have r1 := rng32 (-x)
      have hnx : -x = m.toInt32 := Int32.toInt_inj.mp (by rw [n32_toInt (by omega)]; omega)
      rw [hnx] at A5
      obtain ⟨vs1, V1, w1⟩ := dg_now a1 z1 q1 (f := fun r => r % 10) (fun r _ => by omega) A0.ext.1
      have A6 := A5.baload V1 (by decide +kernel) rfl (w1 m (by omega))
      obtain ⟨H1, A7, K1, T1⟩ := A6.bastore T o (by decide +kernel) rfl (by omega) (x2 := b8 (48 + m % 10).toInt32) rfl
      have A8 := A7.run [(85, .iload_n 0, 86, 0), (86, .bipush (-9), 88, (-9))] (pe := 88) (by decide +kernel) rfl
      have hK1 : Kp H0 H1 [v] := K.trans K1 fun y hy => Or.inl hy
      by_cases h9 : m < 10
      · have A9 := A8.icT (cd := .ge) (o := 16) (by decide +kernel) (fun q => by rw [Int32.lt_iff_toInt_lt, hx, show (-9 : Int32).toInt = -9 by decide] at q; omega) (pe := 104) (by decide)
        have A10 := A9.run [(104, .iload 6, 106, 0)] (pe := 106) (by decide +kernel) rfl
        have A11 := A10.ifT (cd := .eq) (o := 12) (by decide +kernel) rfl (pe := 118) (by decide)
        have A12 := A11.run [(118, .iload 5, 120, 0)] (pe := 120) (by decide +kernel) rfl
        refine ⟨_, _, A12.retI (by decide +kernel), hK1, ?_, K1.2 _ o⟩
        rw [put1 (by omega) hp] at T1
        rw [dgs_lt h9] at *
        rw [Nat.mod_eq_of_lt h9] at T1
        exact T1
      · have A9 := A8.icF (cd := .ge) (o := 16) (by decide +kernel) (not_not_intro (by rw [Int32.lt_iff_toInt_lt, hx, show (-9 : Int32).toInt = -9 by decide]; omega))
        have A10 := A9.run [(91, .aload_n 2, 92, 0), (92, .iinc 5 (-1), 95, (-1)), (95, .iload 5, 97, 0)] (pe := 97) (by decide +kernel) rfl
        have hlen : (dgs m).length = 2 := by rw [dgs_10 (by omega) (by omega)]; rfl
        rw [n32_dec (by omega)] at A10
        have A11 := A10.getS (wd_257 G) s2 (by decide +kernel)
        have A12 := A11.run [(100, .iload_n 0, 101, 0), (101, .ineg, 102, 0)] (pe := 102) (by decide +kernel) rfl
        rw [hnx] at A12
        obtain ⟨vs2, V2, w2⟩ := dg_now a2 z2 q2 (f := fun r => r / 10) (fun r _ => by omega) A7.ext.1
        have A13 := A12.baload V2 (by decide +kernel) rfl (w2 m (by omega))
        obtain ⟨H2, A14, K2, T2⟩ := A13.bastore T1 (K1.2 _ o) (by decide +kernel) rfl (by simp; omega) (x2 := b8 (48 + m / 10).toInt32) rfl
        have A15 := A14.run [(104, .iload 6, 106, 0)] (pe := 106) (by decide +kernel) rfl
        have A16 := A15.ifT (cd := .eq) (o := 12) (by decide +kernel) rfl (pe := 118) (by decide)
        have A17 := A16.run [(118, .iload 5, 120, 0)] (pe := 120) (by decide +kernel) rfl
        refine ⟨_, _, A17.retI (by decide +kernel), hK1.trans K2 fun y hy => Or.inl hy, ?_, K2.2 _ (K1.2 _ o)⟩
        rw [show p - 1 - 1 = p - 2 by omega, put2 (by omega) hp] at T2
        rw [dgs_10 (by omega) (by omega)]
        exact T2
theorem c_gcs (G : Glb Z a0) {v : Addr} {n p : Nat} {vs : List Value} (hn : n < 2 ^ 31) (T : Ar Z H v .byte vs) (o : H.2 v) (hl : (dgs n).length ≤ p) (hp : p ≤ vs.length) :
    Ct l Z EL0 (⟨"java/lang/Integer", "getChars", "(II[B)I"⟩ : MethodName) jdk_33_method_12_code 7 ((some .int)) ({ frames := 0, cells := 0, slots := 0, locals := 0 } : Room) [] [.int n.toInt32, .int p.toInt32, .ref v] H (fun r H' => (∃ z, r = some (.int z)) ∧ Kp H H' [v] ∧ Ar Z H' v .byte (vs.take (p - (dgs n).length) ++ lo8 (dgs n) ++ vs.drop p)) := by
  refine Ct.in G (by first | exact plainFor_of_name (by simp [plainName, overriddenIn]; done) | decide +kernel) (ls := [.val (.int n.toInt32), .val (.int p.toInt32), .val (.ref v), .unset, .unset, .unset, .unset]) rfl rfl fun D A0 => ?_
  have A1 := A0.run [(0, .iload_n 1, 1, 0), (1, .istore 5, 3, 0), (3, .iload_n 0, 4, 0)] (pe := 4) (by decide +kernel) rfl
  have A2 := A1.ifT (cd := .ge) (o := 7) (by decide +kernel) (nonneg_nat hn) (pe := 11) (by decide)
  have A3 := A2.run [(11, .iconst 0, 12, 0), (12, .istore 6, 14, 0), (14, .iload 6, 16, 0)] (pe := 16) (by decide +kernel) rfl
  have A4 := A3.ifF (cd := .ne) (o := 6) (by decide +kernel) (not_not_intro rfl)
  have A5 := A4.run [(19, .iload_n 0, 20, 0), (20, .ineg, 21, 0), (21, .istore_n 0, 22, 0)] (pe := 22) (by decide +kernel) rfl
  have e := c_ineg n.toInt32
  rw [n32_toInt hn] at e
  have r := rng32 (-n.toInt32)
  obtain ⟨z, H', R, K, T', -⟩ := l_gc G n hn (-n.toInt32) p vs .unset .unset H (by omega) (Or.inl rfl) (Or.inl rfl) hl hp ((Kp.refl H).wide fun x hx => nomatch hx) o T A5
  exact ⟨_, _, _, _, R, ⟨⟨z, rfl⟩, K, T'⟩, by decide, by decide⟩
theorem dgs_ok (n : Nat) : Lat (dgs n) ∧ ∀ c ∈ dgs n, isC c := by
  have key : ∀ d, d < 10 → isC (48 + d).toInt32 ∧ ¬ (255 : Int32) < (48 + d).toInt32 := by decide
  refine ⟨fun c hc => ?_, fun c hc => ?_⟩ <;> (obtain ⟨d, hd, rfl⟩ := dgs_mem n c hc)
  · exact (key d hd).2
  · exact (key d hd).1
set_option maxRecDepth 65536 in
theorem c_asbN (G : Glb Z a0) {a v : Addr} {cs : List Int32} {C n : Nat} (S : SBx Z H a v C cs) (hn : n < 2 ^ 31) (h0 : 0 < C) (hg : max (cs.length + (dgs n).length) (2 * C + 2) ≤ 70) :
    Ct l Z EL0 (⟨"java/lang/AbstractStringBuilder", "append", "(I)Ljava/lang/AbstractStringBuilder;"⟩ : MethodName) jdk_68_method_32_code 4 ((some (.object "java/lang/AbstractStringBuilder"))) ({ frames := 4, cells := 1, slots := 70, locals := 62 } : Room) [] [.ref a, .int n.toInt32] H (fun r H' => r = some (.ref a) ∧ Kp H H' [a, v] ∧ ∃ v' C', (v' = v ∨ H.1.size ≤ v') ∧ SBx Z H' a v' C' (cs ++ dgs n) ∧ Gr C (cs.length + (dgs n).length) C') := by
  refine Ct.in G (by first | exact plainFor_of_name (by simp [plainName, overriddenIn]; done) | decide +kernel) (ls := [.val (.ref a), .val (.int n.toInt32), .unset, .unset]) rfl rfl fun D A0 => ?_
  have E0 := S.e
  have N0 : Fld Z H.1 a ASB "count" "I" (.int cs.length.toInt32) := by obtain ⟨rs, -, q, -⟩ := S; exact q.2.2.2.1
  have A1 := A0.run [(0, .aload_n 0, 1, 0)] (pe := 1) (by decide +kernel) rfl
  have A2 := A1.getF (wd_138 G) N0 (by decide +kernel)
  have A3 := A2.run [(4, .istore_n 2, 5, 0), (5, .iload_n 2, 6, 0), (6, .iload_n 1, 7, 0)] (pe := 7) (by decide +kernel) rfl
  obtain ⟨_, HA4, qA4, A4, moA4, szA4⟩ := A3.callS (argsL := [.int n.toInt32]) (wd_174 G) (wd_175 G) (wd_176 G) (wd_177 G) (c_ssz G hn) (by decide) ⟨_, _, (by decide +kernel : parseMethodDescriptor "(I)I" = some ⟨[.int], some .int⟩), rfl⟩ (by decide +kernel) (Wd := 1) (by decide) (Nat.le_of_ble_eq_true rfl) (by decide) (by decide) (by decide)
  obtain ⟨rfl, rfl⟩ := qA4
  have A5 := A4.run [(10, .iadd, 11, 0)] (pe := 11) (by decide +kernel) rfl
  rw [n32_add] at A5
  have A6 := A5.run [(11, .istore_n 3, 12, 0), (12, .aload_n 0, 13, 0), (13, .iload_n 3, 14, 0)] (pe := 14) (by decide +kernel) rfl
  obtain ⟨_, HA7, qA7, A7, moA7, szA7⟩ := A6.callV (argsL := [.int (cs.length + (dgs n).length).toInt32]) (wd_140 G) (decl_of (wd_141 G) (wd_144 G)) (wd_143 G) rfl (wd_143 G) (wd_141 G) (wd_114 G) (wd_144 G) E0 (c_ensx G S h0 hg) (by decide) ⟨_, _, (by decide +kernel : parseMethodDescriptor "(I)V" = some ⟨[.int], none⟩), rfl⟩ (by decide +kernel) (Wd := 0) (by decide) (Nat.le_of_ble_eq_true rfl) (by decide) (by decide) (by decide)
  obtain ⟨rfl, K0, v', C', hv', ⟨rs, hC', S1, Ev⟩, hG⟩ := qA7
  have hr : (dgs n).length ≤ rs.length := by rcases hG with ⟨h, rfl⟩ | ⟨h, rfl⟩ <;> omega
  have hav : a ∉ [v'] := by simpa using S1.ne G
  have hva : v' ∉ [a] := by simpa using Ne.symm (S1.ne G)
  obtain ⟨E, V, Cd, N, T0, la, lc, o1, o2⟩ := S1
  have A8 := A7.run [(17, .aload_n 0, 18, 0)] (pe := 18) (by decide +kernel) rfl
  obtain ⟨_, HA9, qA9, A9, moA9, szA9⟩ := A8.callV (argsL := []) (wd_178 G) (wd_179 G) (wd_181 G) rfl (wd_181 G) (wd_180 G) (wd_114 G) (wd_182 G) E (c_asbLat G Cd) (by decide) ⟨_, _, (by decide +kernel : parseMethodDescriptor "()Z" = some ⟨[], some .boolean⟩), rfl⟩ (by decide +kernel) (Wd := 0) (by decide) (Nat.le_of_ble_eq_true rfl) (by decide) (by decide) (by decide)
  obtain ⟨rfl, rfl⟩ := qA9
  have A10 := A9.ifF (cd := .eq) (o := 16) (by decide +kernel) (by show ¬ _ = _; decide)
  have A11 := A10.run [(24, .iload_n 1, 25, 0), (25, .iload_n 3, 26, 0), (26, .aload_n 0, 27, 0)] (pe := 27) (by decide +kernel) rfl
  have A12 := A11.getF (wd_118 G) V (by decide +kernel)
  obtain ⟨_, HA13, qA13, A13, moA13, szA13⟩ := A12.callS (argsL := [.int n.toInt32, .int (cs.length + (dgs n).length).toInt32, .ref v']) (wd_183 G) (wd_184 G) (wd_176 G) (wd_185 G) (c_gcs G hn T0 o2 (by omega) (by simp; omega)) (by decide) ⟨_, _, (by decide +kernel : parseMethodDescriptor "(II[B)I" = some ⟨[.int, .int, (.array .byte)], some .int⟩), rfl⟩ (by decide +kernel) (Wd := 0) (by decide) (Nat.le_of_ble_eq_true rfl) (by decide) (by decide) (by decide)
  obtain ⟨⟨z, rfl⟩, K1, B1⟩ := qA13
  have A14 := A13.run [(33, .pop, 34, 0), (34, .goto 14, 48, 0), (48, .aload_n 0, 49, 0), (49, .iload_n 3, 50, 0)] (pe := 50) (by decide +kernel) rfl
  obtain ⟨H3, A15, K3, W3⟩ := A14.putF (wd_138 G) (N.ky K1 hav) (E.ky K1) (wd_139 G) (wd_105 G) (K1.2 _ o1) (by decide +kernel) (ty := .int) (by decide) rfl rfl
  have A16 := A15.run [(53, .aload_n 0, 54, 0)] (pe := 54) (by decide +kernel) rfl
  have KK : Kp H H3 [a, v] := ((K0.wide fun x hx => Or.inl (by simp at hx; simp [hx])).trans K1 fun x hx => by
    cases List.mem_singleton.mp hx
    rcases hv' with rfl | h
    · exact Or.inl (by simp)
    · exact Or.inr h).trans K3 fun x hx => Or.inl (by simp at hx; simp [hx])
  have B2 : Ar Z HA13 v' .byte (lo8 (cs ++ dgs n) ++ rs.drop (dgs n).length) := by
    have e1 : (lo8 cs ++ rs).take (cs.length + (dgs n).length - (dgs n).length) = lo8 cs := by rw [Nat.add_sub_cancel, List.take_append_of_le_length (by simp)]; exact List.take_of_length_le (by simp)
    have e2 : (lo8 cs ++ rs).drop (cs.length + (dgs n).length) = rs.drop (dgs n).length := by rw [List.drop_append]; simp
    rw [e1, e2] at B1
    rw [show lo8 (cs ++ dgs n) = lo8 cs ++ lo8 (dgs n) from List.map_append]
    exact B1
  obtain ⟨k1, k2⟩ := dgs_ok n
  refine ⟨_, _, _, _, A16.retA (by decide +kernel) rfl rfl, ⟨rfl, KK, v', C', hv', ⟨rs.drop (dgs n).length, by simp; omega, ⟨(E.ky K1).ky K3, (V.ky K1 hav).other W3 (Or.inr (sl_vn G)), (Cd.ky K1 hav).other W3 (Or.inr (sl_cn G)), by rw [List.length_append]; exact (N.ky K1 hav).same W3, B2.ky K3 hva, ?_, ?_, K3.2 _ (K1.2 _ o1), K3.2 _ (K1.2 _ o2)⟩, (Ev.ky K1).ky K3⟩, hG⟩, by decide, by decide⟩
  · exact fun c hc => (List.mem_append.mp hc).elim (la c) (k1 c)
  · exact fun c hc => (List.mem_append.mp hc).elim (lc c) (k2 c)
theorem c_sbN (G : Glb Z a0) {a v : Addr} {cs : List Int32} {C n : Nat} (S : SBx Z H a v C cs) (hn : n < 2 ^ 31) (h0 : 0 < C) (hg : max (cs.length + (dgs n).length) (2 * C + 2) ≤ 70) :
    Ct l Z EL0 (⟨"java/lang/StringBuilder", "append", "(I)Ljava/lang/StringBuilder;"⟩ : MethodName) jdk_67_method_15_code 2 ((some (.object "java/lang/StringBuilder"))) ({ frames := 5, cells := 1, slots := 70, locals := 77 } : Room) [] [.ref a, .int n.toInt32] H (fun r H' => r = some (.ref a) ∧ Kp H H' [a, v] ∧ ∃ v' C', (v' = v ∨ H.1.size ≤ v') ∧ SBx Z H' a v' C' (cs ++ dgs n) ∧ Gr C (cs.length + (dgs n).length) C') := by
  refine Ct.in G (by first | exact plainFor_of_name (by simp [plainName, overriddenIn]; done) | decide +kernel) (ls := [.val (.ref a), .val (.int n.toInt32)]) rfl rfl fun D A0 => ?_
  have A1 := A0.run [(0, .aload_n 0, 1, 0), (1, .iload_n 1, 2, 0)] (pe := 2) (by decide +kernel) rfl
  obtain ⟨_, HA2, qA2, A2, moA2, szA2⟩ := A1.callU (argsL := [.int n.toInt32]) (wd_170 G) (wd_172 G) (wd_143 G) rfl (wd_130 G) (wd_171 G) (by decide) (wd_114 G) (wd_173 G) S.e (c_asbN G S hn h0 hg) (by decide) ⟨_, _, (by decide +kernel : parseMethodDescriptor "(I)Ljava/lang/AbstractStringBuilder;" = some ⟨[.int], some (.object "java/lang/AbstractStringBuilder")⟩), rfl⟩ (by decide +kernel) (Wd := 0) (by decide) (Nat.le_of_ble_eq_true rfl) (by decide) (by decide) (by decide)
  obtain ⟨rfl, q⟩ := qA2
  have A3 := A2.run [(5, .pop, 6, 0), (6, .aload_n 0, 7, 0)] (pe := 7) (by decide +kernel) rfl
  exact ⟨_, _, _, _, A3.retA (by decide +kernel) rfl rfl, ⟨rfl, q⟩, by decide, by decide⟩
end JAppI


def okL (c : Int32) : Prop := 0 ≤ c.toInt ∧ c.toInt < 256
theorem okL.isC {c : Int32} (h : okL c) : isC c := ⟨h.1, Int.lt_trans h.2 (by decide)⟩
theorem okL.lat {c : Int32} (h : okL c) : ¬ (255 : Int32) < c := by
  rw [Int32.lt_iff_toInt_lt, show (255 : Int32).toInt = 255 by decide]; have := h.2; omega
theorem okL.i2c {c : Int32} (h : okL c) : c.toUInt32.toUInt16.toUInt32.toInt32 = c := isC_nar h.isC
theorem okL_mask (i : Int32) : okL (i &&& 255) := by
  have h := c_and i 255 (by decide)
  rw [show (255 : Int32).toInt = 255 by decide] at h
  exact ⟨h.1, by omega⟩
theorem b8_inj {c d : Int32} (hc : okL c) (hd : okL d) (h : b8 c = b8 d) : c = d := by
  rw [← b8_back' hc.isC hc.lat, ← b8_back' hd.isC hd.lat, h]
theorem remN {x : Int32} {m : Nat} (hx : 0 ≤ x.toInt) (hm : 0 < m) (hm2 : m < 2 ^ 31) : m.toInt32 ≠ 0 ∧ ∃ r : Nat, r < m ∧ x % m.toInt32 = r.toInt32 := by
  have e := n32_toInt hm2
  refine ⟨fun q => ?_, ?_⟩
  · have := congrArg Int32.toInt q; rw [e, show (0 : Int32).toInt = 0 by decide] at this; omega
  · have h := (c_iremV x m.toInt32).1 hx (by omega)
    refine ⟨(x % m.toInt32).toInt.toNat, by omega, ?_⟩
    apply Int32.toInt_inj.mp
    rw [n32_toInt (by omega)]; omega
section LawF
variable {l : Launch} {Z : State} {a0 : Array Value} {D : Dyn} {H : HP}
theorem l_i30 (G : Glb Z a0) {t u : Addr} {cs ds : List Int32} {f m mx : Nat} {d0 : Int32} (T : Ar Z H t .byte (lo8 cs)) (hno : ∀ j c, f ≤ j → j < m → cs[j]? = some c → b8 c ≠ b8 d0) (hm : cs[m]? = some d0) (hmx : m ≤ mx) (hb : mx < 2 ^ 30) :
    ∀ (r i : Nat), i + r + 1 = m → f ≤ i → Wk l Z a0 EL0 "java/lang/StringLatin1" jdk_43_method_25_code 11 "indexOf" (some .int) ({ frames := 0, cells := 0, slots := 0, locals := 0 } : Room) D 30 [.val (.ref t), .val (.int cs.length.toInt32), .val (.ref u), .val (.int ds.length.toInt32), .val (.int f.toInt32), .val (.int (b8 d0)), .val (.int mx.toInt32), .val (.int i.toInt32), .unset, .unset, .unset] [] H 0 0 → Wk l Z a0 EL0 "java/lang/StringLatin1" jdk_43_method_25_code 11 "indexOf" (some .int) ({ frames := 0, cells := 0, slots := 0, locals := 0 } : Room) D 52 [.val (.ref t), .val (.int cs.length.toInt32), .val (.ref u), .val (.int ds.length.toInt32), .val (.int f.toInt32), .val (.int (b8 d0)), .val (.int mx.toInt32), .val (.int m.toInt32), .unset, .unset, .unset] [] H 0 0 := by
  have hml : m < cs.length := (List.getElem?_eq_some_iff.mp hm).1
  intro r
  induction r with
  | zero =>
    intro i e hf A0
    have A1 := A0.run [(30, .iinc 7 1, 33, 1), (33, .iload 7, 35, 0), (35, .iload 6, 37, 0)] (pe := 37) (by decide +kernel) rfl
    rw [n32_succ] at A1
    have A2 := A1.icF (cd := .gt) (o := 15) (by decide +kernel) (fun q => by have := (n32_lt (by omega) (by omega)).mp q; omega)
    have A3 := A2.run [(40, .aload_n 0, 41, 0), (41, .iload 7, 43, 0)] (pe := 43) (by decide +kernel) rfl
    obtain rfl : m = i + 1 := by omega
    have A4 := A3.baload T (by decide +kernel) rfl (v := .int (b8 d0)) (by simp [hm])
    have A5 := A4.run [(44, .iload 5, 46, 0)] (pe := 46) (by decide +kernel) rfl
    have A6 := A5.icT (cd := .eq) (o := 6) (by decide +kernel) rfl (pe := 52) (by decide)
    exact A6
  | succ r ih =>
    intro i e hf A0
    obtain ⟨c, hc⟩ : ∃ c, cs[i + 1]? = some c := ⟨_, List.getElem?_eq_getElem (by omega)⟩
    have A1 := A0.run [(30, .iinc 7 1, 33, 1), (33, .iload 7, 35, 0), (35, .iload 6, 37, 0)] (pe := 37) (by decide +kernel) rfl
    rw [n32_succ] at A1
    have A2 := A1.icF (cd := .gt) (o := 15) (by decide +kernel) (fun q => by have := (n32_lt (by omega) (by omega)).mp q; omega)
    have A3 := A2.run [(40, .aload_n 0, 41, 0), (41, .iload 7, 43, 0)] (pe := 43) (by decide +kernel) rfl
    have A4 := A3.baload T (by decide +kernel) rfl (v := .int (b8 c)) (by simp [hc])
    have A5 := A4.run [(44, .iload 5, 46, 0)] (pe := 46) (by decide +kernel) rfl
    have A6 := A5.icF (cd := .eq) (o := 6) (by decide +kernel) (hno (i + 1) c (by omega) (by omega) hc)
    have A7 := A6.run [(49, .goto (-19), 30, 0)] (pe := 30) (by decide +kernel) rfl
    exact ih (i + 1) (by omega) (by omega) A7
theorem l_i30n (G : Glb Z a0) {t u : Addr} {cs ds : List Int32} {f mx : Nat} {d0 : Int32} (T : Ar Z H t .byte (lo8 cs)) (hno : ∀ j c, f ≤ j → cs[j]? = some c → b8 c ≠ b8 d0) (hb : mx < 2 ^ 30) (hl : mx < cs.length) :
    ∀ (r i : Nat), i + r = mx → f ≤ i → Wk l Z a0 EL0 "java/lang/StringLatin1" jdk_43_method_25_code 11 "indexOf" (some .int) ({ frames := 0, cells := 0, slots := 0, locals := 0 } : Room) D 30 [.val (.ref t), .val (.int cs.length.toInt32), .val (.ref u), .val (.int ds.length.toInt32), .val (.int f.toInt32), .val (.int (b8 d0)), .val (.int mx.toInt32), .val (.int i.toInt32), .unset, .unset, .unset] [] H 0 0 → Rt Z EL0 D (some (.int (-1))) H 0 0 := by
  intro r
  induction r with
  | zero =>
    intro i e hf A0
    have A1 := A0.run [(30, .iinc 7 1, 33, 1), (33, .iload 7, 35, 0), (35, .iload 6, 37, 0)] (pe := 37) (by decide +kernel) rfl
    rw [n32_succ] at A1
    have A2 := A1.icT (cd := .gt) (o := 15) (by decide +kernel) ((n32_lt (by omega) (by omega)).mpr (by omega)) (pe := 52) (by decide)
    have A3 := A2.run [(52, .iload 7, 54, 0), (54, .iload 6, 56, 0)] (pe := 56) (by decide +kernel) rfl
    have A4 := A3.icT (cd := .gt) (o := 57) (by decide +kernel) ((n32_lt (by omega) (by omega)).mpr (by omega)) (pe := 113) (by decide)
    have A5 := A4.run [(113, .iinc 7 1, 116, 1), (116, .goto (-102), 14, 0)] (pe := 14) (by decide +kernel) rfl
    rw [n32_succ] at A5
    have A6 := A5.run [(14, .iload 7, 16, 0), (16, .iload 6, 18, 0)] (pe := 18) (by decide +kernel) rfl
    have A7 := A6.icT (cd := .gt) (o := 101) (by decide +kernel) ((n32_lt (by omega) (by omega)).mpr (by omega)) (pe := 119) (by decide)
    have A8 := A7.run [(119, .iconst (-1), 120, (-1))] (pe := 120) (by decide +kernel) rfl
    exact A8.retI (by decide +kernel)
  | succ r ih =>
    intro i e hf A0
    obtain ⟨c, hc⟩ : ∃ c, cs[i + 1]? = some c := ⟨_, List.getElem?_eq_getElem (by omega)⟩
    have A1 := A0.run [(30, .iinc 7 1, 33, 1), (33, .iload 7, 35, 0), (35, .iload 6, 37, 0)] (pe := 37) (by decide +kernel) rfl
    rw [n32_succ] at A1
    have A2 := A1.icF (cd := .gt) (o := 15) (by decide +kernel) (fun q => by have := (n32_lt (by omega) (by omega)).mp q; omega)
    have A3 := A2.run [(40, .aload_n 0, 41, 0), (41, .iload 7, 43, 0)] (pe := 43) (by decide +kernel) rfl
    have A4 := A3.baload T (by decide +kernel) rfl (v := .int (b8 c)) (by simp [hc])
    have A5 := A4.run [(44, .iload 5, 46, 0)] (pe := 46) (by decide +kernel) rfl
    have A6 := A5.icF (cd := .eq) (o := 6) (by decide +kernel) (hno (i + 1) c (by omega) hc)
    have A7 := A6.run [(49, .goto (-19), 30, 0)] (pe := 30) (by decide +kernel) rfl
    exact ih (i + 1) (by omega) (by omega) A7
/-- what indexOf answers -/
def Idx (cs ds : List Int32) (d0 : Int32) (f : Nat) (r : Int32) : Prop :=
  (∃ m : Nat, r = m.toInt32 ∧ f ≤ m ∧ m + ds.length ≤ cs.length ∧ (∀ j c, f ≤ j → j < m → cs[j]? = some c → b8 c ≠ b8 d0) ∧ ∀ i c, ds[i]? = some c → cs[m + i]? = some c) ∨ (r = -1 ∧ ∀ j c, f ≤ j → cs[j]? = some c → b8 c ≠ b8 d0)
set_option maxRecDepth 65536 in
theorem c_l1i (G : Glb Z a0) {t u : Addr} {cs ds : List Int32} {f : Nat} {d0 r : Int32} (T : Ar Z H t .byte (lo8 cs)) (U : Ar Z H u .byte (lo8 ds)) (hd : ds.length = 1 ∨ ds.length = 2) (h0 : ds[0]? = some d0) (hf : f + ds.length ≤ cs.length) (hn : cs.length < 2 ^ 29) (hr : Idx cs ds d0 f r) :
    Ct l Z EL0 (⟨"java/lang/StringLatin1", "indexOf", "([BI[BII)I"⟩ : MethodName) jdk_43_method_25_code 11 ((some .int)) ({ frames := 0, cells := 0, slots := 0, locals := 0 } : Room) [] [.ref t, .int cs.length.toInt32, .ref u, .int ds.length.toInt32, .int f.toInt32] H (fun v H' => v = some (.int r) ∧ H = H') := by
  refine Ct.in G (by first | exact plainFor_of_name (by simp [plainName, overriddenIn]; done) | decide +kernel) (ls := [.val (.ref t), .val (.int cs.length.toInt32), .val (.ref u), .val (.int ds.length.toInt32), .val (.int f.toInt32), .unset, .unset, .unset, .unset, .unset, .unset]) rfl rfl fun D A0 => ?_
  have A1 := A0.run [(0, .aload_n 2, 1, 0), (1, .iconst 0, 2, 0)] (pe := 2) (by decide +kernel) rfl
  have A2 := A1.baload U (by decide +kernel) (i := 0) rfl (v := .int (b8 d0)) (by simp [h0])
  have A3 := A2.run [(3, .istore 5, 5, 0), (5, .iload_n 1, 6, 0), (6, .iload_n 3, 7, 0), (7, .isub, 8, 0)] (pe := 8) (by decide +kernel) rfl
  rw [n32_sub (by omega)] at A3
  obtain ⟨mx, emx⟩ : ∃ mx, mx = cs.length - ds.length := ⟨_, rfl⟩
  rw [← emx] at A3
  have A4 := A3.run [(8, .istore 6, 10, 0), (10, .iload 4, 12, 0), (12, .istore 7, 14, 0), (14, .iload 7, 16, 0), (16, .iload 6, 18, 0)] (pe := 18) (by decide +kernel) rfl
  have A5 := A4.icF (cd := .gt) (o := 101) (by decide +kernel) (fun q => by have := (n32_lt (by omega) (by omega)).mp q; omega)
  have A6 := A5.run [(21, .aload_n 0, 22, 0), (22, .iload 7, 24, 0)] (pe := 24) (by decide +kernel) rfl
  obtain ⟨c, hc⟩ : ∃ c, cs[f]? = some c := ⟨_, List.getElem?_eq_getElem (by omega)⟩
  have A7 := A6.baload T (by decide +kernel) rfl (v := .int (b8 c)) (by simp [hc])
  have A8 := A7.run [(25, .iload 5, 27, 0)] (pe := 27) (by decide +kernel) rfl
  rcases hr with ⟨m, rfl, hfm, hml, hno, hma⟩ | ⟨rfl, hno⟩
  · have hm : cs[m]? = some d0 := hma 0 d0 h0
    have B0 : Wk l Z a0 EL0 "java/lang/StringLatin1" jdk_43_method_25_code 11 "indexOf" (some .int) ({ frames := 0, cells := 0, slots := 0, locals := 0 } : Room) D 52 [.val (.ref t), .val (.int cs.length.toInt32), .val (.ref u), .val (.int ds.length.toInt32), .val (.int f.toInt32), .val (.int (b8 d0)), .val (.int mx.toInt32), .val (.int m.toInt32), .unset, .unset, .unset] [] H 0 0 := by
      by_cases e : f = m
      · subst e
        have ec : c = d0 := by rw [hm] at hc; exact (Option.some.inj hc).symm
        have B1 := A8.icT (cd := .eq) (o := 25) (by decide +kernel) (congrArg b8 ec) (pe := 52) (by decide)
        exact B1
      · have B1 := A8.icF (cd := .eq) (o := 25) (by decide +kernel) (hno f c (by omega) (by omega) hc)
        exact l_i30 G T hno hm (by omega) (by omega) (m - f - 1) f (by omega) (by omega) B1
    have B1 := B0.run [(52, .iload 7, 54, 0), (54, .iload 6, 56, 0)] (pe := 56) (by decide +kernel) rfl
    have B2 := B1.icF (cd := .gt) (o := 57) (by decide +kernel) (fun q => by have := (n32_lt (by omega) (by omega)).mp q; omega)
    have B3 := B2.run [(59, .iload 7, 61, 0), (61, .iconst 1, 62, 1), (62, .iadd, 63, 0), (63, .istore 8, 65, 0)] (pe := 65) (by decide +kernel) rfl
    rw [n32_succ] at B3
    have B4 := B3.run [(65, .iload 8, 67, 0), (67, .iload_n 3, 68, 0), (68, .iadd, 69, 0), (69, .iconst 1, 70, 1), (70, .isub, 71, 0)] (pe := 71) (by decide +kernel) rfl
    rw [n32_add, n32_pred (by omega)] at B4
    have B5 := B4.run [(71, .istore 9, 73, 0), (73, .iconst 1, 74, 1), (74, .istore 10, 76, 0), (76, .iload 8, 78, 0), (78, .iload 9, 80, 0)] (pe := 80) (by decide +kernel) rfl
    rcases hd with hd | hd
    · have B6 := B5.icT (cd := .ge) (o := 23) (by decide +kernel) (fun q => by have := (n32_lt (by omega) (by omega)).mp q; omega) (pe := 103) (by decide)
      have B7 := B6.run [(103, .iload 8, 105, 0), (105, .iload 9, 107, 0)] (pe := 107) (by decide +kernel) rfl
      have B8 := B7.icF (cd := .ne) (o := 6) (by decide +kernel) (not_not_intro (congrArg Nat.toInt32 (by omega)))
      have B9 := B8.run [(110, .iload 7, 112, 0)] (pe := 112) (by decide +kernel) rfl
      exact ⟨_, _, _, _, B9.retI (by decide +kernel), ⟨rfl, rfl⟩, by decide, by decide⟩
    · obtain ⟨d1, h1⟩ : ∃ d1, ds[1]? = some d1 := ⟨_, List.getElem?_eq_getElem (by omega)⟩
      have hm1 : cs[m + 1]? = some d1 := hma 1 d1 h1
      have B6 := B5.icF (cd := .ge) (o := 23) (by decide +kernel) (not_not_intro ((n32_lt (by omega) (by omega)).mpr (by omega)))
      have B7 := B6.run [(83, .aload_n 0, 84, 0), (84, .iload 8, 86, 0)] (pe := 86) (by decide +kernel) rfl
      have B8 := B7.baload T (by decide +kernel) rfl (v := .int (b8 d1)) (by simp [hm1])
      have B9 := B8.run [(87, .aload_n 2, 88, 0), (88, .iload 10, 90, 0)] (pe := 90) (by decide +kernel) rfl
      have B10 := B9.baload U (by decide +kernel) (i := 1) rfl (v := .int (b8 d1)) (by simp [h1])
      have B11 := B10.icF (cd := .ne) (o := 12) (by decide +kernel) (not_not_intro rfl)
      have B12 := B11.run [(94, .iinc 8 1, 97, 1), (97, .iinc 10 1, 100, 1), (100, .goto (-24), 76, 0)] (pe := 76) (by decide +kernel) rfl
      rw [n32_succ] at B12
      have B13 := B12.run [(76, .iload 8, 78, 0), (78, .iload 9, 80, 0)] (pe := 80) (by decide +kernel) rfl
      have B14 := B13.icT (cd := .ge) (o := 23) (by decide +kernel) (fun q => by have := (n32_lt (by omega) (by omega)).mp q; omega) (pe := 103) (by decide)
      have B15 := B14.run [(103, .iload 8, 105, 0), (105, .iload 9, 107, 0)] (pe := 107) (by decide +kernel) rfl
      have B16 := B15.icF (cd := .ne) (o := 6) (by decide +kernel) (not_not_intro (congrArg Nat.toInt32 (by omega)))
      have B17 := B16.run [(110, .iload 7, 112, 0)] (pe := 112) (by decide +kernel) rfl
      exact ⟨_, _, _, _, B17.retI (by decide +kernel), ⟨rfl, rfl⟩, by decide, by decide⟩
  · have B1 := A8.icF (cd := .eq) (o := 25) (by decide +kernel) (hno f c (by omega) hc)
    exact ⟨_, _, _, _, l_i30n G T hno (by omega) (by omega) (mx - f) f (by omega) (by omega) B1, ⟨rfl, rfl⟩, by decide, by decide⟩
theorem dgs_le : ∀ (i n : Nat), n < 10 ^ (i + 1) → (dgs n).length ≤ i + 1
  | 0, n, h => by rw [dgs_lt (by simpa using h)]; simp
  | i + 1, n, h => by
    by_cases h2 : n < 10
    · rw [dgs_lt h2]; simp
    · have e2 : 10 ^ (i + 1 + 1) = 10 ^ (i + 1) * 10 := Nat.pow_succ 10 (i + 1)
      have := dgs_le i (n / 10) (by omega)
      rw [dgs_ge h2, List.length_append]; simp; omega
theorem c_ix2 (G : Glb Z a0) {t u : Addr} {cs ds : List Int32} {d0 r : Int32} (T : Ar Z H t .byte (lo8 cs)) (U : Ar Z H u .byte (lo8 ds)) (hd : ds.length = 1) (h0 : ds[0]? = some d0) (hc : 1 ≤ cs.length) (hn : cs.length < 2 ^ 29) (hr : Idx cs ds d0 0 r) :
    Ct l Z EL0 (⟨"java/lang/StringLatin1", "indexOf", "([B[B)I"⟩ : MethodName) jdk_43_method_24_code 2 ((some .int)) ({ frames := 1, cells := 0, slots := 0, locals := 22 } : Room) [] [.ref t, .ref u] H (fun v H' => v = some (.int r) ∧ H = H') := by
  refine Ct.in G (by first | exact plainFor_of_name (by simp [plainName, overriddenIn]; done) | decide +kernel) (ls := [.val (.ref t), .val (.ref u)]) rfl rfl fun D A0 => ?_
  have A1 := A0.run [(0, .aload_n 1, 1, 0)] (pe := 1) (by decide +kernel) rfl
  have A2 := A1.alen U (by decide +kernel) (z := ds.length.toInt32) (by simp)
  have A3 := A2.ifT (cd := .ne) (o := 5) (by decide +kernel) (fun q => by have := (n32_inj (j := 0) (by omega) (by decide)).mp q; omega) (pe := 7) (by decide)
  have A4 := A3.run [(7, .aload_n 0, 8, 0)] (pe := 8) (by decide +kernel) rfl
  have A5 := A4.alen T (by decide +kernel) (z := cs.length.toInt32) (by simp)
  have A6 := A5.ifT (cd := .ne) (o := 5) (by decide +kernel) (fun q => by have := (n32_inj (j := 0) (by omega) (by decide)).mp q; omega) (pe := 14) (by decide)
  have A7 := A6.run [(14, .aload_n 0, 15, 0), (15, .aload_n 0, 16, 0)] (pe := 16) (by decide +kernel) rfl
  have A8 := A7.alen T (by decide +kernel) (z := cs.length.toInt32) (by simp)
  have A9 := A8.run [(17, .aload_n 1, 18, 0), (18, .aload_n 1, 19, 0)] (pe := 19) (by decide +kernel) rfl
  have A10 := A9.alen U (by decide +kernel) (z := ds.length.toInt32) (by simp)
  have A11 := A10.run [(20, .iconst 0, 21, 0)] (pe := 21) (by decide +kernel) rfl
  obtain ⟨_, HA12, qA12, A12, moA12, szA12⟩ := A11.callS (argsL := [.ref t, .int cs.length.toInt32, .ref u, .int ds.length.toInt32, .int (0 : Nat).toInt32]) (wd_101 G) (wd_102 G) (wd_99 G) (wd_103 G) (c_l1i G T U (Or.inl hd) h0 (f := 0) (by omega) hn hr) (by decide) ⟨_, _, (by decide +kernel : parseMethodDescriptor "([BI[BII)I" = some ⟨[(.array .byte), .int, (.array .byte), .int, .int], some .int⟩), rfl⟩ (by decide +kernel) (Wd := 0) (by decide) (Nat.le_of_ble_eq_true rfl) (by decide) (by decide) (by decide)
  obtain ⟨rfl, rfl⟩ := qA12
  exact ⟨_, _, _, _, A12.retI (by decide +kernel), ⟨rfl, rfl⟩, by decide, by decide⟩
theorem c_iofS (G : Glb Z a0) {s w : Addr} {cs ds : List Int32} {d0 r : Int32} (S : Str Z H s cs) (hls : Lat cs) (W : Str Z H w ds) (hlw : Lat ds) (hd : ds.length = 1) (h0 : ds[0]? = some d0) (hc : 1 ≤ cs.length) (hn : cs.length < 2 ^ 29) (hr : Idx cs ds d0 0 r) :
    Ct l Z EL0 (⟨"java/lang/String", "indexOf", "(Ljava/lang/String;)I"⟩ : MethodName) jdk_42_method_84_code 3 ((some .int)) ({ frames := 2, cells := 0, slots := 0, locals := 35 } : Room) [] [.ref s, .ref w] H (fun v H' => v = some (.int r) ∧ H = H') := by
  refine Ct.in G (by first | exact plainFor_of_name (by simp [plainName, overriddenIn]; done) | decide +kernel) (ls := [.val (.ref s), .val (.ref w), .unset]) rfl rfl fun D A0 => ?_
  obtain ⟨E, t, V, C, T⟩ := S.opL hls
  obtain ⟨E2, u, V2, C2, U⟩ := W.opL hlw
  have A1 := A0.run [(0, .aload_n 0, 1, 0)] (pe := 1) (by decide +kernel) rfl
  obtain ⟨_, HA2, qA2, A2, moA2, szA2⟩ := A1.callV (argsL := []) (wd_87 G) (wd_88 G) (wd_90 G) rfl (wd_90 G) (wd_89 G) (wd_3 G) (wd_91 G) S.1 (c_sCod G C (Or.inl rfl)) (by decide) ⟨_, _, (by decide +kernel : parseMethodDescriptor "()B" = some ⟨[], some .byte⟩), rfl⟩ (by decide +kernel) (Wd := 0) (by decide) (Nat.le_of_ble_eq_true rfl) (by decide) (by decide) (by decide)
  obtain ⟨rfl, rfl⟩ := qA2
  have A3 := A2.run [(4, .istore_n 2, 5, 0), (5, .iload_n 2, 6, 0), (6, .aload_n 1, 7, 0)] (pe := 7) (by decide +kernel) rfl
  obtain ⟨_, HA4, qA4, A4, moA4, szA4⟩ := A3.callV (argsL := []) (wd_87 G) (wd_88 G) (wd_90 G) rfl (wd_90 G) (wd_89 G) (wd_3 G) (wd_91 G) W.1 (c_sCod G C2 (Or.inl rfl)) (by decide) ⟨_, _, (by decide +kernel : parseMethodDescriptor "()B" = some ⟨[], some .byte⟩), rfl⟩ (by decide +kernel) (Wd := 1) (by decide) (Nat.le_of_ble_eq_true rfl) (by decide) (by decide) (by decide)
  obtain ⟨rfl, rfl⟩ := qA4
  have A5 := A4.icF (cd := .ne) (o := 36) (by decide +kernel) (not_not_intro rfl)
  have A6 := A5.run [(13, .aload_n 0, 14, 0)] (pe := 14) (by decide +kernel) rfl
  obtain ⟨_, HA7, qA7, A7, moA7, szA7⟩ := A6.callV (argsL := []) (wd_92 G) (wd_93 G) (wd_95 G) rfl (wd_95 G) (wd_94 G) (wd_3 G) (wd_96 G) S.1 (c_isL G C 1 (Or.inl ⟨rfl, rfl⟩)) (by decide) ⟨_, _, (by decide +kernel : parseMethodDescriptor "()Z" = some ⟨[], some .boolean⟩), rfl⟩ (by decide +kernel) (Wd := 0) (by decide) (Nat.le_of_ble_eq_true rfl) (by decide) (by decide) (by decide)
  obtain ⟨rfl, rfl⟩ := qA7
  have A8 := A7.ifF (cd := .eq) (o := 17) (by decide +kernel) (by show ¬ _ = _; decide)
  have A9 := A8.run [(20, .aload_n 0, 21, 0)] (pe := 21) (by decide +kernel) rfl
  have A10 := A9.getF (wd_28 G) V (by decide +kernel)
  have A11 := A10.run [(24, .aload_n 1, 25, 0)] (pe := 25) (by decide +kernel) rfl
  have A12 := A11.getF (wd_28 G) V2 (by decide +kernel)
  obtain ⟨_, HA13, qA13, A13, moA13, szA13⟩ := A12.callS (argsL := [.ref t, .ref u]) (wd_97 G) (wd_98 G) (wd_99 G) (wd_100 G) (c_ix2 G T U hd h0 hc hn hr) (by decide) ⟨_, _, (by decide +kernel : parseMethodDescriptor "([B[B)I" = some ⟨[(.array .byte), (.array .byte)], some .int⟩), rfl⟩ (by decide +kernel) (Wd := 0) (by decide) (Nat.le_of_ble_eq_true rfl) (by decide) (by decide) (by decide)
  obtain ⟨rfl, rfl⟩ := qA13
  have A14 := A13.run [(31, .goto 14, 45, 0)] (pe := 45) (by decide +kernel) rfl
  exact ⟨_, _, _, _, A14.retI (by decide +kernel), ⟨rfl, rfl⟩, by decide, by decide⟩
theorem c_stos (G : Glb Z a0) {s : Addr} : Ct l Z EL0 (⟨"java/lang/String", "toString", "()Ljava/lang/String;"⟩ : MethodName) jdk_42_method_126_code 1 ((some (.object "java/lang/String"))) ({ frames := 0, cells := 0, slots := 0, locals := 0 } : Room) [] [.ref s] H (fun v H' => v = some (.ref s) ∧ H = H') := by
  refine Ct.in G (by first | exact plainFor_of_name (by simp [plainName, overriddenIn]; done) | decide +kernel) (ls := [.val (.ref s)]) rfl rfl fun D A0 => ?_
  have A1 := A0.run [(0, .aload_n 0, 1, 0)] (pe := 1) (by decide +kernel) rfl
  exact ⟨_, _, _, _, A1.retA (by decide +kernel) rfl rfl, ⟨rfl, rfl⟩, by decide, by decide⟩
theorem idx58 {hs : List Int32} (h1 : ∀ c ∈ hs, okL c) (hl : hs.length = 1 ∨ hs.length = 2) : ∃ r, Idx hs [58] 58 0 r ∧ (58 ∈ hs ↔ ¬ r < 0) := by
  have o58 : okL 58 := by constructor <;> decide
  have nb : ∀ c ∈ hs, c ≠ 58 → b8 c ≠ b8 58 := fun c hc hne e => hne (b8_inj (h1 c hc) o58 e)
  have fnd : ∀ m : Nat, hs[m]? = some 58 → (∀ j c, j < m → hs[j]? = some c → c ≠ 58) → Idx hs [58] 58 0 m.toInt32 := fun m hm hno => by
    have hml := (List.getElem?_eq_some_iff.mp hm).1
    refine Or.inl ⟨m, rfl, by omega, by simp; omega, fun j c _ hj hc => nb c (List.mem_of_getElem? hc) (hno j c hj hc), fun i c hi => ?_⟩
    have : i = 0 := by have := (List.getElem?_eq_some_iff.mp hi).1; simp at this; omega
    subst this
    simp at hi; subst hi; exact hm
  rcases hl with hl | hl
  · obtain ⟨a, rfl⟩ := List.length_eq_one_iff.mp hl
    by_cases h : a = 58
    · exact ⟨(0 : Nat).toInt32, fnd 0 (by simp [h]) (fun j c hj => by omega), by simp [h]; decide⟩
    · refine ⟨-1, Or.inr ⟨rfl, fun j c _ hc => nb c (List.mem_of_getElem? hc) fun e => ?_⟩, by first | (simp [Ne.symm h]; done) | (simp [Ne.symm h]; decide)⟩
      have := List.mem_of_getElem? hc; simp at this; exact h (this ▸ e)
  · obtain ⟨a, b, rfl⟩ : ∃ a b, hs = [a, b] := by
      match hs, hl with
      | [a, b], _ => exact ⟨a, b, rfl⟩
    by_cases h : a = 58
    · exact ⟨(0 : Nat).toInt32, fnd 0 (by simp [h]) (fun j c hj => by omega), by simp [h]; decide⟩
    · by_cases h2 : b = 58
      · have hz : ∀ j c, j < 1 → [a, b][j]? = some c → c ≠ 58 := by
          intro j c hj hc
          have e0 : j = 0 := by omega
          subst e0
          simp at hc; rw [← hc]; exact h
        exact ⟨(1 : Nat).toInt32, fnd 1 (by simp [h2]) hz, by simp [h2]; decide⟩
      · refine ⟨-1, Or.inr ⟨rfl, fun j c _ hc => nb c (List.mem_of_getElem? hc) fun e => ?_⟩, by first | (simp [Ne.symm h, Ne.symm h2]; done) | (simp [Ne.symm h, Ne.symm h2]; decide)⟩
        have := List.mem_of_getElem? hc; simp at this; rcases this with rfl | rfl
        · exact h e
        · exact h2 e
theorem c_con (G : Glb Z a0) {s w : Addr} {hs : List Int32} (S : Str Z H s hs) (hls : Lat hs) (h1 : ∀ c ∈ hs, okL c) (hl : hs.length = 1 ∨ hs.length = 2) (W : Str Z H w [58]) :
    Ct l Z EL0 (⟨"java/lang/String", "contains", "(Ljava/lang/CharSequence;)Z"⟩ : MethodName) jdk_42_method_97_code 2 ((some .boolean)) ({ frames := 3, cells := 0, slots := 0, locals := 49 } : Room) [] [.ref s, .ref w] H (fun v H' => v = some (.int (bit (58 ∈ hs))) ∧ H = H') := by
  refine Ct.in G (by first | exact plainFor_of_name (by simp [plainName, overriddenIn]; done) | decide +kernel) (ls := [.val (.ref s), .val (.ref w)]) rfl rfl fun D A0 => ?_
  obtain ⟨r, hr, hiff⟩ := idx58 h1 hl
  have A1 := A0.run [(0, .aload_n 0, 1, 0), (1, .aload_n 1, 2, 0)] (pe := 2) (by decide +kernel) rfl
  obtain ⟨_, HA2, qA2, A2, moA2, szA2⟩ := A1.callF (argsL := []) (wd_73 G) (wd_74 G) (wd_75 G) (wd_76 G) (wd_77 G) (wd_78 G) (wd_79 G) (wd_80 G) (wd_3 G) (wd_81 G) W.1 (c_stos G) (by decide) ⟨_, _, (by decide +kernel : parseMethodDescriptor "()Ljava/lang/String;" = some ⟨[], some (.object "java/lang/String")⟩), rfl⟩ (count := 1) (by decide +kernel) (Wd := 1) (by decide) (Nat.le_of_ble_eq_true rfl) (by decide) (by decide) (by decide)
  obtain ⟨rfl, rfl⟩ := qA2
  obtain ⟨_, HA3, qA3, A3, moA3, szA3⟩ := A2.callV (argsL := [.ref w]) (wd_82 G) (wd_83 G) (wd_85 G) rfl (wd_85 G) (wd_84 G) (wd_3 G) (wd_86 G) S.1 (c_iofS G S hls W (by decide) (d0 := 58) rfl rfl (by omega) (by omega) hr) (by decide) ⟨_, _, (by decide +kernel : parseMethodDescriptor "(Ljava/lang/String;)I" = some ⟨[(.object "java/lang/String")], some .int⟩), rfl⟩ (by decide +kernel) (Wd := 0) (by decide) (Nat.le_of_ble_eq_true rfl) (by decide) (by decide) (by decide)
  obtain ⟨rfl, rfl⟩ := qA3
  by_cases h : 58 ∈ hs
  · have A4 := A3.ifF (cd := .lt) (o := 7) (by decide +kernel) (hiff.mp h)
    have A5 := A4.run [(13, .iconst 1, 14, 1), (14, .goto 4, 18, 0)] (pe := 18) (by decide +kernel) rfl
    exact ⟨_, _, _, _, A5.retZ (by decide +kernel) rfl, ⟨by rw [bit, if_pos h]; rfl, rfl⟩, by decide, by decide⟩
  · have A4 := A3.ifT (cd := .lt) (o := 7) (by decide +kernel) (Classical.not_not.mp fun q => h (hiff.mpr q)) (pe := 17) (by decide)
    have A5 := A4.run [(17, .iconst 0, 18, 0)] (pe := 18) (by decide +kernel) rfl
    exact ⟨_, _, _, _, A5.retZ (by decide +kernel) rfl, ⟨by rw [bit, if_neg h]; rfl, rfl⟩, by decide, by decide⟩
theorem c_recI (G : Glb Z a0) {x : Addr} : Ct l Z EL0 (⟨"java/lang/Record", "<init>", "()V"⟩ : MethodName) jdk_30_method_1_code 1 (none) ({ frames := 1, cells := 0, slots := 0, locals := 12 } : Room) [] [.ref x] H (fun v H' => v = none ∧ H = H') := by
  refine Ct.in G (by first | exact plainFor_of_name (by simp [plainName, overriddenIn]; done) | decide +kernel) (ls := [.val (.ref x)]) rfl rfl fun D A0 => ?_
  have A1 := A0.run [(0, .aload_n 0, 1, 0)] (pe := 1) (by decide +kernel) rfl
  have A2 := A1.initO (wd_47 G) (wd_12 G) (wd_13 G) (by decide +kernel) (Wd := 0) (by decide) (Nat.le_of_ble_eq_true rfl) (by decide)
  exact ⟨_, _, _, _, A2.ret (by decide +kernel), ⟨rfl, rfl⟩, by decide, by decide⟩
abbrev RUn : String := "com/example/bell_counter/bellcounter/redis/RedisUrl"
def RUat (Z : State) (H : HP) (p s : Addr) (port db : Nat) : Prop := Exa Z H.1 p RUn ∧ Fld Z H.1 p RUn "host" "Ljava/lang/String;" (.ref s) ∧ Fld Z H.1 p RUn "port" "I" (.int port.toInt32) ∧ Fld Z H.1 p RUn "database" "I" (.int db.toInt32)
theorem RUat.ky {H H' : HP} {p s : Addr} {port db : Nat} (F : RUat Z H p s port db) (K : Kp H H' []) : RUat Z H' p s port db := ⟨F.1.ky K, F.2.1.ky K, F.2.2.1.ky K, F.2.2.2.ky K⟩
set_option maxRecDepth 65536 in
theorem c_ruI (G : Glb Z a0) {x s : Addr} {hs : List Int32} {port db : Nat} (S : Str Z H s hs) (hne : hs ≠ []) (hp1 : 1 ≤ port) (hp2 : port ≤ 65535) (hdb : db < 2 ^ 31) (E : Exa Z H.1 x RUn) (F1 : Fld Z H.1 x RUn "host" "Ljava/lang/String;" .null) (F2 : Fld Z H.1 x RUn "port" "I" (.int 0)) (F3 : Fld Z H.1 x RUn "database" "I" (.int 0)) (o : H.2 x) :
    Ct l Z EL0 (⟨"com/example/bell_counter/bellcounter/redis/RedisUrl", "<init>", "(Ljava/lang/String;II)V"⟩ : MethodName) prog_17_method_1_code 4 (none) ({ frames := 2, cells := 0, slots := 0, locals := 24 } : Room) [] [.ref x, .ref s, .int port.toInt32, .int db.toInt32] H (fun v H' => v = none ∧ Kp H H' [x] ∧ RUat Z H' x s port db) := by
  refine Ct.in G (by first | exact plainFor_of_name (by simp [plainName, overriddenIn]; done) | decide +kernel) (ls := [.val (.ref x), .val (.ref s), .val (.int port.toInt32), .val (.int db.toInt32)]) rfl rfl fun D A0 => ?_
  have A1 := A0.run [(0, .aload_n 0, 1, 0)] (pe := 1) (by decide +kernel) rfl
  obtain ⟨_, HA2, qA2, A2, moA2, szA2⟩ := A1.callI (argsL := []) rfl (wd_42 G) (wd_43 G) (wd_45 G) (wd_46 G) (c_recI G) (by decide) ⟨_, _, (by decide +kernel : parseMethodDescriptor "()V" = some ⟨[], none⟩), rfl⟩ (by decide +kernel) (Wd := 0) (by decide) (Nat.le_of_ble_eq_true rfl) (by decide) (by decide) (by decide)
  obtain ⟨rfl, rfl⟩ := qA2
  have A3 := A2.run [(4, .aload_n 1, 5, 0)] (pe := 5) (by decide +kernel) rfl
  have A4 := A3.nullF (o := 10) (by decide +kernel)
  have A5 := A4.run [(8, .aload_n 1, 9, 0)] (pe := 9) (by decide +kernel) rfl
  obtain ⟨_, HA6, qA6, A6, moA6, szA6⟩ := A5.callV (argsL := []) (wd_48 G) (wd_49 G) (wd_51 G) rfl (wd_51 G) (wd_50 G) (wd_3 G) (wd_52 G) S.1 (c_sEmp G S) (by decide) ⟨_, _, (by decide +kernel : parseMethodDescriptor "()Z" = some ⟨[], some .boolean⟩), rfl⟩ (by decide +kernel) (Wd := 0) (by decide) (Nat.le_of_ble_eq_true rfl) (by decide) (by decide) (by decide)
  obtain ⟨rfl, rfl⟩ := qA6
  have A7 := A6.ifT (cd := .eq) (o := 13) (by decide +kernel) (by show _ = _; rw [bit, if_neg hne]) (pe := 25) (by decide)
  have A8 := A7.run [(25, .iload_n 2, 26, 0), (26, .iconst 1, 27, 1)] (pe := 27) (by decide +kernel) rfl
  have A9 := A8.icF (cd := .lt) (o := 9) (by decide +kernel) (fun q => by have := (n32_lt (j := 1) (by omega) (by decide)).mp q; omega)
  have A10 := A9.run [(30, .iload_n 2, 31, 0)] (pe := 31) (by decide +kernel) rfl
  have A11 := A10.ldcI (wd_53 G) (by decide +kernel)
  have A12 := A11.icT (cd := .le) (o := 30) (by decide +kernel) (fun q => by rw [Int32.lt_iff_toInt_lt, n32_toInt (by omega), show (65535 : Int32).toInt = 65535 by decide] at q; omega) (pe := 63) (by decide)
  have A13 := A12.run [(63, .iload_n 3, 64, 0)] (pe := 64) (by decide +kernel) rfl
  have A14 := A13.ifT (cd := .ge) (o := 30) (by decide +kernel) (nonneg_nat hdb) (pe := 94) (by decide)
  have A15 := A14.run [(94, .aload_n 0, 95, 0), (95, .aload_n 1, 96, 0)] (pe := 96) (by decide +kernel) rfl
  have wi := (wd_37 G)
  have s12 := slot_ne (Z := Z) (Or.inr (wd_55 G)) (Or.inr (wd_57 G)) (by decide) (t := .object "java/lang/String") (by decide) (t' := .int) (by decide)
  have s13 := slot_ne (Z := Z) (Or.inr (wd_55 G)) (Or.inr (wd_59 G)) (by decide) (t := .object "java/lang/String") (by decide) (t' := .int) (by decide)
  have s23 := slot_ne (Z := Z) (Or.inr (wd_57 G)) (Or.inr (wd_59 G)) (by decide) (t := .int) (by decide) (t' := .int) (by decide)
  obtain ⟨H1, A16, K1, W1⟩ := A15.putFin (wd_54 G) F1 E (wd_55 G) rfl rfl wi o (by decide +kernel) (ty := .object "java/lang/String") (by decide) rfl rfl
  have A17 := A16.run [(99, .aload_n 0, 100, 0), (100, .iload_n 2, 101, 0)] (pe := 101) (by decide +kernel) rfl
  have G2 := F2.other W1 (Or.inr (Ne.symm s12))
  have G3 := F3.other W1 (Or.inr (Ne.symm s13))
  obtain ⟨H2, A18, K2, W2⟩ := A17.putFin (wd_56 G) G2 (E.ky K1) (wd_57 G) rfl rfl wi (K1.2 _ o) (by decide +kernel) (ty := .int) (by decide) rfl rfl
  have A19 := A18.run [(104, .aload_n 0, 105, 0), (105, .iload_n 3, 106, 0)] (pe := 106) (by decide +kernel) rfl
  have G3' := G3.other W2 (Or.inr (Ne.symm s23))
  obtain ⟨H3, A20, K3, W3⟩ := A19.putFin (wd_58 G) G3' ((E.ky K1).ky K2) (wd_59 G) rfl rfl wi (K2.2 _ (K1.2 _ o)) (by decide +kernel) (ty := .int) (by decide) rfl rfl
  exact ⟨_, _, _, _, A20.ret (by decide +kernel), ⟨rfl, (K1.trans K2 fun y hy => Or.inl hy).trans K3 fun y hy => Or.inl hy, ((E.ky K1).ky K2).ky K3, ((F1.same W1).other W2 (Or.inr s12)).other W3 (Or.inr s13), (G2.same W2).other W3 (Or.inr s23), G3'.same W3⟩, by decide, by decide⟩
theorem two {a b : Addr} {n : Nat} (h1 : n ≤ a) (h2 : n ≤ b) : ∀ y ∈ [a, b], n ≤ y := fun y hy => by
  rcases List.mem_cons.mp hy with rfl | hy
  · exact h1
  · cases List.mem_singleton.mp hy; exact h2
abbrev hx (hs : List Int32) : List Int32 := if 58 ∈ hs then [91] ++ hs ++ [93] else hs
abbrev pre8 : List Int32 := [114, 101, 100, 105, 115, 58, 47, 47]
abbrev full (hs : List Int32) (port db : Nat) : List Int32 := pre8 ++ hx hs ++ [58] ++ dgs port ++ [47] ++ dgs db
set_option maxRecDepth 65536 in
set_option maxHeartbeats 4000000 in
theorem l_host (G : Glb Z a0) {p s : Addr} {hs : List Int32} {port db : Nat} (F : RUat Z H p s port db) (S : Str Z H s hs) (hla : Lat hs) (hl : hs.length = 1 ∨ hs.length = 2) (A0 : Wk l Z a0 EL0 "com/example/bell_counter/bellcounter/redis/RedisUrl" prog_17_method_3_code 2 "toString" (some (.object "java/lang/String")) ({ frames := 6, cells := 34, slots := 900, locals := 91 } : Room) D 12 [.val (.ref p), .unset] [] H 2 8) :
    ∃ u H', Kp H H' [] ∧ Str Z H' u ([91] ++ hs ++ [93]) ∧ Wk l Z a0 EL0 "com/example/bell_counter/bellcounter/redis/RedisUrl" prog_17_method_3_code 2 "toString" (some (.object "java/lang/String")) ({ frames := 6, cells := 34, slots := 900, locals := 91 } : Room) D 46 [.val (.ref p), .unset] [.ref u] H' 14 320 := by
  obtain ⟨st, ST, hst⟩ := S.t
  obtain ⟨xa, H1a, B1a, gxa0, K1a, Ea, oa, Dfa⟩ := A0.newO (wd_104 G) (wd_105 G) (wd_106 G) (by decide +kernel) (by decide) (by decide)
  have B2a := B1a.run [(15, .dup, 16, 0)] (pe := 16) (by decide +kernel) rfl
  obtain ⟨_, HB3a, qB3a, B3a, moB3a, szB3a⟩ := B2a.callI (argsL := []) rfl (wd_107 G) (wd_108 G) (wd_106 G) (wd_109 G) (c_sbIx G Ea (Dfa (Or.inl (wd_119 G)) (t := .array .byte) (by decide)) (Dfa (Or.inl (wd_121 G)) (t := .byte) (by decide)) (Dfa (Or.inl (wd_139 G)) (t := .int) (by decide)) oa) (by decide) ⟨_, _, (by decide +kernel : parseMethodDescriptor "()V" = some ⟨[], none⟩), rfl⟩ (by decide +kernel) (Wd := 1) (by decide) (Nat.le_of_ble_eq_true rfl) (by decide) (by decide) (by decide)
  obtain ⟨rfl, K3a, va0, gva', Qa0⟩ := qB3a
  have gva : H.1.size ≤ va0 := Nat.le_trans K1a.size gva'
  have L3 : Kp H HB3a [] := K1a.trans K3a (fun y hy => Or.inr (by cases List.mem_singleton.mp hy; exact gxa0))
  obtain ⟨sp, tp, Hp, B4, Kp, Ep, Cp, Vp, Tp, np⟩ := B3a.ldcS (wd_255 G) (by decide +kernel) (vs := lo8 [91]) ⟨by decide +kernel, by decide +kernel⟩ (by decide +kernel) (z := 1) (by decide) (by decide) (q := 4) (by decide +kernel) (by decide) (by decide) (by decide)
  have Sp : StrT Z Hp sp tp [91] := ⟨Ep, by decide, Vp, Or.inl ⟨by decide, Cp, Tp⟩⟩
  obtain ⟨_, HB5, qB5, B5, moB5, szB5⟩ := B4.callV (argsL := [.ref sp]) (wd_123 G) (wd_124 G) (wd_126 G) rfl (wd_126 G) (wd_125 G) (wd_106 G) (wd_127 G) (Qa0.ky Kp).e (c_sbAx G (Qa0.ky Kp) Sp (by decide) (by decide) (by simp)) (by decide) ⟨_, _, (by decide +kernel : parseMethodDescriptor "(Ljava/lang/String;)Ljava/lang/StringBuilder;" = some ⟨[(.object "java/lang/String")], some (.object "java/lang/StringBuilder")⟩), rfl⟩ (by decide +kernel) (Wd := 0) (by decide) (Nat.le_of_ble_eq_true rfl) (by decide) (by decide) (by decide)
  obtain ⟨rfl, K5, v5, C5, hv5, Q5, g5⟩ := qB5
  have C5e : C5 = 16 := by simp at g5; omega
  subst C5e
  have L5 := (L3.tr Kp).trans K5 (fun y hy => Or.inr (two gxa0 gva y hy))
  have gv5 : H.1.size ≤ v5 := hv5.elim (fun e => e ▸ gva) (fun e => Nat.le_trans (L3.tr Kp).size e)
  have B6 := B5.run [(24, .aload_n 0, 25, 0)] (pe := 25) (by decide +kernel) rfl
  have B7 := B6.getF (wd_54 G) (F.ky L5).2.1 (by decide +kernel)
  obtain ⟨_, HB8, qB8, B8, moB8, szB8⟩ := B7.callV (argsL := [.ref s]) (wd_123 G) (wd_124 G) (wd_126 G) rfl (wd_126 G) (wd_125 G) (wd_106 G) (wd_127 G) Q5.e (c_sbAx G Q5 (ST.ky L5 List.not_mem_nil List.not_mem_nil) hla (by decide) (by simp; omega)) (by decide) ⟨_, _, (by decide +kernel : parseMethodDescriptor "(Ljava/lang/String;)Ljava/lang/StringBuilder;" = some ⟨[(.object "java/lang/String")], some (.object "java/lang/StringBuilder")⟩), rfl⟩ (by decide +kernel) (Wd := 0) (by decide) (Nat.le_of_ble_eq_true rfl) (by decide) (by decide) (by decide)
  obtain ⟨rfl, K8, v8, C8, hv8, Q8, g8⟩ := qB8
  have C8e : C8 = 16 := by simp at g8; omega
  subst C8e
  have L8 := L5.trans K8 (fun y hy => Or.inr (two gxa0 gv5 y hy))
  have gv8 : H.1.size ≤ v8 := hv8.elim (fun e => e ▸ gv5) (fun e => Nat.le_trans L5.size e)
  obtain ⟨sq, tq, Hq, B9, Kq, Eq, Cq, Vq, Tq, nq⟩ := B8.ldcS (wd_256 G) (by decide +kernel) (vs := lo8 [93]) ⟨by decide +kernel, by decide +kernel⟩ (by decide +kernel) (z := 1) (by decide) (by decide) (q := 4) (by decide +kernel) (by decide) (by decide) (by decide)
  have Sq : StrT Z Hq sq tq [93] := ⟨Eq, by decide, Vq, Or.inl ⟨by decide, Cq, Tq⟩⟩
  obtain ⟨_, HB10, qB10, B10, moB10, szB10⟩ := B9.callV (argsL := [.ref sq]) (wd_123 G) (wd_124 G) (wd_126 G) rfl (wd_126 G) (wd_125 G) (wd_106 G) (wd_127 G) (Q8.ky Kq).e (c_sbAx G (Q8.ky Kq) Sq (by decide) (by decide) (by simp; omega)) (by decide) ⟨_, _, (by decide +kernel : parseMethodDescriptor "(Ljava/lang/String;)Ljava/lang/StringBuilder;" = some ⟨[(.object "java/lang/String")], some (.object "java/lang/StringBuilder")⟩), rfl⟩ (by decide +kernel) (Wd := 0) (by decide) (Nat.le_of_ble_eq_true rfl) (by decide) (by decide) (by decide)
  obtain ⟨rfl, K10, v10, C10, hv10, Q10, g10⟩ := qB10
  have L10 := (L8.tr Kq).trans K10 (fun y hy => Or.inr (two gxa0 gv8 y hy))
  obtain ⟨rs, hC, Q, Ev⟩ := Q10
  obtain ⟨_, HB11, qB11, B11, moB11, szB11⟩ := B10.callV (argsL := []) (wd_188 G) (wd_189 G) (wd_191 G) rfl (wd_191 G) (wd_190 G) (wd_106 G) (wd_192 G) Q.1 (c_tosx G Q Ev (by simp; omega)) (by decide) ⟨_, _, (by decide +kernel : parseMethodDescriptor "()Ljava/lang/String;" = some ⟨[], some (.object "java/lang/String")⟩), rfl⟩ (by decide +kernel) (Wd := 0) (by decide) (Nat.le_of_ble_eq_true rfl) (by decide) (by decide) (by decide)
  obtain ⟨u, rfl, gu, K11, U⟩ := qB11
  have B12 := B11.run [(39, .goto 7, 46, 0)] (pe := 46) (by decide +kernel) rfl
  exact ⟨u, _, L10.tr K11, U, B12.more (by decide) (by decide)⟩
set_option maxRecDepth 65536 in
set_option maxHeartbeats 4000000 in
theorem c_rts (G : Glb Z a0) {p s : Addr} {hs : List Int32} {port db : Nat} (F : RUat Z H p s port db) (S : Str Z H s hs) (hla : Lat hs) (hok : ∀ c ∈ hs, okL c) (hl : hs.length = 1 ∨ hs.length = 2) (hp2 : port ≤ 65535) (hdb : db < 2 ^ 31) :
    Ct l Z EL0 (⟨"com/example/bell_counter/bellcounter/redis/RedisUrl", "toString", "()Ljava/lang/String;"⟩ : MethodName) prog_17_method_3_code 2 ((some (.object "java/lang/String"))) ({ frames := 6, cells := 34, slots := 900, locals := 91 } : Room) [] [.ref p] H (fun v H' => ∃ u, v = some (.ref u) ∧ H.1.size ≤ u ∧ Kp H H' [] ∧ Str Z H' u (full hs port db)) := by
  refine Ct.in G (by first | exact plainFor_of_name (by simp [plainName, overriddenIn]; done) | decide +kernel) (ls := [.val (.ref p), .unset]) rfl rfl fun D A0 => ?_
  have dl1 : (dgs port).length ≤ 5 := dgs_le 4 port (by omega)
  have dl2 : (dgs db).length ≤ 10 := dgs_le 9 db (by omega)
  have A1 := A0.run [(0, .aload_n 0, 1, 0)] (pe := 1) (by decide +kernel) rfl
  have A2 := A1.getF (wd_54 G) F.2.1 (by decide +kernel)
  obtain ⟨sc, tc, Hc, A3, Kc, Ec, Cc, Vc, Tc, nc⟩ := A2.ldcS (wd_65 G) (by decide +kernel) (vs := lo8 [58]) ⟨by decide +kernel, by decide +kernel⟩ (by decide +kernel) (z := 1) (by decide) (by decide) (q := 4) (by decide +kernel) (by decide) (by decide) (by decide)
  have Sc : StrT Z Hc sc tc [58] := ⟨Ec, by decide, Vc, Or.inl ⟨by decide, Cc, Tc⟩⟩
  have F0 := F.ky Kc
  have S0 := S.ky Kc
  obtain ⟨_, HA4, qA4, A4, moA4, szA4⟩ := A3.callV (argsL := [.ref sc]) (wd_68 G) (wd_69 G) (wd_71 G) rfl (wd_71 G) (wd_70 G) (wd_3 G) (wd_72 G) S0.1 (c_con G S0 hla hok hl Sc.str) (by decide) ⟨_, _, (by decide +kernel : parseMethodDescriptor "(Ljava/lang/CharSequence;)Z" = some ⟨[(.object "java/lang/CharSequence")], some .boolean⟩), rfl⟩ (by decide +kernel) (Wd := 0) (by decide) (Nat.le_of_ble_eq_true rfl) (by decide) (by decide) (by decide)
  obtain ⟨rfl, rfl⟩ := qA4
  obtain ⟨h1, H1, K1, S1, l1, l2, A5⟩ : ∃ h1 H1, Kp Hc H1 [] ∧ Str Z H1 h1 (hx hs) ∧ Lat (hx hs) ∧ (hx hs).length ≤ 4 ∧ Wk l Z a0 EL0 "com/example/bell_counter/bellcounter/redis/RedisUrl" prog_17_method_3_code 2 "toString" (some (.object "java/lang/String")) ({ frames := 6, cells := 34, slots := 900, locals := 91 } : Room) D 46 [.val (.ref p), .unset] [.ref h1] H1 14 320 := by
    by_cases h : 58 ∈ hs
    · have B1 := A4.ifF (cd := .eq) (o := 33) (by decide +kernel) (by show ¬ _ = _; rw [bit, if_pos h]; decide)
      obtain ⟨u, H', K, U, B2⟩ := l_host G F0 S0 hla hl (B1.more (by decide) (by decide))
      refine ⟨u, H', K, by rw [hx, if_pos h]; exact U, ?_, by rw [hx, if_pos h]; simp; omega, B2⟩
      rw [hx, if_pos h]
      exact fun c hc => by
        rcases List.mem_append.mp hc with hc | hc
        · rcases List.mem_append.mp hc with hc | hc
          · cases List.mem_singleton.mp hc; decide
          · exact hla c hc
        · cases List.mem_singleton.mp hc; decide
    · have B1 := A4.ifT (cd := .eq) (o := 33) (by decide +kernel) (by show _ = _; rw [bit, if_neg h]) (pe := 42) (by decide)
      have B2 := B1.run [(42, .aload_n 0, 43, 0)] (pe := 43) (by decide +kernel) rfl
      have B3 := B2.getF (wd_54 G) F0.2.1 (by decide +kernel)
      exact ⟨s, _, Kp.refl _, by rw [hx, if_neg h]; exact S0, by rw [hx, if_neg h]; exact hla, by rw [hx, if_neg h]; omega, B3.more (by decide) (by decide)⟩
  have F1 := F0.ky K1
  generalize hhx : hx hs = hh at *
  obtain ⟨st, ST, hst⟩ := S1.t
  have A6 := A5.run [(46, .astore_n 1, 47, 0)] (pe := 47) (by decide +kernel) rfl
  obtain ⟨xa, H1a, B1a, gxa0, K1a, Ea, oa, Dfa⟩ := A6.newO (wd_104 G) (wd_105 G) (wd_106 G) (by decide +kernel) (by decide) (by decide)
  have B2a := B1a.run [(50, .dup, 51, 0)] (pe := 51) (by decide +kernel) rfl
  obtain ⟨_, HB3a, qB3a, B3a, moB3a, szB3a⟩ := B2a.callI (argsL := []) rfl (wd_107 G) (wd_108 G) (wd_106 G) (wd_109 G) (c_sbIx G Ea (Dfa (Or.inl (wd_119 G)) (t := .array .byte) (by decide)) (Dfa (Or.inl (wd_121 G)) (t := .byte) (by decide)) (Dfa (Or.inl (wd_139 G)) (t := .int) (by decide)) oa) (by decide) ⟨_, _, (by decide +kernel : parseMethodDescriptor "()V" = some ⟨[], none⟩), rfl⟩ (by decide +kernel) (Wd := 1) (by decide) (Nat.le_of_ble_eq_true rfl) (by decide) (by decide) (by decide)
  obtain ⟨rfl, K3a, va0, gva', Qa0⟩ := qB3a
  have gva : H1.1.size ≤ va0 := Nat.le_trans K1a.size gva'
  have L3 : Kp H1 HB3a [] := K1a.trans K3a (fun y hy => Or.inr (by cases List.mem_singleton.mp hy; exact gxa0))
  obtain ⟨sp, tp, Hp, B4, Kp, Ep, Cp, Vp, Tp, np⟩ := B3a.ldcS (wd_122 G) (by decide +kernel) (vs := lo8 [114, 101, 100, 105, 115, 58, 47, 47]) ⟨by decide +kernel, by decide +kernel⟩ (by decide +kernel) (z := 8) (by decide) (by decide) (q := 32) (by decide +kernel) (by decide) (by decide) (by decide)
  have Sp : StrT Z Hp sp tp [114, 101, 100, 105, 115, 58, 47, 47] := ⟨Ep, by decide, Vp, Or.inl ⟨by decide, Cp, Tp⟩⟩
  obtain ⟨_, HB5, qB5, B5, moB5, szB5⟩ := B4.callV (argsL := [.ref sp]) (wd_123 G) (wd_124 G) (wd_126 G) rfl (wd_126 G) (wd_125 G) (wd_106 G) (wd_127 G) (Qa0.ky Kp).e (c_sbAx G (Qa0.ky Kp) Sp (by decide) (by decide) (by simp)) (by decide) ⟨_, _, (by decide +kernel : parseMethodDescriptor "(Ljava/lang/String;)Ljava/lang/StringBuilder;" = some ⟨[(.object "java/lang/String")], some (.object "java/lang/StringBuilder")⟩), rfl⟩ (by decide +kernel) (Wd := 0) (by decide) (Nat.le_of_ble_eq_true rfl) (by decide) (by decide) (by decide)
  obtain ⟨rfl, K5, v5, C5, hv5, Q5, g5⟩ := qB5
  have C5e : C5 = 16 := by simp at g5; omega
  subst C5e
  have L5 := (L3.tr Kp).trans K5 (fun y hy => Or.inr (two gxa0 gva y hy))
  have gv5 : H1.1.size ≤ v5 := hv5.elim (fun e => e ▸ gva) (fun e => Nat.le_trans (L3.tr Kp).size e)
  have B6 := B5.run [(59, .aload_n 1, 60, 0)] (pe := 60) (by decide +kernel) rfl
  obtain ⟨_, HB8, qB8, B8, moB8, szB8⟩ := B6.callV (argsL := [.ref h1]) (wd_123 G) (wd_124 G) (wd_126 G) rfl (wd_126 G) (wd_125 G) (wd_106 G) (wd_127 G) Q5.e (c_sbAx G Q5 (ST.ky L5 List.not_mem_nil List.not_mem_nil) l1 (by decide) (by simp; omega)) (by decide) ⟨_, _, (by decide +kernel : parseMethodDescriptor "(Ljava/lang/String;)Ljava/lang/StringBuilder;" = some ⟨[(.object "java/lang/String")], some (.object "java/lang/StringBuilder")⟩), rfl⟩ (by decide +kernel) (Wd := 0) (by decide) (Nat.le_of_ble_eq_true rfl) (by decide) (by decide) (by decide)
  obtain ⟨rfl, K8, v8, C8, hv8, Q8, g8⟩ := qB8
  have C8e : C8 = 16 := by simp at g8; omega
  subst C8e
  have L8 := L5.trans K8 (fun y hy => Or.inr (two gxa0 gv5 y hy))
  have gv8 : H1.1.size ≤ v8 := hv8.elim (fun e => e ▸ gv5) (fun e => Nat.le_trans L5.size e)
  obtain ⟨sq, tq, Hq, B9, Kq, Eq, Cq, Vq, Tq, nq⟩ := B8.ldcS (wd_65 G) (by decide +kernel) (vs := lo8 [58]) ⟨by decide +kernel, by decide +kernel⟩ (by decide +kernel) (z := 1) (by decide) (by decide) (q := 4) (by decide +kernel) (by decide) (by decide) (by decide)
  have Sq : StrT Z Hq sq tq [58] := ⟨Eq, by decide, Vq, Or.inl ⟨by decide, Cq, Tq⟩⟩
  obtain ⟨_, HB10, qB10, B10, moB10, szB10⟩ := B9.callV (argsL := [.ref sq]) (wd_123 G) (wd_124 G) (wd_126 G) rfl (wd_126 G) (wd_125 G) (wd_106 G) (wd_127 G) (Q8.ky Kq).e (c_sbAx G (Q8.ky Kq) Sq (by decide) (by decide) (by simp; omega)) (by decide) ⟨_, _, (by decide +kernel : parseMethodDescriptor "(Ljava/lang/String;)Ljava/lang/StringBuilder;" = some ⟨[(.object "java/lang/String")], some (.object "java/lang/StringBuilder")⟩), rfl⟩ (by decide +kernel) (Wd := 0) (by decide) (Nat.le_of_ble_eq_true rfl) (by decide) (by decide) (by decide)
  obtain ⟨rfl, K10, v10, C10, hv10, Q10, g10⟩ := qB10
  have C10e : C10 = 16 := by simp at g10; omega
  subst C10e
  have L10 := (L8.tr Kq).trans K10 (fun y hy => Or.inr (two gxa0 gv8 y hy))
  have gv10 : H1.1.size ≤ v10 := hv10.elim (fun e => e ▸ gv8) (fun e => Nat.le_trans (L8.tr Kq).size e)
  have B11 := B10.run [(68, .aload_n 0, 69, 0)] (pe := 69) (by decide +kernel) rfl
  have B12 := B11.getF (wd_56 G) (F1.ky L10).2.2.1 (by decide +kernel)
  obtain ⟨_, HB13, qB13, B13, moB13, szB13⟩ := B12.callV (argsL := [.int port.toInt32]) (wd_165 G) (wd_166 G) (wd_168 G) rfl (wd_168 G) (wd_167 G) (wd_106 G) (wd_169 G) Q10.e (c_sbN G Q10 (by omega) (by decide) (by simp; omega)) (by decide) ⟨_, _, (by decide +kernel : parseMethodDescriptor "(I)Ljava/lang/StringBuilder;" = some ⟨[.int], some (.object "java/lang/StringBuilder")⟩), rfl⟩ (by decide +kernel) (Wd := 0) (by decide) (Nat.le_of_ble_eq_true rfl) (by decide) (by decide) (by decide)
  obtain ⟨rfl, K13, v13, C13, hv13, Q13, g13⟩ := qB13
  have C13e : C13 = 16 ∨ C13 = 34 := by simp at g13; omega
  have L13 := L10.trans K13 (fun y hy => Or.inr (two gxa0 gv10 y hy))
  have gv13 : H1.1.size ≤ v13 := hv13.elim (fun e => e ▸ gv10) (fun e => Nat.le_trans L10.size e)
  obtain ⟨sz, tz, Hz, B14, Kz, Ez, Cz, Vz, Tz, nz⟩ := B13.ldcS (wd_187 G) (by decide +kernel) (vs := lo8 [47]) ⟨by decide +kernel, by decide +kernel⟩ (by decide +kernel) (z := 1) (by decide) (by decide) (q := 4) (by decide +kernel) (by decide) (by decide) (by decide)
  have Sz : StrT Z Hz sz tz [47] := ⟨Ez, by decide, Vz, Or.inl ⟨by decide, Cz, Tz⟩⟩
  obtain ⟨_, HB15, qB15, B15, moB15, szB15⟩ := B14.callV (argsL := [.ref sz]) (wd_123 G) (wd_124 G) (wd_126 G) rfl (wd_126 G) (wd_125 G) (wd_106 G) (wd_127 G) (Q13.ky Kz).e (c_sbAx G (Q13.ky Kz) Sz (by decide) (by omega) (by simp; omega)) (by decide) ⟨_, _, (by decide +kernel : parseMethodDescriptor "(Ljava/lang/String;)Ljava/lang/StringBuilder;" = some ⟨[(.object "java/lang/String")], some (.object "java/lang/StringBuilder")⟩), rfl⟩ (by decide +kernel) (Wd := 0) (by decide) (Nat.le_of_ble_eq_true rfl) (by decide) (by decide) (by decide)
  obtain ⟨rfl, K15, v15, C15, hv15, Q15, g15⟩ := qB15
  have C15e : C15 = 16 ∨ C15 = 34 := by simp at g15; omega
  have L15 := (L13.tr Kz).trans K15 (fun y hy => Or.inr (two gxa0 gv13 y hy))
  have gv15 : H1.1.size ≤ v15 := hv15.elim (fun e => e ▸ gv13) (fun e => Nat.le_trans (L13.tr Kz).size e)
  have B16 := B15.run [(80, .aload_n 0, 81, 0)] (pe := 81) (by decide +kernel) rfl
  have B17 := B16.getF (wd_58 G) (F1.ky L15).2.2.2 (by decide +kernel)
  obtain ⟨_, HB18, qB18, B18, moB18, szB18⟩ := B17.callV (argsL := [.int db.toInt32]) (wd_165 G) (wd_166 G) (wd_168 G) rfl (wd_168 G) (wd_167 G) (wd_106 G) (wd_169 G) Q15.e (c_sbN G Q15 hdb (by omega) (by simp; omega)) (by decide) ⟨_, _, (by decide +kernel : parseMethodDescriptor "(I)Ljava/lang/StringBuilder;" = some ⟨[.int], some (.object "java/lang/StringBuilder")⟩), rfl⟩ (by decide +kernel) (Wd := 0) (by decide) (Nat.le_of_ble_eq_true rfl) (by decide) (by decide) (by decide)
  obtain ⟨rfl, K18, v18, C18, hv18, Q18, g18⟩ := qB18
  have L18 := L15.trans K18 (fun y hy => Or.inr (two gxa0 gv15 y hy))
  obtain ⟨rs, hC, Q, Ev⟩ := Q18
  obtain ⟨_, HB19, qB19, B19, moB19, szB19⟩ := B18.callV (argsL := []) (wd_188 G) (wd_189 G) (wd_191 G) rfl (wd_191 G) (wd_190 G) (wd_106 G) (wd_192 G) Q.1 (c_tosx G Q Ev (by simp; omega)) (by decide) ⟨_, _, (by decide +kernel : parseMethodDescriptor "()Ljava/lang/String;" = some ⟨[], some (.object "java/lang/String")⟩), rfl⟩ (by decide +kernel) (Wd := 0) (by decide) (Nat.le_of_ble_eq_true rfl) (by decide) (by decide) (by decide)
  obtain ⟨u, rfl, gu, K19, U⟩ := qB19
  have LL := (Kc.tr K1).tr L18
  refine ⟨_, _, _, _, B19.retA (by decide +kernel) rfl rfl, ⟨u, rfl, Nat.le_trans LL.size gu, LL.tr K19, ?_⟩, by decide, by decide⟩
  rw [full, hhx]; exact U
set_option maxRecDepth 65536 in
theorem c_nl (G : Glb Z a0) {n : Nat} (hn : n < 2 ^ 31) : Ct l Z EL0 (⟨"com/example/bell_counter/bellcounter/redis/RedisUrlToStringPinLaw", "numLen", "(I)I"⟩ : MethodName) method_3_code 1 ((some .int)) ({ frames := 0, cells := 0, slots := 0, locals := 0 } : Room) [] [.int n.toInt32] H (fun v H' => v = some (.int (dgs n).length.toInt32) ∧ H = H') := by
  refine Ct.in G (by first | exact plainFor_of_name (by simp [plainName, overriddenIn]; done) | decide +kernel) (ls := [.val (.int n.toInt32)]) rfl rfl fun D A0 => ?_
  have cmp : ∀ (c : Int32) (m : Nat), c.toInt = m → (n.toInt32 < c ↔ n < m) := fun c m hc => by
    rw [Int32.lt_iff_toInt_lt, n32_toInt hn, hc]; omega
  have B1 := A0.run [(0, .iload_n 0, 1, 0), (1, .bipush 10, 3, 10)] (pe := 3) (by decide +kernel) rfl
  by_cases h1 : n < 10 ^ 1
  · have A1 := B1.icF (cd := .ge) (o := 5) (by decide +kernel) (not_not_intro ((cmp 10 10 (by decide)).mpr (by simpa using h1)))
    have D1 := A1.run [(6, .iconst 1, 7, 1)] (pe := 7) (by decide +kernel) rfl
    exact ⟨_, _, _, _, D1.retI (by decide +kernel), ⟨by rw [dgs_len 0 n h1 (Or.inl rfl)]; rfl, rfl⟩, by decide, by decide⟩
  have A1 := B1.icT (cd := .ge) (o := 5) (by decide +kernel) (fun q => h1 (by simpa using (cmp 10 10 (by decide)).mp q)) (pe := 8) (by decide)
  have B2 := A1.run [(8, .iload_n 0, 9, 0), (9, .bipush 100, 11, 100)] (pe := 11) (by decide +kernel) rfl
  by_cases h2 : n < 10 ^ 2
  · have A2 := B2.icF (cd := .ge) (o := 5) (by decide +kernel) (not_not_intro ((cmp 100 100 (by decide)).mpr (by simpa using h2)))
    have D2 := A2.run [(14, .iconst 2, 15, 2)] (pe := 15) (by decide +kernel) rfl
    exact ⟨_, _, _, _, D2.retI (by decide +kernel), ⟨by rw [dgs_len 1 n h2 (Or.inr (by omega))]; rfl, rfl⟩, by decide, by decide⟩
  have A2 := B2.icT (cd := .ge) (o := 5) (by decide +kernel) (fun q => h2 (by simpa using (cmp 100 100 (by decide)).mp q)) (pe := 16) (by decide)
  have B3 := A2.run [(16, .iload_n 0, 17, 0), (17, .sipush 1000, 20, 1000)] (pe := 20) (by decide +kernel) rfl
  by_cases h3 : n < 10 ^ 3
  · have A3 := B3.icF (cd := .ge) (o := 5) (by decide +kernel) (not_not_intro ((cmp 1000 1000 (by decide)).mpr (by simpa using h3)))
    have D3 := A3.run [(23, .iconst 3, 24, 3)] (pe := 24) (by decide +kernel) rfl
    exact ⟨_, _, _, _, D3.retI (by decide +kernel), ⟨by rw [dgs_len 2 n h3 (Or.inr (by omega))]; rfl, rfl⟩, by decide, by decide⟩
  have A3 := B3.icT (cd := .ge) (o := 5) (by decide +kernel) (fun q => h3 (by simpa using (cmp 1000 1000 (by decide)).mp q)) (pe := 25) (by decide)
  have B4 := A3.run [(25, .iload_n 0, 26, 0), (26, .sipush 10000, 29, 10000)] (pe := 29) (by decide +kernel) rfl
  by_cases h4 : n < 10 ^ 4
  · have A4 := B4.icF (cd := .ge) (o := 5) (by decide +kernel) (not_not_intro ((cmp 10000 10000 (by decide)).mpr (by simpa using h4)))
    have D4 := A4.run [(32, .iconst 4, 33, 4)] (pe := 33) (by decide +kernel) rfl
    exact ⟨_, _, _, _, D4.retI (by decide +kernel), ⟨by rw [dgs_len 3 n h4 (Or.inr (by omega))]; rfl, rfl⟩, by decide, by decide⟩
  have A4 := B4.icT (cd := .ge) (o := 5) (by decide +kernel) (fun q => h4 (by simpa using (cmp 10000 10000 (by decide)).mp q)) (pe := 34) (by decide)
  have C5 := A4.run [(34, .iload_n 0, 35, 0)] (pe := 35) (by decide +kernel) rfl
  have B5 := C5.ldcI (wd_275 G) (by decide +kernel)
  by_cases h5 : n < 10 ^ 5
  · have A5 := B5.icF (cd := .ge) (o := 5) (by decide +kernel) (not_not_intro ((cmp 100000 100000 (by decide)).mpr (by simpa using h5)))
    have D5 := A5.run [(40, .iconst 5, 41, 5)] (pe := 41) (by decide +kernel) rfl
    exact ⟨_, _, _, _, D5.retI (by decide +kernel), ⟨by rw [dgs_len 4 n h5 (Or.inr (by omega))]; rfl, rfl⟩, by decide, by decide⟩
  have A5 := B5.icT (cd := .ge) (o := 5) (by decide +kernel) (fun q => h5 (by simpa using (cmp 100000 100000 (by decide)).mp q)) (pe := 42) (by decide)
  have C6 := A5.run [(42, .iload_n 0, 43, 0)] (pe := 43) (by decide +kernel) rfl
  have B6 := C6.ldcI (wd_276 G) (by decide +kernel)
  by_cases h6 : n < 10 ^ 6
  · have A6 := B6.icF (cd := .ge) (o := 6) (by decide +kernel) (not_not_intro ((cmp 1000000 1000000 (by decide)).mpr (by simpa using h6)))
    have D6 := A6.run [(48, .bipush 6, 50, 6)] (pe := 50) (by decide +kernel) rfl
    exact ⟨_, _, _, _, D6.retI (by decide +kernel), ⟨by rw [dgs_len 5 n h6 (Or.inr (by omega))]; rfl, rfl⟩, by decide, by decide⟩
  have A6 := B6.icT (cd := .ge) (o := 6) (by decide +kernel) (fun q => h6 (by simpa using (cmp 1000000 1000000 (by decide)).mp q)) (pe := 51) (by decide)
  have C7 := A6.run [(51, .iload_n 0, 52, 0)] (pe := 52) (by decide +kernel) rfl
  have B7 := C7.ldcI (wd_277 G) (by decide +kernel)
  by_cases h7 : n < 10 ^ 7
  · have A7 := B7.icF (cd := .ge) (o := 6) (by decide +kernel) (not_not_intro ((cmp 10000000 10000000 (by decide)).mpr (by simpa using h7)))
    have D7 := A7.run [(57, .bipush 7, 59, 7)] (pe := 59) (by decide +kernel) rfl
    exact ⟨_, _, _, _, D7.retI (by decide +kernel), ⟨by rw [dgs_len 6 n h7 (Or.inr (by omega))]; rfl, rfl⟩, by decide, by decide⟩
  have A7 := B7.icT (cd := .ge) (o := 6) (by decide +kernel) (fun q => h7 (by simpa using (cmp 10000000 10000000 (by decide)).mp q)) (pe := 60) (by decide)
  have C8 := A7.run [(60, .iload_n 0, 61, 0)] (pe := 61) (by decide +kernel) rfl
  have B8 := C8.ldcI (wd_278 G) (by decide +kernel)
  by_cases h8 : n < 10 ^ 8
  · have A8 := B8.icF (cd := .ge) (o := 6) (by decide +kernel) (not_not_intro ((cmp 100000000 100000000 (by decide)).mpr (by simpa using h8)))
    have D8 := A8.run [(66, .bipush 8, 68, 8)] (pe := 68) (by decide +kernel) rfl
    exact ⟨_, _, _, _, D8.retI (by decide +kernel), ⟨by rw [dgs_len 7 n h8 (Or.inr (by omega))]; rfl, rfl⟩, by decide, by decide⟩
  have A8 := B8.icT (cd := .ge) (o := 6) (by decide +kernel) (fun q => h8 (by simpa using (cmp 100000000 100000000 (by decide)).mp q)) (pe := 69) (by decide)
  have C9 := A8.run [(69, .iload_n 0, 70, 0)] (pe := 70) (by decide +kernel) rfl
  have B9 := C9.ldcI (wd_279 G) (by decide +kernel)
  by_cases h9 : n < 10 ^ 9
  · have A9 := B9.icF (cd := .ge) (o := 6) (by decide +kernel) (not_not_intro ((cmp 1000000000 1000000000 (by decide)).mpr (by simpa using h9)))
    have D9 := A9.run [(75, .bipush 9, 77, 9)] (pe := 77) (by decide +kernel) rfl
    exact ⟨_, _, _, _, D9.retI (by decide +kernel), ⟨by rw [dgs_len 8 n h9 (Or.inr (by omega))]; rfl, rfl⟩, by decide, by decide⟩
  have A9 := B9.icT (cd := .ge) (o := 6) (by decide +kernel) (fun q => h9 (by simpa using (cmp 1000000000 1000000000 (by decide)).mp q)) (pe := 78) (by decide)
  have D10 := A9.run [(78, .bipush 10, 80, 10)] (pe := 80) (by decide +kernel) rfl
  exact ⟨_, _, _, _, D10.retI (by decide +kernel), ⟨by rw [dgs_len 9 n (by omega) (Or.inr (by omega))]; rfl, rfl⟩, by decide, by decide⟩
theorem c_p10 (G : Glb Z a0) {k : Nat} (hk : k < 10) : Ct l Z EL0 (⟨"com/example/bell_counter/bellcounter/redis/RedisUrlToStringPinLaw", "pow10", "(I)I"⟩ : MethodName) method_4_code 1 ((some .int)) ({ frames := 0, cells := 0, slots := 0, locals := 0 } : Room) [] [.int k.toInt32] H (fun v H' => v = some (.int (10 ^ k).toInt32) ∧ H = H') := by
  refine Ct.in G (by first | exact plainFor_of_name (by simp [plainName, overriddenIn]; done) | decide +kernel) (ls := [.val (.int k.toInt32)]) rfl rfl fun D A0 => ?_
  have B0 := A0.run [(0, .iload_n 0, 1, 0)] (pe := 1) (by decide +kernel) rfl
  by_cases h0 : k = 0
  · subst h0
    have C0 := B0.ifF (cd := .ne) (o := 5) (by decide +kernel) (not_not_intro rfl)
    have D0 := C0.run [(4, .iconst 1, 5, 1)] (pe := 5) (by decide +kernel) rfl
    exact ⟨_, _, _, _, D0.retI (by decide +kernel), ⟨rfl, rfl⟩, by decide, by decide⟩
  have A1 := B0.ifT (cd := .ne) (o := 5) (by decide +kernel) (fun q => h0 ((n32_inj (j := 0) (by omega) (by decide)).mp q)) (pe := 6) (by decide)
  have B1 := A1.run [(6, .iload_n 0, 7, 0), (7, .iconst 1, 8, 1)] (pe := 8) (by decide +kernel) rfl
  by_cases h1 : k = 1
  · subst h1
    have C1 := B1.icF (cd := .ne) (o := 6) (by decide +kernel) (not_not_intro rfl)
    have D1 := C1.run [(11, .bipush 10, 13, 10)] (pe := 13) (by decide +kernel) rfl
    exact ⟨_, _, _, _, D1.retI (by decide +kernel), ⟨rfl, rfl⟩, by decide, by decide⟩
  have A2 := B1.icT (cd := .ne) (o := 6) (by decide +kernel) (fun q => h1 ((n32_inj (j := 1) (by omega) (by decide)).mp q)) (pe := 14) (by decide)
  have B2 := A2.run [(14, .iload_n 0, 15, 0), (15, .iconst 2, 16, 2)] (pe := 16) (by decide +kernel) rfl
  by_cases h2 : k = 2
  · subst h2
    have C2 := B2.icF (cd := .ne) (o := 6) (by decide +kernel) (not_not_intro rfl)
    have D2 := C2.run [(19, .bipush 100, 21, 100)] (pe := 21) (by decide +kernel) rfl
    exact ⟨_, _, _, _, D2.retI (by decide +kernel), ⟨rfl, rfl⟩, by decide, by decide⟩
  have A3 := B2.icT (cd := .ne) (o := 6) (by decide +kernel) (fun q => h2 ((n32_inj (j := 2) (by omega) (by decide)).mp q)) (pe := 22) (by decide)
  have B3 := A3.run [(22, .iload_n 0, 23, 0), (23, .iconst 3, 24, 3)] (pe := 24) (by decide +kernel) rfl
  by_cases h3 : k = 3
  · subst h3
    have C3 := B3.icF (cd := .ne) (o := 7) (by decide +kernel) (not_not_intro rfl)
    have D3 := C3.run [(27, .sipush 1000, 30, 1000)] (pe := 30) (by decide +kernel) rfl
    exact ⟨_, _, _, _, D3.retI (by decide +kernel), ⟨rfl, rfl⟩, by decide, by decide⟩
  have A4 := B3.icT (cd := .ne) (o := 7) (by decide +kernel) (fun q => h3 ((n32_inj (j := 3) (by omega) (by decide)).mp q)) (pe := 31) (by decide)
  have B4 := A4.run [(31, .iload_n 0, 32, 0), (32, .iconst 4, 33, 4)] (pe := 33) (by decide +kernel) rfl
  by_cases h4 : k = 4
  · subst h4
    have C4 := B4.icF (cd := .ne) (o := 7) (by decide +kernel) (not_not_intro rfl)
    have D4 := C4.run [(36, .sipush 10000, 39, 10000)] (pe := 39) (by decide +kernel) rfl
    exact ⟨_, _, _, _, D4.retI (by decide +kernel), ⟨rfl, rfl⟩, by decide, by decide⟩
  have A5 := B4.icT (cd := .ne) (o := 7) (by decide +kernel) (fun q => h4 ((n32_inj (j := 4) (by omega) (by decide)).mp q)) (pe := 40) (by decide)
  have B5 := A5.run [(40, .iload_n 0, 41, 0), (41, .iconst 5, 42, 5)] (pe := 42) (by decide +kernel) rfl
  by_cases h5 : k = 5
  · subst h5
    have C5 := B5.icF (cd := .ne) (o := 6) (by decide +kernel) (not_not_intro rfl)
    have D5 := C5.ldcI (wd_275 G) (by decide +kernel)
    exact ⟨_, _, _, _, D5.retI (by decide +kernel), ⟨rfl, rfl⟩, by decide, by decide⟩
  have A6 := B5.icT (cd := .ne) (o := 6) (by decide +kernel) (fun q => h5 ((n32_inj (j := 5) (by omega) (by decide)).mp q)) (pe := 48) (by decide)
  have B6 := A6.run [(48, .iload_n 0, 49, 0), (49, .bipush 6, 51, 6)] (pe := 51) (by decide +kernel) rfl
  by_cases h6 : k = 6
  · subst h6
    have C6 := B6.icF (cd := .ne) (o := 6) (by decide +kernel) (not_not_intro rfl)
    have D6 := C6.ldcI (wd_276 G) (by decide +kernel)
    exact ⟨_, _, _, _, D6.retI (by decide +kernel), ⟨rfl, rfl⟩, by decide, by decide⟩
  have A7 := B6.icT (cd := .ne) (o := 6) (by decide +kernel) (fun q => h6 ((n32_inj (j := 6) (by omega) (by decide)).mp q)) (pe := 57) (by decide)
  have B7 := A7.run [(57, .iload_n 0, 58, 0), (58, .bipush 7, 60, 7)] (pe := 60) (by decide +kernel) rfl
  by_cases h7 : k = 7
  · subst h7
    have C7 := B7.icF (cd := .ne) (o := 6) (by decide +kernel) (not_not_intro rfl)
    have D7 := C7.ldcI (wd_277 G) (by decide +kernel)
    exact ⟨_, _, _, _, D7.retI (by decide +kernel), ⟨rfl, rfl⟩, by decide, by decide⟩
  have A8 := B7.icT (cd := .ne) (o := 6) (by decide +kernel) (fun q => h7 ((n32_inj (j := 7) (by omega) (by decide)).mp q)) (pe := 66) (by decide)
  have B8 := A8.run [(66, .iload_n 0, 67, 0), (67, .bipush 8, 69, 8)] (pe := 69) (by decide +kernel) rfl
  by_cases h8 : k = 8
  · subst h8
    have C8 := B8.icF (cd := .ne) (o := 6) (by decide +kernel) (not_not_intro rfl)
    have D8 := C8.ldcI (wd_278 G) (by decide +kernel)
    exact ⟨_, _, _, _, D8.retI (by decide +kernel), ⟨rfl, rfl⟩, by decide, by decide⟩
  have A9 := B8.icT (cd := .ne) (o := 6) (by decide +kernel) (fun q => h8 ((n32_inj (j := 8) (by omega) (by decide)).mp q)) (pe := 75) (by decide)
  obtain rfl : k = 9 := by omega
  have D9 := A9.ldcI (wd_279 G) (by decide +kernel)
  exact ⟨_, _, _, _, D9.retI (by decide +kernel), ⟨rfl, rfl⟩, by decide, by decide⟩
theorem n32_div {i j : Nat} (hi : i < 2 ^ 31) (hj : j < 2 ^ 31) : i.toInt32 / j.toInt32 = (i / j).toInt32 := by
  have q : i / j < 2 ^ 31 := Nat.lt_of_le_of_lt (Nat.div_le_self _ _) hi
  apply Int32.toInt_inj.mp
  have h1 : j.toInt32 ≠ -1 := fun e => by have := congrArg Int32.toInt e; rw [n32_toInt hj, show (-1 : Int32).toInt = -1 by decide] at this; omega
  rw [(c_idiv i.toInt32 j.toInt32 j (n32_toInt hj) h1).1 (by rw [n32_toInt hi]; omega), n32_toInt hi, n32_toInt q]; rfl
theorem n32_mod {i j : Nat} (hi : i < 2 ^ 31) (hj : j < 2 ^ 31) : i.toInt32 % j.toInt32 = (i % j).toInt32 := by
  have q : i % j < 2 ^ 31 := Nat.lt_of_le_of_lt (Nat.mod_le _ _) hi
  apply Int32.toInt_inj.mp
  rw [(c_irem i.toInt32 j.toInt32 j (n32_toInt hj)).1 (by rw [n32_toInt hi]; omega), n32_toInt hi, n32_toInt q]; rfl
theorem c_dok (G : Glb Z a0) {s : Addr} {cs : List Int32} {i n k : Nat} (S : Str Z H s cs) (hla : Lat cs) (hn : n < 2 ^ 31) (hi : i < 1000) (hk : k < 10) (hd : ∀ j, j < (dgs n).length → cs[i + j]? = (dgs n)[j]?) (hl10 : (dgs n).length ≤ 10) :
    Ct l Z EL0 (⟨"com/example/bell_counter/bellcounter/redis/RedisUrlToStringPinLaw", "digitOk", "(Ljava/lang/String;IIII)Z"⟩ : MethodName) method_5_code 5 ((some .boolean)) ({ frames := 4, cells := 0, slots := 0, locals := 53 } : Room) [] [.ref s, .int i.toInt32, .int n.toInt32, .int (dgs n).length.toInt32, .int k.toInt32] H (fun v H' => v = some (.int 1) ∧ H = H') := by
  refine Ct.in G (by first | exact plainFor_of_name (by simp [plainName, overriddenIn]; done) | decide +kernel) (ls := [.val (.ref s), .val (.int i.toInt32), .val (.int n.toInt32), .val (.int (dgs n).length.toInt32), .val (.int k.toInt32)]) rfl rfl fun D A0 => ?_
  have A1 := A0.run [(0, .iload 4, 2, 0), (2, .iload_n 3, 3, 0)] (pe := 3) (by decide +kernel) rfl
  by_cases h : k < (dgs n).length
  · have A2 := A1.icT (cd := .lt) (o := 5) (by decide +kernel) ((n32_lt (by omega) (by omega)).mpr h) (pe := 8) (by decide)
    have A3 := A2.run [(8, .aload_n 0, 9, 0), (9, .iload_n 1, 10, 0), (10, .iload_n 3, 11, 0), (11, .iadd, 12, 0), (12, .iconst 1, 13, 1), (13, .isub, 14, 0), (14, .iload 4, 16, 0), (16, .isub, 17, 0)] (pe := 17) (by decide +kernel) rfl
    rw [n32_add, n32_pred (by omega), n32_sub (by omega)] at A3
    have hc : cs[i + (dgs n).length - 1 - k]? = some (48 + n / 10 ^ k % 10).toInt32 := by
      rw [show i + (dgs n).length - 1 - k = i + ((dgs n).length - 1 - k) by omega, hd _ (by omega), dgs_get k n h]
    obtain ⟨_, HA4, qA4, A4, moA4, szA4⟩ := A3.callV (argsL := [.int (i + (dgs n).length - 1 - k).toInt32]) (wd_230 G) (wd_231 G) (wd_233 G) rfl (wd_233 G) (wd_232 G) (wd_3 G) (wd_234 G) S.1 (c_schL G S hla hc) (by decide) ⟨_, _, (by decide +kernel : parseMethodDescriptor "(I)C" = some ⟨[.int], some .char⟩), rfl⟩ (by decide +kernel) (Wd := 0) (by decide) (Nat.le_of_ble_eq_true rfl) (by decide) (by decide) (by decide)
    obtain ⟨rfl, rfl⟩ := qA4
    have A5 := A4.run [(20, .bipush 48, 22, 48), (22, .iload_n 2, 23, 0), (23, .iload 4, 25, 0)] (pe := 25) (by decide +kernel) rfl
    obtain ⟨_, HA6, qA6, A6, moA6, szA6⟩ := A5.callS (argsL := [.int k.toInt32]) (wd_252 G) (wd_253 G) (wd_34 G) (wd_254 G) (c_p10 G hk) (by decide) ⟨_, _, (by decide +kernel : parseMethodDescriptor "(I)I" = some ⟨[.int], some .int⟩), rfl⟩ (by decide +kernel) (Wd := 3) (by decide) (Nat.le_of_ble_eq_true rfl) (by decide) (by decide) (by decide)
    obtain ⟨rfl, rfl⟩ := qA6
    have pb : 10 ^ k ≤ 10 ^ 9 := Nat.pow_le_pow_right (by decide) (by omega)
    have pp : 0 < 10 ^ k := Nat.pow_pos (by decide)
    have A7 := A6.idiv (by decide +kernel) (fun q => by have := (n32_inj (j := 0) (by omega) (by decide)).mp q; omega)
    rw [n32_div hn (by omega)] at A7
    have A8 := A7.run [(29, .bipush 10, 31, 10)] (pe := 31) (by decide +kernel) rfl
    have A9 := A8.irem (by decide +kernel) (by decide)
    have hq : n / 10 ^ k ≤ n := Nat.div_le_self _ _
    rw [show (n / 10 ^ k).toInt32 % 10 = (n / 10 ^ k % 10).toInt32 from n32_mod (j := 10) (by omega) (by decide)] at A9
    have A10 := A9.run [(32, .iadd, 33, 0), (33, .i2c, 34, 0)] (pe := 34) (by decide +kernel) rfl
    rw [show 48 + (n / 10 ^ k % 10).toInt32 = (48 + n / 10 ^ k % 10).toInt32 from n32_add 48 _, n32_i2c (by omega)] at A10
    have A11 := A10.icF (cd := .ne) (o := 7) (by decide +kernel) (not_not_intro rfl)
    have A12 := A11.run [(37, .iconst 1, 38, 1), (38, .goto 4, 42, 0)] (pe := 42) (by decide +kernel) rfl
    exact ⟨_, _, _, _, A12.retZ (by decide +kernel) rfl, ⟨rfl, rfl⟩, by decide, by decide⟩
  · have A2 := A1.icF (cd := .lt) (o := 5) (by decide +kernel) (fun q => h ((n32_lt (by omega) (by omega)).mp q))
    have A3 := A2.run [(6, .iconst 1, 7, 1)] (pe := 7) (by decide +kernel) rfl
    exact ⟨_, _, _, _, A3.retZ (by decide +kernel) rfl, ⟨rfl, rfl⟩, by decide, by decide⟩
set_option maxRecDepth 65536 in
theorem c_ckn (G : Glb Z a0) {s : Addr} {cs : List Int32} {i n : Nat} (S : Str Z H s cs) (hla : Lat cs) (hn : n < 2 ^ 31) (hi : i < 1000) (hd : ∀ j, j < (dgs n).length → cs[i + j]? = (dgs n)[j]?) :
    Ct l Z EL0 (⟨"com/example/bell_counter/bellcounter/redis/RedisUrlToStringPinLaw", "checkNum", "(Ljava/lang/String;III)Z"⟩ : MethodName) method_6_code 4 ((some .boolean)) ({ frames := 5, cells := 0, slots := 0, locals := 69 } : Room) [] [.ref s, .int i.toInt32, .int n.toInt32, .int (dgs n).length.toInt32] H (fun v H' => v = some (.int 1) ∧ H = H') := by
  refine Ct.in G (by first | exact plainFor_of_name (by simp [plainName, overriddenIn]; done) | decide +kernel) (ls := [.val (.ref s), .val (.int i.toInt32), .val (.int n.toInt32), .val (.int (dgs n).length.toInt32)]) rfl rfl fun D B0 => ?_
  have hl10 : (dgs n).length ≤ 10 := dgs_le 9 n (by omega)
  have C0 := B0.run [(0, .aload_n 0, 1, 0), (1, .iload_n 1, 2, 0), (2, .iload_n 2, 3, 0), (3, .iload_n 3, 4, 0), (4, .iconst 0, 5, 0)] (pe := 5) (by decide +kernel) rfl
  obtain ⟨_, HE0, qE0, E0, moE0, szE0⟩ := C0.callS (argsL := [.ref s, .int i.toInt32, .int n.toInt32, .int (dgs n).length.toInt32, .int (0 : Nat).toInt32]) (wd_249 G) (wd_250 G) (wd_34 G) (wd_251 G) (c_dok G S hla hn hi (k := 0) (by decide) hd hl10) (by decide) ⟨_, _, (by decide +kernel : parseMethodDescriptor "(Ljava/lang/String;IIII)Z" = some ⟨[(.object "java/lang/String"), .int, .int, .int, .int], some .boolean⟩), rfl⟩ (by decide +kernel) (Wd := 0) (by decide) (Nat.le_of_ble_eq_true rfl) (by decide) (by decide) (by decide)
  obtain ⟨rfl, rfl⟩ := qE0
  have B1 := E0.ifF (cd := .eq) (o := 110) (by decide +kernel) (by show ¬ _ = _; decide)
  have C1 := B1.run [(11, .aload_n 0, 12, 0), (12, .iload_n 1, 13, 0), (13, .iload_n 2, 14, 0), (14, .iload_n 3, 15, 0), (15, .iconst 1, 16, 1)] (pe := 16) (by decide +kernel) rfl
  obtain ⟨_, HE1, qE1, E1, moE1, szE1⟩ := C1.callS (argsL := [.ref s, .int i.toInt32, .int n.toInt32, .int (dgs n).length.toInt32, .int (1 : Nat).toInt32]) (wd_249 G) (wd_250 G) (wd_34 G) (wd_251 G) (c_dok G S hla hn hi (k := 1) (by decide) hd hl10) (by decide) ⟨_, _, (by decide +kernel : parseMethodDescriptor "(Ljava/lang/String;IIII)Z" = some ⟨[(.object "java/lang/String"), .int, .int, .int, .int], some .boolean⟩), rfl⟩ (by decide +kernel) (Wd := 0) (by decide) (Nat.le_of_ble_eq_true rfl) (by decide) (by decide) (by decide)
  obtain ⟨rfl, rfl⟩ := qE1
  have B2 := E1.ifF (cd := .eq) (o := 99) (by decide +kernel) (by show ¬ _ = _; decide)
  have C2 := B2.run [(22, .aload_n 0, 23, 0), (23, .iload_n 1, 24, 0), (24, .iload_n 2, 25, 0), (25, .iload_n 3, 26, 0), (26, .iconst 2, 27, 2)] (pe := 27) (by decide +kernel) rfl
  obtain ⟨_, HE2, qE2, E2, moE2, szE2⟩ := C2.callS (argsL := [.ref s, .int i.toInt32, .int n.toInt32, .int (dgs n).length.toInt32, .int (2 : Nat).toInt32]) (wd_249 G) (wd_250 G) (wd_34 G) (wd_251 G) (c_dok G S hla hn hi (k := 2) (by decide) hd hl10) (by decide) ⟨_, _, (by decide +kernel : parseMethodDescriptor "(Ljava/lang/String;IIII)Z" = some ⟨[(.object "java/lang/String"), .int, .int, .int, .int], some .boolean⟩), rfl⟩ (by decide +kernel) (Wd := 0) (by decide) (Nat.le_of_ble_eq_true rfl) (by decide) (by decide) (by decide)
  obtain ⟨rfl, rfl⟩ := qE2
  have B3 := E2.ifF (cd := .eq) (o := 88) (by decide +kernel) (by show ¬ _ = _; decide)
  have C3 := B3.run [(33, .aload_n 0, 34, 0), (34, .iload_n 1, 35, 0), (35, .iload_n 2, 36, 0), (36, .iload_n 3, 37, 0), (37, .iconst 3, 38, 3)] (pe := 38) (by decide +kernel) rfl
  obtain ⟨_, HE3, qE3, E3, moE3, szE3⟩ := C3.callS (argsL := [.ref s, .int i.toInt32, .int n.toInt32, .int (dgs n).length.toInt32, .int (3 : Nat).toInt32]) (wd_249 G) (wd_250 G) (wd_34 G) (wd_251 G) (c_dok G S hla hn hi (k := 3) (by decide) hd hl10) (by decide) ⟨_, _, (by decide +kernel : parseMethodDescriptor "(Ljava/lang/String;IIII)Z" = some ⟨[(.object "java/lang/String"), .int, .int, .int, .int], some .boolean⟩), rfl⟩ (by decide +kernel) (Wd := 0) (by decide) (Nat.le_of_ble_eq_true rfl) (by decide) (by decide) (by decide)
  obtain ⟨rfl, rfl⟩ := qE3
  have B4 := E3.ifF (cd := .eq) (o := 77) (by decide +kernel) (by show ¬ _ = _; decide)
  have C4 := B4.run [(44, .aload_n 0, 45, 0), (45, .iload_n 1, 46, 0), (46, .iload_n 2, 47, 0), (47, .iload_n 3, 48, 0), (48, .iconst 4, 49, 4)] (pe := 49) (by decide +kernel) rfl
  obtain ⟨_, HE4, qE4, E4, moE4, szE4⟩ := C4.callS (argsL := [.ref s, .int i.toInt32, .int n.toInt32, .int (dgs n).length.toInt32, .int (4 : Nat).toInt32]) (wd_249 G) (wd_250 G) (wd_34 G) (wd_251 G) (c_dok G S hla hn hi (k := 4) (by decide) hd hl10) (by decide) ⟨_, _, (by decide +kernel : parseMethodDescriptor "(Ljava/lang/String;IIII)Z" = some ⟨[(.object "java/lang/String"), .int, .int, .int, .int], some .boolean⟩), rfl⟩ (by decide +kernel) (Wd := 0) (by decide) (Nat.le_of_ble_eq_true rfl) (by decide) (by decide) (by decide)
  obtain ⟨rfl, rfl⟩ := qE4
  have B5 := E4.ifF (cd := .eq) (o := 66) (by decide +kernel) (by show ¬ _ = _; decide)
  have C5 := B5.run [(55, .aload_n 0, 56, 0), (56, .iload_n 1, 57, 0), (57, .iload_n 2, 58, 0), (58, .iload_n 3, 59, 0), (59, .iconst 5, 60, 5)] (pe := 60) (by decide +kernel) rfl
  obtain ⟨_, HE5, qE5, E5, moE5, szE5⟩ := C5.callS (argsL := [.ref s, .int i.toInt32, .int n.toInt32, .int (dgs n).length.toInt32, .int (5 : Nat).toInt32]) (wd_249 G) (wd_250 G) (wd_34 G) (wd_251 G) (c_dok G S hla hn hi (k := 5) (by decide) hd hl10) (by decide) ⟨_, _, (by decide +kernel : parseMethodDescriptor "(Ljava/lang/String;IIII)Z" = some ⟨[(.object "java/lang/String"), .int, .int, .int, .int], some .boolean⟩), rfl⟩ (by decide +kernel) (Wd := 0) (by decide) (Nat.le_of_ble_eq_true rfl) (by decide) (by decide) (by decide)
  obtain ⟨rfl, rfl⟩ := qE5
  have B6 := E5.ifF (cd := .eq) (o := 55) (by decide +kernel) (by show ¬ _ = _; decide)
  have C6 := B6.run [(66, .aload_n 0, 67, 0), (67, .iload_n 1, 68, 0), (68, .iload_n 2, 69, 0), (69, .iload_n 3, 70, 0), (70, .bipush 6, 72, 6)] (pe := 72) (by decide +kernel) rfl
  obtain ⟨_, HE6, qE6, E6, moE6, szE6⟩ := C6.callS (argsL := [.ref s, .int i.toInt32, .int n.toInt32, .int (dgs n).length.toInt32, .int (6 : Nat).toInt32]) (wd_249 G) (wd_250 G) (wd_34 G) (wd_251 G) (c_dok G S hla hn hi (k := 6) (by decide) hd hl10) (by decide) ⟨_, _, (by decide +kernel : parseMethodDescriptor "(Ljava/lang/String;IIII)Z" = some ⟨[(.object "java/lang/String"), .int, .int, .int, .int], some .boolean⟩), rfl⟩ (by decide +kernel) (Wd := 0) (by decide) (Nat.le_of_ble_eq_true rfl) (by decide) (by decide) (by decide)
  obtain ⟨rfl, rfl⟩ := qE6
  have B7 := E6.ifF (cd := .eq) (o := 43) (by decide +kernel) (by show ¬ _ = _; decide)
  have C7 := B7.run [(78, .aload_n 0, 79, 0), (79, .iload_n 1, 80, 0), (80, .iload_n 2, 81, 0), (81, .iload_n 3, 82, 0), (82, .bipush 7, 84, 7)] (pe := 84) (by decide +kernel) rfl
  obtain ⟨_, HE7, qE7, E7, moE7, szE7⟩ := C7.callS (argsL := [.ref s, .int i.toInt32, .int n.toInt32, .int (dgs n).length.toInt32, .int (7 : Nat).toInt32]) (wd_249 G) (wd_250 G) (wd_34 G) (wd_251 G) (c_dok G S hla hn hi (k := 7) (by decide) hd hl10) (by decide) ⟨_, _, (by decide +kernel : parseMethodDescriptor "(Ljava/lang/String;IIII)Z" = some ⟨[(.object "java/lang/String"), .int, .int, .int, .int], some .boolean⟩), rfl⟩ (by decide +kernel) (Wd := 0) (by decide) (Nat.le_of_ble_eq_true rfl) (by decide) (by decide) (by decide)
  obtain ⟨rfl, rfl⟩ := qE7
  have B8 := E7.ifF (cd := .eq) (o := 31) (by decide +kernel) (by show ¬ _ = _; decide)
  have C8 := B8.run [(90, .aload_n 0, 91, 0), (91, .iload_n 1, 92, 0), (92, .iload_n 2, 93, 0), (93, .iload_n 3, 94, 0), (94, .bipush 8, 96, 8)] (pe := 96) (by decide +kernel) rfl
  obtain ⟨_, HE8, qE8, E8, moE8, szE8⟩ := C8.callS (argsL := [.ref s, .int i.toInt32, .int n.toInt32, .int (dgs n).length.toInt32, .int (8 : Nat).toInt32]) (wd_249 G) (wd_250 G) (wd_34 G) (wd_251 G) (c_dok G S hla hn hi (k := 8) (by decide) hd hl10) (by decide) ⟨_, _, (by decide +kernel : parseMethodDescriptor "(Ljava/lang/String;IIII)Z" = some ⟨[(.object "java/lang/String"), .int, .int, .int, .int], some .boolean⟩), rfl⟩ (by decide +kernel) (Wd := 0) (by decide) (Nat.le_of_ble_eq_true rfl) (by decide) (by decide) (by decide)
  obtain ⟨rfl, rfl⟩ := qE8
  have B9 := E8.ifF (cd := .eq) (o := 19) (by decide +kernel) (by show ¬ _ = _; decide)
  have C9 := B9.run [(102, .aload_n 0, 103, 0), (103, .iload_n 1, 104, 0), (104, .iload_n 2, 105, 0), (105, .iload_n 3, 106, 0), (106, .bipush 9, 108, 9)] (pe := 108) (by decide +kernel) rfl
  obtain ⟨_, HE9, qE9, E9, moE9, szE9⟩ := C9.callS (argsL := [.ref s, .int i.toInt32, .int n.toInt32, .int (dgs n).length.toInt32, .int (9 : Nat).toInt32]) (wd_249 G) (wd_250 G) (wd_34 G) (wd_251 G) (c_dok G S hla hn hi (k := 9) (by decide) hd hl10) (by decide) ⟨_, _, (by decide +kernel : parseMethodDescriptor "(Ljava/lang/String;IIII)Z" = some ⟨[(.object "java/lang/String"), .int, .int, .int, .int], some .boolean⟩), rfl⟩ (by decide +kernel) (Wd := 0) (by decide) (Nat.le_of_ble_eq_true rfl) (by decide) (by decide) (by decide)
  obtain ⟨rfl, rfl⟩ := qE9
  have B10 := E9.ifF (cd := .eq) (o := 7) (by decide +kernel) (by show ¬ _ = _; decide)
  have B11 := B10.run [(114, .iconst 1, 115, 1), (115, .goto 4, 119, 0)] (pe := 119) (by decide +kernel) rfl
  exact ⟨_, _, _, _, B11.retZ (by decide +kernel) rfl, ⟨rfl, rfl⟩, by decide, by decide⟩
set_option maxRecDepth 65536 in
set_option maxHeartbeats 2000000 in
theorem l_m00 (G : Glb Z a0) {i0 i1 i2 i3 c0 c1 : Int32} {port db : Nat} {ca sh u : Addr} {tt : Int32} {rest : List Int32} (U : Str Z H u (pre8 ++ [c0] ++ rest)) (hlu : Lat (pre8 ++ [c0] ++ rest)) (A0 : Wk l Z a0 EL0 "com/example/bell_counter/bellcounter/redis/RedisUrlToStringPinLaw" code maxLocals "law" ret room_1 D 329 [.val (.int i0), .val (.int i1), .val (.int i2), .val (.int i3), .val (.int 0), .val (.int c0), .val (.int c1), .val (.ref ca), .val (.ref sh), .val (.int port.toInt32), .val (.int db.toInt32), .val (.int 0), .val (.int 1), .val (.int (dgs port).length.toInt32), .val (.int (dgs db).length.toInt32), .val (.int tt), .val (.ref u), .val (.int 1), .val (.int (8 : Nat).toInt32)] [] H 46 1400) : Wk l Z a0 EL0 "com/example/bell_counter/bellcounter/redis/RedisUrlToStringPinLaw" code maxLocals "law" ret room_1 D 452 [.val (.int i0), .val (.int i1), .val (.int i2), .val (.int i3), .val (.int 0), .val (.int c0), .val (.int c1), .val (.ref ca), .val (.ref sh), .val (.int port.toInt32), .val (.int db.toInt32), .val (.int 0), .val (.int 1), .val (.int (dgs port).length.toInt32), .val (.int (dgs db).length.toInt32), .val (.int tt), .val (.ref u), .val (.int 1), .val (.int (9 : Nat).toInt32)] [] H 46 1400 := by
  have A1 := A0.run [(329, .iload 11, 331, 0)] (pe := 331) (by decide +kernel) rfl
  have A3 := A1.ifT (cd := .eq) (o := 30) (by decide +kernel) rfl (pe := 361) (by decide)
  have A4a := A3.run [(361, .iload 17, 363, 0)] (pe := 363) (by decide +kernel) rfl
  have A4b := A4a.ifF (cd := .eq) (o := 19) (by decide +kernel) (by show ¬ _ = _; decide)
  have A4c := A4b.run [(366, .aload 16, 368, 0), (368, .iload 18, 370, 0)] (pe := 370) (by decide +kernel) rfl
  obtain ⟨_, HA4d, qA4d, A4d, moA4d, szA4d⟩ := A4c.callV (argsL := [.int (8 : Nat).toInt32]) (wd_230 G) (wd_231 G) (wd_233 G) rfl (wd_233 G) (wd_232 G) (wd_3 G) (wd_234 G) U.1 (c_schL G U hlu (c := c0) (by rfl)) (by decide) ⟨_, _, (by decide +kernel : parseMethodDescriptor "(I)C" = some ⟨[.int], some .char⟩), rfl⟩ (by decide +kernel) (Wd := 0) (by decide) (Nat.le_of_ble_eq_true rfl) (by decide) (by decide) (by decide)
  obtain ⟨rfl, rfl⟩ := qA4d
  have A4e := A4d.run [(373, .iload 5, 375, 0)] (pe := 375) (by decide +kernel) rfl
  have A4f := A4e.icF (cd := .ne) (o := 7) (by decide +kernel) (not_not_intro rfl)
  have A4 := A4f.run [(378, .iconst 1, 379, 1), (379, .goto 4, 383, 0), (383, .istore 17, 385, 0), (385, .iinc 18 1, 388, 1)] (pe := 388) (by decide +kernel) rfl
  rw [n32_succ] at A4
  have A5 := A4.run [(388, .iload 4, 390, 0)] (pe := 390) (by decide +kernel) rfl
  have A7 := A5.ifT (cd := .eq) (o := 30) (by decide +kernel) rfl (pe := 420) (by decide)
  have A8 := A7.run [(420, .iload 11, 422, 0)] (pe := 422) (by decide +kernel) rfl
  have A10 := A8.ifT (cd := .eq) (o := 30) (by decide +kernel) rfl (pe := 452) (by decide)
  exact A10
set_option maxRecDepth 65536 in
set_option maxHeartbeats 2000000 in
theorem l_m10 (G : Glb Z a0) {i0 i1 i2 i3 c0 c1 : Int32} {port db : Nat} {ca sh u : Addr} {tt : Int32} {rest : List Int32} (U : Str Z H u (pre8 ++ [c0, c1] ++ rest)) (hlu : Lat (pre8 ++ [c0, c1] ++ rest)) (A0 : Wk l Z a0 EL0 "com/example/bell_counter/bellcounter/redis/RedisUrlToStringPinLaw" code maxLocals "law" ret room_1 D 329 [.val (.int i0), .val (.int i1), .val (.int i2), .val (.int i3), .val (.int 1), .val (.int c0), .val (.int c1), .val (.ref ca), .val (.ref sh), .val (.int port.toInt32), .val (.int db.toInt32), .val (.int 0), .val (.int 2), .val (.int (dgs port).length.toInt32), .val (.int (dgs db).length.toInt32), .val (.int tt), .val (.ref u), .val (.int 1), .val (.int (8 : Nat).toInt32)] [] H 46 1400) : Wk l Z a0 EL0 "com/example/bell_counter/bellcounter/redis/RedisUrlToStringPinLaw" code maxLocals "law" ret room_1 D 452 [.val (.int i0), .val (.int i1), .val (.int i2), .val (.int i3), .val (.int 1), .val (.int c0), .val (.int c1), .val (.ref ca), .val (.ref sh), .val (.int port.toInt32), .val (.int db.toInt32), .val (.int 0), .val (.int 2), .val (.int (dgs port).length.toInt32), .val (.int (dgs db).length.toInt32), .val (.int tt), .val (.ref u), .val (.int 1), .val (.int (10 : Nat).toInt32)] [] H 46 1400 := by
  have A1 := A0.run [(329, .iload 11, 331, 0)] (pe := 331) (by decide +kernel) rfl
  have A3 := A1.ifT (cd := .eq) (o := 30) (by decide +kernel) rfl (pe := 361) (by decide)
  have A4a := A3.run [(361, .iload 17, 363, 0)] (pe := 363) (by decide +kernel) rfl
  have A4b := A4a.ifF (cd := .eq) (o := 19) (by decide +kernel) (by show ¬ _ = _; decide)
  have A4c := A4b.run [(366, .aload 16, 368, 0), (368, .iload 18, 370, 0)] (pe := 370) (by decide +kernel) rfl
  obtain ⟨_, HA4d, qA4d, A4d, moA4d, szA4d⟩ := A4c.callV (argsL := [.int (8 : Nat).toInt32]) (wd_230 G) (wd_231 G) (wd_233 G) rfl (wd_233 G) (wd_232 G) (wd_3 G) (wd_234 G) U.1 (c_schL G U hlu (c := c0) (by rfl)) (by decide) ⟨_, _, (by decide +kernel : parseMethodDescriptor "(I)C" = some ⟨[.int], some .char⟩), rfl⟩ (by decide +kernel) (Wd := 0) (by decide) (Nat.le_of_ble_eq_true rfl) (by decide) (by decide) (by decide)
  obtain ⟨rfl, rfl⟩ := qA4d
  have A4e := A4d.run [(373, .iload 5, 375, 0)] (pe := 375) (by decide +kernel) rfl
  have A4f := A4e.icF (cd := .ne) (o := 7) (by decide +kernel) (not_not_intro rfl)
  have A4 := A4f.run [(378, .iconst 1, 379, 1), (379, .goto 4, 383, 0), (383, .istore 17, 385, 0), (385, .iinc 18 1, 388, 1)] (pe := 388) (by decide +kernel) rfl
  rw [n32_succ] at A4
  have A5 := A4.run [(388, .iload 4, 390, 0)] (pe := 390) (by decide +kernel) rfl
  have A6 := A5.ifF (cd := .eq) (o := 30) (by decide +kernel) (by show ¬ _ = _; decide)
  have A7a := A6.run [(393, .iload 17, 395, 0)] (pe := 395) (by decide +kernel) rfl
  have A7b := A7a.ifF (cd := .eq) (o := 19) (by decide +kernel) (by show ¬ _ = _; decide)
  have A7c := A7b.run [(398, .aload 16, 400, 0), (400, .iload 18, 402, 0)] (pe := 402) (by decide +kernel) rfl
  obtain ⟨_, HA7d, qA7d, A7d, moA7d, szA7d⟩ := A7c.callV (argsL := [.int (9 : Nat).toInt32]) (wd_230 G) (wd_231 G) (wd_233 G) rfl (wd_233 G) (wd_232 G) (wd_3 G) (wd_234 G) U.1 (c_schL G U hlu (c := c1) (by rfl)) (by decide) ⟨_, _, (by decide +kernel : parseMethodDescriptor "(I)C" = some ⟨[.int], some .char⟩), rfl⟩ (by decide +kernel) (Wd := 0) (by decide) (Nat.le_of_ble_eq_true rfl) (by decide) (by decide) (by decide)
  obtain ⟨rfl, rfl⟩ := qA7d
  have A7e := A7d.run [(405, .iload 6, 407, 0)] (pe := 407) (by decide +kernel) rfl
  have A7f := A7e.icF (cd := .ne) (o := 7) (by decide +kernel) (not_not_intro rfl)
  have A7 := A7f.run [(410, .iconst 1, 411, 1), (411, .goto 4, 415, 0), (415, .istore 17, 417, 0), (417, .iinc 18 1, 420, 1)] (pe := 420) (by decide +kernel) rfl
  rw [n32_succ] at A7
  have A8 := A7.run [(420, .iload 11, 422, 0)] (pe := 422) (by decide +kernel) rfl
  have A10 := A8.ifT (cd := .eq) (o := 30) (by decide +kernel) rfl (pe := 452) (by decide)
  exact A10
set_option maxRecDepth 65536 in
set_option maxHeartbeats 2000000 in
theorem l_m01 (G : Glb Z a0) {i0 i1 i2 i3 c0 c1 : Int32} {port db : Nat} {ca sh u : Addr} {tt : Int32} {rest : List Int32} (U : Str Z H u (pre8 ++ [91, c0, 93] ++ rest)) (hlu : Lat (pre8 ++ [91, c0, 93] ++ rest)) (A0 : Wk l Z a0 EL0 "com/example/bell_counter/bellcounter/redis/RedisUrlToStringPinLaw" code maxLocals "law" ret room_1 D 329 [.val (.int i0), .val (.int i1), .val (.int i2), .val (.int i3), .val (.int 0), .val (.int c0), .val (.int c1), .val (.ref ca), .val (.ref sh), .val (.int port.toInt32), .val (.int db.toInt32), .val (.int 1), .val (.int 1), .val (.int (dgs port).length.toInt32), .val (.int (dgs db).length.toInt32), .val (.int tt), .val (.ref u), .val (.int 1), .val (.int (8 : Nat).toInt32)] [] H 46 1400) : Wk l Z a0 EL0 "com/example/bell_counter/bellcounter/redis/RedisUrlToStringPinLaw" code maxLocals "law" ret room_1 D 452 [.val (.int i0), .val (.int i1), .val (.int i2), .val (.int i3), .val (.int 0), .val (.int c0), .val (.int c1), .val (.ref ca), .val (.ref sh), .val (.int port.toInt32), .val (.int db.toInt32), .val (.int 1), .val (.int 1), .val (.int (dgs port).length.toInt32), .val (.int (dgs db).length.toInt32), .val (.int tt), .val (.ref u), .val (.int 1), .val (.int (11 : Nat).toInt32)] [] H 46 1400 := by
  have A1 := A0.run [(329, .iload 11, 331, 0)] (pe := 331) (by decide +kernel) rfl
  have A2 := A1.ifF (cd := .eq) (o := 30) (by decide +kernel) (by show ¬ _ = _; decide)
  have A3a := A2.run [(334, .iload 17, 336, 0)] (pe := 336) (by decide +kernel) rfl
  have A3b := A3a.ifF (cd := .eq) (o := 19) (by decide +kernel) (by show ¬ _ = _; decide)
  have A3c := A3b.run [(339, .aload 16, 341, 0), (341, .iload 18, 343, 0)] (pe := 343) (by decide +kernel) rfl
  obtain ⟨_, HA3d, qA3d, A3d, moA3d, szA3d⟩ := A3c.callV (argsL := [.int (8 : Nat).toInt32]) (wd_230 G) (wd_231 G) (wd_233 G) rfl (wd_233 G) (wd_232 G) (wd_3 G) (wd_234 G) U.1 (c_schL G U hlu (c := 91) (by rfl)) (by decide) ⟨_, _, (by decide +kernel : parseMethodDescriptor "(I)C" = some ⟨[.int], some .char⟩), rfl⟩ (by decide +kernel) (Wd := 0) (by decide) (Nat.le_of_ble_eq_true rfl) (by decide) (by decide) (by decide)
  obtain ⟨rfl, rfl⟩ := qA3d
  have A3e := A3d.run [(346, .bipush 91, 348, 91)] (pe := 348) (by decide +kernel) rfl
  have A3f := A3e.icF (cd := .ne) (o := 7) (by decide +kernel) (not_not_intro rfl)
  have A3 := A3f.run [(351, .iconst 1, 352, 1), (352, .goto 4, 356, 0), (356, .istore 17, 358, 0), (358, .iinc 18 1, 361, 1)] (pe := 361) (by decide +kernel) rfl
  rw [n32_succ] at A3
  have A4a := A3.run [(361, .iload 17, 363, 0)] (pe := 363) (by decide +kernel) rfl
  have A4b := A4a.ifF (cd := .eq) (o := 19) (by decide +kernel) (by show ¬ _ = _; decide)
  have A4c := A4b.run [(366, .aload 16, 368, 0), (368, .iload 18, 370, 0)] (pe := 370) (by decide +kernel) rfl
  obtain ⟨_, HA4d, qA4d, A4d, moA4d, szA4d⟩ := A4c.callV (argsL := [.int (9 : Nat).toInt32]) (wd_230 G) (wd_231 G) (wd_233 G) rfl (wd_233 G) (wd_232 G) (wd_3 G) (wd_234 G) U.1 (c_schL G U hlu (c := c0) (by rfl)) (by decide) ⟨_, _, (by decide +kernel : parseMethodDescriptor "(I)C" = some ⟨[.int], some .char⟩), rfl⟩ (by decide +kernel) (Wd := 0) (by decide) (Nat.le_of_ble_eq_true rfl) (by decide) (by decide) (by decide)
  obtain ⟨rfl, rfl⟩ := qA4d
  have A4e := A4d.run [(373, .iload 5, 375, 0)] (pe := 375) (by decide +kernel) rfl
  have A4f := A4e.icF (cd := .ne) (o := 7) (by decide +kernel) (not_not_intro rfl)
  have A4 := A4f.run [(378, .iconst 1, 379, 1), (379, .goto 4, 383, 0), (383, .istore 17, 385, 0), (385, .iinc 18 1, 388, 1)] (pe := 388) (by decide +kernel) rfl
  rw [n32_succ] at A4
  have A5 := A4.run [(388, .iload 4, 390, 0)] (pe := 390) (by decide +kernel) rfl
  have A7 := A5.ifT (cd := .eq) (o := 30) (by decide +kernel) rfl (pe := 420) (by decide)
  have A8 := A7.run [(420, .iload 11, 422, 0)] (pe := 422) (by decide +kernel) rfl
  have A9 := A8.ifF (cd := .eq) (o := 30) (by decide +kernel) (by show ¬ _ = _; decide)
  have A10a := A9.run [(425, .iload 17, 427, 0)] (pe := 427) (by decide +kernel) rfl
  have A10b := A10a.ifF (cd := .eq) (o := 19) (by decide +kernel) (by show ¬ _ = _; decide)
  have A10c := A10b.run [(430, .aload 16, 432, 0), (432, .iload 18, 434, 0)] (pe := 434) (by decide +kernel) rfl
  obtain ⟨_, HA10d, qA10d, A10d, moA10d, szA10d⟩ := A10c.callV (argsL := [.int (10 : Nat).toInt32]) (wd_230 G) (wd_231 G) (wd_233 G) rfl (wd_233 G) (wd_232 G) (wd_3 G) (wd_234 G) U.1 (c_schL G U hlu (c := 93) (by rfl)) (by decide) ⟨_, _, (by decide +kernel : parseMethodDescriptor "(I)C" = some ⟨[.int], some .char⟩), rfl⟩ (by decide +kernel) (Wd := 0) (by decide) (Nat.le_of_ble_eq_true rfl) (by decide) (by decide) (by decide)
  obtain ⟨rfl, rfl⟩ := qA10d
  have A10e := A10d.run [(437, .bipush 93, 439, 93)] (pe := 439) (by decide +kernel) rfl
  have A10f := A10e.icF (cd := .ne) (o := 7) (by decide +kernel) (not_not_intro rfl)
  have A10 := A10f.run [(442, .iconst 1, 443, 1), (443, .goto 4, 447, 0), (447, .istore 17, 449, 0), (449, .iinc 18 1, 452, 1)] (pe := 452) (by decide +kernel) rfl
  rw [n32_succ] at A10
  exact A10
set_option maxRecDepth 65536 in
set_option maxHeartbeats 2000000 in
theorem l_m11 (G : Glb Z a0) {i0 i1 i2 i3 c0 c1 : Int32} {port db : Nat} {ca sh u : Addr} {tt : Int32} {rest : List Int32} (U : Str Z H u (pre8 ++ [91, c0, c1, 93] ++ rest)) (hlu : Lat (pre8 ++ [91, c0, c1, 93] ++ rest)) (A0 : Wk l Z a0 EL0 "com/example/bell_counter/bellcounter/redis/RedisUrlToStringPinLaw" code maxLocals "law" ret room_1 D 329 [.val (.int i0), .val (.int i1), .val (.int i2), .val (.int i3), .val (.int 1), .val (.int c0), .val (.int c1), .val (.ref ca), .val (.ref sh), .val (.int port.toInt32), .val (.int db.toInt32), .val (.int 1), .val (.int 2), .val (.int (dgs port).length.toInt32), .val (.int (dgs db).length.toInt32), .val (.int tt), .val (.ref u), .val (.int 1), .val (.int (8 : Nat).toInt32)] [] H 46 1400) : Wk l Z a0 EL0 "com/example/bell_counter/bellcounter/redis/RedisUrlToStringPinLaw" code maxLocals "law" ret room_1 D 452 [.val (.int i0), .val (.int i1), .val (.int i2), .val (.int i3), .val (.int 1), .val (.int c0), .val (.int c1), .val (.ref ca), .val (.ref sh), .val (.int port.toInt32), .val (.int db.toInt32), .val (.int 1), .val (.int 2), .val (.int (dgs port).length.toInt32), .val (.int (dgs db).length.toInt32), .val (.int tt), .val (.ref u), .val (.int 1), .val (.int (12 : Nat).toInt32)] [] H 46 1400 := by
  have A1 := A0.run [(329, .iload 11, 331, 0)] (pe := 331) (by decide +kernel) rfl
  have A2 := A1.ifF (cd := .eq) (o := 30) (by decide +kernel) (by show ¬ _ = _; decide)
  have A3a := A2.run [(334, .iload 17, 336, 0)] (pe := 336) (by decide +kernel) rfl
  have A3b := A3a.ifF (cd := .eq) (o := 19) (by decide +kernel) (by show ¬ _ = _; decide)
  have A3c := A3b.run [(339, .aload 16, 341, 0), (341, .iload 18, 343, 0)] (pe := 343) (by decide +kernel) rfl
  obtain ⟨_, HA3d, qA3d, A3d, moA3d, szA3d⟩ := A3c.callV (argsL := [.int (8 : Nat).toInt32]) (wd_230 G) (wd_231 G) (wd_233 G) rfl (wd_233 G) (wd_232 G) (wd_3 G) (wd_234 G) U.1 (c_schL G U hlu (c := 91) (by rfl)) (by decide) ⟨_, _, (by decide +kernel : parseMethodDescriptor "(I)C" = some ⟨[.int], some .char⟩), rfl⟩ (by decide +kernel) (Wd := 0) (by decide) (Nat.le_of_ble_eq_true rfl) (by decide) (by decide) (by decide)
  obtain ⟨rfl, rfl⟩ := qA3d
  have A3e := A3d.run [(346, .bipush 91, 348, 91)] (pe := 348) (by decide +kernel) rfl
  have A3f := A3e.icF (cd := .ne) (o := 7) (by decide +kernel) (not_not_intro rfl)
  have A3 := A3f.run [(351, .iconst 1, 352, 1), (352, .goto 4, 356, 0), (356, .istore 17, 358, 0), (358, .iinc 18 1, 361, 1)] (pe := 361) (by decide +kernel) rfl
  rw [n32_succ] at A3
  have A4a := A3.run [(361, .iload 17, 363, 0)] (pe := 363) (by decide +kernel) rfl
  have A4b := A4a.ifF (cd := .eq) (o := 19) (by decide +kernel) (by show ¬ _ = _; decide)
  have A4c := A4b.run [(366, .aload 16, 368, 0), (368, .iload 18, 370, 0)] (pe := 370) (by decide +kernel) rfl
  obtain ⟨_, HA4d, qA4d, A4d, moA4d, szA4d⟩ := A4c.callV (argsL := [.int (9 : Nat).toInt32]) (wd_230 G) (wd_231 G) (wd_233 G) rfl (wd_233 G) (wd_232 G) (wd_3 G) (wd_234 G) U.1 (c_schL G U hlu (c := c0) (by rfl)) (by decide) ⟨_, _, (by decide +kernel : parseMethodDescriptor "(I)C" = some ⟨[.int], some .char⟩), rfl⟩ (by decide +kernel) (Wd := 0) (by decide) (Nat.le_of_ble_eq_true rfl) (by decide) (by decide) (by decide)
  obtain ⟨rfl, rfl⟩ := qA4d
  have A4e := A4d.run [(373, .iload 5, 375, 0)] (pe := 375) (by decide +kernel) rfl
  have A4f := A4e.icF (cd := .ne) (o := 7) (by decide +kernel) (not_not_intro rfl)
  have A4 := A4f.run [(378, .iconst 1, 379, 1), (379, .goto 4, 383, 0), (383, .istore 17, 385, 0), (385, .iinc 18 1, 388, 1)] (pe := 388) (by decide +kernel) rfl
  rw [n32_succ] at A4
  have A5 := A4.run [(388, .iload 4, 390, 0)] (pe := 390) (by decide +kernel) rfl
  have A6 := A5.ifF (cd := .eq) (o := 30) (by decide +kernel) (by show ¬ _ = _; decide)
  have A7a := A6.run [(393, .iload 17, 395, 0)] (pe := 395) (by decide +kernel) rfl
  have A7b := A7a.ifF (cd := .eq) (o := 19) (by decide +kernel) (by show ¬ _ = _; decide)
  have A7c := A7b.run [(398, .aload 16, 400, 0), (400, .iload 18, 402, 0)] (pe := 402) (by decide +kernel) rfl
  obtain ⟨_, HA7d, qA7d, A7d, moA7d, szA7d⟩ := A7c.callV (argsL := [.int (10 : Nat).toInt32]) (wd_230 G) (wd_231 G) (wd_233 G) rfl (wd_233 G) (wd_232 G) (wd_3 G) (wd_234 G) U.1 (c_schL G U hlu (c := c1) (by rfl)) (by decide) ⟨_, _, (by decide +kernel : parseMethodDescriptor "(I)C" = some ⟨[.int], some .char⟩), rfl⟩ (by decide +kernel) (Wd := 0) (by decide) (Nat.le_of_ble_eq_true rfl) (by decide) (by decide) (by decide)
  obtain ⟨rfl, rfl⟩ := qA7d
  have A7e := A7d.run [(405, .iload 6, 407, 0)] (pe := 407) (by decide +kernel) rfl
  have A7f := A7e.icF (cd := .ne) (o := 7) (by decide +kernel) (not_not_intro rfl)
  have A7 := A7f.run [(410, .iconst 1, 411, 1), (411, .goto 4, 415, 0), (415, .istore 17, 417, 0), (417, .iinc 18 1, 420, 1)] (pe := 420) (by decide +kernel) rfl
  rw [n32_succ] at A7
  have A8 := A7.run [(420, .iload 11, 422, 0)] (pe := 422) (by decide +kernel) rfl
  have A9 := A8.ifF (cd := .eq) (o := 30) (by decide +kernel) (by show ¬ _ = _; decide)
  have A10a := A9.run [(425, .iload 17, 427, 0)] (pe := 427) (by decide +kernel) rfl
  have A10b := A10a.ifF (cd := .eq) (o := 19) (by decide +kernel) (by show ¬ _ = _; decide)
  have A10c := A10b.run [(430, .aload 16, 432, 0), (432, .iload 18, 434, 0)] (pe := 434) (by decide +kernel) rfl
  obtain ⟨_, HA10d, qA10d, A10d, moA10d, szA10d⟩ := A10c.callV (argsL := [.int (11 : Nat).toInt32]) (wd_230 G) (wd_231 G) (wd_233 G) rfl (wd_233 G) (wd_232 G) (wd_3 G) (wd_234 G) U.1 (c_schL G U hlu (c := 93) (by rfl)) (by decide) ⟨_, _, (by decide +kernel : parseMethodDescriptor "(I)C" = some ⟨[.int], some .char⟩), rfl⟩ (by decide +kernel) (Wd := 0) (by decide) (Nat.le_of_ble_eq_true rfl) (by decide) (by decide) (by decide)
  obtain ⟨rfl, rfl⟩ := qA10d
  have A10e := A10d.run [(437, .bipush 93, 439, 93)] (pe := 439) (by decide +kernel) rfl
  have A10f := A10e.icF (cd := .ne) (o := 7) (by decide +kernel) (not_not_intro rfl)
  have A10 := A10f.run [(442, .iconst 1, 443, 1), (443, .goto 4, 447, 0), (447, .istore 17, 449, 0), (449, .iinc 18 1, 452, 1)] (pe := 452) (by decide +kernel) rfl
  rw [n32_succ] at A10
  exact A10
theorem app_at {A B C : List Int32} {j : Nat} (h : j < B.length) : (A ++ B ++ C)[A.length + j]? = B[j]? := by
  rw [List.append_assoc, List.getElem?_append_right (by omega), Nat.add_sub_cancel_left, List.getElem?_append_left h]
theorem app_end {A B : List Int32} {j : Nat} : (A ++ B)[A.length + j]? = B[j]? := by
  rw [List.getElem?_append_right (by omega), Nat.add_sub_cancel_left]
set_option maxRecDepth 65536 in
set_option maxHeartbeats 2000000 in
theorem l_end (G : Glb Z a0) {i0 i1 i2 i3 c0 c1 : Int32} {port db : Nat} {ca sh u : Addr} {e4 e11 tt : Int32} {hl : Nat} {hh : List Int32} (hp2 : port ≤ 65535) (hdb : db < 2 ^ 31) (hhl : hh.length ≤ 4) (U : Str Z H u (pre8 ++ hh ++ [58] ++ dgs port ++ [47] ++ dgs db)) (hlu : Lat (pre8 ++ hh ++ [58] ++ dgs port ++ [47] ++ dgs db)) (A0 : Wk l Z a0 EL0 "com/example/bell_counter/bellcounter/redis/RedisUrlToStringPinLaw" code maxLocals "law" ret room_1 D 452 [.val (.int i0), .val (.int i1), .val (.int i2), .val (.int i3), .val (.int e4), .val (.int c0), .val (.int c1), .val (.ref ca), .val (.ref sh), .val (.int port.toInt32), .val (.int db.toInt32), .val (.int e11), .val (.int hl.toInt32), .val (.int (dgs port).length.toInt32), .val (.int (dgs db).length.toInt32), .val (.int tt), .val (.ref u), .val (.int 1), .val (.int (8 + hh.length).toInt32)] [] H 46 1400) : ∃ H' kk nn, Rt Z EL0 D (some (.int 1)) H' kk nn ∧ kk ≤ room_1.cells ∧ nn ≤ room_1.slots := by
  have dl1 : (dgs port).length ≤ 5 := dgs_le 4 port (by omega)
  have e1 : (pre8 ++ hh).length = 8 + hh.length := by rw [List.length_append]; rfl
  have q1 : (pre8 ++ hh ++ [58] ++ dgs port ++ [47] ++ dgs db)[8 + hh.length]? = some 58 := by
    have := app_at (A := pre8 ++ hh) (B := [58]) (C := dgs port ++ [47] ++ dgs db) (j := 0) (by decide)
    rw [e1] at this
    simpa [List.append_assoc] using this
  have A1a := A0.run [(452, .iload 17, 454, 0)] (pe := 454) (by decide +kernel) rfl
  have A1b := A1a.ifF (cd := .eq) (o := 19) (by decide +kernel) (by show ¬ _ = _; decide)
  have A1c := A1b.run [(457, .aload 16, 459, 0), (459, .iload 18, 461, 0)] (pe := 461) (by decide +kernel) rfl
  obtain ⟨_, HA1d, qA1d, A1d, moA1d, szA1d⟩ := A1c.callV (argsL := [.int (8 + hh.length).toInt32]) (wd_230 G) (wd_231 G) (wd_233 G) rfl (wd_233 G) (wd_232 G) (wd_3 G) (wd_234 G) U.1 (c_schL G U hlu (c := 58) q1) (by decide) ⟨_, _, (by decide +kernel : parseMethodDescriptor "(I)C" = some ⟨[.int], some .char⟩), rfl⟩ (by decide +kernel) (Wd := 0) (by decide) (Nat.le_of_ble_eq_true rfl) (by decide) (by decide) (by decide)
  obtain ⟨rfl, rfl⟩ := qA1d
  have A1e := A1d.run [(464, .bipush 58, 466, 58)] (pe := 466) (by decide +kernel) rfl
  have A1f := A1e.icF (cd := .ne) (o := 7) (by decide +kernel) (not_not_intro rfl)
  have A1 := A1f.run [(469, .iconst 1, 470, 1), (470, .goto 4, 474, 0), (474, .istore 17, 476, 0), (476, .iinc 18 1, 479, 1)] (pe := 479) (by decide +kernel) rfl
  rw [n32_succ] at A1
  have A2 := A1.run [(479, .iload 17, 481, 0)] (pe := 481) (by decide +kernel) rfl
  have A3 := A2.ifF (cd := .eq) (o := 21) (by decide +kernel) (by show ¬ _ = _; decide)
  have A4 := A3.run [(484, .aload 16, 486, 0), (486, .iload 18, 488, 0), (488, .iload 9, 490, 0), (490, .iload 13, 492, 0)] (pe := 492) (by decide +kernel) rfl
  have e2 : (pre8 ++ hh ++ [58]).length = 8 + hh.length + 1 := by rw [List.length_append, e1]; rfl
  obtain ⟨_, HA5, qA5, A5, moA5, szA5⟩ := A4.callS (argsL := [.ref u, .int (8 + hh.length + 1).toInt32, .int port.toInt32, .int (dgs port).length.toInt32]) (wd_246 G) (wd_247 G) (wd_34 G) (wd_248 G) (c_ckn G U hlu (by omega) (by omega) (fun j hj => by
    have := app_at (A := pre8 ++ hh ++ [58]) (B := dgs port) (C := [47] ++ dgs db) (j := j) hj
    rw [e2] at this
    simpa [List.append_assoc] using this)) (by decide) ⟨_, _, (by decide +kernel : parseMethodDescriptor "(Ljava/lang/String;III)Z" = some ⟨[(.object "java/lang/String"), .int, .int, .int], some .boolean⟩), rfl⟩ (by decide +kernel) (Wd := 0) (by decide) (Nat.le_of_ble_eq_true rfl) (by decide) (by decide) (by decide)
  obtain ⟨rfl, rfl⟩ := qA5
  have A6 := A5.ifF (cd := .eq) (o := 7) (by decide +kernel) (by show ¬ _ = _; decide)
  have A7 := A6.run [(498, .iconst 1, 499, 1), (499, .goto 4, 503, 0), (503, .istore 17, 505, 0), (505, .iload 18, 507, 0), (507, .iload 13, 509, 0), (509, .iadd, 510, 0)] (pe := 510) (by decide +kernel) rfl
  rw [n32_add] at A7
  have A8 := A7.run [(510, .istore 18, 512, 0)] (pe := 512) (by decide +kernel) rfl
  have e3 : (pre8 ++ hh ++ [58] ++ dgs port).length = 8 + hh.length + 1 + (dgs port).length := by rw [List.length_append, e2]
  have q2 : (pre8 ++ hh ++ [58] ++ dgs port ++ [47] ++ dgs db)[8 + hh.length + 1 + (dgs port).length]? = some 47 := by
    have := app_at (A := pre8 ++ hh ++ [58] ++ dgs port) (B := [47]) (C := dgs db) (j := 0) (by decide)
    rw [e3] at this
    simpa [List.append_assoc] using this
  have A9a := A8.run [(512, .iload 17, 514, 0)] (pe := 514) (by decide +kernel) rfl
  have A9b := A9a.ifF (cd := .eq) (o := 19) (by decide +kernel) (by show ¬ _ = _; decide)
  have A9c := A9b.run [(517, .aload 16, 519, 0), (519, .iload 18, 521, 0)] (pe := 521) (by decide +kernel) rfl
  obtain ⟨_, HA9d, qA9d, A9d, moA9d, szA9d⟩ := A9c.callV (argsL := [.int (8 + hh.length + 1 + (dgs port).length).toInt32]) (wd_230 G) (wd_231 G) (wd_233 G) rfl (wd_233 G) (wd_232 G) (wd_3 G) (wd_234 G) U.1 (c_schL G U hlu (c := 47) q2) (by decide) ⟨_, _, (by decide +kernel : parseMethodDescriptor "(I)C" = some ⟨[.int], some .char⟩), rfl⟩ (by decide +kernel) (Wd := 0) (by decide) (Nat.le_of_ble_eq_true rfl) (by decide) (by decide) (by decide)
  obtain ⟨rfl, rfl⟩ := qA9d
  have A9e := A9d.run [(524, .bipush 47, 526, 47)] (pe := 526) (by decide +kernel) rfl
  have A9f := A9e.icF (cd := .ne) (o := 7) (by decide +kernel) (not_not_intro rfl)
  have A9 := A9f.run [(529, .iconst 1, 530, 1), (530, .goto 4, 534, 0), (534, .istore 17, 536, 0), (536, .iinc 18 1, 539, 1)] (pe := 539) (by decide +kernel) rfl
  rw [n32_succ] at A9
  have A10 := A9.run [(539, .iload 17, 541, 0)] (pe := 541) (by decide +kernel) rfl
  have A11 := A10.ifF (cd := .eq) (o := 21) (by decide +kernel) (by show ¬ _ = _; decide)
  have A12 := A11.run [(544, .aload 16, 546, 0), (546, .iload 18, 548, 0), (548, .iload 10, 550, 0), (550, .iload 14, 552, 0)] (pe := 552) (by decide +kernel) rfl
  have e4 : (pre8 ++ hh ++ [58] ++ dgs port ++ [47]).length = 8 + hh.length + 1 + (dgs port).length + 1 := by rw [List.length_append, e3]; rfl
  obtain ⟨_, HA13, qA13, A13, moA13, szA13⟩ := A12.callS (argsL := [.ref u, .int (8 + hh.length + 1 + (dgs port).length + 1).toInt32, .int db.toInt32, .int (dgs db).length.toInt32]) (wd_246 G) (wd_247 G) (wd_34 G) (wd_248 G) (c_ckn G U hlu hdb (by omega) (fun j hj => by
    have := app_end (A := pre8 ++ hh ++ [58] ++ dgs port ++ [47]) (B := dgs db) (j := j)
    rw [e4] at this
    simpa [List.append_assoc] using this)) (by decide) ⟨_, _, (by decide +kernel : parseMethodDescriptor "(Ljava/lang/String;III)Z" = some ⟨[(.object "java/lang/String"), .int, .int, .int], some .boolean⟩), rfl⟩ (by decide +kernel) (Wd := 0) (by decide) (Nat.le_of_ble_eq_true rfl) (by decide) (by decide) (by decide)
  obtain ⟨rfl, rfl⟩ := qA13
  have A14 := A13.ifF (cd := .eq) (o := 7) (by decide +kernel) (by show ¬ _ = _; decide)
  have A15 := A14.run [(558, .iconst 1, 559, 1), (559, .goto 4, 563, 0), (563, .istore 17, 565, 0), (565, .iload 17, 567, 0)] (pe := 567) (by decide +kernel) rfl
  exact ⟨_, _, _, A15.retZ (by decide +kernel) rfl, by decide, by decide⟩
set_option maxRecDepth 65536 in
set_option maxHeartbeats 2000000 in
theorem l_pre (G : Glb Z a0) {i0 i1 i2 i3 c0 c1 : Int32} {port db : Nat} {ca sh u : Addr} {e4 e11 tt hl : Int32} {rest : List Int32} (U : Str Z H u (pre8 ++ rest)) (hlu : Lat (pre8 ++ rest)) (B0 : Wk l Z a0 EL0 "com/example/bell_counter/bellcounter/redis/RedisUrlToStringPinLaw" code maxLocals "law" ret room_1 D 228 [.val (.int i0), .val (.int i1), .val (.int i2), .val (.int i3), .val (.int e4), .val (.int c0), .val (.int c1), .val (.ref ca), .val (.ref sh), .val (.int port.toInt32), .val (.int db.toInt32), .val (.int e11), .val (.int hl), .val (.int (dgs port).length.toInt32), .val (.int (dgs db).length.toInt32), .val (.int tt), .val (.ref u), .unset, .unset] [] H 46 1400) : Wk l Z a0 EL0 "com/example/bell_counter/bellcounter/redis/RedisUrlToStringPinLaw" code maxLocals "law" ret room_1 D 329 [.val (.int i0), .val (.int i1), .val (.int i2), .val (.int i3), .val (.int e4), .val (.int c0), .val (.int c1), .val (.ref ca), .val (.ref sh), .val (.int port.toInt32), .val (.int db.toInt32), .val (.int e11), .val (.int hl), .val (.int (dgs port).length.toInt32), .val (.int (dgs db).length.toInt32), .val (.int tt), .val (.ref u), .val (.int 1), .val (.int (8 : Nat).toInt32)] [] H 46 1400 := by
  have C0 := B0.run [(228, .aload 16, 230, 0), (230, .iconst 0, 231, 0)] (pe := 231) (by decide +kernel) rfl
  obtain ⟨_, HE0, qE0, E0, moE0, szE0⟩ := C0.callV (argsL := [.int (0 : Nat).toInt32]) (wd_230 G) (wd_231 G) (wd_233 G) rfl (wd_233 G) (wd_232 G) (wd_3 G) (wd_234 G) U.1 (c_schL G U hlu (i := 0) (c := 114) rfl) (by decide) ⟨_, _, (by decide +kernel : parseMethodDescriptor "(I)C" = some ⟨[.int], some .char⟩), rfl⟩ (by decide +kernel) (Wd := 0) (by decide) (Nat.le_of_ble_eq_true rfl) (by decide) (by decide) (by decide)
  obtain ⟨rfl, rfl⟩ := qE0
  have F0 := E0.run [(234, .bipush 114, 236, 114)] (pe := 236) (by decide +kernel) rfl
  have B1 := F0.icF (cd := .ne) (o := 86) (by decide +kernel) (not_not_intro rfl)
  have C1 := B1.run [(239, .aload 16, 241, 0), (241, .iconst 1, 242, 1)] (pe := 242) (by decide +kernel) rfl
  obtain ⟨_, HE1, qE1, E1, moE1, szE1⟩ := C1.callV (argsL := [.int (1 : Nat).toInt32]) (wd_230 G) (wd_231 G) (wd_233 G) rfl (wd_233 G) (wd_232 G) (wd_3 G) (wd_234 G) U.1 (c_schL G U hlu (i := 1) (c := 101) rfl) (by decide) ⟨_, _, (by decide +kernel : parseMethodDescriptor "(I)C" = some ⟨[.int], some .char⟩), rfl⟩ (by decide +kernel) (Wd := 0) (by decide) (Nat.le_of_ble_eq_true rfl) (by decide) (by decide) (by decide)
  obtain ⟨rfl, rfl⟩ := qE1
  have F1 := E1.run [(245, .bipush 101, 247, 101)] (pe := 247) (by decide +kernel) rfl
  have B2 := F1.icF (cd := .ne) (o := 75) (by decide +kernel) (not_not_intro rfl)
  have C2 := B2.run [(250, .aload 16, 252, 0), (252, .iconst 2, 253, 2)] (pe := 253) (by decide +kernel) rfl
  obtain ⟨_, HE2, qE2, E2, moE2, szE2⟩ := C2.callV (argsL := [.int (2 : Nat).toInt32]) (wd_230 G) (wd_231 G) (wd_233 G) rfl (wd_233 G) (wd_232 G) (wd_3 G) (wd_234 G) U.1 (c_schL G U hlu (i := 2) (c := 100) rfl) (by decide) ⟨_, _, (by decide +kernel : parseMethodDescriptor "(I)C" = some ⟨[.int], some .char⟩), rfl⟩ (by decide +kernel) (Wd := 0) (by decide) (Nat.le_of_ble_eq_true rfl) (by decide) (by decide) (by decide)
  obtain ⟨rfl, rfl⟩ := qE2
  have F2 := E2.run [(256, .bipush 100, 258, 100)] (pe := 258) (by decide +kernel) rfl
  have B3 := F2.icF (cd := .ne) (o := 64) (by decide +kernel) (not_not_intro rfl)
  have C3 := B3.run [(261, .aload 16, 263, 0), (263, .iconst 3, 264, 3)] (pe := 264) (by decide +kernel) rfl
  obtain ⟨_, HE3, qE3, E3, moE3, szE3⟩ := C3.callV (argsL := [.int (3 : Nat).toInt32]) (wd_230 G) (wd_231 G) (wd_233 G) rfl (wd_233 G) (wd_232 G) (wd_3 G) (wd_234 G) U.1 (c_schL G U hlu (i := 3) (c := 105) rfl) (by decide) ⟨_, _, (by decide +kernel : parseMethodDescriptor "(I)C" = some ⟨[.int], some .char⟩), rfl⟩ (by decide +kernel) (Wd := 0) (by decide) (Nat.le_of_ble_eq_true rfl) (by decide) (by decide) (by decide)
  obtain ⟨rfl, rfl⟩ := qE3
  have F3 := E3.run [(267, .bipush 105, 269, 105)] (pe := 269) (by decide +kernel) rfl
  have B4 := F3.icF (cd := .ne) (o := 53) (by decide +kernel) (not_not_intro rfl)
  have C4 := B4.run [(272, .aload 16, 274, 0), (274, .iconst 4, 275, 4)] (pe := 275) (by decide +kernel) rfl
  obtain ⟨_, HE4, qE4, E4, moE4, szE4⟩ := C4.callV (argsL := [.int (4 : Nat).toInt32]) (wd_230 G) (wd_231 G) (wd_233 G) rfl (wd_233 G) (wd_232 G) (wd_3 G) (wd_234 G) U.1 (c_schL G U hlu (i := 4) (c := 115) rfl) (by decide) ⟨_, _, (by decide +kernel : parseMethodDescriptor "(I)C" = some ⟨[.int], some .char⟩), rfl⟩ (by decide +kernel) (Wd := 0) (by decide) (Nat.le_of_ble_eq_true rfl) (by decide) (by decide) (by decide)
  obtain ⟨rfl, rfl⟩ := qE4
  have F4 := E4.run [(278, .bipush 115, 280, 115)] (pe := 280) (by decide +kernel) rfl
  have B5 := F4.icF (cd := .ne) (o := 42) (by decide +kernel) (not_not_intro rfl)
  have C5 := B5.run [(283, .aload 16, 285, 0), (285, .iconst 5, 286, 5)] (pe := 286) (by decide +kernel) rfl
  obtain ⟨_, HE5, qE5, E5, moE5, szE5⟩ := C5.callV (argsL := [.int (5 : Nat).toInt32]) (wd_230 G) (wd_231 G) (wd_233 G) rfl (wd_233 G) (wd_232 G) (wd_3 G) (wd_234 G) U.1 (c_schL G U hlu (i := 5) (c := 58) rfl) (by decide) ⟨_, _, (by decide +kernel : parseMethodDescriptor "(I)C" = some ⟨[.int], some .char⟩), rfl⟩ (by decide +kernel) (Wd := 0) (by decide) (Nat.le_of_ble_eq_true rfl) (by decide) (by decide) (by decide)
  obtain ⟨rfl, rfl⟩ := qE5
  have F5 := E5.run [(289, .bipush 58, 291, 58)] (pe := 291) (by decide +kernel) rfl
  have B6 := F5.icF (cd := .ne) (o := 31) (by decide +kernel) (not_not_intro rfl)
  have C6 := B6.run [(294, .aload 16, 296, 0), (296, .bipush 6, 298, 6)] (pe := 298) (by decide +kernel) rfl
  obtain ⟨_, HE6, qE6, E6, moE6, szE6⟩ := C6.callV (argsL := [.int (6 : Nat).toInt32]) (wd_230 G) (wd_231 G) (wd_233 G) rfl (wd_233 G) (wd_232 G) (wd_3 G) (wd_234 G) U.1 (c_schL G U hlu (i := 6) (c := 47) rfl) (by decide) ⟨_, _, (by decide +kernel : parseMethodDescriptor "(I)C" = some ⟨[.int], some .char⟩), rfl⟩ (by decide +kernel) (Wd := 0) (by decide) (Nat.le_of_ble_eq_true rfl) (by decide) (by decide) (by decide)
  obtain ⟨rfl, rfl⟩ := qE6
  have F6 := E6.run [(301, .bipush 47, 303, 47)] (pe := 303) (by decide +kernel) rfl
  have B7 := F6.icF (cd := .ne) (o := 19) (by decide +kernel) (not_not_intro rfl)
  have C7 := B7.run [(306, .aload 16, 308, 0), (308, .bipush 7, 310, 7)] (pe := 310) (by decide +kernel) rfl
  obtain ⟨_, HE7, qE7, E7, moE7, szE7⟩ := C7.callV (argsL := [.int (7 : Nat).toInt32]) (wd_230 G) (wd_231 G) (wd_233 G) rfl (wd_233 G) (wd_232 G) (wd_3 G) (wd_234 G) U.1 (c_schL G U hlu (i := 7) (c := 47) rfl) (by decide) ⟨_, _, (by decide +kernel : parseMethodDescriptor "(I)C" = some ⟨[.int], some .char⟩), rfl⟩ (by decide +kernel) (Wd := 0) (by decide) (Nat.le_of_ble_eq_true rfl) (by decide) (by decide) (by decide)
  obtain ⟨rfl, rfl⟩ := qE7
  have F7 := E7.run [(313, .bipush 47, 315, 47)] (pe := 315) (by decide +kernel) rfl
  have B8 := F7.icF (cd := .ne) (o := 7) (by decide +kernel) (not_not_intro rfl)
  have B9 := B8.run [(318, .iconst 1, 319, 1), (319, .goto 4, 323, 0), (323, .istore 17, 325, 0), (325, .bipush 8, 327, 8), (327, .istore 18, 329, 0)] (pe := 329) (by decide +kernel) rfl
  exact B9
theorem i2c58 : (58 : Int32).toUInt32.toUInt16.toUInt32.toInt32 = 58 := by decide
theorem okL58 : okL 58 := by constructor <;> decide
set_option maxRecDepth 65536 in
set_option maxHeartbeats 8000000 in
theorem c_law (G : Glb Z a0) (i0 i1 i2 i3 : Int32) : Ct l Z EL0 x code maxLocals ret room_1 tables_1 [.int i0, .int i1, .int i2, .int i3] H (fun v H' => v = some (.int 1)) := by
  refine Ct.in G (plainFor_of_name (by show plainName "com/example/bell_counter/bellcounter/redis/RedisUrlToStringPinLaw" = true; simp [plainName, overriddenIn])) (ls := [.val (.int i0), .val (.int i1), .val (.int i2), .val (.int i3), .unset, .unset, .unset, .unset, .unset, .unset, .unset, .unset, .unset, .unset, .unset, .unset, .unset, .unset, .unset]) rfl rfl fun D A0 => ?_
  have A1 := A0.run [(0, .iload_n 3, 1, 0), (1, .iconst 1, 2, 1), (2, .iand, 3, 0)] (pe := 3) (by decide +kernel) rfl
  obtain ⟨e4, he4, A2⟩ : ∃ e, isB e ∧ Wk l Z a0 EL0 "com/example/bell_counter/bellcounter/redis/RedisUrlToStringPinLaw" code maxLocals "law" ret room_1 D 11 [.val (.int i0), .val (.int i1), .val (.int i2), .val (.int i3), .unset, .unset, .unset, .unset, .unset, .unset, .unset, .unset, .unset, .unset, .unset, .unset, .unset, .unset, .unset] [.int e] H 0 0 := by
    by_cases h : i3 &&& 1 = 0
    · have B1 := A1.ifT (cd := .eq) (o := 7) (by decide +kernel) h (pe := 10) (by decide)
      exact ⟨0, Or.inl rfl, B1.run [(10, .iconst 0, 11, 0)] (pe := 11) (by decide +kernel) rfl⟩
    · have B1 := A1.ifF (cd := .eq) (o := 7) (by decide +kernel) h
      exact ⟨1, Or.inr rfl, B1.run [(6, .iconst 1, 7, 1), (7, .goto 4, 11, 0)] (pe := 11) (by decide +kernel) rfl⟩
  have A3 := A2.run [(11, .istore 4, 13, 0), (13, .iload_n 0, 14, 0), (14, .sipush 255, 17, 255), (17, .iand, 18, 0), (18, .i2c, 19, 0), (19, .istore 5, 21, 0), (21, .iload_n 0, 22, 0), (22, .bipush 8, 24, 8), (24, .iushr, 25, 0), (25, .sipush 255, 28, 255), (28, .iand, 29, 0), (29, .i2c, 30, 0), (30, .istore 6, 32, 0), (32, .iload_n 3, 33, 0), (33, .iconst 2, 34, 2), (34, .iand, 35, 0)] (pe := 35) (by decide +kernel) rfl
  rw [okc_i2c, okc_i2c] at A3
  obtain ⟨c0, o0, A4⟩ : ∃ c0, okL c0 ∧ Wk l Z a0 EL0 "com/example/bell_counter/bellcounter/redis/RedisUrlToStringPinLaw" code maxLocals "law" ret room_1 D 42 [.val (.int i0), .val (.int i1), .val (.int i2), .val (.int i3), .val (.int e4), .val (.int c0), .val (.int (XT.ushr i0 8 &&& 255)), .unset, .unset, .unset, .unset, .unset, .unset, .unset, .unset, .unset, .unset, .unset, .unset] [] H 0 0 := by
    by_cases h : i3 &&& 2 = 0
    · have B1 := A3.ifT (cd := .eq) (o := 7) (by decide +kernel) h (pe := 42) (by decide)
      exact ⟨_, okL_mask i0, B1⟩
    · have B1 := A3.ifF (cd := .eq) (o := 7) (by decide +kernel) h
      exact ⟨58, okL58, B1.run [(38, .bipush 58, 40, 58), (40, .istore 5, 42, 0)] (pe := 42) (by decide +kernel) rfl⟩
  have A5 := A4.run [(42, .iload_n 3, 43, 0), (43, .iconst 4, 44, 4), (44, .iand, 45, 0)] (pe := 45) (by decide +kernel) rfl
  obtain ⟨c1, o1, A6⟩ : ∃ c1, okL c1 ∧ Wk l Z a0 EL0 "com/example/bell_counter/bellcounter/redis/RedisUrlToStringPinLaw" code maxLocals "law" ret room_1 D 52 [.val (.int i0), .val (.int i1), .val (.int i2), .val (.int i3), .val (.int e4), .val (.int c0), .val (.int c1), .unset, .unset, .unset, .unset, .unset, .unset, .unset, .unset, .unset, .unset, .unset, .unset] [] H 0 0 := by
    by_cases h : i3 &&& 4 = 0
    · have B1 := A5.ifT (cd := .eq) (o := 7) (by decide +kernel) h (pe := 52) (by decide)
      exact ⟨_, okL_mask _, B1⟩
    · have B1 := A5.ifF (cd := .eq) (o := 7) (by decide +kernel) h
      exact ⟨58, okL58, B1.run [(48, .bipush 58, 50, 58), (50, .istore 6, 52, 0)] (pe := 52) (by decide +kernel) rfl⟩
  have A7 := A6.run [(52, .iload 4, 54, 0)] (pe := 54) (by decide +kernel) rfl
  obtain ⟨hs, ca, H1, K1, hhs, TC, A8⟩ : ∃ hs ca H1, Kp H H1 [] ∧ (e4 = 0 ∧ hs = [c0] ∨ e4 = 1 ∧ hs = [c0, c1]) ∧ Ar Z H1 ca .char (chs hs) ∧ Wk l Z a0 EL0 "com/example/bell_counter/bellcounter/redis/RedisUrlToStringPinLaw" code maxLocals "law" ret room_1 D 85 [.val (.int i0), .val (.int i1), .val (.int i2), .val (.int i3), .val (.int e4), .val (.int c0), .val (.int c1), .val (.ref ca), .unset, .unset, .unset, .unset, .unset, .unset, .unset, .unset, .unset, .unset, .unset] [] H1 1 2 := by
    rcases he4 with rfl | rfl
    · have B1 := A7.ifT (cd := .eq) (o := 21) (by decide +kernel) rfl (pe := 75) (by decide)
      have B2 := B1.run [(75, .iconst 1, 76, 1)] (pe := 76) (by decide +kernel) rfl
      obtain ⟨ca, H2, B3, gca, K2, T0, oa⟩ := B2.newA (aty := .char) (wd_0 G) (by decide +kernel) (N := 1) rfl (cap := 2) (by decide) (by decide) (by decide) (by decide)
      have B4 := B3.run [(78, .dup, 79, 0), (79, .iconst 0, 80, 0), (80, .iload 5, 82, 0)] (pe := 82) (by decide +kernel) rfl
      obtain ⟨G1, B5, J1, T1⟩ := B4.castore T0 oa (by decide +kernel) (i := 0) rfl (by simp) (isC_nar o0.isC)
      have B6 := B5.run [(83, .astore 7, 85, 0)] (pe := 85) (by decide +kernel) rfl
      exact ⟨[c0], ca, G1, K2.trans J1 (fun y hy => by cases List.mem_singleton.mp hy; exact Or.inr gca), Or.inl ⟨rfl, rfl⟩, T1, B6⟩
    · have B1 := A7.ifF (cd := .eq) (o := 21) (by decide +kernel) (by show ¬ _ = _; decide)
      have B2 := B1.run [(57, .iconst 2, 58, 2)] (pe := 58) (by decide +kernel) rfl
      obtain ⟨ca, H2, B3, gca, K2, T0, oa⟩ := B2.newA (aty := .char) (wd_0 G) (by decide +kernel) (N := 2) rfl (cap := 2) (by decide) (by decide) (by decide) (by decide)
      have B4 := B3.run [(60, .dup, 61, 0), (61, .iconst 0, 62, 0), (62, .iload 5, 64, 0)] (pe := 64) (by decide +kernel) rfl
      obtain ⟨G1, B5, J1, T1⟩ := B4.castore T0 oa (by decide +kernel) (i := 0) rfl (by simp) (isC_nar o0.isC)
      have B6 := B5.run [(65, .dup, 66, 0), (66, .iconst 1, 67, 1), (67, .iload 6, 69, 0)] (pe := 69) (by decide +kernel) rfl
      obtain ⟨G2, B7, J2, T2⟩ := B6.castore T1 (J1.2 _ oa) (by decide +kernel) (i := 1) rfl (by simp) (isC_nar o1.isC)
      have B8 := B7.run [(70, .astore 7, 72, 0), (72, .goto 13, 85, 0)] (pe := 85) (by decide +kernel) rfl
      have one : ∀ y ∈ [ca], y ∈ ([] : List Addr) ∨ H.1.size ≤ y := fun y hy => by cases List.mem_singleton.mp hy; exact Or.inr gca
      exact ⟨[c0, c1], ca, G2, (K2.trans J1 one).trans J2 one, Or.inr ⟨rfl, rfl⟩, T2, B8⟩
  have hok : ∀ c ∈ hs, okL c := by
    rcases hhs with ⟨-, rfl⟩ | ⟨-, rfl⟩
    · exact fun c hc => by cases List.mem_singleton.mp hc; exact o0
    · exact fun c hc => by
        rcases List.mem_cons.mp hc with rfl | hc
        · exact o0
        · cases List.mem_singleton.mp hc; exact o1
  have hla : Lat hs := fun c hc => (hok c hc).lat
  have hl : hs.length = 1 ∨ hs.length = 2 := by rcases hhs with ⟨-, rfl⟩ | ⟨-, rfl⟩ <;> simp
  have hne : hs ≠ [] := fun e => by rw [e] at hl; simp at hl
  obtain ⟨sh, H2, A9, gs, K2, E2, o2, D2⟩ := A8.newO (wd_1 G) (wd_2 G) (wd_3 G) (by decide +kernel) (by decide) (by decide)
  have A10 := A9.run [(88, .dup, 89, 0), (89, .aload 7, 91, 0)] (pe := 91) (by decide +kernel) rfl
  have sv := (wd_29 G)
  have sc := (wd_27 G)
  obtain ⟨_, HA11, qA11, A11, moA11, szA11⟩ := A10.callI (argsL := [.ref ca]) rfl (wd_4 G) (wd_5 G) (wd_3 G) (wd_6 G) (c_sI1 G (TC.ky K2) (c_sI4L G (TC.ky K2) (by omega) hne hla E2 (D2 (Or.inr sv) (t := .array .byte) (by decide)) (D2 (Or.inr sc) (t := .byte) (by decide)) o2)) (by decide) ⟨_, _, (by decide +kernel : parseMethodDescriptor "([C)V" = some ⟨[(.array .char)], none⟩), rfl⟩ (by decide +kernel) (Wd := 1) (by decide) (Nat.le_of_ble_eq_true rfl) (by decide) (by decide) (by decide)
  obtain ⟨rfl, K3, S3⟩ := qA11
  have A12 := A11.run [(94, .astore 8, 96, 0), (96, .iconst 1, 97, 1), (97, .iload_n 1, 98, 0)] (pe := 98) (by decide +kernel) rfl
  have A13 := A12.ldcI (wd_30 G) (by decide +kernel)
  have A14 := A13.run [(100, .iand, 101, 0)] (pe := 101) (by decide +kernel) rfl
  have A15 := A14.ldcI (wd_31 G) (by decide +kernel)
  have A16 := A15.irem (by decide +kernel) (by decide)
  have A17 := A16.run [(104, .iadd, 105, 0)] (pe := 105) (by decide +kernel) rfl
  obtain ⟨port, hp1, hp2, ep⟩ : ∃ port : Nat, 1 ≤ port ∧ port ≤ 65535 ∧ 1 + (i1 &&& 2147483647) % 65535 = port.toInt32 := by
    obtain ⟨-, r, hr, e⟩ := remN (x := i1 &&& 2147483647) (m := 65535) (c_and i1 2147483647 (by decide)).1 (by decide) (by decide)
    refine ⟨1 + r, by omega, by omega, ?_⟩
    rw [← n32_add, ← e]; rfl
  rw [ep] at A17
  have A18 := A17.run [(105, .istore 9, 107, 0), (107, .iload_n 2, 108, 0)] (pe := 108) (by decide +kernel) rfl
  have A19 := A18.ldcI (wd_30 G) (by decide +kernel)
  have A20 := A19.run [(110, .iand, 111, 0)] (pe := 111) (by decide +kernel) rfl
  obtain ⟨db, hdb, edb⟩ : ∃ db : Nat, db < 2 ^ 31 ∧ i2 &&& 2147483647 = db.toInt32 := by
    have h := c_and i2 2147483647 (by decide)
    have r := rng32 (i2 &&& 2147483647)
    refine ⟨(i2 &&& 2147483647).toInt.toNat, by omega, ?_⟩
    apply Int32.toInt_inj.mp
    rw [n32_toInt (by omega)]; omega
  rw [edb] at A20
  have A21 := A20.run [(111, .istore 10, 113, 0), (113, .iload 5, 115, 0), (115, .bipush 58, 117, 58)] (pe := 117) (by decide +kernel) rfl
  clear A0 A1 A2 A3 A4 A5 A6 A7 A8 A9 A10 A12 A13 A14 A15 A16 A17 A18 A19 A20
  obtain ⟨e11, he11, A22⟩ : ∃ e, (e = 1 ∧ 58 ∈ hs ∨ e = 0 ∧ 58 ∉ hs) ∧ Wk l Z a0 EL0 "com/example/bell_counter/bellcounter/redis/RedisUrlToStringPinLaw" code maxLocals "law" ret room_1 D 137 [.val (.int i0), .val (.int i1), .val (.int i2), .val (.int i3), .val (.int e4), .val (.int c0), .val (.int c1), .val (.ref ca), .val (.ref sh), .val (.int port.toInt32), .val (.int db.toInt32), .unset, .unset, .unset, .unset, .unset, .unset, .unset, .unset] [.int e] HA11 6 20 := by
    by_cases h : c0 = 58
    · have B1 := A21.icT (cd := .eq) (o := 15) (by decide +kernel) h (pe := 132) (by decide)
      exact ⟨1, Or.inl ⟨rfl, by rcases hhs with ⟨-, rfl⟩ | ⟨-, rfl⟩ <;> simp [h]⟩, (B1.run [(132, .iconst 1, 133, 1), (133, .goto 4, 137, 0)] (pe := 137) (by decide +kernel) rfl).more (by decide) (by decide)⟩
    · have B1 := A21.icF (cd := .eq) (o := 15) (by decide +kernel) h
      have B2 := B1.run [(120, .iload 4, 122, 0)] (pe := 122) (by decide +kernel) rfl
      rcases hhs with ⟨rfl, rfl⟩ | ⟨rfl, rfl⟩
      · have B3 := B2.ifT (cd := .eq) (o := 14) (by decide +kernel) rfl (pe := 136) (by decide)
        exact ⟨0, Or.inr ⟨rfl, by simp [Ne.symm h]⟩, (B3.run [(136, .iconst 0, 137, 0)] (pe := 137) (by decide +kernel) rfl).more (by decide) (by decide)⟩
      · have B3 := B2.ifF (cd := .eq) (o := 14) (by decide +kernel) (by show ¬ _ = _; decide)
        have B4 := B3.run [(125, .iload 6, 127, 0), (127, .bipush 58, 129, 58)] (pe := 129) (by decide +kernel) rfl
        by_cases h2 : c1 = 58
        · have B5 := B4.icF (cd := .ne) (o := 7) (by decide +kernel) (not_not_intro h2)
          exact ⟨1, Or.inl ⟨rfl, by simp [h2]⟩, (B5.run [(132, .iconst 1, 133, 1), (133, .goto 4, 137, 0)] (pe := 137) (by decide +kernel) rfl).more (by decide) (by decide)⟩
        · have B5 := B4.icT (cd := .ne) (o := 7) (by decide +kernel) h2 (pe := 136) (by decide)
          exact ⟨0, Or.inr ⟨rfl, by simp [Ne.symm h, Ne.symm h2]⟩, (B5.run [(136, .iconst 0, 137, 0)] (pe := 137) (by decide +kernel) rfl).more (by decide) (by decide)⟩
  have A23 := A22.run [(137, .istore 11, 139, 0), (139, .iload 4, 141, 0)] (pe := 141) (by decide +kernel) rfl
  obtain ⟨A24⟩ : Nonempty (PLift (Wk l Z a0 EL0 "com/example/bell_counter/bellcounter/redis/RedisUrlToStringPinLaw" code maxLocals "law" ret room_1 D 149 [.val (.int i0), .val (.int i1), .val (.int i2), .val (.int i3), .val (.int e4), .val (.int c0), .val (.int c1), .val (.ref ca), .val (.ref sh), .val (.int port.toInt32), .val (.int db.toInt32), .val (.int e11), .unset, .unset, .unset, .unset, .unset, .unset, .unset] [.int hs.length.toInt32] HA11 6 20)) := by
    rcases hhs with ⟨rfl, rfl⟩ | ⟨rfl, rfl⟩
    · have B1 := A23.ifT (cd := .eq) (o := 7) (by decide +kernel) rfl (pe := 148) (by decide)
      exact ⟨⟨B1.run [(148, .iconst 1, 149, 1)] (pe := 149) (by decide +kernel) rfl⟩⟩
    · have B1 := A23.ifF (cd := .eq) (o := 7) (by decide +kernel) (by show ¬ _ = _; decide)
      exact ⟨⟨B1.run [(144, .iconst 2, 145, 2), (145, .goto 4, 149, 0)] (pe := 149) (by decide +kernel) rfl⟩⟩
  have A24 := A24.down
  have A25 := A24.run [(149, .istore 12, 151, 0), (151, .iload 9, 153, 0)] (pe := 153) (by decide +kernel) rfl
  obtain ⟨_, HA26, qA26, A26, moA26, szA26⟩ := A25.callS (argsL := [.int port.toInt32]) (wd_32 G) (wd_33 G) (wd_34 G) (wd_35 G) (c_nl G (by omega)) (by decide) ⟨_, _, (by decide +kernel : parseMethodDescriptor "(I)I" = some ⟨[.int], some .int⟩), rfl⟩ (by decide +kernel) (Wd := 0) (by decide) (Nat.le_of_ble_eq_true rfl) (by decide) (by decide) (by decide)
  obtain ⟨rfl, rfl⟩ := qA26
  have A27 := A26.run [(156, .istore 13, 158, 0), (158, .iload 10, 160, 0)] (pe := 160) (by decide +kernel) rfl
  obtain ⟨_, HA28, qA28, A28, moA28, szA28⟩ := A27.callS (argsL := [.int db.toInt32]) (wd_32 G) (wd_33 G) (wd_34 G) (wd_35 G) (c_nl G hdb) (by decide) ⟨_, _, (by decide +kernel : parseMethodDescriptor "(I)I" = some ⟨[.int], some .int⟩), rfl⟩ (by decide +kernel) (Wd := 0) (by decide) (Nat.le_of_ble_eq_true rfl) (by decide) (by decide) (by decide)
  obtain ⟨rfl, rfl⟩ := qA28
  have A29 := A28.run [(163, .istore 14, 165, 0), (165, .bipush 8, 167, 8), (167, .iload 11, 169, 0)] (pe := 169) (by decide +kernel) rfl
  obtain ⟨tt, htt, A30⟩ : ∃ tt : Int32, tt = (full hs port db).length.toInt32 ∧ Wk l Z a0 EL0 "com/example/bell_counter/bellcounter/redis/RedisUrlToStringPinLaw" code maxLocals "law" ret room_1 D 193 [.val (.int i0), .val (.int i1), .val (.int i2), .val (.int i3), .val (.int e4), .val (.int c0), .val (.int c1), .val (.ref ca), .val (.ref sh), .val (.int port.toInt32), .val (.int db.toInt32), .val (.int e11), .val (.int hs.length.toInt32), .val (.int (dgs port).length.toInt32), .val (.int (dgs db).length.toInt32), .val (.int tt), .unset, .unset, .unset] [] HA11 6 20 := by
    rcases he11 with ⟨rfl, h⟩ | ⟨rfl, h⟩
    · have B1 := A29.ifF (cd := .eq) (o := 7) (by decide +kernel) (by show ¬ _ = _; decide)
      have B2 := B1.run [(172, .iconst 2, 173, 2), (173, .goto 4, 177, 0), (177, .iadd, 178, 0), (178, .iload 12, 180, 0), (180, .iadd, 181, 0), (181, .iconst 1, 182, 1), (182, .iadd, 183, 0), (183, .iload 13, 185, 0), (185, .iadd, 186, 0), (186, .iconst 1, 187, 1), (187, .iadd, 188, 0), (188, .iload 14, 190, 0), (190, .iadd, 191, 0), (191, .istore 15, 193, 0)] (pe := 193) (by decide +kernel) rfl
      refine ⟨_, ?_, B2⟩
      have e : (full hs port db).length = 8 + 2 + hs.length + 1 + (dgs port).length + 1 + (dgs db).length := by
        simp only [full, hx, if_pos h, List.length_append]; first | (simp; done) | (simp; omega)
      rw [e, ← n32_add, ← n32_add, ← n32_add, ← n32_add, ← n32_add, ← n32_add]; rfl
    · have B1 := A29.ifT (cd := .eq) (o := 7) (by decide +kernel) rfl (pe := 176) (by decide)
      have B2 := B1.run [(176, .iconst 0, 177, 0), (177, .iadd, 178, 0), (178, .iload 12, 180, 0), (180, .iadd, 181, 0), (181, .iconst 1, 182, 1), (182, .iadd, 183, 0), (183, .iload 13, 185, 0), (185, .iadd, 186, 0), (186, .iconst 1, 187, 1), (187, .iadd, 188, 0), (188, .iload 14, 190, 0), (190, .iadd, 191, 0), (191, .istore 15, 193, 0)] (pe := 193) (by decide +kernel) rfl
      refine ⟨_, ?_, B2⟩
      have e : (full hs port db).length = 8 + 0 + hs.length + 1 + (dgs port).length + 1 + (dgs db).length := by
        simp only [full, hx, if_neg h, List.length_append]; first | (simp; done) | (simp; omega)
      rw [e, ← n32_add, ← n32_add, ← n32_add, ← n32_add, ← n32_add, ← n32_add]; rfl
  obtain ⟨x, H4, A31, gx, K4, E4, o4, D4⟩ := A30.newO (wd_36 G) (wd_37 G) (wd_38 G) (by decide +kernel) (by decide) (by decide)
  have A32 := A31.run [(196, .dup, 197, 0), (197, .aload 8, 199, 0), (199, .iload 9, 201, 0), (201, .iload 10, 203, 0)] (pe := 203) (by decide +kernel) rfl
  have S4 := S3.ky K4
  obtain ⟨_, HA33, qA33, A33, moA33, szA33⟩ := A32.callI (argsL := [.ref sh, .int port.toInt32, .int db.toInt32]) rfl (wd_39 G) (wd_40 G) (wd_38 G) (wd_41 G) (c_ruI G S4 hne hp1 hp2 hdb E4 (D4 (Or.inr (wd_55 G)) (t := .object "java/lang/String") (by decide)) (D4 (Or.inr (wd_57 G)) (t := .int) (by decide)) (D4 (Or.inr (wd_59 G)) (t := .int) (by decide)) o4) (by decide) ⟨_, _, (by decide +kernel : parseMethodDescriptor "(Ljava/lang/String;II)V" = some ⟨[(.object "java/lang/String"), .int, .int], none⟩), rfl⟩ (by decide +kernel) (Wd := 1) (by decide) (Nat.le_of_ble_eq_true rfl) (by decide) (by decide) (by decide)
  obtain ⟨rfl, K5, F5⟩ := qA33
  have S5 := S4.kyE K5 E4 (by decide) (wd_37 G)
  obtain ⟨_, HA34, qA34, A34, moA34, szA34⟩ := A33.callV (argsL := []) (wd_60 G) (wd_61 G) (wd_63 G) rfl (wd_63 G) (wd_62 G) (wd_38 G) (wd_64 G) F5.1 (c_rts G F5 S5 hla hok hl hp2 hdb) (by decide) ⟨_, _, (by decide +kernel : parseMethodDescriptor "()Ljava/lang/String;" = some ⟨[], some (.object "java/lang/String")⟩), rfl⟩ (by decide +kernel) (Wd := 0) (by decide) (Nat.le_of_ble_eq_true rfl) (by decide) (by decide) (by decide)
  obtain ⟨u, rfl, gu, K6, U⟩ := qA34
  have A35 := A34.run [(209, .astore 16, 211, 0), (211, .aload 16, 213, 0)] (pe := 213) (by decide +kernel) rfl
  have A36 := A35.nullF (o := 13) (by decide +kernel)
  have A37 := A36.run [(216, .aload 16, 218, 0)] (pe := 218) (by decide +kernel) rfl
  obtain ⟨_, HA38, qA38, A38, moA38, szA38⟩ := A37.callV (argsL := []) (wd_229 G) (wd_134 G) (wd_136 G) rfl (wd_136 G) (wd_135 G) (wd_3 G) (wd_137 G) U.1 (c_sLen G U) (by decide) ⟨_, _, (by decide +kernel : parseMethodDescriptor "()I" = some ⟨[], some .int⟩), rfl⟩ (by decide +kernel) (Wd := 0) (by decide) (Nat.le_of_ble_eq_true rfl) (by decide) (by decide) (by decide)
  obtain ⟨rfl, rfl⟩ := qA38
  have A39 := A38.run [(221, .iload 15, 223, 0)] (pe := 223) (by decide +kernel) rfl
  have A40 := A39.icT (cd := .eq) (o := 5) (by decide +kernel) htt.symm (pe := 228) (by decide)
  have lh : Lat (hx hs) := by
    rcases he11 with ⟨rfl, h⟩ | ⟨rfl, h⟩
    · rw [hx, if_pos h]
      exact fun c hc => by
        rcases List.mem_append.mp hc with hc | hc
        · rcases List.mem_append.mp hc with hc | hc
          · cases List.mem_singleton.mp hc; decide
          · exact hla c hc
        · cases List.mem_singleton.mp hc; decide
    · rw [hx, if_neg h]; exact hla
  have lapp : ∀ {a b : List Int32}, Lat a → Lat b → Lat (a ++ b) := fun ha hb c hc => (List.mem_append.mp hc).elim (ha c) (hb c)
  have hlu : Lat (full hs port db) := lapp (lapp (lapp (lapp (lapp (by decide) lh) (by decide)) (dgs_ok port).1) (by decide)) (dgs_ok db).1
  have hassoc : full hs port db = pre8 ++ (hx hs ++ ([58] ++ dgs port ++ [47] ++ dgs db)) := by simp [full, List.append_assoc]
  have hassoc2 : full hs port db = pre8 ++ hx hs ++ ([58] ++ dgs port ++ [47] ++ dgs db) := by simp [full, List.append_assoc]
  have A41 := l_pre G (by rw [← hassoc]; exact U) (by rw [← hassoc]; exact hlu) (A40.more (by decide) (by decide))
  obtain ⟨A42⟩ : Nonempty (PLift (Wk l Z a0 EL0 "com/example/bell_counter/bellcounter/redis/RedisUrlToStringPinLaw" code maxLocals "law" ret room_1 D 452 [.val (.int i0), .val (.int i1), .val (.int i2), .val (.int i3), .val (.int e4), .val (.int c0), .val (.int c1), .val (.ref ca), .val (.ref sh), .val (.int port.toInt32), .val (.int db.toInt32), .val (.int e11), .val (.int hs.length.toInt32), .val (.int (dgs port).length.toInt32), .val (.int (dgs db).length.toInt32), .val (.int tt), .val (.ref u), .val (.int 1), .val (.int (8 + (hx hs).length).toInt32)] [] HA34 46 1400)) := by
    rw [hassoc2] at U hlu
    rcases he11 with ⟨rfl, h⟩ | ⟨rfl, h⟩
    · rw [hx, if_pos h] at U hlu ⊢
      rcases hhs with ⟨rfl, rfl⟩ | ⟨rfl, rfl⟩
      · exact ⟨⟨l_m01 G U hlu A41⟩⟩
      · exact ⟨⟨l_m11 G U hlu A41⟩⟩
    · rw [hx, if_neg h] at U hlu ⊢
      rcases hhs with ⟨rfl, rfl⟩ | ⟨rfl, rfl⟩
      · exact ⟨⟨l_m00 G U hlu A41⟩⟩
      · exact ⟨⟨l_m10 G U hlu A41⟩⟩
  have A42 := A42.down
  have hx4 : (hx hs).length ≤ 4 := by
    unfold hx; split
    · simp; omega
    · omega
  obtain ⟨H9, kk, nn, R1, R2, R3⟩ := l_end G hp2 hdb hx4 U hlu A42
  exact ⟨_, _, _, _, R1, rfl, R2, R3⟩
end LawF

set_option maxRecDepth 65536 in
theorem comes_1 {Post : Tables → Env → Array Value → State → Outcome → State → Prop} (hpost : ∀ tb e args s v u, (limb_1_1.after args s (.returned v) u = true ∧ limb_1_2.after args s (.returned v) u = true) → ReturnedEndW s (.returned v) u (Jvm.fieldLocs frame_1_writes args s ++ Jvm.arrayLocs frame_1_arrays args s ++ Jvm.staticLocs frame_1_statics s) 48 5504 → Post tb e args s (.returned v) u) :
    ArmFor flags0 classFile x code maxLocals ret World_1 tables_1 room_1 Calls_1 rest_1 Pre_1 Post := by
  intro l hfl _ _ p e ha hc hk s m args below hf hA hF happ hP
  obtain ⟨hcalls, hrest, hpre⟩ := hP
  obtain ⟨-, -, -, hnamed, -, -, -, hat⟩ := (Spec.applies_iff hf).mp happ
  obtain ⟨hg, hn⟩ := and_e (Cond.before_iff.mp (show (Jvm.Cond.and given_1 narrow_1).before args s = true from hpre))
  obtain ⟨h1, g0⟩ := and_e hg
  obtain ⟨f0, g1⟩ := and_e g0
  obtain ⟨f1, g2⟩ := and_e g1
  obtain ⟨f2, g3⟩ := and_e g2
  have f3 := g3
  obtain ⟨w0, w1, w2, w3, rfl⟩ : ∃ w0 w1 w2 w3 : Value, args = #[w0, w1, w2, w3] := by
    have hs : args.size = 4 := by simpa [Cond.value, given_1] using h1
    obtain ⟨L⟩ := args
    match L, hs with
    | [w0, w1, w2, w3], _ => exact ⟨w0, w1, w2, w3, rfl⟩
  have hw := fun d (hd : d ∈ tables_1) => atoms_spec (ws := Jvm.Cond.code x code maxLocals ret :: tables_1) hat d (List.mem_cons_of_mem _ hd)
  obtain ⟨hsets, hown0⟩ := atoms_of _ (rest_1_c_eq ▸ (show rest_1_c.before _ s = true from hrest))
  have hfit : Fit s := fun {y c} hc i hi => by
    obtain ⟨ha, rfl⟩ := Array.getElem?_eq_some_iff.mp hc
    have q := List.all_eq_true.mp ((Array.all_eq_true_iff_forall_mem.mp hF) _ (Array.getElem_mem ha)) i (List.mem_range.mpr hi)
    simpa [Array.getElem?_eq_getElem hi] using q
  obtain ⟨i0, e0⟩ := is_v f0
  obtain rfl : w0 = .int i0 := Option.some.inj e0
  obtain ⟨i1, e1⟩ := is_v f1
  obtain rfl : w1 = .int i1 := Option.some.inj e1
  obtain ⟨i2, e2⟩ := is_v f2
  obtain rfl : w2 = .int i2 := Option.some.inj e2
  obtain ⟨i3, e3⟩ := is_v f3
  obtain rfl : w3 = .int i3 := Option.some.inj e3
  have G : Glb s #[.int i0, .int i1, .int i2, .int i3] := ⟨hw, hsets, hfit, hn⟩
  have G_cw : Jvm.Lit.compactW.before _ s = true := (G.2.1 _ (List.mem_of_getElem? (i := 2) rfl))
  have G_wa := (wd_19 G)
  have G_wi := (wd_2 G)
  obtain ⟨n, o, h1, h2, h3, v, L, O, rfl, hv, -, -, N, hq⟩ := c_law (l := l) (H := (s.heap, fun _ => False)) G i0 i1 i2 i3 p e ha hc hk s m _ below hf ((Spec.applies_iff_loose hf).mp happ).1 ⟨rfl, State.Warmed39.refl s, rfl, ⟨ext_refl _, fun _ q => q.elim, CHv.start (G_EL G) (fun p hp => hcalls.1 p hp) G_cw G_wa G_wi, fun _ _ q => q.elim⟩⟩ trivial
  subst hv
  refine ⟨n, _, h1, h2, h3, hpost _ _ _ _ _ _ ⟨Cond.after_iff.mpr rfl, Cond.after_iff.mpr (eq_i res_at (Term.int_eval (1)) rfl)⟩ ⟨hq.1, hq.2.1, hq.2.2.1, (hq.2.2.2.sift fun y hy => Or.inr (N y hy)).mono (by decide) (by decide)⟩⟩
theorem main_1_1 : Claimed_1_1 := comes_1 fun _ _ _ _ _ _ h hF => ⟨h.1, hF⟩
theorem main_1_2 : Claimed_1_2 := comes_1 fun _ _ _ _ _ _ h hF => ⟨h.2, hF⟩
end Jvm.Pilot.@@N@@
namespace Jvm.Pilot.@@N@@
open Jvm Jvm.ClassFile Sem Op Lib Jvm.Free Jvm.Stand Jvm.Pilot.@@N@@.Jvm.D
/-! MADE BY PROGRAM (witnessworld.py) out of the Statement's table words and the real class files: 29 classes; the members and pool entries that the words name. The judged class is class 1, her method 1. -/
namespace start1
open Jvm.ClassFile
def u (s : String) : CpInfo := .utf8 (stringToUtf16 s)
/-- a pool by its gaps: so many unusable entries, then the entry; so many at the end -/
def gap : Nat → List CpInfo → List CpInfo
  | 0, r => r
  | n + 1, r => .unusable :: gap n r
def poolList (es : List (Nat × CpInfo)) (last : Nat) : List CpInfo := es.foldr (fun e r => gap e.1 (e.2 :: r)) (gap last [])
def pool (es : List (Nat × CpInfo)) (last : Nat) : Array CpInfo := ⟨poolList es last⟩
def fileOf (pool : Array CpInfo) (this : Nat) (attrs : Array Attribute := #[]) (ms : Array MethodInfo := #[]) (fl : Nat := 33) (sup : Nat := 0) (ifs : Array Nat := #[]) (fds : Array FieldInfo := #[]) : ClassFile where
  minorVersion := 0
  majorVersion := 65
  constantPool := pool
  accessFlags := fl
  thisClass := this
  superClass := sup
  interfaces := ifs
  fields := fds
  methods := ms
  attributes := attrs
def plain (name : String) (sup : Option ClassId) : Class where
  name := name
  kind := .ordinary
  loader := none
  accessFlags := 33
  super := sup
  interfaces := #[]
  cf := none
  fields := #[]
  methods := #[]
  instanceTypes := #[]
  staticTypes := #[]
  resolved := #[]
  callSites := []
  init := .initialized
  statics := none
  mirror := none

def pool0 : Array CpInfo := pool [(5, u "<init>"), (0, u "()V"), (1, .class_ 10), (1, u "java/lang/Object"), (85, u "clone"), (0, u "()Ljava/lang/Object;")] 26

def k0c0 : Code := { maxStack := 0, maxLocals := 1, code := object_method_1_code, exceptionTable := #[], attributes := #[] }
def k0m0 : Method := { name := "<init>", desc := "()V", sig := { parameters := [], returnType := none }, accessFlags := 1, code := some k0c0 }
def k0m1 : Method := { name := "clone", desc := "()Ljava/lang/Object;", sig := { parameters := [], returnType := some (.object "java/lang/Object") }, accessFlags := 260, code := none }
/-- java/lang/Object -/
def k0 : Class := { plain "java/lang/Object" none with
  accessFlags := 33
  interfaces := #[]
  cf := some (fileOf pool0 8 #[] #[{ accessFlags := 1, nameIndex := 5, descriptorIndex := 6, attributes := #[] }, { accessFlags := 260, nameIndex := 96, descriptorIndex := 97, attributes := #[] }] 33 0 #[] #[])
  fields := #[]
  methods := #[k0m0, k0m1]
  instanceTypes := #[]
  staticTypes := #[]
  resolved := Array.replicate 124 none
  statics := none }

def pool1 : Array CpInfo := pool [(2, .class_ 4), (1, u "java/lang/Object"), (0, u "<init>"), (0, u "()V"), (0, .class_ 8), (0, u "java/lang/String"), (0, .methodref 7 10), (0, .nameAndType 5 11), (0, u "([C)V"), (0, .integer 2147483647), (0, .integer 65535), (0, .methodref 15 16), (0, .class_ 17), (0, .nameAndType 18 19), (0, u "com/example/bell_counter/bellcounter/redis/RedisUrlToStringPinLaw"), (0, u "numLen"), (0, u "(I)I"), (0, .class_ 21), (0, u "com/example/bell_counter/bellcounter/redis/RedisUrl"), (0, .methodref 20 23), (0, .nameAndType 5 24), (0, u "(Ljava/lang/String;II)V"), (0, .methodref 20 26), (0, .nameAndType 27 28), (0, u "toString"), (0, u "()Ljava/lang/String;"), (0, .methodref 7 30), (0, .nameAndType 31 32), (0, u "length"), (0, u "()I"), (0, .methodref 7 34), (0, .nameAndType 35 36), (0, u "charAt"), (0, u "(I)C"), (0, .methodref 15 38), (0, .nameAndType 39 40), (0, u "checkNum"), (0, u "(Ljava/lang/String;III)Z"), (0, .integer 100000), (0, .integer 1000000), (0, .integer 10000000), (0, .integer 100000000), (0, .integer 1000000000), (0, .methodref 15 47), (0, .nameAndType 48 19), (0, u "pow10"), (0, .methodref 15 50), (0, .nameAndType 51 52), (0, u "digitOk"), (0, u "(Ljava/lang/String;IIII)Z"), (2, u "law"), (0, u "(IIII)Z")] 5

def k1m0 : Method := { name := "<init>", desc := "()V", sig := { parameters := [], returnType := none }, accessFlags := 1, code := none }
def k1c1 : Code := { maxStack := 5, maxLocals := 19, code := code, exceptionTable := #[], attributes := #[] }
def k1m1 : Method := { name := "law", desc := "(IIII)Z", sig := { parameters := [.int, .int, .int, .int], returnType := some .boolean }, accessFlags := 9, code := some k1c1 }
def k1c2 : Code := { maxStack := 2, maxLocals := 1, code := method_3_code, exceptionTable := #[], attributes := #[] }
def k1m2 : Method := { name := "numLen", desc := "(I)I", sig := { parameters := [.int], returnType := some .int }, accessFlags := 10, code := some k1c2 }
def k1c3 : Code := { maxStack := 2, maxLocals := 1, code := method_4_code, exceptionTable := #[], attributes := #[] }
def k1m3 : Method := { name := "pow10", desc := "(I)I", sig := { parameters := [.int], returnType := some .int }, accessFlags := 10, code := some k1c3 }
def k1c4 : Code := { maxStack := 4, maxLocals := 5, code := method_5_code, exceptionTable := #[], attributes := #[] }
def k1m4 : Method := { name := "digitOk", desc := "(Ljava/lang/String;IIII)Z", sig := { parameters := [(.object "java/lang/String"), .int, .int, .int, .int], returnType := some .boolean }, accessFlags := 10, code := some k1c4 }
def k1c5 : Code := { maxStack := 5, maxLocals := 4, code := method_6_code, exceptionTable := #[], attributes := #[] }
def k1m5 : Method := { name := "checkNum", desc := "(Ljava/lang/String;III)Z", sig := { parameters := [(.object "java/lang/String"), .int, .int, .int], returnType := some .boolean }, accessFlags := 10, code := some k1c5 }
/-- com/example/bell_counter/bellcounter/redis/RedisUrlToStringPinLaw -/
def k1 : Class := { plain "com/example/bell_counter/bellcounter/redis/RedisUrlToStringPinLaw" (some 0) with
  accessFlags := 49
  interfaces := #[]
  cf := some (fileOf pool1 15 #[] #[{ accessFlags := 1, nameIndex := 5, descriptorIndex := 6, attributes := #[] }, { accessFlags := 9, nameIndex := 55, descriptorIndex := 56, attributes := #[] }, { accessFlags := 10, nameIndex := 18, descriptorIndex := 19, attributes := #[] }, { accessFlags := 10, nameIndex := 48, descriptorIndex := 19, attributes := #[] }, { accessFlags := 10, nameIndex := 51, descriptorIndex := 52, attributes := #[] }, { accessFlags := 10, nameIndex := 39, descriptorIndex := 40, attributes := #[] }] 49 2 #[] #[])
  fields := #[]
  methods := #[k1m0, k1m1, k1m2, k1m3, k1m4, k1m5]
  instanceTypes := #[]
  staticTypes := #[]
  resolved := Array.replicate 62 none
  statics := none }

def pool2 : Array CpInfo := pool [(1, .class_ 2), (0, u "java/io/Serializable"), (0, .class_ 4), (0, u "java/lang/Object")] 2

/-- java/io/Serializable -/
def k2 : Class := { plain "java/io/Serializable" (some 0) with
  accessFlags := 1537
  interfaces := #[]
  cf := some (fileOf pool2 1 #[] #[] 1537 3 #[] #[])
  fields := #[]
  methods := #[]
  instanceTypes := #[]
  staticTypes := #[]
  resolved := Array.replicate 7 none
  statics := none }

def pool3 : Array CpInfo := pool [(1, .class_ 2), (0, u "java/lang/Comparable"), (0, .class_ 4), (0, u "java/lang/Object")] 7

/-- java/lang/Comparable -/
def k3 : Class := { plain "java/lang/Comparable" (some 0) with
  accessFlags := 1537
  interfaces := #[]
  cf := some (fileOf pool3 1 #[] #[] 1537 3 #[] #[])
  fields := #[]
  methods := #[]
  instanceTypes := #[]
  staticTypes := #[]
  resolved := Array.replicate 12 none
  statics := none }

def pool4 : Array CpInfo := pool [(2, .class_ 4), (1, u "java/lang/CharSequence"), (42, .class_ 48), (0, u "java/lang/CharSequence$1CodePointIterator"), (10, .class_ 60), (0, u "java/lang/CharSequence$1CharIterator"), (5, .class_ 67), (0, u "java/lang/Object"), (10, u "toString"), (0, u "()Ljava/lang/String;")] 51

def k4m0 : Method := { name := "toString", desc := "()Ljava/lang/String;", sig := { parameters := [], returnType := some (.object "java/lang/String") }, accessFlags := 1025, code := none }
/-- java/lang/CharSequence -/
def k4 : Class := { plain "java/lang/CharSequence" (some 0) with
  accessFlags := 1537
  interfaces := #[]
  cf := some (fileOf pool4 2 #[.nestMembers #[47, 59]] #[{ accessFlags := 1025, nameIndex := 78, descriptorIndex := 79, attributes := #[] }] 1537 66 #[] #[])
  fields := #[]
  methods := #[k4m0]
  instanceTypes := #[]
  staticTypes := #[]
  resolved := Array.replicate 131 none
  statics := none }

def pool5 : Array CpInfo := pool [(1, .class_ 2), (0, u "java/lang/constant/Constable"), (0, .class_ 4), (0, u "java/lang/Object")] 6

/-- java/lang/constant/Constable -/
def k5 : Class := { plain "java/lang/constant/Constable" (some 0) with
  accessFlags := 1537
  interfaces := #[]
  cf := some (fileOf pool5 1 #[] #[] 1537 3 #[] #[])
  fields := #[]
  methods := #[]
  instanceTypes := #[]
  staticTypes := #[]
  resolved := Array.replicate 11 none
  statics := none }

def pool6 : Array CpInfo := pool [(1, .class_ 2), (0, u "java/lang/constant/ConstantDesc"), (0, .class_ 4), (0, u "java/lang/Object")] 32

/-- java/lang/constant/ConstantDesc -/
def k6 : Class := { plain "java/lang/constant/ConstantDesc" (some 0) with
  accessFlags := 1537
  interfaces := #[]
  cf := some (fileOf pool6 1 #[] #[] 1537 3 #[] #[])
  fields := #[]
  methods := #[]
  instanceTypes := #[]
  staticTypes := #[]
  resolved := Array.replicate 37 none
  statics := none }

def pool7 : Array CpInfo := pool [(1, .methodref 2 3), (0, .class_ 4), (0, .nameAndType 5 6), (0, u "java/lang/Object"), (0, u "<init>"), (0, u "()V"), (2, .fieldref 10 11), (0, .class_ 12), (0, .nameAndType 13 14), (0, u "java/lang/String"), (0, u "value"), (0, u "[B"), (0, .fieldref 10 16), (0, .nameAndType 17 18), (0, u "coder"), (0, u "B"), (2, u "hash"), (0, u "I"), (2, u "hashIsZero"), (0, u "Z"), (0, .methodref 10 28), (0, .nameAndType 5 29), (0, u "([CIILjava/lang/Void;)V"), (8, .fieldref 10 39), (0, .nameAndType 40 26), (0, u "COMPACT_STRINGS"), (1, .class_ 44), (1, u "java/lang/StringUTF16"), (0, u "compress"), (1, .methodref 42 48), (0, .nameAndType 49 50), (0, u "coderFromArrayLen"), (0, u "([BI)B"), (3, .methodref 55 56), (0, .class_ 57), (0, .nameAndType 58 59), (0, u "java/util/Arrays"), (0, u "copyOfRange"), (0, u "([BII)[B"), (47, .class_ 109), (1, u "java/lang/StringLatin1"), (32, u "()Z"), (34, .methodref 42 178), (0, .nameAndType 45 179), (0, u "([CII)[B"), (13, .class_ 195), (1, u "java/lang/System"), (16, .methodref 193 213), (0, .nameAndType 214 215), (0, u "arraycopy"), (0, u "(Ljava/lang/Object;ILjava/lang/Object;II)V"), (118, u "()I"), (0, .methodref 10 336), (0, .nameAndType 17 337), (0, u "()B"), (2, u "()[B"), (22, u "([BI)C"), (27, u "(II)V"), (35, u "(I)C"), (34, .nameAndType 463 464), (0, u "toString"), (0, u "()Ljava/lang/String;"), (24, .methodref 10 490), (0, .nameAndType 5 491), (0, u "(Ljava/lang/AbstractStringBuilder;Ljava/lang/Void;)V"), (0, .methodref 10 493), (0, .nameAndType 494 142), (0, u "isLatin1"), (0, .methodref 107 496), (0, .nameAndType 497 363), (0, u "charAt"), (3, u "checkIndex"), (4, .nameAndType 507 334), (0, u "length"), (24, u "getBytes"), (15, u "(Ljava/lang/CharSequence;)Z"), (0, .methodref 550 506), (0, .class_ 551), (0, u "java/lang/AbstractStringBuilder"), (0, .methodref 550 553), (0, .nameAndType 554 340), (0, u "getValue"), (20, .class_ 576), (0, u "java/lang/CharSequence"), (12, u "([B[B)I"), (9, u "CASE_INSENSITIVE_ORDER"), (0, u "Ljava/util/Comparator;"), (34, u "indexOf"), (11, .methodref 107 648), (0, .nameAndType 635 589), (43, u "isEmpty"), (17, .interfaceMethodref 575 462), (0, .methodref 10 712), (0, .nameAndType 635 713), (0, u "(Ljava/lang/String;)I"), (107, u "([BIB)V"), (188, u "([C)V"), (36, .methodref 550 493), (5, .fieldref 1054 1055), (0, .class_ 1056), (0, .nameAndType 1057 1058), (0, u "jdk/internal/util/Preconditions"), (0, u "SIOOBE_FORMATTER"), (0, u "Ljava/util/function/BiFunction;"), (0, .methodref 1054 1060), (0, .nameAndType 501 1061), (0, u "(IILjava/util/function/BiFunction;)I"), (39, u "serialPersistentFields"), (0, u "[Ljava/io/ObjectStreamField;"), (0, .class_ 1104), (0, u "java/lang/String$CaseInsensitiveComparator"), (1, .class_ 1107), (0, u "java/io/Serializable"), (0, .class_ 1109), (0, u "java/lang/Comparable"), (0, .class_ 1111), (0, u "java/lang/constant/Constable"), (0, .class_ 1113), (0, u "java/lang/constant/ConstantDesc"), (2, u "serialVersionUID"), (0, u "J"), (3, u "REPL"), (0, u "C"), (2, u "LATIN1"), (1, u "UTF16"), (105, u "(Ljava/lang/StringBuilder;)V"), (57, u "contains")] 159

def k7m0 : Method := { name := "<init>", desc := "()V", sig := { parameters := [], returnType := none }, accessFlags := 1, code := none }
def k7c1 : Code := { maxStack := 5, maxLocals := 2, code := jdk_42_method_3_code, exceptionTable := #[], attributes := #[] }
def k7m1 : Method := { name := "<init>", desc := "([C)V", sig := { parameters := [(.array .char)], returnType := none }, accessFlags := 1, code := some k7c1 }
def k7c2 : Code := { maxStack := 3, maxLocals := 2, code := jdk_42_method_53_code, exceptionTable := #[], attributes := #[] }
def k7m2 : Method := { name := "<init>", desc := "(Ljava/lang/StringBuilder;)V", sig := { parameters := [(.object "java/lang/StringBuilder")], returnType := none }, accessFlags := 1, code := some k7c2 }
def k7c3 : Code := { maxStack := 2, maxLocals := 1, code := jdk_42_method_54_code, exceptionTable := #[], attributes := #[] }
def k7m3 : Method := { name := "length", desc := "()I", sig := { parameters := [], returnType := some .int }, accessFlags := 1, code := some k7c3 }
def k7c4 : Code := { maxStack := 1, maxLocals := 1, code := jdk_42_method_55_code, exceptionTable := #[], attributes := #[] }
def k7m4 : Method := { name := "isEmpty", desc := "()Z", sig := { parameters := [], returnType := some .boolean }, accessFlags := 1, code := some k7c4 }
def k7c5 : Code := { maxStack := 2, maxLocals := 2, code := jdk_42_method_56_code, exceptionTable := #[], attributes := #[] }
def k7m5 : Method := { name := "charAt", desc := "(I)C", sig := { parameters := [.int], returnType := some .char }, accessFlags := 1, code := some k7c5 }
def k7c6 : Code := { maxStack := 2, maxLocals := 3, code := jdk_42_method_84_code, exceptionTable := #[], attributes := #[] }
def k7m6 : Method := { name := "indexOf", desc := "(Ljava/lang/String;)I", sig := { parameters := [(.object "java/lang/String")], returnType := some .int }, accessFlags := 1, code := some k7c6 }
def k7c7 : Code := { maxStack := 2, maxLocals := 2, code := jdk_42_method_97_code, exceptionTable := #[], attributes := #[] }
def k7m7 : Method := { name := "contains", desc := "(Ljava/lang/CharSequence;)Z", sig := { parameters := [(.object "java/lang/CharSequence")], returnType := some .boolean }, accessFlags := 1, code := some k7c7 }
def k7c8 : Code := { maxStack := 1, maxLocals := 1, code := jdk_42_method_126_code, exceptionTable := #[], attributes := #[] }
def k7m8 : Method := { name := "toString", desc := "()Ljava/lang/String;", sig := { parameters := [], returnType := some (.object "java/lang/String") }, accessFlags := 1, code := some k7c8 }
def k7c9 : Code := { maxStack := 5, maxLocals := 4, code := jdk_42_method_147_code, exceptionTable := #[], attributes := #[] }
def k7m9 : Method := { name := "getBytes", desc := "([BIB)V", sig := { parameters := [(.array .byte), .int, .byte], returnType := none }, accessFlags := 0, code := some k7c9 }
def k7c10 : Code := { maxStack := 4, maxLocals := 6, code := jdk_42_method_149_code, exceptionTable := #[], attributes := #[] }
def k7m10 : Method := { name := "<init>", desc := "([CIILjava/lang/Void;)V", sig := { parameters := [(.array .char), .int, .int, (.object "java/lang/Void")], returnType := none }, accessFlags := 2, code := some k7c10 }
def k7c11 : Code := { maxStack := 5, maxLocals := 5, code := jdk_42_method_150_code, exceptionTable := #[], attributes := #[] }
def k7m11 : Method := { name := "<init>", desc := "(Ljava/lang/AbstractStringBuilder;Ljava/lang/Void;)V", sig := { parameters := [(.object "java/lang/AbstractStringBuilder"), (.object "java/lang/Void")], returnType := none }, accessFlags := 0, code := some k7c11 }
def k7c12 : Code := { maxStack := 1, maxLocals := 1, code := jdk_42_method_152_code, exceptionTable := #[], attributes := #[] }
def k7m12 : Method := { name := "coder", desc := "()B", sig := { parameters := [], returnType := some .byte }, accessFlags := 0, code := some k7c12 }
def k7c13 : Code := { maxStack := 1, maxLocals := 1, code := jdk_42_method_154_code, exceptionTable := #[], attributes := #[] }
def k7m13 : Method := { name := "isLatin1", desc := "()Z", sig := { parameters := [], returnType := some .boolean }, accessFlags := 0, code := some k7c13 }
def k7c14 : Code := { maxStack := 3, maxLocals := 2, code := jdk_42_method_155_code, exceptionTable := #[], attributes := #[] }
def k7m14 : Method := { name := "checkIndex", desc := "(II)V", sig := { parameters := [.int, .int], returnType := none }, accessFlags := 8, code := some k7c14 }
/-- java/lang/String -/
def k7 : Class := { plain "java/lang/String" (some 0) with
  accessFlags := 49
  interfaces := #[2, 3, 4, 5, 6]
  cf := some (fileOf pool7 10 #[.nestMembers #[1103]] #[{ accessFlags := 1, nameIndex := 5, descriptorIndex := 6, attributes := #[] }, { accessFlags := 1, nameIndex := 5, descriptorIndex := 1010, attributes := #[] }, { accessFlags := 1, nameIndex := 5, descriptorIndex := 1233, attributes := #[] }, { accessFlags := 1, nameIndex := 507, descriptorIndex := 334, attributes := #[] }, { accessFlags := 1, nameIndex := 692, descriptorIndex := 142, attributes := #[] }, { accessFlags := 1, nameIndex := 497, descriptorIndex := 427, attributes := #[] }, { accessFlags := 1, nameIndex := 635, descriptorIndex := 713, attributes := #[] }, { accessFlags := 1, nameIndex := 1291, descriptorIndex := 548, attributes := #[] }, { accessFlags := 1, nameIndex := 463, descriptorIndex := 464, attributes := #[] }, { accessFlags := 0, nameIndex := 532, descriptorIndex := 821, attributes := #[] }, { accessFlags := 2, nameIndex := 5, descriptorIndex := 29, attributes := #[] }, { accessFlags := 0, nameIndex := 5, descriptorIndex := 491, attributes := #[] }, { accessFlags := 0, nameIndex := 17, descriptorIndex := 337, attributes := #[] }, { accessFlags := 0, nameIndex := 494, descriptorIndex := 142, attributes := #[] }, { accessFlags := 8, nameIndex := 501, descriptorIndex := 391, attributes := #[] }] 49 2 #[1106, 1108, 575, 1110, 1112] #[{ accessFlags := 18, nameIndex := 13, descriptorIndex := 14, attributes := #[] }, { accessFlags := 18, nameIndex := 17, descriptorIndex := 18, attributes := #[] }, { accessFlags := 2, nameIndex := 21, descriptorIndex := 22, attributes := #[] }, { accessFlags := 2, nameIndex := 25, descriptorIndex := 26, attributes := #[] }, { accessFlags := 26, nameIndex := 1116, descriptorIndex := 1117, attributes := #[] }, { accessFlags := 24, nameIndex := 40, descriptorIndex := 26, attributes := #[] }, { accessFlags := 26, nameIndex := 1101, descriptorIndex := 1102, attributes := #[] }, { accessFlags := 26, nameIndex := 1121, descriptorIndex := 1122, attributes := #[] }, { accessFlags := 25, nameIndex := 599, descriptorIndex := 600, attributes := #[] }, { accessFlags := 24, nameIndex := 1125, descriptorIndex := 18, attributes := #[] }, { accessFlags := 24, nameIndex := 1127, descriptorIndex := 18, attributes := #[] }])
  fields := #[{ name := "value", type := (.array .byte), accessFlags := 18, slot := 0, constantValue := 0 }, { name := "coder", type := .byte, accessFlags := 18, slot := 1, constantValue := 0 }, { name := "hash", type := .int, accessFlags := 2, slot := 2, constantValue := 0 }, { name := "hashIsZero", type := .boolean, accessFlags := 2, slot := 3, constantValue := 0 }, { name := "serialVersionUID", type := .long, accessFlags := 26, slot := 0, constantValue := 0 }, { name := "COMPACT_STRINGS", type := .boolean, accessFlags := 24, slot := 1, constantValue := 0 }, { name := "serialPersistentFields", type := (.array (.object "java/io/ObjectStreamField")), accessFlags := 26, slot := 2, constantValue := 0 }, { name := "REPL", type := .char, accessFlags := 26, slot := 3, constantValue := 0 }, { name := "CASE_INSENSITIVE_ORDER", type := (.object "java/util/Comparator"), accessFlags := 25, slot := 4, constantValue := 0 }, { name := "LATIN1", type := .byte, accessFlags := 24, slot := 5, constantValue := 0 }, { name := "UTF16", type := .byte, accessFlags := 24, slot := 6, constantValue := 0 }]
  methods := #[k7m0, k7m1, k7m2, k7m3, k7m4, k7m5, k7m6, k7m7, k7m8, k7m9, k7m10, k7m11, k7m12, k7m13, k7m14]
  instanceTypes := #[(.array .byte), .byte, .int, .boolean]
  staticTypes := #[.long, .boolean, (.array (.object "java/io/ObjectStreamField")), .char, (.object "java/util/Comparator"), .byte, .byte]
  resolved := Array.replicate 1451 none
  statics := some 0 }

def pool8 : Array CpInfo := pool [(6, .class_ 8), (1, u "java/lang/Object"), (0, u "<init>"), (0, u "()V"), (1, .class_ 14), (1, u "java/lang/StringUTF16"), (31, u "$assertionsDisabled"), (0, u "Z"), (13, u "HI_BYTE_SHIFT"), (0, u "I"), (2, u "LO_BYTE_SHIFT"), (49, .methodref 12 116), (0, .nameAndType 117 118), (0, u "compress"), (0, u "([CI[BII)I"), (3, u "([CII)[B"), (138, u "coderFromArrayLen"), (0, u "([BI)B"), (106, .class_ 371), (1, u "java/lang/StringUTF16$LinesSpliterator"), (58, u "MAX_LENGTH"), (196, .class_ 628), (0, u "java/lang/StringUTF16$CodePointsSpliterator"), (0, .class_ 630), (0, u "java/lang/StringUTF16$CharsSpliterator")] 4

def k8m0 : Method := { name := "<init>", desc := "()V", sig := { parameters := [], returnType := none }, accessFlags := 0, code := none }
def k8c1 : Code := { maxStack := 2, maxLocals := 2, code := jdk_52_method_15_code, exceptionTable := #[], attributes := #[] }
def k8m1 : Method := { name := "coderFromArrayLen", desc := "([BI)B", sig := { parameters := [(.array .byte), .int], returnType := some .byte }, accessFlags := 8, code := some k8c1 }
def k8c2 : Code := { maxStack := 5, maxLocals := 6, code := jdk_52_method_16_code, exceptionTable := #[], attributes := #[] }
def k8m2 : Method := { name := "compress", desc := "([CII)[B", sig := { parameters := [(.array .char), .int, .int], returnType := some (.array .byte) }, accessFlags := 9, code := some k8c2 }
def k8c3 : Code := { maxStack := 3, maxLocals := 7, code := jdk_52_method_21_code, exceptionTable := #[], attributes := #[] }
def k8m3 : Method := { name := "compress", desc := "([CI[BII)I", sig := { parameters := [(.array .char), .int, (.array .byte), .int, .int], returnType := some .int }, accessFlags := 9, code := some k8c3 }
/-- java/lang/StringUTF16 -/
def k8 : Class := { plain "java/lang/StringUTF16" (some 0) with
  accessFlags := 48
  interfaces := #[]
  cf := some (fileOf pool8 12 #[.nestMembers #[627, 629, 369]] #[{ accessFlags := 0, nameIndex := 9, descriptorIndex := 10, attributes := #[] }, { accessFlags := 8, nameIndex := 261, descriptorIndex := 262, attributes := #[] }, { accessFlags := 9, nameIndex := 117, descriptorIndex := 122, attributes := #[] }, { accessFlags := 9, nameIndex := 117, descriptorIndex := 118, attributes := #[] }] 48 6 #[] #[{ accessFlags := 26, nameIndex := 61, descriptorIndex := 62, attributes := #[] }, { accessFlags := 26, nameIndex := 65, descriptorIndex := 62, attributes := #[] }, { accessFlags := 24, nameIndex := 430, descriptorIndex := 62, attributes := #[] }, { accessFlags := 4120, nameIndex := 46, descriptorIndex := 47, attributes := #[] }])
  fields := #[{ name := "HI_BYTE_SHIFT", type := .int, accessFlags := 26, slot := 0, constantValue := 0 }, { name := "LO_BYTE_SHIFT", type := .int, accessFlags := 26, slot := 1, constantValue := 0 }, { name := "MAX_LENGTH", type := .int, accessFlags := 24, slot := 2, constantValue := 0 }, { name := "$assertionsDisabled", type := .boolean, accessFlags := 4120, slot := 3, constantValue := 0 }]
  methods := #[k8m0, k8m1, k8m2, k8m3]
  instanceTypes := #[]
  staticTypes := #[.int, .int, .int, .boolean]
  resolved := Array.replicate 635 none
  statics := none }

def pool9 : Array CpInfo := pool [(1, .methodref 2 3), (0, .class_ 4), (0, .nameAndType 5 6), (0, u "java/lang/Object"), (0, u "<init>"), (0, u "()V"), (0, .class_ 8), (0, u "java/lang/Record")] 13

def k9c0 : Code := { maxStack := 1, maxLocals := 1, code := jdk_30_method_1_code, exceptionTable := #[], attributes := #[] }
def k9m0 : Method := { name := "<init>", desc := "()V", sig := { parameters := [], returnType := none }, accessFlags := 4, code := some k9c0 }
/-- java/lang/Record -/
def k9 : Class := { plain "java/lang/Record" (some 0) with
  accessFlags := 1057
  interfaces := #[]
  cf := some (fileOf pool9 7 #[] #[{ accessFlags := 4, nameIndex := 5, descriptorIndex := 6, attributes := #[] }] 1057 2 #[] #[])
  fields := #[]
  methods := #[k9m0]
  instanceTypes := #[]
  staticTypes := #[]
  resolved := Array.replicate 22 none
  statics := none }

def pool10 : Array CpInfo := pool [(1, .methodref 2 3), (0, .class_ 4), (0, .nameAndType 5 6), (0, u "java/lang/Record"), (0, u "<init>"), (0, u "()V"), (0, .methodref 8 9), (0, .class_ 10), (0, .nameAndType 11 12), (0, u "java/lang/String"), (0, u "isEmpty"), (0, u "()Z"), (2, .class_ 16), (0, u "com/example/bell_counter/bellcounter/redis/RedisUrl"), (5, .integer 65535), (0, .class_ 24), (0, u "java/lang/StringBuilder"), (0, .methodref 23 3), (2, .methodref 23 29), (0, .nameAndType 30 31), (0, u "append"), (0, u "(Ljava/lang/String;)Ljava/lang/StringBuilder;"), (0, .methodref 23 33), (0, .nameAndType 30 34), (0, u "(I)Ljava/lang/StringBuilder;"), (0, .methodref 23 36), (0, .nameAndType 37 38), (0, u "toString"), (0, u "()Ljava/lang/String;"), (2, .fieldref 15 42), (0, .nameAndType 43 44), (0, u "host"), (0, u "Ljava/lang/String;"), (0, .fieldref 15 46), (0, .nameAndType 47 48), (0, u "port"), (0, u "I"), (0, .fieldref 15 50), (0, .nameAndType 51 48), (0, u "database"), (27, .methodref 8 80), (0, .nameAndType 81 82), (0, u "contains"), (0, u "(Ljava/lang/CharSequence;)Z"), (32, .string 116), (0, u "["), (3, .string 121), (0, u "]"), (10, .string 133), (0, u "/"), (7, u "(Ljava/lang/String;II)V"), (3, .string 146), (0, u ":"), (0, .string 148), (0, u "redis://"), (23, u "DEFAULT_PORT"), (2, u "FORM"), (2, u "NO_HOST")] 28

def k10c0 : Code := { maxStack := 4, maxLocals := 4, code := prog_17_method_1_code, exceptionTable := #[], attributes := #[] }
def k10m0 : Method := { name := "<init>", desc := "(Ljava/lang/String;II)V", sig := { parameters := [(.object "java/lang/String"), .int, .int], returnType := none }, accessFlags := 1, code := some k10c0 }
def k10c1 : Code := { maxStack := 2, maxLocals := 2, code := prog_17_method_3_code, exceptionTable := #[], attributes := #[] }
def k10m1 : Method := { name := "toString", desc := "()Ljava/lang/String;", sig := { parameters := [], returnType := some (.object "java/lang/String") }, accessFlags := 1, code := some k10c1 }
/-- com/example/bell_counter/bellcounter/redis/RedisUrl -/
def k10 : Class := { plain "com/example/bell_counter/bellcounter/redis/RedisUrl" (some 9) with
  accessFlags := 49
  interfaces := #[]
  cf := some (fileOf pool10 15 #[] #[{ accessFlags := 1, nameIndex := 5, descriptorIndex := 141, attributes := #[] }, { accessFlags := 1, nameIndex := 37, descriptorIndex := 38, attributes := #[] }] 49 2 #[] #[{ accessFlags := 18, nameIndex := 43, descriptorIndex := 44, attributes := #[] }, { accessFlags := 18, nameIndex := 47, descriptorIndex := 48, attributes := #[] }, { accessFlags := 18, nameIndex := 51, descriptorIndex := 48, attributes := #[] }, { accessFlags := 25, nameIndex := 172, descriptorIndex := 48, attributes := #[] }, { accessFlags := 26, nameIndex := 175, descriptorIndex := 44, attributes := #[] }, { accessFlags := 26, nameIndex := 178, descriptorIndex := 44, attributes := #[] }])
  fields := #[{ name := "host", type := (.object "java/lang/String"), accessFlags := 18, slot := 0, constantValue := 0 }, { name := "port", type := .int, accessFlags := 18, slot := 1, constantValue := 0 }, { name := "database", type := .int, accessFlags := 18, slot := 2, constantValue := 0 }, { name := "DEFAULT_PORT", type := .int, accessFlags := 25, slot := 0, constantValue := 0 }, { name := "FORM", type := (.object "java/lang/String"), accessFlags := 26, slot := 1, constantValue := 0 }, { name := "NO_HOST", type := (.object "java/lang/String"), accessFlags := 26, slot := 2, constantValue := 0 }]
  methods := #[k10m0, k10m1]
  instanceTypes := #[(.object "java/lang/String"), .int, .int]
  staticTypes := #[.int, (.object "java/lang/String"), (.object "java/lang/String")]
  resolved := Array.replicate 207 none
  statics := none }

def pool11 : Array CpInfo := pool [(1, .class_ 2), (0, u "java/lang/String"), (1, .class_ 6), (1, u "java/lang/Object"), (0, u "<init>"), (0, u "()V"), (0, .methodref 1 10), (0, .nameAndType 11 12), (0, u "checkIndex"), (0, u "(II)V"), (1, .class_ 16), (1, u "java/lang/StringLatin1"), (36, u "([BI)C"), (45, .methodref 14 100), (0, .nameAndType 101 102), (0, u "indexOf"), (0, u "([BI[BII)I"), (18, u "$assertionsDisabled"), (0, u "Z"), (98, .class_ 223), (1, u "java/lang/StringLatin1$LinesSpliterator"), (28, u "charAt"), (34, u "([B[B)I"), (102, .class_ 391), (0, u "java/lang/StringLatin1$CharsSpliterator")] 3

def k11m0 : Method := { name := "<init>", desc := "()V", sig := { parameters := [], returnType := none }, accessFlags := 0, code := none }
def k11c1 : Code := { maxStack := 2, maxLocals := 2, code := jdk_43_method_2_code, exceptionTable := #[], attributes := #[] }
def k11m1 : Method := { name := "charAt", desc := "([BI)C", sig := { parameters := [(.array .byte), .int], returnType := some .char }, accessFlags := 9, code := some k11c1 }
def k11c2 : Code := { maxStack := 5, maxLocals := 2, code := jdk_43_method_24_code, exceptionTable := #[], attributes := #[] }
def k11m2 : Method := { name := "indexOf", desc := "([B[B)I", sig := { parameters := [(.array .byte), (.array .byte)], returnType := some .int }, accessFlags := 9, code := some k11c2 }
def k11c3 : Code := { maxStack := 3, maxLocals := 11, code := jdk_43_method_25_code, exceptionTable := #[], attributes := #[] }
def k11m3 : Method := { name := "indexOf", desc := "([BI[BII)I", sig := { parameters := [(.array .byte), .int, (.array .byte), .int, .int], returnType := some .int }, accessFlags := 9, code := some k11c3 }
/-- java/lang/StringLatin1 -/
def k11 : Class := { plain "java/lang/StringLatin1" (some 0) with
  accessFlags := 48
  interfaces := #[]
  cf := some (fileOf pool11 14 #[.nestMembers #[390, 221]] #[{ accessFlags := 0, nameIndex := 7, descriptorIndex := 8, attributes := #[] }, { accessFlags := 9, nameIndex := 252, descriptorIndex := 53, attributes := #[] }, { accessFlags := 9, nameIndex := 101, descriptorIndex := 287, attributes := #[] }, { accessFlags := 9, nameIndex := 101, descriptorIndex := 102, attributes := #[] }] 48 4 #[] #[{ accessFlags := 4120, nameIndex := 121, descriptorIndex := 122, attributes := #[] }])
  fields := #[{ name := "$assertionsDisabled", type := .boolean, accessFlags := 4120, slot := 0, constantValue := 0 }]
  methods := #[k11m0, k11m1, k11m2, k11m3]
  instanceTypes := #[]
  staticTypes := #[.boolean]
  resolved := Array.replicate 395 none
  statics := none }

def pool12 : Array CpInfo := pool [(1, .class_ 2), (0, u "java/lang/Appendable"), (0, .class_ 4), (0, u "java/lang/Object")] 9

/-- java/lang/Appendable -/
def k12 : Class := { plain "java/lang/Appendable" (some 0) with
  accessFlags := 1537
  interfaces := #[]
  cf := some (fileOf pool12 1 #[] #[] 1537 3 #[] #[])
  fields := #[]
  methods := #[]
  instanceTypes := #[]
  staticTypes := #[]
  resolved := Array.replicate 14 none
  statics := none }

def pool13 : Array CpInfo := pool [(1, .class_ 2), (0, u "java/lang/String"), (0, .methodref 4 5), (0, .class_ 6), (0, .nameAndType 7 8), (0, u "java/lang/Object"), (0, u "<init>"), (0, u "()V"), (1, .class_ 12), (1, u "java/lang/AbstractStringBuilder"), (0, u "EMPTYVALUE"), (0, u "[B"), (0, .fieldref 10 16), (0, .nameAndType 17 14), (0, u "value"), (0, .fieldref 1 19), (0, .nameAndType 20 21), (0, u "COMPACT_STRINGS"), (0, u "Z"), (0, .fieldref 10 23), (0, .nameAndType 24 25), (0, u "coder"), (0, u "B"), (6, .methodref 1 33), (0, .nameAndType 34 35), (0, u "length"), (0, u "()I"), (0, .class_ 37), (0, u "java/lang/Integer"), (1, .integer 2147483647), (0, .methodref 1 41), (0, .nameAndType 24 42), (0, u "()B"), (2, u "append"), (0, u "(Ljava/lang/String;)Ljava/lang/AbstractStringBuilder;"), (1, .class_ 49), (0, u "java/lang/CharSequence"), (19, u "(Ljava/lang/String;)V"), (5, u "maybeLatin1"), (3, .fieldref 10 80), (0, .nameAndType 81 82), (0, u "count"), (0, u "I"), (0, .methodref 10 84), (0, .nameAndType 85 86), (0, u "isLatin1"), (0, u "()Z"), (13, .methodref 10 101), (0, .nameAndType 102 103), (0, u "ensureCapacityInternal"), (0, u "(I)V"), (0, .methodref 10 105), (0, .nameAndType 106 107), (0, u "newCapacity"), (0, u "(I)I"), (0, .methodref 109 110), (0, .class_ 111), (0, .nameAndType 112 113), (0, u "java/util/Arrays"), (0, u "copyOf"), (0, u "([BI)[B"), (0, .methodref 115 116), (0, .class_ 117), (0, .nameAndType 118 119), (0, u "jdk/internal/util/ArraysSupport"), (0, u "newLength"), (0, u "(III)I"), (68, u "getChars"), (19, .methodref 10 209), (0, .nameAndType 210 211), (0, u "putStringAt"), (0, u "(ILjava/lang/String;)V"), (5, u "inflateIfNeededFor"), (2, .nameAndType 221 222), (0, u "getBytes"), (0, u "([BIB)V"), (22, .methodref 36 246), (0, .nameAndType 247 107), (0, u "stringSize"), (0, .methodref 36 249), (0, .nameAndType 188 250), (0, u "(II[B)I"), (146, .methodref 10 398), (0, .nameAndType 217 69), (0, .methodref 1 220), (3, u "()[B"), (40, .class_ 445), (0, u "java/lang/Appendable"), (65, u "(I)Ljava/lang/AbstractStringBuilder;"), (40, u "getValue")] 56

def k13m0 : Method := { name := "<init>", desc := "()V", sig := { parameters := [], returnType := none }, accessFlags := 0, code := none }
def k13c1 : Code := { maxStack := 2, maxLocals := 2, code := jdk_68_method_2_code, exceptionTable := #[], attributes := #[] }
def k13m1 : Method := { name := "<init>", desc := "(I)V", sig := { parameters := [.int], returnType := none }, accessFlags := 0, code := some k13c1 }
def k13c2 : Code := { maxStack := 1, maxLocals := 1, code := jdk_68_method_6_code, exceptionTable := #[], attributes := #[] }
def k13m2 : Method := { name := "length", desc := "()I", sig := { parameters := [], returnType := some .int }, accessFlags := 1, code := some k13c2 }
def k13c3 : Code := { maxStack := 4, maxLocals := 3, code := jdk_68_method_9_code, exceptionTable := #[], attributes := #[] }
def k13m3 : Method := { name := "ensureCapacityInternal", desc := "(I)V", sig := { parameters := [.int], returnType := none }, accessFlags := 2, code := some k13c3 }
def k13c4 : Code := { maxStack := 5, maxLocals := 6, code := jdk_68_method_10_code, exceptionTable := #[], attributes := #[] }
def k13m4 : Method := { name := "newCapacity", desc := "(I)I", sig := { parameters := [.int], returnType := some .int }, accessFlags := 2, code := some k13c4 }
def k13c5 : Code := { maxStack := 3, maxLocals := 3, code := jdk_68_method_22_code, exceptionTable := #[], attributes := #[] }
def k13m5 : Method := { name := "append", desc := "(Ljava/lang/String;)Ljava/lang/AbstractStringBuilder;", sig := { parameters := [(.object "java/lang/String")], returnType := some (.object "java/lang/AbstractStringBuilder") }, accessFlags := 1, code := some k13c5 }
def k13c6 : Code := { maxStack := 4, maxLocals := 4, code := jdk_68_method_32_code, exceptionTable := #[], attributes := #[] }
def k13m6 : Method := { name := "append", desc := "(I)Ljava/lang/AbstractStringBuilder;", sig := { parameters := [.int], returnType := some (.object "java/lang/AbstractStringBuilder") }, accessFlags := 1, code := some k13c6 }
def k13c7 : Code := { maxStack := 1, maxLocals := 1, code := jdk_68_method_64_code, exceptionTable := #[], attributes := #[] }
def k13m7 : Method := { name := "getValue", desc := "()[B", sig := { parameters := [], returnType := some (.array .byte) }, accessFlags := 16, code := some k13c7 }
def k13c8 : Code := { maxStack := 1, maxLocals := 1, code := jdk_68_method_68_code, exceptionTable := #[], attributes := #[] }
def k13m8 : Method := { name := "isLatin1", desc := "()Z", sig := { parameters := [], returnType := some .boolean }, accessFlags := 16, code := some k13c8 }
def k13c9 : Code := { maxStack := 2, maxLocals := 2, code := jdk_68_method_71_code, exceptionTable := #[], attributes := #[] }
def k13m9 : Method := { name := "inflateIfNeededFor", desc := "(Ljava/lang/String;)V", sig := { parameters := [(.object "java/lang/String")], returnType := none }, accessFlags := 2, code := some k13c9 }
def k13c10 : Code := { maxStack := 4, maxLocals := 3, code := jdk_68_method_73_code, exceptionTable := #[], attributes := #[] }
def k13m10 : Method := { name := "putStringAt", desc := "(ILjava/lang/String;)V", sig := { parameters := [.int, (.object "java/lang/String")], returnType := none }, accessFlags := 2, code := some k13c10 }
/-- java/lang/AbstractStringBuilder -/
def k13 : Class := { plain "java/lang/AbstractStringBuilder" (some 0) with
  accessFlags := 1056
  interfaces := #[12, 4]
  cf := some (fileOf pool13 10 #[] #[{ accessFlags := 0, nameIndex := 7, descriptorIndex := 8, attributes := #[] }, { accessFlags := 0, nameIndex := 7, descriptorIndex := 103, attributes := #[] }, { accessFlags := 1, nameIndex := 34, descriptorIndex := 35, attributes := #[] }, { accessFlags := 2, nameIndex := 102, descriptorIndex := 103, attributes := #[] }, { accessFlags := 2, nameIndex := 106, descriptorIndex := 107, attributes := #[] }, { accessFlags := 1, nameIndex := 45, descriptorIndex := 46, attributes := #[] }, { accessFlags := 1, nameIndex := 45, descriptorIndex := 511, attributes := #[] }, { accessFlags := 16, nameIndex := 552, descriptorIndex := 403, attributes := #[] }, { accessFlags := 16, nameIndex := 85, descriptorIndex := 86, attributes := #[] }, { accessFlags := 2, nameIndex := 217, descriptorIndex := 69, attributes := #[] }, { accessFlags := 2, nameIndex := 210, descriptorIndex := 211, attributes := #[] }] 1056 4 #[444, 48] #[{ accessFlags := 0, nameIndex := 17, descriptorIndex := 14, attributes := #[] }, { accessFlags := 0, nameIndex := 24, descriptorIndex := 25, attributes := #[] }, { accessFlags := 0, nameIndex := 75, descriptorIndex := 21, attributes := #[] }, { accessFlags := 0, nameIndex := 81, descriptorIndex := 82, attributes := #[] }, { accessFlags := 26, nameIndex := 13, descriptorIndex := 14, attributes := #[] }])
  fields := #[{ name := "value", type := (.array .byte), accessFlags := 0, slot := 0, constantValue := 0 }, { name := "coder", type := .byte, accessFlags := 0, slot := 1, constantValue := 0 }, { name := "maybeLatin1", type := .boolean, accessFlags := 0, slot := 2, constantValue := 0 }, { name := "count", type := .int, accessFlags := 0, slot := 3, constantValue := 0 }, { name := "EMPTYVALUE", type := (.array .byte), accessFlags := 26, slot := 0, constantValue := 0 }]
  methods := #[k13m0, k13m1, k13m2, k13m3, k13m4, k13m5, k13m6, k13m7, k13m8, k13m9, k13m10]
  instanceTypes := #[(.array .byte), .byte, .boolean, .int]
  staticTypes := #[(.array .byte)]
  resolved := Array.replicate 609 none
  statics := none }

def pool14 : Array CpInfo := pool [(1, .methodref 2 3), (0, .class_ 4), (0, .nameAndType 5 6), (0, u "java/lang/AbstractStringBuilder"), (0, u "<init>"), (0, u "(I)V"), (11, .class_ 20), (1, u "java/lang/String"), (3, .class_ 26), (1, u "java/lang/StringBuilder"), (0, u "append"), (0, u "(Ljava/lang/String;)Ljava/lang/StringBuilder;"), (0, .methodref 2 30), (0, .nameAndType 27 31), (0, u "(Ljava/lang/String;)Ljava/lang/AbstractStringBuilder;"), (21, .methodref 2 54), (0, .nameAndType 27 55), (0, u "(I)Ljava/lang/AbstractStringBuilder;"), (81, .methodref 18 138), (0, .nameAndType 5 139), (0, u "(Ljava/lang/StringBuilder;)V"), (5, u "()V"), (10, u "()I"), (111, u "(I)Ljava/lang/StringBuilder;"), (74, .methodref 2 344), (0, .nameAndType 345 156), (0, u "length"), (3, .class_ 350), (0, u "java/lang/Appendable"), (0, .class_ 352), (0, u "java/io/Serializable"), (0, .class_ 354), (0, u "java/lang/Comparable"), (0, .class_ 356), (0, u "java/lang/CharSequence"), (0, u "serialVersionUID"), (0, u "J"), (40, u "toString"), (0, u "()Ljava/lang/String;")] 21

def k14c0 : Code := { maxStack := 2, maxLocals := 1, code := jdk_67_method_1_code, exceptionTable := #[], attributes := #[] }
def k14m0 : Method := { name := "<init>", desc := "()V", sig := { parameters := [], returnType := none }, accessFlags := 1, code := some k14c0 }
def k14c1 : Code := { maxStack := 2, maxLocals := 2, code := jdk_67_method_7_code, exceptionTable := #[], attributes := #[] }
def k14m1 : Method := { name := "append", desc := "(Ljava/lang/String;)Ljava/lang/StringBuilder;", sig := { parameters := [(.object "java/lang/String")], returnType := some (.object "java/lang/StringBuilder") }, accessFlags := 1, code := some k14c1 }
def k14c2 : Code := { maxStack := 2, maxLocals := 2, code := jdk_67_method_15_code, exceptionTable := #[], attributes := #[] }
def k14m2 : Method := { name := "append", desc := "(I)Ljava/lang/StringBuilder;", sig := { parameters := [.int], returnType := some (.object "java/lang/StringBuilder") }, accessFlags := 1, code := some k14c2 }
def k14c3 : Code := { maxStack := 3, maxLocals := 1, code := jdk_67_method_42_code, exceptionTable := #[], attributes := #[] }
def k14m3 : Method := { name := "toString", desc := "()Ljava/lang/String;", sig := { parameters := [], returnType := some (.object "java/lang/String") }, accessFlags := 1, code := some k14c3 }
def k14c4 : Code := { maxStack := 1, maxLocals := 1, code := jdk_67_method_93_code, exceptionTable := #[], attributes := #[] }
def k14m4 : Method := { name := "length", desc := "()I", sig := { parameters := [], returnType := some .int }, accessFlags := 4161, code := some k14c4 }
/-- java/lang/StringBuilder -/
def k14 : Class := { plain "java/lang/StringBuilder" (some 13) with
  accessFlags := 49
  interfaces := #[12, 2, 3, 4]
  cf := some (fileOf pool14 24 #[] #[{ accessFlags := 1, nameIndex := 5, descriptorIndex := 145, attributes := #[] }, { accessFlags := 1, nameIndex := 27, descriptorIndex := 28, attributes := #[] }, { accessFlags := 1, nameIndex := 27, descriptorIndex := 268, attributes := #[] }, { accessFlags := 1, nameIndex := 399, descriptorIndex := 400, attributes := #[] }, { accessFlags := 4161, nameIndex := 345, descriptorIndex := 156, attributes := #[] }] 49 2 #[349, 351, 353, 355] #[{ accessFlags := 24, nameIndex := 357, descriptorIndex := 358, attributes := #[] }])
  fields := #[{ name := "serialVersionUID", type := .long, accessFlags := 24, slot := 0, constantValue := 0 }]
  methods := #[k14m0, k14m1, k14m2, k14m3, k14m4]
  instanceTypes := #[(.array .byte), .byte, .boolean, .int]
  staticTypes := #[.long]
  resolved := Array.replicate 422 none
  statics := none }

def pool15 : Array CpInfo := pool [(2, .class_ 4), (1, u "java/lang/Object"), (0, u "<init>"), (0, u "()V"), (1, .class_ 10), (1, u "java/lang/System"), (0, u "allowSecurityManager"), (0, u "I"), (16, u "cons"), (0, u "Ljava/io/Console;"), (77, .class_ 110), (1, u "java/lang/System$CallersHolder"), (43, u "initialErrStream"), (0, u "Ljava/io/PrintStream;"), (19, u "security"), (0, u "Ljava/lang/SecurityManager;"), (31, .class_ 209), (0, u "java/lang/System$1"), (7, u "props"), (0, u "Ljava/util/Properties;"), (2, u "lineSeparator"), (0, u "Ljava/lang/String;"), (96, .class_ 321), (1, u "java/lang/System$LoggerFinder"), (5, .class_ 328), (0, u "java/lang/System$Logger"), (67, u "err"), (2, u "out"), (91, u "notSupportedJnuEncoding"), (15, u "in"), (17, u "initialIn"), (0, u "Ljava/io/InputStream;"), (35, u "bootLayer"), (0, u "Ljava/lang/ModuleLayer;"), (99, .class_ 664), (0, u "java/lang/System$2"), (9, u "NEVER"), (2, u "MAYBE"), (49, u "arraycopy"), (0, u "(Ljava/lang/Object;ILjava/lang/Object;II)V"), (72, .class_ 802), (0, u "java/lang/System$Logger$Level")] 31

def k15m0 : Method := { name := "<init>", desc := "()V", sig := { parameters := [], returnType := none }, accessFlags := 2, code := none }
def k15m1 : Method := { name := "arraycopy", desc := "(Ljava/lang/Object;ILjava/lang/Object;II)V", sig := { parameters := [(.object "java/lang/Object"), .int, (.object "java/lang/Object"), .int, .int], returnType := none }, accessFlags := 265, code := none }
/-- java/lang/System -/
def k15 : Class := { plain "java/lang/System" (some 0) with
  accessFlags := 49
  interfaces := #[]
  cf := some (fileOf pool15 8 #[.nestMembers #[319, 327, 801, 108, 663, 208]] #[{ accessFlags := 2, nameIndex := 5, descriptorIndex := 6, attributes := #[] }, { accessFlags := 265, nameIndex := 727, descriptorIndex := 728, attributes := #[] }] 49 2 #[] #[{ accessFlags := 25, nameIndex := 507, descriptorIndex := 526, attributes := #[] }, { accessFlags := 25, nameIndex := 399, descriptorIndex := 155, attributes := #[] }, { accessFlags := 25, nameIndex := 396, descriptorIndex := 155, attributes := #[] }, { accessFlags := 10, nameIndex := 525, descriptorIndex := 526, attributes := #[] }, { accessFlags := 26, nameIndex := 674, descriptorIndex := 12, attributes := #[] }, { accessFlags := 26, nameIndex := 677, descriptorIndex := 12, attributes := #[] }, { accessFlags := 10, nameIndex := 11, descriptorIndex := 12, attributes := #[] }, { accessFlags := 74, nameIndex := 175, descriptorIndex := 176, attributes := #[] }, { accessFlags := 10, nameIndex := 491, descriptorIndex := 222, attributes := #[] }, { accessFlags := 74, nameIndex := 29, descriptorIndex := 30, attributes := #[] }, { accessFlags := 74, nameIndex := 154, descriptorIndex := 155, attributes := #[] }, { accessFlags := 10, nameIndex := 217, descriptorIndex := 218, attributes := #[] }, { accessFlags := 10, nameIndex := 221, descriptorIndex := 222, attributes := #[] }, { accessFlags := 8, nameIndex := 562, descriptorIndex := 563, attributes := #[] }])
  fields := #[{ name := "in", type := (.object "java/io/InputStream"), accessFlags := 25, slot := 0, constantValue := 0 }, { name := "out", type := (.object "java/io/PrintStream"), accessFlags := 25, slot := 1, constantValue := 0 }, { name := "err", type := (.object "java/io/PrintStream"), accessFlags := 25, slot := 2, constantValue := 0 }, { name := "initialIn", type := (.object "java/io/InputStream"), accessFlags := 10, slot := 3, constantValue := 0 }, { name := "NEVER", type := .int, accessFlags := 26, slot := 4, constantValue := 0 }, { name := "MAYBE", type := .int, accessFlags := 26, slot := 5, constantValue := 0 }, { name := "allowSecurityManager", type := .int, accessFlags := 10, slot := 6, constantValue := 0 }, { name := "security", type := (.object "java/lang/SecurityManager"), accessFlags := 74, slot := 7, constantValue := 0 }, { name := "notSupportedJnuEncoding", type := (.object "java/lang/String"), accessFlags := 10, slot := 8, constantValue := 0 }, { name := "cons", type := (.object "java/io/Console"), accessFlags := 74, slot := 9, constantValue := 0 }, { name := "initialErrStream", type := (.object "java/io/PrintStream"), accessFlags := 74, slot := 10, constantValue := 0 }, { name := "props", type := (.object "java/util/Properties"), accessFlags := 10, slot := 11, constantValue := 0 }, { name := "lineSeparator", type := (.object "java/lang/String"), accessFlags := 10, slot := 12, constantValue := 0 }, { name := "bootLayer", type := (.object "java/lang/ModuleLayer"), accessFlags := 8, slot := 13, constantValue := 0 }]
  methods := #[k15m0, k15m1]
  instanceTypes := #[]
  staticTypes := #[(.object "java/io/InputStream"), (.object "java/io/PrintStream"), (.object "java/io/PrintStream"), (.object "java/io/InputStream"), .int, .int, .int, (.object "java/lang/SecurityManager"), (.object "java/lang/String"), (.object "java/io/Console"), (.object "java/io/PrintStream"), (.object "java/util/Properties"), (.object "java/lang/String"), (.object "java/lang/ModuleLayer")]
  resolved := Array.replicate 834 none
  statics := none }

def pool16 : Array CpInfo := pool [(2, .class_ 4), (1, u "java/lang/Object"), (0, u "<init>"), (0, u "()V"), (1, .class_ 10), (1, u "java/lang/Number"), (2, .class_ 14), (0, u "java/io/Serializable"), (0, u "serialVersionUID"), (0, u "J")] 20

def k16m0 : Method := { name := "<init>", desc := "()V", sig := { parameters := [], returnType := none }, accessFlags := 1, code := none }
/-- java/lang/Number -/
def k16 : Class := { plain "java/lang/Number" (some 0) with
  accessFlags := 1057
  interfaces := #[2]
  cf := some (fileOf pool16 8 #[] #[{ accessFlags := 1, nameIndex := 5, descriptorIndex := 6, attributes := #[] }] 1057 2 #[13] #[{ accessFlags := 26, nameIndex := 15, descriptorIndex := 16, attributes := #[] }])
  fields := #[{ name := "serialVersionUID", type := .long, accessFlags := 26, slot := 0, constantValue := 0 }]
  methods := #[k16m0]
  instanceTypes := #[]
  staticTypes := #[.long]
  resolved := Array.replicate 37 none
  statics := none }

def pool17 : Array CpInfo := pool [(1, .class_ 2), (0, u "java/lang/Integer"), (16, u "digits"), (0, u "[C"), (33, u "(I)I"), (19, u "stringSize"), (2, u "getChars"), (0, u "(II[B)I"), (4, .fieldref 1 84), (0, .nameAndType 85 86), (0, u "DigitOnes"), (0, u "[B"), (0, .fieldref 1 88), (0, .nameAndType 89 86), (0, u "DigitTens"), (99, .class_ 190), (0, u "java/lang/Integer$IntegerCache"), (3, u "I"), (8, .class_ 204), (0, u "java/lang/Number"), (2, u "value"), (94, u "TYPE"), (0, u "Ljava/lang/Class;"), (0, .class_ 305), (0, u "java/lang/Comparable"), (0, .class_ 307), (0, u "java/lang/constant/Constable"), (0, .class_ 309), (0, u "java/lang/constant/ConstantDesc"), (0, u "MIN_VALUE"), (1, u "MAX_VALUE"), (3, u "SIZE"), (1, u "BYTES"), (1, u "serialVersionUID"), (0, u "J")] 131

def k17c0 : Code := { maxStack := 4, maxLocals := 7, code := jdk_33_method_12_code, exceptionTable := #[], attributes := #[] }
def k17m0 : Method := { name := "getChars", desc := "(II[B)I", sig := { parameters := [.int, .int, (.array .byte)], returnType := some .int }, accessFlags := 8, code := some k17c0 }
def k17c1 : Code := { maxStack := 2, maxLocals := 4, code := jdk_33_method_13_code, exceptionTable := #[], attributes := #[] }
def k17m1 : Method := { name := "stringSize", desc := "(I)I", sig := { parameters := [.int], returnType := some .int }, accessFlags := 8, code := some k17c1 }
/-- java/lang/Integer -/
def k17 : Class := { plain "java/lang/Integer" (some 16) with
  accessFlags := 49
  interfaces := #[3, 5, 6]
  cf := some (fileOf pool17 1 #[.nestMembers #[189]] #[{ accessFlags := 8, nameIndex := 77, descriptorIndex := 78, attributes := #[] }, { accessFlags := 8, nameIndex := 74, descriptorIndex := 54, attributes := #[] }] 49 203 #[304, 306, 308] #[{ accessFlags := 25, nameIndex := 310, descriptorIndex := 194, attributes := #[] }, { accessFlags := 25, nameIndex := 312, descriptorIndex := 194, attributes := #[] }, { accessFlags := 25, nameIndex := 302, descriptorIndex := 303, attributes := #[] }, { accessFlags := 24, nameIndex := 19, descriptorIndex := 20, attributes := #[] }, { accessFlags := 24, nameIndex := 89, descriptorIndex := 86, attributes := #[] }, { accessFlags := 24, nameIndex := 85, descriptorIndex := 86, attributes := #[] }, { accessFlags := 18, nameIndex := 207, descriptorIndex := 194, attributes := #[] }, { accessFlags := 25, nameIndex := 316, descriptorIndex := 194, attributes := #[] }, { accessFlags := 25, nameIndex := 318, descriptorIndex := 194, attributes := #[] }, { accessFlags := 26, nameIndex := 320, descriptorIndex := 321, attributes := #[] }])
  fields := #[{ name := "MIN_VALUE", type := .int, accessFlags := 25, slot := 0, constantValue := 0 }, { name := "MAX_VALUE", type := .int, accessFlags := 25, slot := 1, constantValue := 0 }, { name := "TYPE", type := (.object "java/lang/Class"), accessFlags := 25, slot := 2, constantValue := 0 }, { name := "digits", type := (.array .char), accessFlags := 24, slot := 3, constantValue := 0 }, { name := "DigitTens", type := (.array .byte), accessFlags := 24, slot := 4, constantValue := 0 }, { name := "DigitOnes", type := (.array .byte), accessFlags := 24, slot := 5, constantValue := 0 }, { name := "value", type := .int, accessFlags := 18, slot := 0, constantValue := 0 }, { name := "SIZE", type := .int, accessFlags := 25, slot := 6, constantValue := 0 }, { name := "BYTES", type := .int, accessFlags := 25, slot := 7, constantValue := 0 }, { name := "serialVersionUID", type := .long, accessFlags := 26, slot := 8, constantValue := 0 }]
  methods := #[k17m0, k17m1]
  instanceTypes := #[.int]
  staticTypes := #[.int, .int, (.object "java/lang/Class"), (.array .char), (.array .byte), (.array .byte), .int, .int, .long]
  resolved := Array.replicate 453 none
  statics := some 1 }

def pool18 : Array CpInfo := pool [(2, .class_ 4), (1, u "java/lang/Object"), (0, u "<init>"), (0, u "()V"), (7, .class_ 16), (1, u "java/util/Arrays"), (57, .class_ 76), (1, u "java/util/Arrays$NaturalOrder"), (32, u "()Ljava/lang/Object;"), (3, .class_ 115), (1, u "java/util/Arrays$LegacyMergeSort"), (1, u "Z"), (10, .nameAndType 129 109), (0, u "clone"), (9, u "copyOfRange"), (10, .methodref 151 152), (0, .class_ 153), (0, .nameAndType 154 155), (0, u "java/lang/System"), (0, u "arraycopy"), (0, u "(Ljava/lang/Object;ILjava/lang/Object;II)V"), (146, u "copyOf"), (1, .methodref 305 306), (0, .class_ 307), (0, .nameAndType 308 309), (0, u "java/lang/Math"), (0, u "min"), (0, u "(II)I"), (0, .methodref 311 128), (0, .class_ 312), (0, u "[B"), (26, .methodref 14 340), (0, .nameAndType 341 342), (0, u "copyOfRangeByte"), (0, u "([BII)[B"), (0, .methodref 14 344), (0, .nameAndType 345 346), (0, u "checkLength"), (0, u "(II)V"), (28, .class_ 376), (0, u "java/util/Arrays$ArrayList"), (68, u "$assertionsDisabled"), (269, u "MIN_ARRAY_SORT_GRAN"), (0, u "I"), (2, u "INSERTIONSORT_THRESHOLD"), (149, u "([BI)[B"), (105, .class_ 976), (0, u "java/util/Arrays$ArrayItr")] 52

def k18m0 : Method := { name := "<init>", desc := "()V", sig := { parameters := [], returnType := none }, accessFlags := 2, code := none }
def k18c1 : Code := { maxStack := 6, maxLocals := 3, code := jdk_65_method_121_code, exceptionTable := #[], attributes := #[] }
def k18m1 : Method := { name := "copyOf", desc := "([BI)[B", sig := { parameters := [(.array .byte), .int], returnType := some (.array .byte) }, accessFlags := 9, code := some k18c1 }
def k18c2 : Code := { maxStack := 4, maxLocals := 2, code := jdk_65_method_131_code, exceptionTable := #[], attributes := #[] }
def k18m2 : Method := { name := "checkLength", desc := "(II)V", sig := { parameters := [.int, .int], returnType := none }, accessFlags := 10, code := some k18c2 }
def k18c3 : Code := { maxStack := 3, maxLocals := 3, code := jdk_65_method_132_code, exceptionTable := #[], attributes := #[] }
def k18m3 : Method := { name := "copyOfRange", desc := "([BII)[B", sig := { parameters := [(.array .byte), .int, .int], returnType := some (.array .byte) }, accessFlags := 9, code := some k18c3 }
def k18c4 : Code := { maxStack := 6, maxLocals := 5, code := jdk_65_method_133_code, exceptionTable := #[], attributes := #[] }
def k18m4 : Method := { name := "copyOfRangeByte", desc := "([BII)[B", sig := { parameters := [(.array .byte), .int, .int], returnType := some (.array .byte) }, accessFlags := 10, code := some k18c4 }
/-- java/util/Arrays -/
def k18 : Class := { plain "java/util/Arrays" (some 0) with
  accessFlags := 49
  interfaces := #[]
  cf := some (fileOf pool18 14 #[.nestMembers #[975, 375, 113, 74]] #[{ accessFlags := 2, nameIndex := 5, descriptorIndex := 6, attributes := #[] }, { accessFlags := 9, nameIndex := 302, descriptorIndex := 869, attributes := #[] }, { accessFlags := 10, nameIndex := 345, descriptorIndex := 346, attributes := #[] }, { accessFlags := 9, nameIndex := 139, descriptorIndex := 342, attributes := #[] }, { accessFlags := 10, nameIndex := 341, descriptorIndex := 342, attributes := #[] }] 49 2 #[] #[{ accessFlags := 26, nameIndex := 715, descriptorIndex := 716, attributes := #[] }, { accessFlags := 26, nameIndex := 719, descriptorIndex := 716, attributes := #[] }, { accessFlags := 4120, nameIndex := 445, descriptorIndex := 117, attributes := #[] }])
  fields := #[{ name := "MIN_ARRAY_SORT_GRAN", type := .int, accessFlags := 26, slot := 0, constantValue := 0 }, { name := "INSERTIONSORT_THRESHOLD", type := .int, accessFlags := 26, slot := 1, constantValue := 0 }, { name := "$assertionsDisabled", type := .boolean, accessFlags := 4120, slot := 2, constantValue := 0 }]
  methods := #[k18m0, k18m1, k18m2, k18m3, k18m4]
  instanceTypes := #[]
  staticTypes := #[.int, .int, .boolean]
  resolved := Array.replicate 1029 none
  statics := none }

def pool19 : Array CpInfo := pool [(1, .class_ 2), (0, u "java/lang/Math"), (1, .class_ 6), (1, u "java/lang/Object"), (0, u "<init>"), (0, u "()V"), (89, .class_ 100), (1, u "java/lang/Math$RandomNumberGeneratorHolder"), (71, u "negativeZeroFloatBits"), (0, u "J"), (2, u "negativeZeroDoubleBits"), (21, u "max"), (2, u "min"), (43, u "$assertionsDisabled"), (0, u "Z"), (88, u "(II)I"), (2, u "twoToTheDoubleScaleDown"), (0, u "D"), (4, u "twoToTheDoubleScaleUp"), (9, u "E"), (3, u "PI"), (2, u "TAU"), (2, u "DEGREES_TO_RADIANS"), (0, u "RADIANS_TO_DEGREES")] 94

def k19m0 : Method := { name := "<init>", desc := "()V", sig := { parameters := [], returnType := none }, accessFlags := 2, code := none }
def k19c1 : Code := { maxStack := 2, maxLocals := 2, code := jdk_29_method_65_code, exceptionTable := #[], attributes := #[] }
def k19m1 : Method := { name := "max", desc := "(II)I", sig := { parameters := [.int, .int], returnType := some .int }, accessFlags := 9, code := some k19c1 }
def k19c2 : Code := { maxStack := 2, maxLocals := 2, code := jdk_29_method_69_code, exceptionTable := #[], attributes := #[] }
def k19m2 : Method := { name := "min", desc := "(II)I", sig := { parameters := [.int, .int], returnType := some .int }, accessFlags := 9, code := some k19c2 }
/-- java/lang/Math -/
def k19 : Class := { plain "java/lang/Math" (some 0) with
  accessFlags := 49
  interfaces := #[]
  cf := some (fileOf pool19 1 #[.nestMembers #[98]] #[{ accessFlags := 2, nameIndex := 7, descriptorIndex := 8, attributes := #[] }, { accessFlags := 9, nameIndex := 198, descriptorIndex := 335, attributes := #[] }, { accessFlags := 9, nameIndex := 201, descriptorIndex := 335, attributes := #[] }] 49 4 #[] #[{ accessFlags := 25, nameIndex := 354, descriptorIndex := 339, attributes := #[] }, { accessFlags := 25, nameIndex := 358, descriptorIndex := 339, attributes := #[] }, { accessFlags := 25, nameIndex := 361, descriptorIndex := 339, attributes := #[] }, { accessFlags := 26, nameIndex := 364, descriptorIndex := 339, attributes := #[] }, { accessFlags := 26, nameIndex := 365, descriptorIndex := 339, attributes := #[] }, { accessFlags := 26, nameIndex := 172, descriptorIndex := 173, attributes := #[] }, { accessFlags := 26, nameIndex := 176, descriptorIndex := 173, attributes := #[] }, { accessFlags := 8, nameIndex := 344, descriptorIndex := 339, attributes := #[] }, { accessFlags := 8, nameIndex := 338, descriptorIndex := 339, attributes := #[] }, { accessFlags := 4120, nameIndex := 245, descriptorIndex := 246, attributes := #[] }])
  fields := #[{ name := "E", type := .double, accessFlags := 25, slot := 0, constantValue := 0 }, { name := "PI", type := .double, accessFlags := 25, slot := 1, constantValue := 0 }, { name := "TAU", type := .double, accessFlags := 25, slot := 2, constantValue := 0 }, { name := "DEGREES_TO_RADIANS", type := .double, accessFlags := 26, slot := 3, constantValue := 0 }, { name := "RADIANS_TO_DEGREES", type := .double, accessFlags := 26, slot := 4, constantValue := 0 }, { name := "negativeZeroFloatBits", type := .long, accessFlags := 26, slot := 5, constantValue := 0 }, { name := "negativeZeroDoubleBits", type := .long, accessFlags := 26, slot := 6, constantValue := 0 }, { name := "twoToTheDoubleScaleUp", type := .double, accessFlags := 8, slot := 7, constantValue := 0 }, { name := "twoToTheDoubleScaleDown", type := .double, accessFlags := 8, slot := 8, constantValue := 0 }, { name := "$assertionsDisabled", type := .boolean, accessFlags := 4120, slot := 9, constantValue := 0 }]
  methods := #[k19m0, k19m1, k19m2]
  instanceTypes := #[]
  staticTypes := #[.double, .double, .double, .double, .double, .long, .long, .double, .double, .boolean]
  resolved := Array.replicate 460 none
  statics := none }

def pool20 : Array CpInfo := pool [(2, .class_ 4), (1, u "java/lang/Object"), (0, u "<init>"), (0, u "()V"), (17, .class_ 26), (1, u "jdk/internal/util/Preconditions"), (6, u "checkIndex"), (21, .class_ 56), (0, u "jdk/internal/util/Preconditions$4"), (57, .class_ 115), (0, u "jdk/internal/util/Preconditions$1"), (7, u "SIOOBE_FORMATTER"), (0, u "Ljava/util/function/BiFunction;"), (0, .class_ 126), (0, u "jdk/internal/util/Preconditions$2"), (3, u "AIOOBE_FORMATTER"), (0, .class_ 132), (0, u "jdk/internal/util/Preconditions$3"), (3, u "IOOBE_FORMATTER"), (41, u "(IILjava/util/function/BiFunction;)I")] 15

def k20m0 : Method := { name := "<init>", desc := "()V", sig := { parameters := [], returnType := none }, accessFlags := 1, code := none }
def k20c1 : Code := { maxStack := 3, maxLocals := 3, code := jdk_41_method_11_code, exceptionTable := #[], attributes := #[] }
def k20m1 : Method := { name := "checkIndex", desc := "(IILjava/util/function/BiFunction;)I", sig := { parameters := [.int, .int, (.object "java/util/function/BiFunction")], returnType := some .int }, accessFlags := 9, code := some k20c1 }
/-- jdk/internal/util/Preconditions -/
def k20 : Class := { plain "jdk/internal/util/Preconditions" (some 0) with
  accessFlags := 33
  interfaces := #[]
  cf := some (fileOf pool20 24 #[.nestMembers #[55, 131, 125, 114]] #[{ accessFlags := 1, nameIndex := 5, descriptorIndex := 6, attributes := #[] }, { accessFlags := 9, nameIndex := 33, descriptorIndex := 178, attributes := #[] }] 33 2 #[] #[{ accessFlags := 25, nameIndex := 123, descriptorIndex := 124, attributes := #[] }, { accessFlags := 25, nameIndex := 130, descriptorIndex := 124, attributes := #[] }, { accessFlags := 25, nameIndex := 136, descriptorIndex := 124, attributes := #[] }])
  fields := #[{ name := "SIOOBE_FORMATTER", type := (.object "java/util/function/BiFunction"), accessFlags := 25, slot := 0, constantValue := 0 }, { name := "AIOOBE_FORMATTER", type := (.object "java/util/function/BiFunction"), accessFlags := 25, slot := 1, constantValue := 0 }, { name := "IOOBE_FORMATTER", type := (.object "java/util/function/BiFunction"), accessFlags := 25, slot := 2, constantValue := 0 }]
  methods := #[k20m0, k20m1]
  instanceTypes := #[]
  staticTypes := #[(.object "java/util/function/BiFunction"), (.object "java/util/function/BiFunction"), (.object "java/util/function/BiFunction")]
  resolved := Array.replicate 194 none
  statics := some 2 }

def pool21 : Array CpInfo := pool [(9, u "<init>"), (6, .class_ 18), (1, u "java/lang/Object"), (0, u "()V"), (1, .class_ 23), (1, u "jdk/internal/util/ArraysSupport"), (0, u "LOG2_ARRAY_LONG_INDEX_SCALE"), (0, u "I"), (2, u "U"), (0, u "Ljdk/internal/misc/Unsafe;"), (8, u "BIG_ENDIAN"), (0, u "Z"), (8, u "LOG2_BYTE_BIT_SIZE"), (4, u "LOG2_ARRAY_INT_INDEX_SCALE"), (54, u "JLA"), (0, u "Ljdk/internal/access/JavaLangAccess;"), (11, u "LOG2_ARRAY_BOOLEAN_INDEX_SCALE"), (9, u "LOG2_ARRAY_BYTE_INDEX_SCALE"), (5, u "LOG2_ARRAY_CHAR_INDEX_SCALE"), (5, u "LOG2_ARRAY_SHORT_INDEX_SCALE"), (18, u "LOG2_ARRAY_FLOAT_INDEX_SCALE"), (24, u "LOG2_ARRAY_DOUBLE_INDEX_SCALE"), (6, .methodref 195 196), (0, .class_ 197), (0, .nameAndType 198 199), (0, u "java/lang/Math"), (0, u "max"), (0, u "(II)I"), (0, .integer 2147483639), (76, u "T_BOOLEAN"), (2, u "T_CHAR"), (1, u "T_FLOAT"), (1, u "T_DOUBLE"), (1, u "T_BYTE"), (1, u "T_SHORT"), (1, u "T_INT"), (1, u "T_LONG"), (1, u "SOFT_MAX_ARRAY_LENGTH"), (56, u "newLength"), (0, u "(III)I")] 25

def k21m0 : Method := { name := "<init>", desc := "()V", sig := { parameters := [], returnType := none }, accessFlags := 2, code := none }
def k21c1 : Code := { maxStack := 3, maxLocals := 4, code := jdk_48_method_27_code, exceptionTable := #[], attributes := #[] }
def k21m1 : Method := { name := "newLength", desc := "(III)I", sig := { parameters := [.int, .int, .int], returnType := some .int }, accessFlags := 9, code := some k21c1 }
/-- jdk/internal/util/ArraysSupport -/
def k21 : Class := { plain "jdk/internal/util/ArraysSupport" (some 0) with
  accessFlags := 33
  interfaces := #[]
  cf := some (fileOf pool21 21 #[] #[{ accessFlags := 2, nameIndex := 9, descriptorIndex := 19, attributes := #[] }, { accessFlags := 9, nameIndex := 351, descriptorIndex := 352, attributes := #[] }] 33 16 #[] #[{ accessFlags := 24, nameIndex := 28, descriptorIndex := 29, attributes := #[] }, { accessFlags := 26, nameIndex := 38, descriptorIndex := 39, attributes := #[] }, { accessFlags := 25, nameIndex := 121, descriptorIndex := 25, attributes := #[] }, { accessFlags := 25, nameIndex := 131, descriptorIndex := 25, attributes := #[] }, { accessFlags := 25, nameIndex := 137, descriptorIndex := 25, attributes := #[] }, { accessFlags := 25, nameIndex := 143, descriptorIndex := 25, attributes := #[] }, { accessFlags := 25, nameIndex := 53, descriptorIndex := 25, attributes := #[] }, { accessFlags := 25, nameIndex := 24, descriptorIndex := 25, attributes := #[] }, { accessFlags := 25, nameIndex := 162, descriptorIndex := 25, attributes := #[] }, { accessFlags := 25, nameIndex := 187, descriptorIndex := 25, attributes := #[] }, { accessFlags := 26, nameIndex := 48, descriptorIndex := 25, attributes := #[] }, { accessFlags := 25, nameIndex := 277, descriptorIndex := 25, attributes := #[] }, { accessFlags := 25, nameIndex := 280, descriptorIndex := 25, attributes := #[] }, { accessFlags := 25, nameIndex := 282, descriptorIndex := 25, attributes := #[] }, { accessFlags := 25, nameIndex := 284, descriptorIndex := 25, attributes := #[] }, { accessFlags := 25, nameIndex := 286, descriptorIndex := 25, attributes := #[] }, { accessFlags := 25, nameIndex := 288, descriptorIndex := 25, attributes := #[] }, { accessFlags := 25, nameIndex := 290, descriptorIndex := 25, attributes := #[] }, { accessFlags := 25, nameIndex := 292, descriptorIndex := 25, attributes := #[] }, { accessFlags := 26, nameIndex := 108, descriptorIndex := 109, attributes := #[] }, { accessFlags := 25, nameIndex := 294, descriptorIndex := 25, attributes := #[] }])
  fields := #[{ name := "U", type := (.object "jdk/internal/misc/Unsafe"), accessFlags := 24, slot := 0, constantValue := 0 }, { name := "BIG_ENDIAN", type := .boolean, accessFlags := 26, slot := 1, constantValue := 0 }, { name := "LOG2_ARRAY_BOOLEAN_INDEX_SCALE", type := .int, accessFlags := 25, slot := 2, constantValue := 0 }, { name := "LOG2_ARRAY_BYTE_INDEX_SCALE", type := .int, accessFlags := 25, slot := 3, constantValue := 0 }, { name := "LOG2_ARRAY_CHAR_INDEX_SCALE", type := .int, accessFlags := 25, slot := 4, constantValue := 0 }, { name := "LOG2_ARRAY_SHORT_INDEX_SCALE", type := .int, accessFlags := 25, slot := 5, constantValue := 0 }, { name := "LOG2_ARRAY_INT_INDEX_SCALE", type := .int, accessFlags := 25, slot := 6, constantValue := 0 }, { name := "LOG2_ARRAY_LONG_INDEX_SCALE", type := .int, accessFlags := 25, slot := 7, constantValue := 0 }, { name := "LOG2_ARRAY_FLOAT_INDEX_SCALE", type := .int, accessFlags := 25, slot := 8, constantValue := 0 }, { name := "LOG2_ARRAY_DOUBLE_INDEX_SCALE", type := .int, accessFlags := 25, slot := 9, constantValue := 0 }, { name := "LOG2_BYTE_BIT_SIZE", type := .int, accessFlags := 26, slot := 10, constantValue := 0 }, { name := "T_BOOLEAN", type := .int, accessFlags := 25, slot := 11, constantValue := 0 }, { name := "T_CHAR", type := .int, accessFlags := 25, slot := 12, constantValue := 0 }, { name := "T_FLOAT", type := .int, accessFlags := 25, slot := 13, constantValue := 0 }, { name := "T_DOUBLE", type := .int, accessFlags := 25, slot := 14, constantValue := 0 }, { name := "T_BYTE", type := .int, accessFlags := 25, slot := 15, constantValue := 0 }, { name := "T_SHORT", type := .int, accessFlags := 25, slot := 16, constantValue := 0 }, { name := "T_INT", type := .int, accessFlags := 25, slot := 17, constantValue := 0 }, { name := "T_LONG", type := .int, accessFlags := 25, slot := 18, constantValue := 0 }, { name := "JLA", type := (.object "jdk/internal/access/JavaLangAccess"), accessFlags := 26, slot := 19, constantValue := 0 }, { name := "SOFT_MAX_ARRAY_LENGTH", type := .int, accessFlags := 25, slot := 20, constantValue := 0 }]
  methods := #[k21m0, k21m1]
  instanceTypes := #[]
  staticTypes := #[(.object "jdk/internal/misc/Unsafe"), .boolean, .int, .int, .int, .int, .int, .int, .int, .int, .int, .int, .int, .int, .int, .int, .int, .int, .int, (.object "jdk/internal/access/JavaLangAccess"), .int]
  resolved := Array.replicate 378 none
  statics := none }

def pool22 : Array CpInfo := pool [(1, .class_ 2), (0, u "java/lang/Cloneable"), (0, .class_ 4), (0, u "java/lang/Object")] 2

/-- java/lang/Cloneable -/
def k22 : Class := { plain "java/lang/Cloneable" (some 0) with
  accessFlags := 1537
  interfaces := #[]
  cf := some (fileOf pool22 1 #[] #[] 1537 3 #[] #[])
  fields := #[]
  methods := #[]
  instanceTypes := #[]
  staticTypes := #[]
  resolved := Array.replicate 7 none
  statics := none }

/-- the primitive byte -/
def k23 : Class := { plain "byte" none with kind := .primitive 'B', accessFlags := 0x411 }
/-- [B -/
def k24 : Class := { plain "[B" (some 0) with kind := .array 23 .byte, interfaces := #[22, 2], accessFlags := 1041 }

/-- the primitive char -/
def k25 : Class := { plain "char" none with kind := .primitive 'C', accessFlags := 0x411 }
/-- [C -/
def k26 : Class := { plain "[C" (some 0) with kind := .array 25 .char, interfaces := #[22, 2], accessFlags := 1041 }

/-- the primitive int -/
def k27 : Class := { plain "int" none with kind := .primitive 'I', accessFlags := 0x411 }
/-- [I -/
def k28 : Class := { plain "[I" (some 0) with kind := .array 27 .int, interfaces := #[22, 2], accessFlags := 1041 }

def heap : Heap := #[{ cls := 7, slots := #[.long 0, .int 1, .null, .int 0, .null, .int 0, .int 0], vm := .statics 7 },
  { cls := 17, slots := #[.int 0, .int 0, .null, .null, .ref 4, .ref 3, .int 0, .int 0, .long 0], vm := .statics 17 },
  { cls := 20, slots := #[.null, .null, .null], vm := .statics 20 },
  { cls := 24, slots := #[.int 48, .int 49, .int 50, .int 51, .int 52, .int 53, .int 54, .int 55, .int 56, .int 57, .int 48, .int 49, .int 50, .int 51, .int 52, .int 53, .int 54, .int 55, .int 56, .int 57, .int 48, .int 49, .int 50, .int 51, .int 52, .int 53, .int 54, .int 55, .int 56, .int 57, .int 48, .int 49, .int 50, .int 51, .int 52, .int 53, .int 54, .int 55, .int 56, .int 57, .int 48, .int 49, .int 50, .int 51, .int 52, .int 53, .int 54, .int 55, .int 56, .int 57, .int 48, .int 49, .int 50, .int 51, .int 52, .int 53, .int 54, .int 55, .int 56, .int 57, .int 48, .int 49, .int 50, .int 51, .int 52, .int 53, .int 54, .int 55, .int 56, .int 57, .int 48, .int 49, .int 50, .int 51, .int 52, .int 53, .int 54, .int 55, .int 56, .int 57, .int 48, .int 49, .int 50, .int 51, .int 52, .int 53, .int 54, .int 55, .int 56, .int 57, .int 48, .int 49, .int 50, .int 51, .int 52, .int 53, .int 54, .int 55, .int 56, .int 57], vm := .none },
  { cls := 24, slots := #[.int 48, .int 48, .int 48, .int 48, .int 48, .int 48, .int 48, .int 48, .int 48, .int 48, .int 49, .int 49, .int 49, .int 49, .int 49, .int 49, .int 49, .int 49, .int 49, .int 49, .int 50, .int 50, .int 50, .int 50, .int 50, .int 50, .int 50, .int 50, .int 50, .int 50, .int 51, .int 51, .int 51, .int 51, .int 51, .int 51, .int 51, .int 51, .int 51, .int 51, .int 52, .int 52, .int 52, .int 52, .int 52, .int 52, .int 52, .int 52, .int 52, .int 52, .int 53, .int 53, .int 53, .int 53, .int 53, .int 53, .int 53, .int 53, .int 53, .int 53, .int 54, .int 54, .int 54, .int 54, .int 54, .int 54, .int 54, .int 54, .int 54, .int 54, .int 55, .int 55, .int 55, .int 55, .int 55, .int 55, .int 55, .int 55, .int 55, .int 55, .int 56, .int 56, .int 56, .int 56, .int 56, .int 56, .int 56, .int 56, .int 56, .int 56, .int 57, .int 57, .int 57, .int 57, .int 57, .int 57, .int 57, .int 57, .int 57, .int 57], vm := .none }]
def classes : Array Class := #[k0, k1, k2, k3, k4, k5, k6, k7, k8, k9, k10, k11, k12, k13, k14, k15, k16, k17, k18, k19, k20, k21, k22, k23, k24, k25, k26, k27, k28]
def interned : List (Array UInt16 × Addr) := []
def slotsUsed : Nat := 219
def theMethod : MethodId := ⟨1, 1⟩
def args0 : Array Value := #[.int 65, .int 66, .int 7, .int 1]
def aboutOver (below : List Frame) : State where
  vm := { classes := classes, interned := interned.toArray }
  heap := heap
  slotsUsed := slotsUsed
  threads := #[{ frames := .invoking theMethod args0 :: below }]
def below0 : List Frame := [.native { method := ⟨0, 0⟩, args := #[] }]
def about1 : State := aboutOver below0
def p0 : Program := .bare "" "" ""
def e0 : Env := launch0.env 0 0 0
theorem w_frames : about1.frames = Frame.invoking theMethod args0 :: below0 := rfl
set_option maxRecDepth 65536 in
theorem w_args : argsFit about1.vm theMethod args0 = true := by decide +kernel
set_option maxRecDepth 65536 in
theorem w_heap : heapFits about1 = true := by decide +kernel
set_option maxRecDepth 65536 in
theorem w_runnable : about1.curStatus? = some .runnable := by decide +kernel
set_option maxRecDepth 65536 in
theorem w_alone : about1.alone = true := by decide +kernel
set_option maxRecDepth 65536 in
theorem w_named : about1.methodNamed? x = some theMethod := by decide +kernel
set_option maxRecDepth 65536 in
theorem w_hears : about1.hears theMethod below0 = true := by decide +kernel
set_option maxRecDepth 65536 in
theorem w_ripe : about1.ripe theMethod args0 below0 = true := by decide +kernel
theorem w_running : about1.status = .running := rfl
set_option maxRecDepth 65536 in
theorem w_room : about1.hasRoom e0.platform room_1 = true :=
  launch0.hasRoom_least _ room_1 (by decide +kernel) (by decide +kernel) (by decide +kernel) (by decide +kernel) (by decide +kernel) (by decide +kernel)
theorem allAtoms_all (ts : List Jvm.Cond) (a : Array Jvm.Value) (st : Jvm.State) : (allAtoms ts).before a st = ts.all (fun c => c.before a st) := by
  induction ts with
  | nil => rfl
  | cons c t ih =>
    show (Jvm.Cond.and c (allAtoms t)).before a st = _
    rw [Jvm.Cond.before_and, ih, List.all_cons]
def words1 : List Jvm.Cond := Jvm.Cond.code x code maxLocals ret :: tables_1
/-- a 'code' word, met by the world's own term for the bytes: nothing is compared byte by byte -/
theorem code_word {y : MethodName} {bytes : ByteArray} {mx : Nat} {rt : Option FieldType} {a : Array Value} {s : State} {m : MethodId} {meth : Method} {c : Code} (h1 : s.methodNamed? y = some m) (h2 : s.vm.method? m = some meth) (h3 : meth.code = some c) (h4 : c.code = bytes)
    (h5 : (c.maxLocals == mx && c.exceptionTable.isEmpty && decide (c.maxStack ≤ mostOperands) && decide (meth.sig.returnType = rt) && !meth.locks && decide (parseMethodDescriptor y.desc = some meth.sig)) = true) : (Jvm.Cond.code y bytes mx rt).before a s = true := by
  simp only [Bool.and_eq_true, beq_iff_eq, Bool.not_eq_true', decide_eq_true_eq] at h5
  obtain ⟨⟨⟨⟨⟨g1, g2⟩, g3⟩, g4⟩, g5⟩, g6⟩ := h5
  simp [Cond.before, Cond.holds, Cond.value, h1, h2, h3, h4, g1, g2, g3, g4, g5, g6]
def isCode : Jvm.Cond → Bool
  | .code _ _ _ _ => true
  | _ => false
theorem all_split {L : List Jvm.Cond} {P : Jvm.Cond → Bool} (h1 : L.all (fun c => isCode c || P c) = true) (h2 : ∀ c ∈ L.filter isCode, P c = true) : L.all P = true := by
  refine List.all_eq_true.mpr fun c hc => ?_
  have h := List.all_eq_true.mp h1 c hc
  rcases Bool.eq_false_or_eq_true (isCode c) with hi | hi
  · exact h2 c (List.mem_filter.mpr ⟨hc, hi⟩)
  · simpa [hi] using h
set_option maxRecDepth 65536 in
theorem w_c0 : (Jvm.Cond.code x code maxLocals ret).before args0 about1 = true := code_word (m := ⟨1, 1⟩) (meth := k1m1) (c := k1c1) (by decide +kernel) rfl rfl rfl (by decide +kernel)
set_option maxRecDepth 65536 in
theorem w_c1 : (Jvm.Cond.code ({ cls := "java/lang/String", name := "<init>", desc := "([C)V" } : Jvm.MethodName) jdk_42_method_3_code (2 : Nat) (Option.none : Option Jvm.ClassFile.FieldType)).before args0 about1 = true := code_word (m := ⟨7, 1⟩) (meth := k7m1) (c := k7c1) (by decide +kernel) rfl rfl rfl (by decide +kernel)
set_option maxRecDepth 65536 in
theorem w_c2 : (Jvm.Cond.code ({ cls := "java/lang/String", name := "<init>", desc := "([CIILjava/lang/Void;)V" } : Jvm.MethodName) jdk_42_method_149_code (6 : Nat) (Option.none : Option Jvm.ClassFile.FieldType)).before args0 about1 = true := code_word (m := ⟨7, 10⟩) (meth := k7m10) (c := k7c10) (by decide +kernel) rfl rfl rfl (by decide +kernel)
set_option maxRecDepth 65536 in
theorem w_c3 : (Jvm.Cond.code ({ cls := "java/lang/Object", name := "<init>", desc := "()V" } : Jvm.MethodName) object_method_1_code (1 : Nat) (Option.none : Option Jvm.ClassFile.FieldType)).before args0 about1 = true := code_word (m := ⟨0, 0⟩) (meth := k0m0) (c := k0c0) (by decide +kernel) rfl rfl rfl (by decide +kernel)
set_option maxRecDepth 65536 in
theorem w_c4 : (Jvm.Cond.code ({ cls := "java/lang/StringUTF16", name := "compress", desc := "([CII)[B" } : Jvm.MethodName) jdk_52_method_16_code (6 : Nat) (Option.some (Jvm.ClassFile.FieldType.array Jvm.ClassFile.FieldType.byte))).before args0 about1 = true := code_word (m := ⟨8, 2⟩) (meth := k8m2) (c := k8c2) (by decide +kernel) rfl rfl rfl (by decide +kernel)
set_option maxRecDepth 65536 in
theorem w_c5 : (Jvm.Cond.code ({ cls := "java/lang/StringUTF16", name := "compress", desc := "([CI[BII)I" } : Jvm.MethodName) jdk_52_method_21_code (7 : Nat) (Option.some Jvm.ClassFile.FieldType.int)).before args0 about1 = true := code_word (m := ⟨8, 3⟩) (meth := k8m3) (c := k8c3) (by decide +kernel) rfl rfl rfl (by decide +kernel)
set_option maxRecDepth 65536 in
theorem w_c6 : (Jvm.Cond.code ({ cls := "java/lang/StringUTF16", name := "coderFromArrayLen", desc := "([BI)B" } : Jvm.MethodName) jdk_52_method_15_code (2 : Nat) (Option.some Jvm.ClassFile.FieldType.byte)).before args0 about1 = true := code_word (m := ⟨8, 1⟩) (meth := k8m1) (c := k8c1) (by decide +kernel) rfl rfl rfl (by decide +kernel)
set_option maxRecDepth 65536 in
theorem w_c7 : (Jvm.Cond.code ({ cls := "com/example/bell_counter/bellcounter/redis/RedisUrlToStringPinLaw", name := "numLen", desc := "(I)I" } : Jvm.MethodName) method_3_code (1 : Nat) (Option.some Jvm.ClassFile.FieldType.int)).before args0 about1 = true := code_word (m := ⟨1, 2⟩) (meth := k1m2) (c := k1c2) (by decide +kernel) rfl rfl rfl (by decide +kernel)
set_option maxRecDepth 65536 in
theorem w_c8 : (Jvm.Cond.code ({ cls := "com/example/bell_counter/bellcounter/redis/RedisUrl", name := "<init>", desc := "(Ljava/lang/String;II)V" } : Jvm.MethodName) prog_17_method_1_code (4 : Nat) (Option.none : Option Jvm.ClassFile.FieldType)).before args0 about1 = true := code_word (m := ⟨10, 0⟩) (meth := k10m0) (c := k10c0) (by decide +kernel) rfl rfl rfl (by decide +kernel)
set_option maxRecDepth 65536 in
theorem w_c9 : (Jvm.Cond.code ({ cls := "java/lang/Record", name := "<init>", desc := "()V" } : Jvm.MethodName) jdk_30_method_1_code (1 : Nat) (Option.none : Option Jvm.ClassFile.FieldType)).before args0 about1 = true := code_word (m := ⟨9, 0⟩) (meth := k9m0) (c := k9c0) (by decide +kernel) rfl rfl rfl (by decide +kernel)
set_option maxRecDepth 65536 in
theorem w_c10 : (Jvm.Cond.code ({ cls := "java/lang/String", name := "isEmpty", desc := "()Z" } : Jvm.MethodName) jdk_42_method_55_code (1 : Nat) (Option.some Jvm.ClassFile.FieldType.boolean)).before args0 about1 = true := code_word (m := ⟨7, 4⟩) (meth := k7m4) (c := k7c4) (by decide +kernel) rfl rfl rfl (by decide +kernel)
set_option maxRecDepth 65536 in
theorem w_c11 : (Jvm.Cond.code ({ cls := "com/example/bell_counter/bellcounter/redis/RedisUrl", name := "toString", desc := "()Ljava/lang/String;" } : Jvm.MethodName) prog_17_method_3_code (2 : Nat) (Option.some (Jvm.ClassFile.FieldType.object "java/lang/String"))).before args0 about1 = true := code_word (m := ⟨10, 1⟩) (meth := k10m1) (c := k10c1) (by decide +kernel) rfl rfl rfl (by decide +kernel)
set_option maxRecDepth 65536 in
theorem w_c12 : (Jvm.Cond.code ({ cls := "java/lang/String", name := "contains", desc := "(Ljava/lang/CharSequence;)Z" } : Jvm.MethodName) jdk_42_method_97_code (2 : Nat) (Option.some Jvm.ClassFile.FieldType.boolean)).before args0 about1 = true := code_word (m := ⟨7, 7⟩) (meth := k7m7) (c := k7c7) (by decide +kernel) rfl rfl rfl (by decide +kernel)
set_option maxRecDepth 65536 in
theorem w_c13 : (Jvm.Cond.code ({ cls := "java/lang/String", name := "toString", desc := "()Ljava/lang/String;" } : Jvm.MethodName) jdk_42_method_126_code (1 : Nat) (Option.some (Jvm.ClassFile.FieldType.object "java/lang/String"))).before args0 about1 = true := code_word (m := ⟨7, 8⟩) (meth := k7m8) (c := k7c8) (by decide +kernel) rfl rfl rfl (by decide +kernel)
set_option maxRecDepth 65536 in
theorem w_c14 : (Jvm.Cond.code ({ cls := "java/lang/String", name := "indexOf", desc := "(Ljava/lang/String;)I" } : Jvm.MethodName) jdk_42_method_84_code (3 : Nat) (Option.some Jvm.ClassFile.FieldType.int)).before args0 about1 = true := code_word (m := ⟨7, 6⟩) (meth := k7m6) (c := k7c6) (by decide +kernel) rfl rfl rfl (by decide +kernel)
set_option maxRecDepth 65536 in
theorem w_c15 : (Jvm.Cond.code ({ cls := "java/lang/String", name := "coder", desc := "()B" } : Jvm.MethodName) jdk_42_method_152_code (1 : Nat) (Option.some Jvm.ClassFile.FieldType.byte)).before args0 about1 = true := code_word (m := ⟨7, 12⟩) (meth := k7m12) (c := k7c12) (by decide +kernel) rfl rfl rfl (by decide +kernel)
set_option maxRecDepth 65536 in
theorem w_c16 : (Jvm.Cond.code ({ cls := "java/lang/String", name := "isLatin1", desc := "()Z" } : Jvm.MethodName) jdk_42_method_154_code (1 : Nat) (Option.some Jvm.ClassFile.FieldType.boolean)).before args0 about1 = true := code_word (m := ⟨7, 13⟩) (meth := k7m13) (c := k7c13) (by decide +kernel) rfl rfl rfl (by decide +kernel)
set_option maxRecDepth 65536 in
theorem w_c17 : (Jvm.Cond.code ({ cls := "java/lang/StringLatin1", name := "indexOf", desc := "([B[B)I" } : Jvm.MethodName) jdk_43_method_24_code (2 : Nat) (Option.some Jvm.ClassFile.FieldType.int)).before args0 about1 = true := code_word (m := ⟨11, 2⟩) (meth := k11m2) (c := k11c2) (by decide +kernel) rfl rfl rfl (by decide +kernel)
set_option maxRecDepth 65536 in
theorem w_c18 : (Jvm.Cond.code ({ cls := "java/lang/StringLatin1", name := "indexOf", desc := "([BI[BII)I" } : Jvm.MethodName) jdk_43_method_25_code (11 : Nat) (Option.some Jvm.ClassFile.FieldType.int)).before args0 about1 = true := code_word (m := ⟨11, 3⟩) (meth := k11m3) (c := k11c3) (by decide +kernel) rfl rfl rfl (by decide +kernel)
set_option maxRecDepth 65536 in
theorem w_c19 : (Jvm.Cond.code ({ cls := "java/lang/StringBuilder", name := "<init>", desc := "()V" } : Jvm.MethodName) jdk_67_method_1_code (1 : Nat) (Option.none : Option Jvm.ClassFile.FieldType)).before args0 about1 = true := code_word (m := ⟨14, 0⟩) (meth := k14m0) (c := k14c0) (by decide +kernel) rfl rfl rfl (by decide +kernel)
set_option maxRecDepth 65536 in
theorem w_c20 : (Jvm.Cond.code ({ cls := "java/lang/AbstractStringBuilder", name := "<init>", desc := "(I)V" } : Jvm.MethodName) jdk_68_method_2_code (2 : Nat) (Option.none : Option Jvm.ClassFile.FieldType)).before args0 about1 = true := code_word (m := ⟨13, 1⟩) (meth := k13m1) (c := k13c1) (by decide +kernel) rfl rfl rfl (by decide +kernel)
set_option maxRecDepth 65536 in
theorem w_c21 : (Jvm.Cond.code ({ cls := "java/lang/StringBuilder", name := "append", desc := "(Ljava/lang/String;)Ljava/lang/StringBuilder;" } : Jvm.MethodName) jdk_67_method_7_code (2 : Nat) (Option.some (Jvm.ClassFile.FieldType.object "java/lang/StringBuilder"))).before args0 about1 = true := code_word (m := ⟨14, 1⟩) (meth := k14m1) (c := k14c1) (by decide +kernel) rfl rfl rfl (by decide +kernel)
set_option maxRecDepth 65536 in
theorem w_c22 : (Jvm.Cond.code ({ cls := "java/lang/AbstractStringBuilder", name := "append", desc := "(Ljava/lang/String;)Ljava/lang/AbstractStringBuilder;" } : Jvm.MethodName) jdk_68_method_22_code (3 : Nat) (Option.some (Jvm.ClassFile.FieldType.object "java/lang/AbstractStringBuilder"))).before args0 about1 = true := code_word (m := ⟨13, 5⟩) (meth := k13m5) (c := k13c5) (by decide +kernel) rfl rfl rfl (by decide +kernel)
set_option maxRecDepth 65536 in
theorem w_c23 : (Jvm.Cond.code ({ cls := "java/lang/String", name := "length", desc := "()I" } : Jvm.MethodName) jdk_42_method_54_code (1 : Nat) (Option.some Jvm.ClassFile.FieldType.int)).before args0 about1 = true := code_word (m := ⟨7, 3⟩) (meth := k7m3) (c := k7c3) (by decide +kernel) rfl rfl rfl (by decide +kernel)
set_option maxRecDepth 65536 in
theorem w_c24 : (Jvm.Cond.code ({ cls := "java/lang/AbstractStringBuilder", name := "ensureCapacityInternal", desc := "(I)V" } : Jvm.MethodName) jdk_68_method_9_code (3 : Nat) (Option.none : Option Jvm.ClassFile.FieldType)).before args0 about1 = true := code_word (m := ⟨13, 3⟩) (meth := k13m3) (c := k13c3) (by decide +kernel) rfl rfl rfl (by decide +kernel)
set_option maxRecDepth 65536 in
theorem w_c25 : (Jvm.Cond.code ({ cls := "java/lang/AbstractStringBuilder", name := "putStringAt", desc := "(ILjava/lang/String;)V" } : Jvm.MethodName) jdk_68_method_73_code (3 : Nat) (Option.none : Option Jvm.ClassFile.FieldType)).before args0 about1 = true := code_word (m := ⟨13, 10⟩) (meth := k13m10) (c := k13c10) (by decide +kernel) rfl rfl rfl (by decide +kernel)
set_option maxRecDepth 65536 in
theorem w_c26 : (Jvm.Cond.code ({ cls := "java/lang/AbstractStringBuilder", name := "inflateIfNeededFor", desc := "(Ljava/lang/String;)V" } : Jvm.MethodName) jdk_68_method_71_code (2 : Nat) (Option.none : Option Jvm.ClassFile.FieldType)).before args0 about1 = true := code_word (m := ⟨13, 9⟩) (meth := k13m9) (c := k13c9) (by decide +kernel) rfl rfl rfl (by decide +kernel)
set_option maxRecDepth 65536 in
theorem w_c27 : (Jvm.Cond.code ({ cls := "java/lang/String", name := "getBytes", desc := "([BIB)V" } : Jvm.MethodName) jdk_42_method_147_code (4 : Nat) (Option.none : Option Jvm.ClassFile.FieldType)).before args0 about1 = true := code_word (m := ⟨7, 9⟩) (meth := k7m9) (c := k7c9) (by decide +kernel) rfl rfl rfl (by decide +kernel)
set_option maxRecDepth 65536 in
theorem w_c28 : (Jvm.Cond.code ({ cls := "java/lang/StringBuilder", name := "append", desc := "(I)Ljava/lang/StringBuilder;" } : Jvm.MethodName) jdk_67_method_15_code (2 : Nat) (Option.some (Jvm.ClassFile.FieldType.object "java/lang/StringBuilder"))).before args0 about1 = true := code_word (m := ⟨14, 2⟩) (meth := k14m2) (c := k14c2) (by decide +kernel) rfl rfl rfl (by decide +kernel)
set_option maxRecDepth 65536 in
theorem w_c29 : (Jvm.Cond.code ({ cls := "java/lang/AbstractStringBuilder", name := "append", desc := "(I)Ljava/lang/AbstractStringBuilder;" } : Jvm.MethodName) jdk_68_method_32_code (4 : Nat) (Option.some (Jvm.ClassFile.FieldType.object "java/lang/AbstractStringBuilder"))).before args0 about1 = true := code_word (m := ⟨13, 6⟩) (meth := k13m6) (c := k13c6) (by decide +kernel) rfl rfl rfl (by decide +kernel)
set_option maxRecDepth 65536 in
theorem w_c30 : (Jvm.Cond.code ({ cls := "java/lang/Integer", name := "stringSize", desc := "(I)I" } : Jvm.MethodName) jdk_33_method_13_code (4 : Nat) (Option.some Jvm.ClassFile.FieldType.int)).before args0 about1 = true := code_word (m := ⟨17, 1⟩) (meth := k17m1) (c := k17c1) (by decide +kernel) rfl rfl rfl (by decide +kernel)
set_option maxRecDepth 65536 in
theorem w_c31 : (Jvm.Cond.code ({ cls := "java/lang/AbstractStringBuilder", name := "isLatin1", desc := "()Z" } : Jvm.MethodName) jdk_68_method_68_code (1 : Nat) (Option.some Jvm.ClassFile.FieldType.boolean)).before args0 about1 = true := code_word (m := ⟨13, 8⟩) (meth := k13m8) (c := k13c8) (by decide +kernel) rfl rfl rfl (by decide +kernel)
set_option maxRecDepth 65536 in
theorem w_c32 : (Jvm.Cond.code ({ cls := "java/lang/Integer", name := "getChars", desc := "(II[B)I" } : Jvm.MethodName) jdk_33_method_12_code (7 : Nat) (Option.some Jvm.ClassFile.FieldType.int)).before args0 about1 = true := code_word (m := ⟨17, 0⟩) (meth := k17m0) (c := k17c0) (by decide +kernel) rfl rfl rfl (by decide +kernel)
set_option maxRecDepth 65536 in
theorem w_c33 : (Jvm.Cond.code ({ cls := "java/lang/StringBuilder", name := "toString", desc := "()Ljava/lang/String;" } : Jvm.MethodName) jdk_67_method_42_code (1 : Nat) (Option.some (Jvm.ClassFile.FieldType.object "java/lang/String"))).before args0 about1 = true := code_word (m := ⟨14, 3⟩) (meth := k14m3) (c := k14c3) (by decide +kernel) rfl rfl rfl (by decide +kernel)
set_option maxRecDepth 65536 in
theorem w_c34 : (Jvm.Cond.code ({ cls := "java/lang/String", name := "<init>", desc := "(Ljava/lang/StringBuilder;)V" } : Jvm.MethodName) jdk_42_method_53_code (2 : Nat) (Option.none : Option Jvm.ClassFile.FieldType)).before args0 about1 = true := code_word (m := ⟨7, 2⟩) (meth := k7m2) (c := k7c2) (by decide +kernel) rfl rfl rfl (by decide +kernel)
set_option maxRecDepth 65536 in
theorem w_c35 : (Jvm.Cond.code ({ cls := "java/lang/String", name := "<init>", desc := "(Ljava/lang/AbstractStringBuilder;Ljava/lang/Void;)V" } : Jvm.MethodName) jdk_42_method_150_code (5 : Nat) (Option.none : Option Jvm.ClassFile.FieldType)).before args0 about1 = true := code_word (m := ⟨7, 11⟩) (meth := k7m11) (c := k7c11) (by decide +kernel) rfl rfl rfl (by decide +kernel)
set_option maxRecDepth 65536 in
theorem w_c36 : (Jvm.Cond.code ({ cls := "java/lang/AbstractStringBuilder", name := "getValue", desc := "()[B" } : Jvm.MethodName) jdk_68_method_64_code (1 : Nat) (Option.some (Jvm.ClassFile.FieldType.array Jvm.ClassFile.FieldType.byte))).before args0 about1 = true := code_word (m := ⟨13, 7⟩) (meth := k13m7) (c := k13c7) (by decide +kernel) rfl rfl rfl (by decide +kernel)
set_option maxRecDepth 65536 in
theorem w_c37 : (Jvm.Cond.code ({ cls := "java/lang/StringBuilder", name := "length", desc := "()I" } : Jvm.MethodName) jdk_67_method_93_code (1 : Nat) (Option.some Jvm.ClassFile.FieldType.int)).before args0 about1 = true := code_word (m := ⟨14, 4⟩) (meth := k14m4) (c := k14c4) (by decide +kernel) rfl rfl rfl (by decide +kernel)
set_option maxRecDepth 65536 in
theorem w_c38 : (Jvm.Cond.code ({ cls := "java/lang/AbstractStringBuilder", name := "length", desc := "()I" } : Jvm.MethodName) jdk_68_method_6_code (1 : Nat) (Option.some Jvm.ClassFile.FieldType.int)).before args0 about1 = true := code_word (m := ⟨13, 2⟩) (meth := k13m2) (c := k13c2) (by decide +kernel) rfl rfl rfl (by decide +kernel)
set_option maxRecDepth 65536 in
theorem w_c39 : (Jvm.Cond.code ({ cls := "java/util/Arrays", name := "copyOfRange", desc := "([BII)[B" } : Jvm.MethodName) jdk_65_method_132_code (3 : Nat) (Option.some (Jvm.ClassFile.FieldType.array Jvm.ClassFile.FieldType.byte))).before args0 about1 = true := code_word (m := ⟨18, 3⟩) (meth := k18m3) (c := k18c3) (by decide +kernel) rfl rfl rfl (by decide +kernel)
set_option maxRecDepth 65536 in
theorem w_c40 : (Jvm.Cond.code ({ cls := "java/util/Arrays", name := "copyOfRangeByte", desc := "([BII)[B" } : Jvm.MethodName) jdk_65_method_133_code (5 : Nat) (Option.some (Jvm.ClassFile.FieldType.array Jvm.ClassFile.FieldType.byte))).before args0 about1 = true := code_word (m := ⟨18, 4⟩) (meth := k18m4) (c := k18c4) (by decide +kernel) rfl rfl rfl (by decide +kernel)
set_option maxRecDepth 65536 in
theorem w_c41 : (Jvm.Cond.code ({ cls := "java/util/Arrays", name := "checkLength", desc := "(II)V" } : Jvm.MethodName) jdk_65_method_131_code (2 : Nat) (Option.none : Option Jvm.ClassFile.FieldType)).before args0 about1 = true := code_word (m := ⟨18, 2⟩) (meth := k18m2) (c := k18c2) (by decide +kernel) rfl rfl rfl (by decide +kernel)
set_option maxRecDepth 65536 in
theorem w_c42 : (Jvm.Cond.code ({ cls := "java/lang/Math", name := "min", desc := "(II)I" } : Jvm.MethodName) jdk_29_method_69_code (2 : Nat) (Option.some Jvm.ClassFile.FieldType.int)).before args0 about1 = true := code_word (m := ⟨19, 2⟩) (meth := k19m2) (c := k19c2) (by decide +kernel) rfl rfl rfl (by decide +kernel)
set_option maxRecDepth 65536 in
theorem w_c43 : (Jvm.Cond.code ({ cls := "java/lang/String", name := "charAt", desc := "(I)C" } : Jvm.MethodName) jdk_42_method_56_code (2 : Nat) (Option.some Jvm.ClassFile.FieldType.char)).before args0 about1 = true := code_word (m := ⟨7, 5⟩) (meth := k7m5) (c := k7c5) (by decide +kernel) rfl rfl rfl (by decide +kernel)
set_option maxRecDepth 65536 in
theorem w_c44 : (Jvm.Cond.code ({ cls := "java/lang/StringLatin1", name := "charAt", desc := "([BI)C" } : Jvm.MethodName) jdk_43_method_2_code (2 : Nat) (Option.some Jvm.ClassFile.FieldType.char)).before args0 about1 = true := code_word (m := ⟨11, 1⟩) (meth := k11m1) (c := k11c1) (by decide +kernel) rfl rfl rfl (by decide +kernel)
set_option maxRecDepth 65536 in
theorem w_c45 : (Jvm.Cond.code ({ cls := "java/lang/String", name := "checkIndex", desc := "(II)V" } : Jvm.MethodName) jdk_42_method_155_code (2 : Nat) (Option.none : Option Jvm.ClassFile.FieldType)).before args0 about1 = true := code_word (m := ⟨7, 14⟩) (meth := k7m14) (c := k7c14) (by decide +kernel) rfl rfl rfl (by decide +kernel)
set_option maxRecDepth 65536 in
theorem w_c46 : (Jvm.Cond.code ({ cls := "jdk/internal/util/Preconditions", name := "checkIndex", desc := "(IILjava/util/function/BiFunction;)I" } : Jvm.MethodName) jdk_41_method_11_code (3 : Nat) (Option.some Jvm.ClassFile.FieldType.int)).before args0 about1 = true := code_word (m := ⟨20, 1⟩) (meth := k20m1) (c := k20c1) (by decide +kernel) rfl rfl rfl (by decide +kernel)
set_option maxRecDepth 65536 in
theorem w_c47 : (Jvm.Cond.code ({ cls := "com/example/bell_counter/bellcounter/redis/RedisUrlToStringPinLaw", name := "checkNum", desc := "(Ljava/lang/String;III)Z" } : Jvm.MethodName) method_6_code (4 : Nat) (Option.some Jvm.ClassFile.FieldType.boolean)).before args0 about1 = true := code_word (m := ⟨1, 5⟩) (meth := k1m5) (c := k1c5) (by decide +kernel) rfl rfl rfl (by decide +kernel)
set_option maxRecDepth 65536 in
theorem w_c48 : (Jvm.Cond.code ({ cls := "com/example/bell_counter/bellcounter/redis/RedisUrlToStringPinLaw", name := "digitOk", desc := "(Ljava/lang/String;IIII)Z" } : Jvm.MethodName) method_5_code (5 : Nat) (Option.some Jvm.ClassFile.FieldType.boolean)).before args0 about1 = true := code_word (m := ⟨1, 4⟩) (meth := k1m4) (c := k1c4) (by decide +kernel) rfl rfl rfl (by decide +kernel)
set_option maxRecDepth 65536 in
theorem w_c49 : (Jvm.Cond.code ({ cls := "com/example/bell_counter/bellcounter/redis/RedisUrlToStringPinLaw", name := "pow10", desc := "(I)I" } : Jvm.MethodName) method_4_code (1 : Nat) (Option.some Jvm.ClassFile.FieldType.int)).before args0 about1 = true := code_word (m := ⟨1, 3⟩) (meth := k1m3) (c := k1c3) (by decide +kernel) rfl rfl rfl (by decide +kernel)
set_option maxRecDepth 65536 in
theorem w_c50 : (Jvm.Cond.code ({ cls := "java/lang/AbstractStringBuilder", name := "newCapacity", desc := "(I)I" } : Jvm.MethodName) jdk_68_method_10_code (6 : Nat) (Option.some Jvm.ClassFile.FieldType.int)).before args0 about1 = true := code_word (m := ⟨13, 4⟩) (meth := k13m4) (c := k13c4) (by decide +kernel) rfl rfl rfl (by decide +kernel)
set_option maxRecDepth 65536 in
theorem w_c51 : (Jvm.Cond.code ({ cls := "jdk/internal/util/ArraysSupport", name := "newLength", desc := "(III)I" } : Jvm.MethodName) jdk_48_method_27_code (4 : Nat) (Option.some Jvm.ClassFile.FieldType.int)).before args0 about1 = true := code_word (m := ⟨21, 1⟩) (meth := k21m1) (c := k21c1) (by decide +kernel) rfl rfl rfl (by decide +kernel)
set_option maxRecDepth 65536 in
theorem w_c52 : (Jvm.Cond.code ({ cls := "java/lang/Math", name := "max", desc := "(II)I" } : Jvm.MethodName) jdk_29_method_65_code (2 : Nat) (Option.some Jvm.ClassFile.FieldType.int)).before args0 about1 = true := code_word (m := ⟨19, 1⟩) (meth := k19m1) (c := k19c1) (by decide +kernel) rfl rfl rfl (by decide +kernel)
set_option maxRecDepth 65536 in
theorem w_c53 : (Jvm.Cond.code ({ cls := "java/util/Arrays", name := "copyOf", desc := "([BI)[B" } : Jvm.MethodName) jdk_65_method_121_code (3 : Nat) (Option.some (Jvm.ClassFile.FieldType.array Jvm.ClassFile.FieldType.byte))).before args0 about1 = true := code_word (m := ⟨18, 1⟩) (meth := k18m1) (c := k18c1) (by decide +kernel) rfl rfl rfl (by decide +kernel)
def codes1 : List Jvm.Cond := [Jvm.Cond.code x code maxLocals ret, Jvm.Cond.code ({ cls := "java/lang/String", name := "<init>", desc := "([C)V" } : Jvm.MethodName) jdk_42_method_3_code (2 : Nat) (Option.none : Option Jvm.ClassFile.FieldType), Jvm.Cond.code ({ cls := "java/lang/String", name := "<init>", desc := "([CIILjava/lang/Void;)V" } : Jvm.MethodName) jdk_42_method_149_code (6 : Nat) (Option.none : Option Jvm.ClassFile.FieldType), Jvm.Cond.code ({ cls := "java/lang/Object", name := "<init>", desc := "()V" } : Jvm.MethodName) object_method_1_code (1 : Nat) (Option.none : Option Jvm.ClassFile.FieldType), Jvm.Cond.code ({ cls := "java/lang/StringUTF16", name := "compress", desc := "([CII)[B" } : Jvm.MethodName) jdk_52_method_16_code (6 : Nat) (Option.some (Jvm.ClassFile.FieldType.array Jvm.ClassFile.FieldType.byte)), Jvm.Cond.code ({ cls := "java/lang/StringUTF16", name := "compress", desc := "([CI[BII)I" } : Jvm.MethodName) jdk_52_method_21_code (7 : Nat) (Option.some Jvm.ClassFile.FieldType.int), Jvm.Cond.code ({ cls := "java/lang/StringUTF16", name := "coderFromArrayLen", desc := "([BI)B" } : Jvm.MethodName) jdk_52_method_15_code (2 : Nat) (Option.some Jvm.ClassFile.FieldType.byte), Jvm.Cond.code ({ cls := "com/example/bell_counter/bellcounter/redis/RedisUrlToStringPinLaw", name := "numLen", desc := "(I)I" } : Jvm.MethodName) method_3_code (1 : Nat) (Option.some Jvm.ClassFile.FieldType.int), Jvm.Cond.code ({ cls := "com/example/bell_counter/bellcounter/redis/RedisUrl", name := "<init>", desc := "(Ljava/lang/String;II)V" } : Jvm.MethodName) prog_17_method_1_code (4 : Nat) (Option.none : Option Jvm.ClassFile.FieldType), Jvm.Cond.code ({ cls := "java/lang/Record", name := "<init>", desc := "()V" } : Jvm.MethodName) jdk_30_method_1_code (1 : Nat) (Option.none : Option Jvm.ClassFile.FieldType), Jvm.Cond.code ({ cls := "java/lang/String", name := "isEmpty", desc := "()Z" } : Jvm.MethodName) jdk_42_method_55_code (1 : Nat) (Option.some Jvm.ClassFile.FieldType.boolean), Jvm.Cond.code ({ cls := "com/example/bell_counter/bellcounter/redis/RedisUrl", name := "toString", desc := "()Ljava/lang/String;" } : Jvm.MethodName) prog_17_method_3_code (2 : Nat) (Option.some (Jvm.ClassFile.FieldType.object "java/lang/String")), Jvm.Cond.code ({ cls := "java/lang/String", name := "contains", desc := "(Ljava/lang/CharSequence;)Z" } : Jvm.MethodName) jdk_42_method_97_code (2 : Nat) (Option.some Jvm.ClassFile.FieldType.boolean), Jvm.Cond.code ({ cls := "java/lang/String", name := "toString", desc := "()Ljava/lang/String;" } : Jvm.MethodName) jdk_42_method_126_code (1 : Nat) (Option.some (Jvm.ClassFile.FieldType.object "java/lang/String")), Jvm.Cond.code ({ cls := "java/lang/String", name := "indexOf", desc := "(Ljava/lang/String;)I" } : Jvm.MethodName) jdk_42_method_84_code (3 : Nat) (Option.some Jvm.ClassFile.FieldType.int), Jvm.Cond.code ({ cls := "java/lang/String", name := "coder", desc := "()B" } : Jvm.MethodName) jdk_42_method_152_code (1 : Nat) (Option.some Jvm.ClassFile.FieldType.byte), Jvm.Cond.code ({ cls := "java/lang/String", name := "isLatin1", desc := "()Z" } : Jvm.MethodName) jdk_42_method_154_code (1 : Nat) (Option.some Jvm.ClassFile.FieldType.boolean), Jvm.Cond.code ({ cls := "java/lang/StringLatin1", name := "indexOf", desc := "([B[B)I" } : Jvm.MethodName) jdk_43_method_24_code (2 : Nat) (Option.some Jvm.ClassFile.FieldType.int), Jvm.Cond.code ({ cls := "java/lang/StringLatin1", name := "indexOf", desc := "([BI[BII)I" } : Jvm.MethodName) jdk_43_method_25_code (11 : Nat) (Option.some Jvm.ClassFile.FieldType.int), Jvm.Cond.code ({ cls := "java/lang/StringBuilder", name := "<init>", desc := "()V" } : Jvm.MethodName) jdk_67_method_1_code (1 : Nat) (Option.none : Option Jvm.ClassFile.FieldType), Jvm.Cond.code ({ cls := "java/lang/AbstractStringBuilder", name := "<init>", desc := "(I)V" } : Jvm.MethodName) jdk_68_method_2_code (2 : Nat) (Option.none : Option Jvm.ClassFile.FieldType), Jvm.Cond.code ({ cls := "java/lang/StringBuilder", name := "append", desc := "(Ljava/lang/String;)Ljava/lang/StringBuilder;" } : Jvm.MethodName) jdk_67_method_7_code (2 : Nat) (Option.some (Jvm.ClassFile.FieldType.object "java/lang/StringBuilder")), Jvm.Cond.code ({ cls := "java/lang/AbstractStringBuilder", name := "append", desc := "(Ljava/lang/String;)Ljava/lang/AbstractStringBuilder;" } : Jvm.MethodName) jdk_68_method_22_code (3 : Nat) (Option.some (Jvm.ClassFile.FieldType.object "java/lang/AbstractStringBuilder")), Jvm.Cond.code ({ cls := "java/lang/String", name := "length", desc := "()I" } : Jvm.MethodName) jdk_42_method_54_code (1 : Nat) (Option.some Jvm.ClassFile.FieldType.int), Jvm.Cond.code ({ cls := "java/lang/AbstractStringBuilder", name := "ensureCapacityInternal", desc := "(I)V" } : Jvm.MethodName) jdk_68_method_9_code (3 : Nat) (Option.none : Option Jvm.ClassFile.FieldType), Jvm.Cond.code ({ cls := "java/lang/AbstractStringBuilder", name := "putStringAt", desc := "(ILjava/lang/String;)V" } : Jvm.MethodName) jdk_68_method_73_code (3 : Nat) (Option.none : Option Jvm.ClassFile.FieldType), Jvm.Cond.code ({ cls := "java/lang/AbstractStringBuilder", name := "inflateIfNeededFor", desc := "(Ljava/lang/String;)V" } : Jvm.MethodName) jdk_68_method_71_code (2 : Nat) (Option.none : Option Jvm.ClassFile.FieldType), Jvm.Cond.code ({ cls := "java/lang/String", name := "getBytes", desc := "([BIB)V" } : Jvm.MethodName) jdk_42_method_147_code (4 : Nat) (Option.none : Option Jvm.ClassFile.FieldType), Jvm.Cond.code ({ cls := "java/lang/StringBuilder", name := "append", desc := "(I)Ljava/lang/StringBuilder;" } : Jvm.MethodName) jdk_67_method_15_code (2 : Nat) (Option.some (Jvm.ClassFile.FieldType.object "java/lang/StringBuilder")), Jvm.Cond.code ({ cls := "java/lang/AbstractStringBuilder", name := "append", desc := "(I)Ljava/lang/AbstractStringBuilder;" } : Jvm.MethodName) jdk_68_method_32_code (4 : Nat) (Option.some (Jvm.ClassFile.FieldType.object "java/lang/AbstractStringBuilder")), Jvm.Cond.code ({ cls := "java/lang/Integer", name := "stringSize", desc := "(I)I" } : Jvm.MethodName) jdk_33_method_13_code (4 : Nat) (Option.some Jvm.ClassFile.FieldType.int), Jvm.Cond.code ({ cls := "java/lang/AbstractStringBuilder", name := "isLatin1", desc := "()Z" } : Jvm.MethodName) jdk_68_method_68_code (1 : Nat) (Option.some Jvm.ClassFile.FieldType.boolean), Jvm.Cond.code ({ cls := "java/lang/Integer", name := "getChars", desc := "(II[B)I" } : Jvm.MethodName) jdk_33_method_12_code (7 : Nat) (Option.some Jvm.ClassFile.FieldType.int), Jvm.Cond.code ({ cls := "java/lang/StringBuilder", name := "toString", desc := "()Ljava/lang/String;" } : Jvm.MethodName) jdk_67_method_42_code (1 : Nat) (Option.some (Jvm.ClassFile.FieldType.object "java/lang/String")), Jvm.Cond.code ({ cls := "java/lang/String", name := "<init>", desc := "(Ljava/lang/StringBuilder;)V" } : Jvm.MethodName) jdk_42_method_53_code (2 : Nat) (Option.none : Option Jvm.ClassFile.FieldType), Jvm.Cond.code ({ cls := "java/lang/String", name := "<init>", desc := "(Ljava/lang/AbstractStringBuilder;Ljava/lang/Void;)V" } : Jvm.MethodName) jdk_42_method_150_code (5 : Nat) (Option.none : Option Jvm.ClassFile.FieldType), Jvm.Cond.code ({ cls := "java/lang/AbstractStringBuilder", name := "getValue", desc := "()[B" } : Jvm.MethodName) jdk_68_method_64_code (1 : Nat) (Option.some (Jvm.ClassFile.FieldType.array Jvm.ClassFile.FieldType.byte)), Jvm.Cond.code ({ cls := "java/lang/StringBuilder", name := "length", desc := "()I" } : Jvm.MethodName) jdk_67_method_93_code (1 : Nat) (Option.some Jvm.ClassFile.FieldType.int), Jvm.Cond.code ({ cls := "java/lang/AbstractStringBuilder", name := "length", desc := "()I" } : Jvm.MethodName) jdk_68_method_6_code (1 : Nat) (Option.some Jvm.ClassFile.FieldType.int), Jvm.Cond.code ({ cls := "java/util/Arrays", name := "copyOfRange", desc := "([BII)[B" } : Jvm.MethodName) jdk_65_method_132_code (3 : Nat) (Option.some (Jvm.ClassFile.FieldType.array Jvm.ClassFile.FieldType.byte)), Jvm.Cond.code ({ cls := "java/util/Arrays", name := "copyOfRangeByte", desc := "([BII)[B" } : Jvm.MethodName) jdk_65_method_133_code (5 : Nat) (Option.some (Jvm.ClassFile.FieldType.array Jvm.ClassFile.FieldType.byte)), Jvm.Cond.code ({ cls := "java/util/Arrays", name := "checkLength", desc := "(II)V" } : Jvm.MethodName) jdk_65_method_131_code (2 : Nat) (Option.none : Option Jvm.ClassFile.FieldType), Jvm.Cond.code ({ cls := "java/lang/Math", name := "min", desc := "(II)I" } : Jvm.MethodName) jdk_29_method_69_code (2 : Nat) (Option.some Jvm.ClassFile.FieldType.int), Jvm.Cond.code ({ cls := "java/lang/String", name := "charAt", desc := "(I)C" } : Jvm.MethodName) jdk_42_method_56_code (2 : Nat) (Option.some Jvm.ClassFile.FieldType.char), Jvm.Cond.code ({ cls := "java/lang/StringLatin1", name := "charAt", desc := "([BI)C" } : Jvm.MethodName) jdk_43_method_2_code (2 : Nat) (Option.some Jvm.ClassFile.FieldType.char), Jvm.Cond.code ({ cls := "java/lang/String", name := "checkIndex", desc := "(II)V" } : Jvm.MethodName) jdk_42_method_155_code (2 : Nat) (Option.none : Option Jvm.ClassFile.FieldType), Jvm.Cond.code ({ cls := "jdk/internal/util/Preconditions", name := "checkIndex", desc := "(IILjava/util/function/BiFunction;)I" } : Jvm.MethodName) jdk_41_method_11_code (3 : Nat) (Option.some Jvm.ClassFile.FieldType.int), Jvm.Cond.code ({ cls := "com/example/bell_counter/bellcounter/redis/RedisUrlToStringPinLaw", name := "checkNum", desc := "(Ljava/lang/String;III)Z" } : Jvm.MethodName) method_6_code (4 : Nat) (Option.some Jvm.ClassFile.FieldType.boolean), Jvm.Cond.code ({ cls := "com/example/bell_counter/bellcounter/redis/RedisUrlToStringPinLaw", name := "digitOk", desc := "(Ljava/lang/String;IIII)Z" } : Jvm.MethodName) method_5_code (5 : Nat) (Option.some Jvm.ClassFile.FieldType.boolean), Jvm.Cond.code ({ cls := "com/example/bell_counter/bellcounter/redis/RedisUrlToStringPinLaw", name := "pow10", desc := "(I)I" } : Jvm.MethodName) method_4_code (1 : Nat) (Option.some Jvm.ClassFile.FieldType.int), Jvm.Cond.code ({ cls := "java/lang/AbstractStringBuilder", name := "newCapacity", desc := "(I)I" } : Jvm.MethodName) jdk_68_method_10_code (6 : Nat) (Option.some Jvm.ClassFile.FieldType.int), Jvm.Cond.code ({ cls := "jdk/internal/util/ArraysSupport", name := "newLength", desc := "(III)I" } : Jvm.MethodName) jdk_48_method_27_code (4 : Nat) (Option.some Jvm.ClassFile.FieldType.int), Jvm.Cond.code ({ cls := "java/lang/Math", name := "max", desc := "(II)I" } : Jvm.MethodName) jdk_29_method_65_code (2 : Nat) (Option.some Jvm.ClassFile.FieldType.int), Jvm.Cond.code ({ cls := "java/util/Arrays", name := "copyOf", desc := "([BI)[B" } : Jvm.MethodName) jdk_65_method_121_code (3 : Nat) (Option.some (Jvm.ClassFile.FieldType.array Jvm.ClassFile.FieldType.byte))]
set_option maxRecDepth 65536 in
theorem codes_eq : words1.filter isCode = codes1 := rfl
theorem w_codes : ∀ c ∈ words1.filter isCode, c.before args0 about1 = true := by
  rw [codes_eq]
  intro c hc
  simp only [codes1, List.mem_cons, List.not_mem_nil, or_false] at hc
  rcases hc with rfl | rfl | rfl | rfl | rfl | rfl | rfl | rfl | rfl | rfl | rfl | rfl | rfl | rfl | rfl | rfl | rfl | rfl | rfl | rfl | rfl | rfl | rfl | rfl | rfl | rfl | rfl | rfl | rfl | rfl | rfl | rfl | rfl | rfl | rfl | rfl | rfl | rfl | rfl | rfl | rfl | rfl | rfl | rfl | rfl | rfl | rfl | rfl | rfl | rfl | rfl | rfl | rfl | rfl
  · exact w_c0
  · exact w_c1
  · exact w_c2
  · exact w_c3
  · exact w_c4
  · exact w_c5
  · exact w_c6
  · exact w_c7
  · exact w_c8
  · exact w_c9
  · exact w_c10
  · exact w_c11
  · exact w_c12
  · exact w_c13
  · exact w_c14
  · exact w_c15
  · exact w_c16
  · exact w_c17
  · exact w_c18
  · exact w_c19
  · exact w_c20
  · exact w_c21
  · exact w_c22
  · exact w_c23
  · exact w_c24
  · exact w_c25
  · exact w_c26
  · exact w_c27
  · exact w_c28
  · exact w_c29
  · exact w_c30
  · exact w_c31
  · exact w_c32
  · exact w_c33
  · exact w_c34
  · exact w_c35
  · exact w_c36
  · exact w_c37
  · exact w_c38
  · exact w_c39
  · exact w_c40
  · exact w_c41
  · exact w_c42
  · exact w_c43
  · exact w_c44
  · exact w_c45
  · exact w_c46
  · exact w_c47
  · exact w_c48
  · exact w_c49
  · exact w_c50
  · exact w_c51
  · exact w_c52
  · exact w_c53
set_option maxRecDepth 65536 in
theorem w_t1 : (words1.take 24).all (fun c => isCode c || c.before args0 about1) = true := by decide +kernel
set_option maxRecDepth 65536 in
theorem w_t2 : ((words1.drop 24).take 24).all (fun c => isCode c || c.before args0 about1) = true := by decide +kernel
set_option maxRecDepth 65536 in
theorem w_t3 : (((words1.drop 24).drop 24).take 24).all (fun c => isCode c || c.before args0 about1) = true := by decide +kernel
set_option maxRecDepth 65536 in
theorem w_t4 : ((((words1.drop 24).drop 24).drop 24).take 24).all (fun c => isCode c || c.before args0 about1) = true := by decide +kernel
set_option maxRecDepth 65536 in
theorem w_t5 : (((((words1.drop 24).drop 24).drop 24).drop 24).take 24).all (fun c => isCode c || c.before args0 about1) = true := by decide +kernel
set_option maxRecDepth 65536 in
theorem w_t6 : ((((((words1.drop 24).drop 24).drop 24).drop 24).drop 24).take 24).all (fun c => isCode c || c.before args0 about1) = true := by decide +kernel
set_option maxRecDepth 65536 in
theorem w_t7 : (((((((words1.drop 24).drop 24).drop 24).drop 24).drop 24).drop 24).take 24).all (fun c => isCode c || c.before args0 about1) = true := by decide +kernel
set_option maxRecDepth 65536 in
theorem w_t8 : ((((((((words1.drop 24).drop 24).drop 24).drop 24).drop 24).drop 24).drop 24).take 24).all (fun c => isCode c || c.before args0 about1) = true := by decide +kernel
set_option maxRecDepth 65536 in
theorem w_t9 : (((((((((words1.drop 24).drop 24).drop 24).drop 24).drop 24).drop 24).drop 24).drop 24).take 24).all (fun c => isCode c || c.before args0 about1) = true := by decide +kernel
set_option maxRecDepth 65536 in
theorem w_t10 : ((((((((((words1.drop 24).drop 24).drop 24).drop 24).drop 24).drop 24).drop 24).drop 24).drop 24).take 24).all (fun c => isCode c || c.before args0 about1) = true := by decide +kernel
set_option maxRecDepth 65536 in
theorem w_t11 : (((((((((((words1.drop 24).drop 24).drop 24).drop 24).drop 24).drop 24).drop 24).drop 24).drop 24).drop 24).take 24).all (fun c => isCode c || c.before args0 about1) = true := by decide +kernel
set_option maxRecDepth 65536 in
theorem w_t12 : ((((((((((((words1.drop 24).drop 24).drop 24).drop 24).drop 24).drop 24).drop 24).drop 24).drop 24).drop 24).drop 24).take 24).all (fun c => isCode c || c.before args0 about1) = true := by decide +kernel
set_option maxRecDepth 65536 in
theorem w_t13 : ((((((((((((words1.drop 24).drop 24).drop 24).drop 24).drop 24).drop 24).drop 24).drop 24).drop 24).drop 24).drop 24).drop 24).all (fun c => isCode c || c.before args0 about1) = true := by decide +kernel
theorem w_tables : (allAtoms (Jvm.Cond.code x code maxLocals ret :: tables_1)).before args0 about1 = true := by
  rw [allAtoms_all]
  show words1.all (fun c => c.before args0 about1) = true
  refine all_split ?_ w_codes
  rw [← List.take_append_drop 24 words1, List.all_append, w_t1, ← List.take_append_drop 24 (words1.drop 24), List.all_append, w_t2, ← List.take_append_drop 24 ((words1.drop 24).drop 24), List.all_append, w_t3, ← List.take_append_drop 24 (((words1.drop 24).drop 24).drop 24), List.all_append, w_t4, ← List.take_append_drop 24 ((((words1.drop 24).drop 24).drop 24).drop 24), List.all_append, w_t5, ← List.take_append_drop 24 (((((words1.drop 24).drop 24).drop 24).drop 24).drop 24), List.all_append, w_t6, ← List.take_append_drop 24 ((((((words1.drop 24).drop 24).drop 24).drop 24).drop 24).drop 24), List.all_append, w_t7, ← List.take_append_drop 24 (((((((words1.drop 24).drop 24).drop 24).drop 24).drop 24).drop 24).drop 24), List.all_append, w_t8, ← List.take_append_drop 24 ((((((((words1.drop 24).drop 24).drop 24).drop 24).drop 24).drop 24).drop 24).drop 24), List.all_append, w_t9, ← List.take_append_drop 24 (((((((((words1.drop 24).drop 24).drop 24).drop 24).drop 24).drop 24).drop 24).drop 24).drop 24), List.all_append, w_t10, ← List.take_append_drop 24 ((((((((((words1.drop 24).drop 24).drop 24).drop 24).drop 24).drop 24).drop 24).drop 24).drop 24).drop 24), List.all_append, w_t11, ← List.take_append_drop 24 (((((((((((words1.drop 24).drop 24).drop 24).drop 24).drop 24).drop 24).drop 24).drop 24).drop 24).drop 24).drop 24), List.all_append, w_t12, w_t13]
  rfl
set_option maxRecDepth 65536 in
theorem w_rest : rest_1_c.before args0 about1 = true := by decide +kernel
set_option maxRecDepth 65536 in
theorem w_case : (Jvm.Cond.and given_1 narrow_1).before args0 about1 = true := by decide +kernel
set_option maxRecDepth 65536 in
theorem w_consts : constsHeld consts_1 about1 := Jvm.Lit.constsHeldB_iff.mp (by decide +kernel)
theorem w_applies : (headSpec (Jvm.Cond.code x code maxLocals ret :: tables_1) room_1).applies x e0.platform about1 = true :=
  (Spec.applies_iff w_frames).mpr ⟨w_running, w_runnable, w_alone, w_named, w_hears, w_ripe, w_room, w_tables⟩
theorem atStart : AtStart classFile x code maxLocals ret World_1 tables_1 room_1 Calls_1 rest_1 Pre_1 launch0 p0 e0 about1 theMethod args0 below0 :=
  ⟨lists_1, trivial, launch0.admits_env _ _ _, launch0.least_env, fairChoices_fair.cas, fairChoices_fair.clock, w_frames, w_args, w_heap, w_applies, ⟨w_consts, trivial⟩, w_rest, w_case⟩
end start1
theorem witness_1 : WitnessClaimed_1 := ⟨start1.p0, start1.e0, start1.about1, start1.theMethod, start1.args0, start1.below0, start1.atStart⟩
end Jvm.Pilot.@@N@@
