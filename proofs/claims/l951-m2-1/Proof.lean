import JvmDerived
import JvmDerived.Pilot.@@N@@Statement
import JvmDerived.Pilot.@@N@@Code
set_option linter.unusedVariables false
set_option linter.unusedSimpArgs false
namespace Jvm.Pilot.@@N@@
open Jvm Jvm.ClassFile Sem Op Lib Jvm.Free Jvm.Stand Jvm.LawKit Jvm.RoadKit Bundle Jvm.Pilot.@@N@@.Jvm.D

/-! a segment of plain instructions, run by evaluation -/
abbrev PI := Nat × Instr × Nat × Int32
def getK {ρ : Type} : List Slot → Nat → (Slot → Option ρ) → Option ρ
  | [], _, _ => none
  | a :: _, 0, κ => κ a
  | _ :: l, i + 1, κ => getK l i κ
def setK {ρ : Type} : List Slot → Nat → Slot → (List Slot → Option ρ) → Option ρ
  | [], _, _, _ => none
  | _ :: l, 0, x, κ => κ (x :: l)
  | a :: l, i + 1, x, κ => setK l i x (fun l' => κ (a :: l'))
def stK {ρ : Type} (l : List Slot) (i : Nat) (v : Value) (κ : List Slot → Option ρ) : Option ρ :=
  getK l i fun
    | .unset => setK l i (.val v) κ
    | .val (.int _) => setK l i (.val v) κ
    | .val .null => setK l i (.val v) κ
    | .val (.ref _) => setK l i (.val v) κ
    | .val (.long _) => setK l (i + 1) .unset fun l' => setK l' i (.val v) κ
    | _ => none
def stKL {ρ : Type} (l : List Slot) (i : Nat) (v : Int64) (κ : List Slot → Option ρ) : Option ρ :=
  getK l i fun
    | .unset => getK l (i + 1) fun
      | .unset => setK l i (.val (.long v)) fun l' => setK l' (i + 1) .second κ
      | .val (.int _) => setK l i (.val (.long v)) fun l' => setK l' (i + 1) .second κ
      | .val .null => setK l i (.val (.long v)) fun l' => setK l' (i + 1) .second κ
      | .val (.ref _) => setK l i (.val (.long v)) fun l' => setK l' (i + 1) .second κ
      | _ => none
    | .val (.int _) => getK l (i + 1) fun
      | .unset => setK l i (.val (.long v)) fun l' => setK l' (i + 1) .second κ
      | .val (.int _) => setK l i (.val (.long v)) fun l' => setK l' (i + 1) .second κ
      | .val .null => setK l i (.val (.long v)) fun l' => setK l' (i + 1) .second κ
      | .val (.ref _) => setK l i (.val (.long v)) fun l' => setK l' (i + 1) .second κ
      | _ => none
    | .val (.ref _) => getK l (i + 1) fun
      | .unset => setK l i (.val (.long v)) fun l' => setK l' (i + 1) .second κ
      | .val (.int _) => setK l i (.val (.long v)) fun l' => setK l' (i + 1) .second κ
      | .val .null => setK l i (.val (.long v)) fun l' => setK l' (i + 1) .second κ
      | .val (.ref _) => setK l i (.val (.long v)) fun l' => setK l' (i + 1) .second κ
      | _ => none
    | .val (.long _) => getK l (i + 1) fun
      | .second => setK l i (.val (.long v)) κ
      | _ => none
    | _ => none
def pst {ρ : Type} (i : Instr) (v : Int32) (ls : List Slot) (st : List Value) (κ : List Slot → List Value → Option ρ) : Option ρ :=
  match i with
  | .aload_n k => getK ls k.val fun
    | .val (.ref a) => κ ls (.ref a :: st)
    | .val .null => κ ls (.null :: st)
    | _ => none
  | .aload k => getK ls k fun
    | .val (.ref a) => κ ls (.ref a :: st)
    | .val .null => κ ls (.null :: st)
    | _ => none
  | .iload_n k => getK ls k.val fun
    | .val (.int x) => κ ls (.int x :: st)
    | _ => none
  | .iload k => getK ls k fun
    | .val (.int x) => κ ls (.int x :: st)
    | _ => none
  | .lload_n k => getK ls k.val fun
    | .val (.long x) => κ ls (.long x :: st)
    | _ => none
  | .lload k => getK ls k fun
    | .val (.long x) => κ ls (.long x :: st)
    | _ => none
  | .iconst c => κ ls (.int v :: st)
  | .bipush c => κ ls (.int v :: st)
  | .sipush c => κ ls (.int v :: st)
  | .lconst c => κ ls (.long (Int64.ofNat c.val) :: st)
  | .aconst_null => κ ls (.null :: st)
  | .iadd => match st with
    | .int y :: .int x :: r => κ ls (.int (x + y) :: r)
    | _ => none
  | .isub => match st with
    | .int y :: .int x :: r => κ ls (.int (x - y) :: r)
    | _ => none
  | .imul => match st with
    | .int y :: .int x :: r => κ ls (.int (x * y) :: r)
    | _ => none
  | .iand => match st with
    | .int y :: .int x :: r => κ ls (.int (x &&& y) :: r)
    | _ => none
  | .ior => match st with
    | .int y :: .int x :: r => κ ls (.int (x ||| y) :: r)
    | _ => none
  | .ixor => match st with
    | .int y :: .int x :: r => κ ls (.int (x ^^^ y) :: r)
    | _ => none
  | .ishl => match st with
    | .int y :: .int x :: r => κ ls (.int (x <<< (y &&& 31)) :: r)
    | _ => none
  | .ishr => match st with
    | .int y :: .int x :: r => κ ls (.int (x >>> (y &&& 31)) :: r)
    | _ => none
  | .iushr => match st with
    | .int y :: .int x :: r => κ ls (.int (XT.ushr x y) :: r)
    | _ => none
  | .ladd => match st with
    | .long y :: .long x :: r => κ ls (.long (x + y) :: r)
    | _ => none
  | .lsub => match st with
    | .long y :: .long x :: r => κ ls (.long (x - y) :: r)
    | _ => none
  | .lmul => match st with
    | .long y :: .long x :: r => κ ls (.long (x * y) :: r)
    | _ => none
  | .land => match st with
    | .long y :: .long x :: r => κ ls (.long (x &&& y) :: r)
    | _ => none
  | .lor => match st with
    | .long y :: .long x :: r => κ ls (.long (x ||| y) :: r)
    | _ => none
  | .lxor => match st with
    | .long y :: .long x :: r => κ ls (.long (x ^^^ y) :: r)
    | _ => none
  | .lshl => match st with
    | .int y :: .long x :: r => κ ls (.long (x <<< (y.toInt64 &&& 63)) :: r)
    | _ => none
  | .lshr => match st with
    | .int y :: .long x :: r => κ ls (.long (x >>> (y.toInt64 &&& 63)) :: r)
    | _ => none
  | .lushr => match st with
    | .int y :: .long x :: r => κ ls (.long (XT.ushrL x y) :: r)
    | _ => none
  | .ineg => match st with
    | .int x :: r => κ ls (.int (-x) :: r)
    | _ => none
  | .lneg => match st with
    | .long x :: r => κ ls (.long (-x) :: r)
    | _ => none
  | .i2l => match st with
    | .int x :: r => κ ls (.long (x.toInt64) :: r)
    | _ => none
  | .l2i => match st with
    | .long x :: r => κ ls (.int (x.toInt32) :: r)
    | _ => none
  | .i2b => match st with
    | .int x :: r => κ ls (.int (x.toInt8.toInt32) :: r)
    | _ => none
  | .i2c => match st with
    | .int x :: r => κ ls (.int (x.toUInt32.toUInt16.toUInt32.toInt32) :: r)
    | _ => none
  | .i2s => match st with
    | .int x :: r => κ ls (.int (x.toInt16.toInt32) :: r)
    | _ => none
  | .lcmp => match st with
    | .long y :: .long x :: r => κ ls (.int (XT.cmpL x y) :: r)
    | _ => none
  | .pop => match st with
    | .int x :: r => κ ls (r)
    | .ref x :: r => κ ls (r)
    | .null :: r => κ ls (r)
    | _ => none
  | .dup => match st with
    | .int x :: r => κ ls (.int x :: .int x :: r)
    | .ref x :: r => κ ls (.ref x :: .ref x :: r)
    | .null :: r => κ ls (.null :: .null :: r)
    | _ => none
  | .dup_x1 => match st with
    | .int x :: .int y :: r => κ ls (.int x :: .int y :: .int x :: r)
    | .int x :: .ref y :: r => κ ls (.int x :: .ref y :: .int x :: r)
    | .int x :: .null :: r => κ ls (.int x :: .null :: .int x :: r)
    | .ref x :: .int y :: r => κ ls (.ref x :: .int y :: .ref x :: r)
    | .ref x :: .ref y :: r => κ ls (.ref x :: .ref y :: .ref x :: r)
    | .ref x :: .null :: r => κ ls (.ref x :: .null :: .ref x :: r)
    | .null :: .int y :: r => κ ls (.null :: .int y :: .null :: r)
    | .null :: .ref y :: r => κ ls (.null :: .ref y :: .null :: r)
    | .null :: .null :: r => κ ls (.null :: .null :: .null :: r)
    | _ => none
  | .dup2 => match st with
    | .long x :: r => κ ls (.long x :: .long x :: r)
    | .int x :: .int y :: r => κ ls (.int x :: .int y :: .int x :: .int y :: r)
    | .int x :: .ref y :: r => κ ls (.int x :: .ref y :: .int x :: .ref y :: r)
    | .ref x :: .int y :: r => κ ls (.ref x :: .int y :: .ref x :: .int y :: r)
    | .ref x :: .ref y :: r => κ ls (.ref x :: .ref y :: .ref x :: .ref y :: r)
    | _ => none
  | .istore_n k => match st with
    | .int x :: r => stK ls k.val (.int x) fun ls' => κ ls' r
    | _ => none
  | .istore k => match st with
    | .int x :: r => stK ls k (.int x) fun ls' => κ ls' r
    | _ => none
  | .astore_n k => match st with
    | .ref x :: r => stK ls k.val (.ref x) fun ls' => κ ls' r
    | .null :: r => stK ls k.val .null fun ls' => κ ls' r
    | _ => none
  | .astore k => match st with
    | .ref x :: r => stK ls k (.ref x) fun ls' => κ ls' r
    | .null :: r => stK ls k .null fun ls' => κ ls' r
    | _ => none
  | .lstore_n k => match st with
    | .long x :: r => stKL ls k.val x fun ls' => κ ls' r
    | _ => none
  | .lstore k => match st with
    | .long x :: r => stKL ls k x fun ls' => κ ls' r
    | _ => none
  | .iinc k c => getK ls k fun
    | .val (.int x) => stK ls k (.int (x + v)) fun ls' => κ ls' st
    | _ => none
  | .goto _ => κ ls st
  | _ => none
def ilen : Instr → Nat
  | .aload _ => 2
  | .iload _ => 2
  | .lload _ => 2
  | .astore _ => 2
  | .istore _ => 2
  | .lstore _ => 2
  | .bipush _ => 2
  | .iinc _ _ => 3
  | .sipush _ => 3
  | .goto _ => 3
  | _ => 1
def ival (v : Int32) : Instr → Prop
  | .iconst c => Int32.ofInt c = v
  | .bipush c => (Int8.ofInt c).toInt32 = v
  | .sipush c => (Int16.ofInt c).toInt32 = v
  | .iinc _ c => Int32.ofInt c = v
  | _ => True
instance {v : Int32} {i : Instr} : Decidable (ival v i) := by unfold ival; split <;> infer_instance
def inxt (pc nx : Nat) : Instr → Prop
  | .goto o => 0 ≤ (pc : Int) + o ∧ ((pc : Int) + o).toNat = nx
  | i => pc + ilen i = nx
instance {pc nx : Nat} {i : Instr} : Decidable (inxt pc nx i) := by unfold inxt; split <;> infer_instance
def segOk (code : ByteArray) : Nat → List PI → Nat → Bool
  | pc, [], pe => decide (pc = pe)
  | pc, (q, i, nx, v) :: r, pe => decide (q = pc) && decide (decode code pc = .ok (i, ilen i)) && decide (ival v i) && decide (inxt pc nx i) && segOk code nx r pe
def prun : List PI → List Slot → List Value → Option (List Slot × List Value)
  | [], ls, st => some (ls, st)
  | (_, i, _, v) :: r, ls, st => pst i v ls st fun ls' st' => prun r ls' st'
theorem getK_some {ρ : Type} {κ : Slot → Option ρ} {r : ρ} : ∀ {l : List Slot} {i : Nat}, getK l i κ = some r → ∃ a, l[i]? = some a ∧ κ a = some r
  | [], _, h => by cases h
  | a :: _, 0, h => ⟨a, rfl, h⟩
  | _ :: l, i + 1, h => by obtain ⟨a, h1, h2⟩ := getK_some (l := l) h; exact ⟨a, by simpa using h1, h2⟩
theorem setK_some {ρ : Type} {x : Slot} {r : ρ} : ∀ {l : List Slot} {i : Nat} {κ : List Slot → Option ρ}, setK l i x κ = some r → i < l.length ∧ κ (l.set i x) = some r
  | [], _, _, h => by cases h
  | a :: _, 0, _, h => ⟨by simp, h⟩
  | _ :: l, i + 1, _, h => by obtain ⟨h1, h2⟩ := setK_some (l := l) h; exact ⟨by simpa using h1, by simpa using h2⟩
theorem setAt_list {l : List Slot} {i : Nat} {x : Slot} (h : i < l.length) : setAt l.toArray i x = some (l.set i x).toArray := by simp [setAt, h]
theorem cat_i (x : Int32) : (Value.int x).category = 1 := rfl
theorem cat_l (x : Int64) : (Value.long x).category = 2 := rfl
theorem cat_r (x : Addr) : (Value.ref x).category = 1 := rfl
theorem cat_n : Value.null.category = 1 := rfl
theorem stK_some {ρ : Type} {r : ρ} {v : Value} (hv : v.category = 1) {l : List Slot} {i : Nat} {κ : List Slot → Option ρ} (h : stK l i v κ = some r) : ∃ l', storeLocals l.toArray i v = some l'.toArray ∧ l'.length = l.length ∧ κ l' = some r := by
  obtain ⟨a, h1, h2⟩ := getK_some h
  have e : l.toArray[i]? = some a := by simpa using h1
  split at h2
  all_goals first
    | (cases h2; done)
    | (obtain ⟨h3, h4⟩ := setK_some h2; exact ⟨l.set i (.val v), by simp [storeLocals, storeSelf, e, h1, setAt_list h3, hv, cat_i, cat_l, cat_r, cat_n], by simp, h4⟩)
    | (obtain ⟨h3, h4⟩ := setK_some h2; obtain ⟨h5, h6⟩ := setK_some h4; exact ⟨(l.set (i + 1) .unset).set i (.val v), by simp [storeLocals, storeSelf, e, h1, setAt_list h3, setAt_list h5, hv, cat_i, cat_l, cat_r, cat_n], by simp, h6⟩)
theorem stKL_one {ρ : Type} {r : ρ} {v : Int64} {l : List Slot} {i : Nat} {κ : List Slot → Option ρ} {a : Slot} (h1 : l[i]? = some a) (ha : a = .unset ∨ ∃ w, a = .val w ∧ w.category = 1)
    (h2 : (getK l (i + 1) fun
      | .unset => setK l i (.val (.long v)) fun l' => setK l' (i + 1) .second κ
      | .val (.int _) => setK l i (.val (.long v)) fun l' => setK l' (i + 1) .second κ
      | .val .null => setK l i (.val (.long v)) fun l' => setK l' (i + 1) .second κ
      | .val (.ref _) => setK l i (.val (.long v)) fun l' => setK l' (i + 1) .second κ
      | _ => none) = some r) : ∃ l', storeLocals l.toArray i (.long v) = some l'.toArray ∧ l'.length = l.length ∧ κ l' = some r := by
  obtain ⟨b, h3, h4⟩ := getK_some h2
  have e : l.toArray[i]? = some a := by simpa using h1
  have e' : (l.set i (.val (.long v))).toArray[i + 1]? = some b := by simpa [List.getElem?_set] using h3
  have hs : storeSelf l.toArray i (.long v) = storeLocals l.toArray i (.long v) := by
    rcases ha with rfl | ⟨w, rfl, hw⟩ <;> simp [storeLocals, h1, *]
  rw [← hs]
  split at h4
  all_goals first
    | (cases h4; done)
    | (obtain ⟨h5, h6⟩ := setK_some h4; obtain ⟨h7, h8⟩ := setK_some h6
       refine ⟨(l.set i (.val (.long v))).set (i + 1) .second, ?_, by simp, h8⟩
       simp only [storeSelf, setAt_list h5, setAt_list h7, e', cat_i, cat_l, cat_r, cat_n, Option.bind_eq_bind, Option.bind_some, if_true, if_false, reduceIte, Nat.reduceEqDiff])
theorem stKL_some {ρ : Type} {r : ρ} {v : Int64} {l : List Slot} {i : Nat} {κ : List Slot → Option ρ} (h : stKL l i v κ = some r) : ∃ l', storeLocals l.toArray i (.long v) = some l'.toArray ∧ l'.length = l.length ∧ κ l' = some r := by
  obtain ⟨a, h1, h2⟩ := getK_some h
  have e : l.toArray[i]? = some a := by simpa using h1
  split at h2
  · exact stKL_one h1 (Or.inl rfl) h2
  · exact stKL_one h1 (Or.inr ⟨_, rfl, rfl⟩) h2
  · exact stKL_one h1 (Or.inr ⟨_, rfl, rfl⟩) h2
  · obtain ⟨b, h3, h4⟩ := getK_some h2
    split at h4
    · obtain ⟨h5, h6⟩ := setK_some h4
      have h7 : i + 1 < l.length := (List.getElem?_eq_some_iff.mp h3).1
      have q : ((l.set (i + 1) .unset).set i (.val (.long v))).set (i + 1) .second = l.set i (.val (.long v)) := by
        apply List.ext_getElem?; intro j
        simp only [List.getElem?_set, List.length_set]
        by_cases e1 : i + 1 = j
        · subst e1; obtain ⟨_, h8⟩ := List.getElem?_eq_some_iff.mp h3; simp [h7, h8]
        · simp [e1]
      refine ⟨l.set i (.val (.long v)), ?_, by simp, h6⟩
      rw [← q]
      have a1 : setAt l.toArray (i + 1) .unset = some (l.set (i + 1) .unset).toArray := setAt_list h7
      have a2 : setAt (l.set (i + 1) .unset).toArray i (.val (.long v)) = some ((l.set (i + 1) .unset).set i (.val (.long v))).toArray := setAt_list (by simpa using h5)
      have a3 : setAt ((l.set (i + 1) .unset).set i (.val (.long v))).toArray (i + 1) .second = some (((l.set (i + 1) .unset).set i (.val (.long v))).set (i + 1) .second).toArray := setAt_list (by simpa using h7)
      have a4 : ((l.set (i + 1) .unset).set i (.val (.long v))).toArray[i + 1]? = some .unset := by simp [List.getElem?_set, h7]
      simp only [storeLocals, storeSelf, e, a1, a2, a3, a4, cat_l, Option.bind_eq_bind, Option.bind_some, if_true]
    · cases h4
  · cases h2

theorem pst_sound {ρ : Type} {r : ρ} {tb : Tables} [Ours tb] {e : Env} {below : List Frame} {T : State} {m : MethodId} {c : Code} {code : ByteArray} (hA : At T m c below) (hx : tb.exec = Jvm.exec) (hc : c.code = code) {i : Instr} {v : Int32} {pc nx : Nat} {ls : List Slot} {st : List Value} {κ : List Slot → List Value → Option ρ}
    (hd : decode code pc = .ok (i, ilen i)) (hv : ival v i) (hn : inxt pc nx i) (h : pst i v ls st κ = some r) :
    ∃ ls' st', ls'.length = ls.length ∧ κ ls' st' = some r ∧ ∀ t, Steps tb e below (T.setTop (mkF m nx ls'.toArray st')) t → Steps tb e below (T.setTop (mkF m pc ls.toArray st)) t := by
  cases i
  case goto o => exact ⟨_, _, rfl, h, fun t hr => XS.goto hA hx rfl rfl (hb hc hd) hn.1 hn.2 hr⟩
  all_goals first
    | exact nomatch (show none = some _ from h)
    | (change _ = nx at hn; subst hn)
  case aload_n k => 
    obtain ⟨a, h1, h2⟩ := getK_some h
    split at h2
    · exact ⟨_, _, rfl, h2, fun t hr => XS.aloadN hA hx rfl (hb hc hd) (by simpa using h1) rfl hr⟩
    · exact ⟨_, _, rfl, h2, fun t hr => XS.aloadN hA hx rfl (hb hc hd) (by simpa using h1) rfl hr⟩
    · cases h2
  case aload k => 
    obtain ⟨a, h1, h2⟩ := getK_some h
    split at h2
    · exact ⟨_, _, rfl, h2, fun t hr => XS.aload hA hx rfl (hb hc hd) (by simpa using h1) rfl hr⟩
    · exact ⟨_, _, rfl, h2, fun t hr => XS.aload hA hx rfl (hb hc hd) (by simpa using h1) rfl hr⟩
    · cases h2
  case iload_n k => 
    obtain ⟨a, h1, h2⟩ := getK_some h
    split at h2
    · exact ⟨_, _, rfl, h2, fun t hr => XS.iloadN hA hx rfl (hb hc hd) (by simpa using h1) hr⟩
    · cases h2
  case iload k => 
    obtain ⟨a, h1, h2⟩ := getK_some h
    split at h2
    · exact ⟨_, _, rfl, h2, fun t hr => XS.iload hA hx rfl (hb hc hd) (by simpa using h1) hr⟩
    · cases h2
  case lload_n k => 
    obtain ⟨a, h1, h2⟩ := getK_some h
    split at h2
    · exact ⟨_, _, rfl, h2, fun t hr => XT.lloadN hA hx rfl (hb hc hd) (by simpa using h1) hr⟩
    · cases h2
  case lload k => 
    obtain ⟨a, h1, h2⟩ := getK_some h
    split at h2
    · exact ⟨_, _, rfl, h2, fun t hr => XT.lload hA hx rfl (hb hc hd) (by simpa using h1) hr⟩
    · cases h2
  case iconst c => exact ⟨_, _, rfl, h, fun t hr => XS.iconst hA hx rfl (hb hc hd) (by rw [hv]; exact hr)⟩
  case bipush c => exact ⟨_, _, rfl, h, fun t hr => XS.bipush hA hx rfl (hb hc hd) (by rw [hv]; exact hr)⟩
  case sipush c => exact ⟨_, _, rfl, h, fun t hr => XS.sipush hA hx rfl (hb hc hd) (by rw [hv]; exact hr)⟩
  case lconst c => exact ⟨_, _, rfl, h, fun t hr => XT.lconst hA hx rfl (hb hc hd) hr⟩
  case aconst_null => exact ⟨_, _, rfl, h, fun t hr => XS.aconstNull hA hx rfl (hb hc hd) hr⟩
  case iadd => 
    simp only [pst] at h
    split at h
    · exact ⟨_, _, rfl, h, fun t hr => XS.iadd hA hx rfl (hb hc hd) rfl hr⟩
    · cases h
  case isub => 
    simp only [pst] at h
    split at h
    · exact ⟨_, _, rfl, h, fun t hr => XS.isub hA hx rfl (hb hc hd) rfl hr⟩
    · cases h
  case imul => 
    simp only [pst] at h
    split at h
    · exact ⟨_, _, rfl, h, fun t hr => XS.imul hA hx rfl (hb hc hd) rfl hr⟩
    · cases h
  case iand => 
    simp only [pst] at h
    split at h
    · exact ⟨_, _, rfl, h, fun t hr => XS.iand hA hx rfl (hb hc hd) rfl hr⟩
    · cases h
  case ior => 
    simp only [pst] at h
    split at h
    · exact ⟨_, _, rfl, h, fun t hr => XT.ior hA hx rfl (hb hc hd) rfl hr⟩
    · cases h
  case ixor => 
    simp only [pst] at h
    split at h
    · exact ⟨_, _, rfl, h, fun t hr => XT.ixor hA hx rfl (hb hc hd) rfl hr⟩
    · cases h
  case ishl => 
    simp only [pst] at h
    split at h
    · exact ⟨_, _, rfl, h, fun t hr => XT.ishl hA hx rfl (hb hc hd) rfl hr⟩
    · cases h
  case ishr => 
    simp only [pst] at h
    split at h
    · exact ⟨_, _, rfl, h, fun t hr => XT.ishr hA hx rfl (hb hc hd) rfl hr⟩
    · cases h
  case iushr => 
    simp only [pst] at h
    split at h
    · exact ⟨_, _, rfl, h, fun t hr => XT.iushr hA hx rfl (hb hc hd) rfl hr⟩
    · cases h
  case ladd => 
    simp only [pst] at h
    split at h
    · exact ⟨_, _, rfl, h, fun t hr => XT.ladd hA hx rfl (hb hc hd) rfl hr⟩
    · cases h
  case lsub => 
    simp only [pst] at h
    split at h
    · exact ⟨_, _, rfl, h, fun t hr => XT.lsub hA hx rfl (hb hc hd) rfl hr⟩
    · cases h
  case lmul => 
    simp only [pst] at h
    split at h
    · exact ⟨_, _, rfl, h, fun t hr => XT.lmul hA hx rfl (hb hc hd) rfl hr⟩
    · cases h
  case land => 
    simp only [pst] at h
    split at h
    · exact ⟨_, _, rfl, h, fun t hr => XT.land hA hx rfl (hb hc hd) rfl hr⟩
    · cases h
  case lor => 
    simp only [pst] at h
    split at h
    · exact ⟨_, _, rfl, h, fun t hr => XT.lor hA hx rfl (hb hc hd) rfl hr⟩
    · cases h
  case lxor => 
    simp only [pst] at h
    split at h
    · exact ⟨_, _, rfl, h, fun t hr => XT.lxor hA hx rfl (hb hc hd) rfl hr⟩
    · cases h
  case lshl => 
    simp only [pst] at h
    split at h
    · exact ⟨_, _, rfl, h, fun t hr => XT.lshl hA hx rfl (hb hc hd) rfl hr⟩
    · cases h
  case lshr => 
    simp only [pst] at h
    split at h
    · exact ⟨_, _, rfl, h, fun t hr => XT.lshr hA hx rfl (hb hc hd) rfl hr⟩
    · cases h
  case lushr => 
    simp only [pst] at h
    split at h
    · exact ⟨_, _, rfl, h, fun t hr => XT.lushr hA hx rfl (hb hc hd) rfl hr⟩
    · cases h
  case ineg => 
    simp only [pst] at h
    split at h
    · exact ⟨_, _, rfl, h, fun t hr => XS.ineg hA hx rfl (hb hc hd) rfl hr⟩
    · cases h
  case lneg => 
    simp only [pst] at h
    split at h
    · exact ⟨_, _, rfl, h, fun t hr => XT.lneg hA hx rfl (hb hc hd) rfl hr⟩
    · cases h
  case i2l => 
    simp only [pst] at h
    split at h
    · exact ⟨_, _, rfl, h, fun t hr => XT.i2l hA hx rfl (hb hc hd) rfl hr⟩
    · cases h
  case l2i => 
    simp only [pst] at h
    split at h
    · exact ⟨_, _, rfl, h, fun t hr => XT.l2i hA hx rfl (hb hc hd) rfl hr⟩
    · cases h
  case i2b => 
    simp only [pst] at h
    split at h
    · exact ⟨_, _, rfl, h, fun t hr => XT.i2b hA hx rfl (hb hc hd) rfl hr⟩
    · cases h
  case i2c => 
    simp only [pst] at h
    split at h
    · exact ⟨_, _, rfl, h, fun t hr => XT.i2c hA hx rfl (hb hc hd) rfl hr⟩
    · cases h
  case i2s => 
    simp only [pst] at h
    split at h
    · exact ⟨_, _, rfl, h, fun t hr => XT.i2s hA hx rfl (hb hc hd) rfl hr⟩
    · cases h
  case lcmp => 
    simp only [pst] at h
    split at h
    · exact ⟨_, _, rfl, h, fun t hr => XT.lcmp hA hx rfl (hb hc hd) rfl hr⟩
    · cases h
  case pop => 
    simp only [pst] at h
    split at h
    · exact ⟨_, _, rfl, h, fun t hr => XT.pop hA hx rfl (hb hc hd) rfl rfl hr⟩
    · exact ⟨_, _, rfl, h, fun t hr => XT.pop hA hx rfl (hb hc hd) rfl rfl hr⟩
    · exact ⟨_, _, rfl, h, fun t hr => XT.pop hA hx rfl (hb hc hd) rfl rfl hr⟩
    · cases h
  case dup => 
    simp only [pst] at h
    split at h
    · exact ⟨_, _, rfl, h, fun t hr => XS.dup hA hx rfl (hb hc hd) rfl rfl hr⟩
    · exact ⟨_, _, rfl, h, fun t hr => XS.dup hA hx rfl (hb hc hd) rfl rfl hr⟩
    · exact ⟨_, _, rfl, h, fun t hr => XS.dup hA hx rfl (hb hc hd) rfl rfl hr⟩
    · cases h
  case dup_x1 => 
    simp only [pst] at h
    split at h
    · exact ⟨_, _, rfl, h, fun t hr => XT.dupX1 hA hx rfl (hb hc hd) rfl rfl rfl hr⟩
    · exact ⟨_, _, rfl, h, fun t hr => XT.dupX1 hA hx rfl (hb hc hd) rfl rfl rfl hr⟩
    · exact ⟨_, _, rfl, h, fun t hr => XT.dupX1 hA hx rfl (hb hc hd) rfl rfl rfl hr⟩
    · exact ⟨_, _, rfl, h, fun t hr => XT.dupX1 hA hx rfl (hb hc hd) rfl rfl rfl hr⟩
    · exact ⟨_, _, rfl, h, fun t hr => XT.dupX1 hA hx rfl (hb hc hd) rfl rfl rfl hr⟩
    · exact ⟨_, _, rfl, h, fun t hr => XT.dupX1 hA hx rfl (hb hc hd) rfl rfl rfl hr⟩
    · exact ⟨_, _, rfl, h, fun t hr => XT.dupX1 hA hx rfl (hb hc hd) rfl rfl rfl hr⟩
    · exact ⟨_, _, rfl, h, fun t hr => XT.dupX1 hA hx rfl (hb hc hd) rfl rfl rfl hr⟩
    · exact ⟨_, _, rfl, h, fun t hr => XT.dupX1 hA hx rfl (hb hc hd) rfl rfl rfl hr⟩
    · cases h
  case dup2 => 
    simp only [pst] at h
    split at h
    · exact ⟨_, _, rfl, h, fun t hr => XT.dup2L hA hx rfl (hb hc hd) rfl hr⟩
    · exact ⟨_, _, rfl, h, fun t hr => XT.dup2 hA hx rfl (hb hc hd) rfl rfl rfl hr⟩
    · exact ⟨_, _, rfl, h, fun t hr => XT.dup2 hA hx rfl (hb hc hd) rfl rfl rfl hr⟩
    · exact ⟨_, _, rfl, h, fun t hr => XT.dup2 hA hx rfl (hb hc hd) rfl rfl rfl hr⟩
    · exact ⟨_, _, rfl, h, fun t hr => XT.dup2 hA hx rfl (hb hc hd) rfl rfl rfl hr⟩
    · cases h
  case istore_n k => 
    simp only [pst] at h
    split at h
    · obtain ⟨l', h1, h2, h3⟩ := stK_some rfl h
      exact ⟨_, _, h2, h3, fun t hr => XS.istoreN hA hx rfl (hb hc hd) rfl h1 hr⟩
    · cases h
  case istore k => 
    simp only [pst] at h
    split at h
    · obtain ⟨l', h1, h2, h3⟩ := stK_some rfl h
      exact ⟨_, _, h2, h3, fun t hr => XS.istore hA hx rfl (hb hc hd) rfl h1 hr⟩
    · cases h
  case astore_n k => 
    simp only [pst] at h
    split at h
    · obtain ⟨l', h1, h2, h3⟩ := stK_some rfl h
      exact ⟨_, _, h2, h3, fun t hr => XS.astoreN hA hx rfl (hb hc hd) rfl rfl h1 hr⟩
    · obtain ⟨l', h1, h2, h3⟩ := stK_some rfl h
      exact ⟨_, _, h2, h3, fun t hr => XS.astoreN hA hx rfl (hb hc hd) rfl rfl h1 hr⟩
    · cases h
  case astore k => 
    simp only [pst] at h
    split at h
    · obtain ⟨l', h1, h2, h3⟩ := stK_some rfl h
      exact ⟨_, _, h2, h3, fun t hr => XS.astore hA hx rfl (hb hc hd) rfl rfl h1 hr⟩
    · obtain ⟨l', h1, h2, h3⟩ := stK_some rfl h
      exact ⟨_, _, h2, h3, fun t hr => XS.astore hA hx rfl (hb hc hd) rfl rfl h1 hr⟩
    · cases h
  case lstore_n k => 
    simp only [pst] at h
    split at h
    · obtain ⟨l', h1, h2, h3⟩ := stKL_some h
      exact ⟨_, _, h2, h3, fun t hr => XT.lstoreN hA hx rfl (hb hc hd) rfl h1 hr⟩
    · cases h
  case lstore k => 
    simp only [pst] at h
    split at h
    · obtain ⟨l', h1, h2, h3⟩ := stKL_some h
      exact ⟨_, _, h2, h3, fun t hr => XT.lstore hA hx rfl (hb hc hd) rfl h1 hr⟩
    · cases h
  case iinc k c => 
    obtain ⟨a, h1, h2⟩ := getK_some h
    split at h2
    · obtain ⟨l', h3, h4, h5⟩ := stK_some rfl h2
      exact ⟨_, _, h4, h5, fun t hr => XS.iinc hA hx rfl (hb hc hd) (by simpa using h1) (by rw [hv]; exact h3) hr⟩
    · cases h2
theorem prun_sound {tb : Tables} [Ours tb] {e : Env} {below : List Frame} {T : State} {m : MethodId} {c : Code} {code : ByteArray} (hA : At T m c below) (hx : tb.exec = Jvm.exec) (hc : c.code = code) : ∀ (seg : List PI) {pc pe : Nat} {ls ls' : List Slot} {st st' : List Value}, segOk code pc seg pe = true → prun seg ls st = some (ls', st') →
    ls'.length = ls.length ∧ ∀ t, Steps tb e below (T.setTop (mkF m pe ls'.toArray st')) t → Steps tb e below (T.setTop (mkF m pc ls.toArray st)) t
  | [], pc, pe, ls, ls', st, st', h1, h2 => by
    have e1 : pc = pe := by simpa [segOk] using h1
    have e2 : (ls, st) = (ls', st') := Option.some.inj h2
    cases e1; cases e2
    exact ⟨rfl, fun t hr => hr⟩
  | (q, i, nx, v) :: r, pc, pe, ls, ls', st, st', h1, h2 => by
    simp only [segOk, Bool.and_eq_true, decide_eq_true_eq] at h1
    obtain ⟨⟨⟨⟨rfl, hd⟩, hv⟩, hn⟩, hr⟩ := h1
    obtain ⟨l1, s1, e1, h3, k1⟩ := pst_sound (κ := fun ls' st' => prun r ls' st') hA hx hc hd hv hn h2
    obtain ⟨e2, k2⟩ := prun_sound hA hx hc r hr h3
    exact ⟨e2.trans e1, fun t ht => k1 _ (k2 _ ht)⟩

abbrev HP := Heap × (Addr → Prop)
abbrev Dyn := Program × Env × State × MethodId × Array Value × List Frame × Method × Code × State × HP
def GI (Z : State) (EL : List (String × Nat)) (vm : Vm) (H : HP) : Prop :=
  Ext Z.heap H.1 ∧ (∀ y, H.2 y → Z.heap.size ≤ y ∧ y < H.1.size) ∧ CHv Z EL vm H.1 ∧ ∀ y, Bk Z EL vm H.1 y → ¬ H.2 y
def Kp (H H' : HP) (ws : List Addr) : Prop := Keep H.1 H'.1 ws ∧ ∀ x, H.2 x → H'.2 x
def Wk (l : Launch) (Z : State) (a0 : Array Value) (EL : List (String × Nat)) (own : String) (code : ByteArray) (ml : Nat) (nm : String) (rt : Option FieldType) (R : Room) (D : Dyn) (pc : Nat) (ls : List Slot) (st : List Value) (H : HP) (k n : Nat) : Prop :=
  D.1.tables.exec = Jvm.exec ∧ D.2.2.1.vm.findClass own = some D.2.2.2.1.cls ∧ D.2.2.2.2.2.2.2.1.code = code ∧ D.2.2.2.2.2.2.2.1.maxLocals = ml ∧ D.2.2.2.2.2.2.1.name = nm ∧ D.2.2.2.2.2.2.1.sig.returnType = rt ∧ D.2.2.2.2.2.2.1.locks = false ∧ EW Z a0 EL ∧ (∀ a ∈ Bundle.stringAtoms, a.before a0 Z = true) ∧ ls.length = ml ∧
  ∃ T L vm0 k0, Stand D.1 l D.2.1 R (D.2.2.1.setVm vm0) D.2.2.2.1 D.2.2.2.2.1 D.2.2.2.2.2.1 D.2.2.2.2.2.2.1 D.2.2.2.2.2.2.2.1 T L k n ∧ T.heap = H.1 ∧ D.2.2.1.Since vm0 k0 ∧ k0 ≤ H.1.size ∧ Z.Warmed39 vm0 ∧ GI Z EL vm0 H ∧ Fr Z.heap.size L ∧
    ((∀ x, D.2.2.2.2.2.2.2.2.2.2 x → H.2 x) ∧ D.2.2.2.2.2.2.2.2.2.1.size ≤ H.1.size) ∧ Steps D.1.tables D.2.1 D.2.2.2.2.2.1 D.2.2.2.2.2.2.2.2.1 (T.setTop (mkF D.2.2.2.1 pc ls.toArray st))
/-- the method has returned v -/
def Rt (Z : State) (EL : List (String × Nat)) (D : Dyn) (v : Option Value) (H : HP) (k n : Nat) : Prop :=
  ∃ s₂ L, Steps D.1.tables D.2.1 D.2.2.2.2.2.1 D.2.2.2.2.2.2.2.2.1 s₂ ∧ s₂.status = .running ∧ Ended s₂ D.2.2.2.2.2.1 (.returned v) ∧ s₂.heap = H.1 ∧ ((∀ x, D.2.2.2.2.2.2.2.2.2.2 x → H.2 x) ∧ D.2.2.2.2.2.2.2.2.2.1.size ≤ H.1.size) ∧ GI Z EL s₂.vm H ∧ Fr Z.heap.size L ∧ ReturnedEndW D.2.2.1 (.returned v) s₂ L k n
/-- a contract: y, called with as in the heap H, comes back with Q -/
def Ct (l : Launch) (Z : State) (EL : List (String × Nat)) (y : MethodName) (bytes : ByteArray) (ml : Nat) (ret : Option FieldType) (rm : Room) (ws : List Jvm.Cond) (as : List Value) (H : HP) (Q : Option Value → HP → Prop) : Prop :=
  MetFree l y (head1 (Jvm.Cond.code y bytes ml ret :: ws) rm) (fun a U => a = as.toArray ∧ Z.Warmed39 U.vm ∧ U.heap = H.1 ∧ GI Z EL U.vm H) (fun _ _ _ _ _ => True)
    (fun _ U o U' => ∃ v L O, o = .returned v ∧ Q v (U'.heap, O) ∧ ((∀ x, H.2 x → O x) ∧ H.1.size ≤ U'.heap.size) ∧ GI Z EL U'.vm (U'.heap, O) ∧ Fr Z.heap.size L ∧ ReturnedEndW U o U' L rm.cells rm.slots)
def locsOf : List Value → Nat → List Slot
  | [], n => List.replicate n .unset
  | v :: r, n => match v with
    | .long x => .val (.long x) :: .second :: locsOf r (n - 2)
    | .double x => .val (.double x) :: .second :: locsOf r (n - 2)
    | .int x => .val (.int x) :: locsOf r (n - 1)
    | .float x => .val (.float x) :: locsOf r (n - 1)
    | .null => .val .null :: locsOf r (n - 1)
    | .ref x => .val (.ref x) :: locsOf r (n - 1)
    | .retAddr x => .val (.retAddr x) :: locsOf r (n - 1)
def slotsOf : List Value → List Slot
  | [] => []
  | v :: r => if v.category = 2 then .val v :: .second :: slotsOf r else .val v :: slotsOf r
theorem locsOf_eq : ∀ (as : List Value) (n : Nat), locsOf as n = slotsOf as ++ List.replicate (n - (slotsOf as).length) .unset
  | [], n => by simp [locsOf, slotsOf]
  | v :: r, n => by
    have e1 : n - 1 - (slotsOf r).length = n - ((slotsOf r).length + 1) := by omega
    have e2 : n - 2 - (slotsOf r).length = n - ((slotsOf r).length + 1 + 1) := by omega
    cases v <;> simp [locsOf, slotsOf, Value.category, locsOf_eq r, e1, e2]
theorem fold_slots : ∀ (as : List Value) (acc : Array Slot), as.foldl (fun acc v => if v.category = 2 then (acc.push (.val v)).push .second else acc.push (.val v)) acc = acc ++ (slotsOf as).toArray
  | [], acc => by simp [slotsOf]
  | v :: r, acc => by
    rw [List.foldl_cons, fold_slots r]
    by_cases h : v.category = 2
    · simp only [h, if_true, slotsOf]; apply Array.ext'; simp
    · simp only [h, if_false, slotsOf]; apply Array.ext'; simp
theorem entry_locs (m : MethodId) (as : List Value) (ml : Nat) : entryFrame m as.toArray ml = mkF m 0 (locsOf as ml).toArray [] := by
  have q : argsToLocals as.toArray ml = (locsOf as ml).toArray := by
    unfold argsToLocals
    simp only [List.foldl_toArray, fold_slots]
    rw [locsOf_eq]
    apply Array.ext'; simp
  simp only [entryFrame, q]
theorem retV {p : Program} {l : Launch} {e : Env} {R : Room} {s : State} {m : MethodId} {args : Array Value} {below : List Frame} {meth : Method} {c : Code} {T : State} {locs : List Loc} {cells slots : Nat} (X : Stand p l e R s m args below meth c T locs cells slots) (hx : p.tables.exec = Jvm.exec) {pc : Nat} {Ls : Array Slot} {st : List Value} (hret : meth.sig.returnType = none) (hd : decode c.code pc = .ok (.return_, 1)) {fs : List Frame}
    (hl : ∀ (f : JFrame) (acts : List Action), f.method = m → f.locked = none → f.entered = [] → (doReturn e (T.setTop f) acts none).1 = T.setFrames fs) : Steps p.tables e below (T.setTop (mkF m pc Ls st)) (T.setFrames fs) := by
  have hm' : T.vm.method? m = some meth := X.method'
  show Steps p.tables e below (T.setTop { method := m, pc := pc, locals := Ls, stack := st, locked := none }) _
  jvm_step X.here [X.here.top, hx, hd, hm', hret]
  first | (intro acts; rw [hl _ acts rfl rfl rfl]) | rw [hl _ _ rfl rfl rfl]
  exact Steps.refl _
section Laws
variable {l : Launch} {Z : State} {a0 : Array Value} {EL : List (String × Nat)} {own : String} {code : ByteArray} {ml : Nat} {nm : String} {rt : Option FieldType} {R : Room} {D : Dyn} {pc : Nat} {ls : List Slot} {st : List Value} {H H' : HP} {k n : Nat} {vm vm0 : Vm} {ws ws' : List Addr} {a b : Addr} {C nn d : String} {v w : Value} {sl : Nat} {ty : FieldType} {vs : List Value}
theorem Kp.refl (H : HP) : Kp H H [] := ⟨Keep.refl _ _, fun _ h => h⟩
theorem Kp.size (K : Kp H H' ws) : H.1.size ≤ H'.1.size := K.1.1
theorem Kp.trans {H2 : HP} (K : Kp H H' ws) (K' : Kp H' H2 ws') (q : ∀ x ∈ ws', x ∈ ws ∨ H.1.size ≤ x) : Kp H H2 ws := ⟨K.1.trans K'.1 q, fun x h => K'.2 x (K.2 x h)⟩
theorem Kp.tr {H2 : HP} (K : Kp H H' []) (K' : Kp H' H2 []) : Kp H H2 [] := K.trans K' (fun x h => nomatch h)
theorem Kp.wide (K : Kp H H' ws) (q : ∀ x ∈ ws, x ∈ ws' ∨ H.1.size ≤ x) : Kp H H' ws' := Kp.trans (H' := H) ⟨Keep.refl _ _, fun _ h => h⟩ K q
/-- all that was written is new since H: so H stands whole -/
theorem Kp.new (K : Kp H H' ws) (q : ∀ x ∈ ws, H.1.size ≤ x) : Kp H H' [] := K.wide fun x h => Or.inr (q x h)
end Laws
end Jvm.Pilot.@@N@@
namespace Jvm.RoadKit
open Jvm.Pilot.@@N@@
theorem Fld.ky {Z : State} {H H' : HP} {ws : List Addr} {a : Addr} {C nn d : String} {v : Value} (F : Fld Z H.1 a C nn d v) (K : Jvm.Pilot.@@N@@.Kp H H' ws) (q : a ∉ ws := by exact List.not_mem_nil) : Fld Z H'.1 a C nn d v := F.keep K.1 q
theorem Exa.ky {Z : State} {H H' : HP} {ws : List Addr} {a : Addr} {C : String} (F : Exa Z H.1 a C) (K : Jvm.Pilot.@@N@@.Kp H H' ws) : Exa Z H'.1 a C := F.keep K.1
end Jvm.RoadKit
namespace Jvm.Pilot.@@N@@
open Jvm Jvm.ClassFile Sem Op Lib Jvm.Free Jvm.Stand Jvm.LawKit Jvm.RoadKit Bundle Jvm.Pilot.@@N@@.Jvm.D
section Laws
variable {l : Launch} {Z : State} {a0 : Array Value} {EL : List (String × Nat)} {own : String} {code : ByteArray} {ml : Nat} {nm : String} {rt : Option FieldType} {R : Room} {D : Dyn} {pc : Nat} {ls : List Slot} {st : List Value} {H H' : HP} {k n : Nat} {vm vm0 : Vm} {ws ws' : List Addr} {a b : Addr} {C nn d : String} {v w : Value} {sl : Nat} {ty : FieldType} {vs : List Value}
def Ar (Z : State) (H : HP) (a : Addr) (ty : FieldType) (vs : List Value) : Prop := ∃ c : Cell, Arr Z H.1 a c ty ∧ c.slots = vs.toArray ∧ vs.length < 2 ^ 31 ∧ ∀ v ∈ vs, fits ty v = true
theorem Ar.ky (F : Ar Z H a ty vs) (K : Kp H H' ws) (q : a ∉ ws := by exact List.not_mem_nil) : Ar Z H' a ty vs := by
  obtain ⟨c, A, r⟩ := F; exact ⟨c, ⟨K.1.2.1 a c A.1 q, A.2⟩, r⟩
theorem Ar.lt (F : Ar Z H a ty vs) : a < H.1.size := by obtain ⟨c, A, -⟩ := F; exact A.lt
theorem Ar.len (F : Ar Z H a ty vs) : vs.length < 2 ^ 31 := by obtain ⟨c, A, -, h, -⟩ := F; exact h
theorem Ar.fits (F : Ar Z H a ty vs) : ∀ v ∈ vs, fits ty v = true := by obtain ⟨c, A, -, -, h⟩ := F; exact h
theorem clamp_nat {i : Nat} (h : i < 2 ^ 31) : i.toInt32.toNatClampNeg = i := by
  have h1 : (i.toInt32).toInt = i := by simp [Nat.toInt32, Int32.toInt_ofNat_of_lt h]
  simp [Int32.toNatClampNeg, h1]
theorem nonneg_nat {i : Nat} (h : i < 2 ^ 31) : ¬ i.toInt32 < 0 := by
  have h1 : (i.toInt32).toInt = i := by simp [Nat.toInt32, Int32.toInt_ofNat_of_lt h]
  rw [Int32.lt_iff_toInt_lt, h1]; simp
theorem Ar.arv (F : Ar Z H a ty vs) (dv : Value) : ∃ kc, Arv Z H.1 a kc ty vs.length.toInt32 vs dv := by
  obtain ⟨c, A, e, h, g⟩ := F
  have hs : c.slots.size = vs.length := by rw [e]; simp
  refine ⟨c.cls, c, A, rfl, by rw [hs, clamp_nat h], nonneg_nat h, fun k hk => ?_, fun i hi => ?_⟩
  · rw [hs] at hk; rw [e]; simp [hk]
  · rw [hs] at hi
    have : vs.getD i dv = vs[i] := by simp [hi]
    rw [this]; exact g _ (List.getElem_mem hi)
theorem Ar.of_arv {kc : ClassId} {z : Int32} {dv : Value} (F : Arv Z H.1 a kc ty z vs dv) (hl : z.toNatClampNeg = vs.length) : Ar Z H a ty vs := by
  obtain ⟨c, A, -, S, M, Hs, G⟩ := F
  have hs : c.slots.size = vs.length := by rw [S, hl]
  have hb : vs.length < 2 ^ 31 := by rw [← hl]; exact (back32 M).2
  refine ⟨c, A, ?_, hb, fun v hv => ?_⟩
  · apply Array.ext_getElem?; intro i
    by_cases hi : i < c.slots.size
    · rw [Hs i hi]; have hi' := hi; rw [hs] at hi'; simp [hi']
    · rw [Array.getElem?_eq_none (Nat.le_of_not_lt hi)]; rw [hs] at hi; simp; omega
  · obtain ⟨i, hi, rfl⟩ := List.getElem_of_mem hv
    have := G i (by rw [hs]; exact hi)
    rw [show vs.getD i dv = vs[i] by simp [hi]] at this
    exact this
theorem GI.wr (G : GI Z EL vm H) {h' : Heap} (W : Wr H.1 h' a sl v) (o : H.2 a) : GI Z EL vm (h', H.2) := by
  obtain ⟨g1, g2, g3, g4⟩ := G
  have S : Safe Z EL vm H.1 a := fun B => g4 a B o
  refine ⟨?_, fun y hy => ?_, g3.wr W S, fun y B => g4 y ((g3.wrStep W S).2 y B)⟩
  · obtain ⟨cell, h1, h2, h3, e⟩ := W
    refine ⟨by rw [show (h', H.2).1 = h' from rfl, e]; simpa using g1.1, fun x cx q => ?_⟩
    have hx := (Array.getElem?_eq_some_iff.mp q).1
    have hne : a ≠ x := fun e1 => by subst e1; have := (g2 a o).1; omega
    show h'[x]? = _
    rw [e, Array.getElem?_setIfInBounds_ne hne]; exact g1.2 x cx q
  · have := g2 y hy; exact ⟨this.1, by rw [show (h', H.2).1 = h' from rfl, W.size]; exact this.2⟩
theorem GI.ext (G : GI Z EL vm H) {h' : Heap} (E : Ext H.1 h') (hlt : H.1.size < h'.size) : GI Z EL vm (h', fun y => H.2 y ∨ y = H.1.size) := by
  obtain ⟨g1, g2, g3, g4⟩ := G
  refine ⟨⟨Nat.le_trans g1.1 E.1, fun x cx q => E.2 x cx (g1.2 x cx q)⟩, fun y hy => ?_, g3.ext E, fun y B hy => ?_⟩
  · rcases hy with hy | rfl
    · have := g2 y hy; exact ⟨this.1, Nat.lt_of_lt_of_le this.2 E.1⟩
    · exact ⟨g1.1, hlt⟩
  · have B' := (g3.step fun _ _ _ q => E.2 _ _ q).2 y B
    rcases hy with hy | rfl
    · exact g4 y B' hy
    · obtain ⟨cell, q⟩ := B'.there
      exact absurd (Array.getElem?_eq_some_iff.mp q).1 (Nat.lt_irrefl _)
theorem GI.keep (G : GI Z EL vm H) {h' : Heap} (K : Keep H.1 h' ws) (o : ∀ x ∈ ws, H.2 x) : GI Z EL vm (h', H.2) := by
  obtain ⟨g1, g2, g3, g4⟩ := G
  have S : ∀ x ∈ ws, Safe Z EL vm H.1 x := fun x hx B => g4 x B (o x hx)
  refine ⟨⟨Nat.le_trans g1.1 K.1, fun x cx q => K.2.1 x cx (g1.2 x cx q) fun hx => ?_⟩, fun y hy => ?_, g3.keep K S, fun y B => g4 y ((g3.keepStep K S).2 y B)⟩
  · have := (g2 x (o x hx)).1; have := (Array.getElem?_eq_some_iff.mp q).1; omega
  · have := g2 y hy; exact ⟨this.1, Nat.lt_of_lt_of_le this.2 K.1⟩
theorem GI.go {vm1 : Vm} {h' : Heap} (G : GI Z EL vm H) (A : CHr Z EL vm H.1 vm1 h') (E : Ext H.1 h') : GI Z EL vm1 (h', H.2) := by
  obtain ⟨g1, g2, g3, g4⟩ := G
  refine ⟨⟨Nat.le_trans g1.1 E.1, fun x cx q => E.2 x cx (g1.2 x cx q)⟩, fun y hy => ?_, A.1, fun y B hy => ?_⟩
  · have := g2 y hy; exact ⟨this.1, Nat.lt_of_lt_of_le this.2 E.1⟩
  · rcases A.2.2 y B with q | q
    · exact g4 y q hy
    · exact absurd (g2 y hy).2 (Nat.not_lt.mpr q)
theorem ext_refl (h : Heap) : Ext h h := ⟨Nat.le_refl _, fun _ _ q => q⟩
theorem GI.at {p : Program} {e : Env} {s : State} {m : MethodId} {args : Array Value} {below : List Frame} {meth : Method} {c : Code} {T : State} {L : List Loc} (G : GI Z EL vm0 H) (X : Stand p l e R (s.setVm vm0) m args below meth c T L k n) (hZ : Z.Warmed39 vm0) (hEL : EW Z a0 EL) : GI Z EL T.vm H :=
  G.go (CHv.at X hZ hEL G.2.2.1) (ext_refl _)
theorem Wk.run (A : Wk l Z a0 EL own code ml nm rt R D pc ls st H k n) (seg : List PI) {pe : Nat} (hok : segOk code pc seg pe = true) {ls' : List Slot} {st' : List Value} (hr : prun seg ls st = some (ls', st')) :
    Wk l Z a0 EL own code ml nm rt R D pe ls' st' H k n := by
  obtain ⟨p, e, s, m, args, below, meth, c, s0, H0⟩ := D
  obtain ⟨hx, hown, hc, hml, hnm, hrt, hlk, hEL, hSA, hls, T, L, vm0, k0, X, eT, hS, hk, hZ, hG, hF, hMo, hst⟩ := A
  dsimp only at hx hown hc hml hnm hrt hlk X hS hMo hst
  have hown' : (s.setVm vm0).vm.findClass own = some m.cls := (hS.1.alike.findClass _ _).trans hown
  have hZ' : Z.Warmed39 (s.setVm vm0).vm := hZ
  obtain ⟨h1, h2⟩ := prun_sound (e := e) X.here hx hc seg hok hr
  exact ⟨hx, hown, hc, hml, hnm, hrt, hlk, hEL, hSA, (h1.trans hls), T, L, vm0, k0, X, eT, hS, hk, hZ, hG, hF, hMo, hst.trans (h2 _ (Steps.refl _))⟩
theorem Wk.idiv {x y : Int32} (A : Wk l Z a0 EL own code ml nm rt R D pc ls (.int y :: .int x :: st) H k n) (hd : decode code pc = .ok (.idiv, 1)) (hy : y ≠ 0) :
    Wk l Z a0 EL own code ml nm rt R D (pc + 1) ls (.int (x / y) :: st) H k n := by
  obtain ⟨p, e, s, m, args, below, meth, c, s0, H0⟩ := D
  obtain ⟨hx, hown, hc, hml, hnm, hrt, hlk, hEL, hSA, hls, T, L, vm0, k0, X, eT, hS, hk, hZ, hG, hF, hMo, hst⟩ := A
  dsimp only at hx hown hc hml hnm hrt hlk X hS hMo hst
  have hown' : (s.setVm vm0).vm.findClass own = some m.cls := (hS.1.alike.findClass _ _).trans hown
  have hZ' : Z.Warmed39 (s.setVm vm0).vm := hZ
  exact ⟨hx, hown, hc, hml, hnm, hrt, hlk, hEL, hSA, hls, T, L, vm0, k0, X, eT, hS, hk, hZ, hG, hF, hMo, hst.trans (XS.idiv X.here hx rfl (hb hc hd) rfl hy (Steps.refl _))⟩
theorem Wk.irem {x y : Int32} (A : Wk l Z a0 EL own code ml nm rt R D pc ls (.int y :: .int x :: st) H k n) (hd : decode code pc = .ok (.irem, 1)) (hy : y ≠ 0) :
    Wk l Z a0 EL own code ml nm rt R D (pc + 1) ls (.int (x % y) :: st) H k n := by
  obtain ⟨p, e, s, m, args, below, meth, c, s0, H0⟩ := D
  obtain ⟨hx, hown, hc, hml, hnm, hrt, hlk, hEL, hSA, hls, T, L, vm0, k0, X, eT, hS, hk, hZ, hG, hF, hMo, hst⟩ := A
  dsimp only at hx hown hc hml hnm hrt hlk X hS hMo hst
  have hown' : (s.setVm vm0).vm.findClass own = some m.cls := (hS.1.alike.findClass _ _).trans hown
  have hZ' : Z.Warmed39 (s.setVm vm0).vm := hZ
  exact ⟨hx, hown, hc, hml, hnm, hrt, hlk, hEL, hSA, hls, T, L, vm0, k0, X, eT, hS, hk, hZ, hG, hF, hMo, hst.trans (iremM X hx rfl (hb hc hd) rfl hy (Steps.refl _))⟩
theorem Wk.ldiv {x y : Int64} (A : Wk l Z a0 EL own code ml nm rt R D pc ls (.long y :: .long x :: st) H k n) (hd : decode code pc = .ok (.ldiv, 1)) (hy : y ≠ 0) :
    Wk l Z a0 EL own code ml nm rt R D (pc + 1) ls (.long (x / y) :: st) H k n := by
  obtain ⟨p, e, s, m, args, below, meth, c, s0, H0⟩ := D
  obtain ⟨hx, hown, hc, hml, hnm, hrt, hlk, hEL, hSA, hls, T, L, vm0, k0, X, eT, hS, hk, hZ, hG, hF, hMo, hst⟩ := A
  dsimp only at hx hown hc hml hnm hrt hlk X hS hMo hst
  have hown' : (s.setVm vm0).vm.findClass own = some m.cls := (hS.1.alike.findClass _ _).trans hown
  have hZ' : Z.Warmed39 (s.setVm vm0).vm := hZ
  exact ⟨hx, hown, hc, hml, hnm, hrt, hlk, hEL, hSA, hls, T, L, vm0, k0, X, eT, hS, hk, hZ, hG, hF, hMo, hst.trans (XT.ldiv X.here hx rfl (hb hc hd) rfl hy (Steps.refl _))⟩
theorem Wk.lrem {x y : Int64} (A : Wk l Z a0 EL own code ml nm rt R D pc ls (.long y :: .long x :: st) H k n) (hd : decode code pc = .ok (.lrem, 1)) (hy : y ≠ 0) :
    Wk l Z a0 EL own code ml nm rt R D (pc + 1) ls (.long (x % y) :: st) H k n := by
  obtain ⟨p, e, s, m, args, below, meth, c, s0, H0⟩ := D
  obtain ⟨hx, hown, hc, hml, hnm, hrt, hlk, hEL, hSA, hls, T, L, vm0, k0, X, eT, hS, hk, hZ, hG, hF, hMo, hst⟩ := A
  dsimp only at hx hown hc hml hnm hrt hlk X hS hMo hst
  have hown' : (s.setVm vm0).vm.findClass own = some m.cls := (hS.1.alike.findClass _ _).trans hown
  have hZ' : Z.Warmed39 (s.setVm vm0).vm := hZ
  exact ⟨hx, hown, hc, hml, hnm, hrt, hlk, hEL, hSA, hls, T, L, vm0, k0, X, eT, hS, hk, hZ, hG, hF, hMo, hst.trans (XT.lrem X.here hx rfl (hb hc hd) rfl hy (by rw [lrem_mod]; exact Steps.refl _))⟩
/-- the condition of a comparison -/
def cP : ClassFile.Cond → Int32 → Int32 → Prop
  | .eq, x, y => x = y
  | .ne, x, y => ¬ x = y
  | .lt, x, y => x < y
  | .ge, x, y => ¬ x < y
  | .gt, x, y => y < x
  | .le, x, y => ¬ y < x
theorem cP_t {cd : ClassFile.Cond} {x y : Int32} (h : cP cd x y) : if_icmp.holds cd x y = true := by
  cases cd
  · exact (teq h).1
  · exact (feq h).2
  · exact (tlt h).1
  · exact (flt h).2.1
  · exact (tlt h).2.2.1
  · exact (flt h).2.2.2
theorem cP_f {cd : ClassFile.Cond} {x y : Int32} (h : ¬ cP cd x y) : if_icmp.holds cd x y = false := by
  cases cd
  · exact (feq h).1
  · exact (teq (Decidable.not_not.mp h)).2
  · exact (flt h).1
  · exact (tlt (Decidable.not_not.mp h)).2.1
  · exact (flt h).2.2.1
  · exact (tlt (Decidable.not_not.mp h)).2.2.2
theorem Wk.ifT {cd : ClassFile.Cond} {x : Int32} {o : Int} (A : Wk l Z a0 EL own code ml nm rt R D pc ls (.int x :: st) H k n) (hd : decode code pc = .ok (.ifCond cd o, 3)) (h : cP cd x 0) {pe : Nat} (hp : 0 ≤ (pc : Int) + o ∧ ((pc : Int) + o).toNat = pe) :
    Wk l Z a0 EL own code ml nm rt R D pe ls st H k n := by
  obtain ⟨p, e, s, m, args, below, meth, c, s0, H0⟩ := D
  obtain ⟨hx, hown, hc, hml, hnm, hrt, hlk, hEL, hSA, hls, T, L, vm0, k0, X, eT, hS, hk, hZ, hG, hF, hMo, hst⟩ := A
  dsimp only at hx hown hc hml hnm hrt hlk X hS hMo hst
  have hown' : (s.setVm vm0).vm.findClass own = some m.cls := (hS.1.alike.findClass _ _).trans hown
  have hZ' : Z.Warmed39 (s.setVm vm0).vm := hZ
  exact ⟨hx, hown, hc, hml, hnm, hrt, hlk, hEL, hSA, hls, T, L, vm0, k0, X, eT, hS, hk, hZ, hG, hF, hMo, hst.trans (XS.ifYes X.here hx rfl rfl (hb hc hd) rfl (by rw [if0]; exact cP_t h) hp.1 hp.2 (Steps.refl _))⟩
theorem Wk.ifF {cd : ClassFile.Cond} {x : Int32} {o : Int} (A : Wk l Z a0 EL own code ml nm rt R D pc ls (.int x :: st) H k n) (hd : decode code pc = .ok (.ifCond cd o, 3)) (h : ¬ cP cd x 0) :
    Wk l Z a0 EL own code ml nm rt R D (pc + 3) ls st H k n := by
  obtain ⟨p, e, s, m, args, below, meth, c, s0, H0⟩ := D
  obtain ⟨hx, hown, hc, hml, hnm, hrt, hlk, hEL, hSA, hls, T, L, vm0, k0, X, eT, hS, hk, hZ, hG, hF, hMo, hst⟩ := A
  dsimp only at hx hown hc hml hnm hrt hlk X hS hMo hst
  have hown' : (s.setVm vm0).vm.findClass own = some m.cls := (hS.1.alike.findClass _ _).trans hown
  have hZ' : Z.Warmed39 (s.setVm vm0).vm := hZ
  exact ⟨hx, hown, hc, hml, hnm, hrt, hlk, hEL, hSA, hls, T, L, vm0, k0, X, eT, hS, hk, hZ, hG, hF, hMo, hst.trans (XS.ifNo X.here hx rfl (hb hc hd) rfl (by rw [if0]; exact cP_f h) (Steps.refl _))⟩
theorem Wk.icT {cd : ClassFile.Cond} {x y : Int32} {o : Int} (A : Wk l Z a0 EL own code ml nm rt R D pc ls (.int y :: .int x :: st) H k n) (hd : decode code pc = .ok (.if_icmp cd o, 3)) (h : cP cd x y) {pe : Nat} (hp : 0 ≤ (pc : Int) + o ∧ ((pc : Int) + o).toNat = pe) :
    Wk l Z a0 EL own code ml nm rt R D pe ls st H k n := by
  obtain ⟨p, e, s, m, args, below, meth, c, s0, H0⟩ := D
  obtain ⟨hx, hown, hc, hml, hnm, hrt, hlk, hEL, hSA, hls, T, L, vm0, k0, X, eT, hS, hk, hZ, hG, hF, hMo, hst⟩ := A
  dsimp only at hx hown hc hml hnm hrt hlk X hS hMo hst
  have hown' : (s.setVm vm0).vm.findClass own = some m.cls := (hS.1.alike.findClass _ _).trans hown
  have hZ' : Z.Warmed39 (s.setVm vm0).vm := hZ
  exact ⟨hx, hown, hc, hml, hnm, hrt, hlk, hEL, hSA, hls, T, L, vm0, k0, X, eT, hS, hk, hZ, hG, hF, hMo, hst.trans (XS.icmpYes X.here hx rfl rfl (hb hc hd) rfl (cP_t h) hp.1 hp.2 (Steps.refl _))⟩
theorem Wk.icF {cd : ClassFile.Cond} {x y : Int32} {o : Int} (A : Wk l Z a0 EL own code ml nm rt R D pc ls (.int y :: .int x :: st) H k n) (hd : decode code pc = .ok (.if_icmp cd o, 3)) (h : ¬ cP cd x y) :
    Wk l Z a0 EL own code ml nm rt R D (pc + 3) ls st H k n := by
  obtain ⟨p, e, s, m, args, below, meth, c, s0, H0⟩ := D
  obtain ⟨hx, hown, hc, hml, hnm, hrt, hlk, hEL, hSA, hls, T, L, vm0, k0, X, eT, hS, hk, hZ, hG, hF, hMo, hst⟩ := A
  dsimp only at hx hown hc hml hnm hrt hlk X hS hMo hst
  have hown' : (s.setVm vm0).vm.findClass own = some m.cls := (hS.1.alike.findClass _ _).trans hown
  have hZ' : Z.Warmed39 (s.setVm vm0).vm := hZ
  exact ⟨hx, hown, hc, hml, hnm, hrt, hlk, hEL, hSA, hls, T, L, vm0, k0, X, eT, hS, hk, hZ, hG, hF, hMo, hst.trans (XS.icmpNo X.here hx rfl (hb hc hd) rfl (cP_f h) (Steps.refl _))⟩
theorem Wk.nullT {o : Int} (A : Wk l Z a0 EL own code ml nm rt R D pc ls (.null :: st) H k n) (hd : decode code pc = .ok (.ifnull o, 3)) {pe : Nat} (hp : 0 ≤ (pc : Int) + o ∧ ((pc : Int) + o).toNat = pe) :
    Wk l Z a0 EL own code ml nm rt R D pe ls st H k n := by
  obtain ⟨p, e, s, m, args, below, meth, c, s0, H0⟩ := D
  obtain ⟨hx, hown, hc, hml, hnm, hrt, hlk, hEL, hSA, hls, T, L, vm0, k0, X, eT, hS, hk, hZ, hG, hF, hMo, hst⟩ := A
  dsimp only at hx hown hc hml hnm hrt hlk X hS hMo hst
  have hown' : (s.setVm vm0).vm.findClass own = some m.cls := (hS.1.alike.findClass _ _).trans hown
  have hZ' : Z.Warmed39 (s.setVm vm0).vm := hZ
  exact ⟨hx, hown, hc, hml, hnm, hrt, hlk, hEL, hSA, hls, T, L, vm0, k0, X, eT, hS, hk, hZ, hG, hF, hMo, hst.trans (XS.ifnullYes X.here hx rfl rfl (hb hc hd) rfl hp.1 hp.2 (Steps.refl _))⟩
theorem Wk.nullF {o : Int} (A : Wk l Z a0 EL own code ml nm rt R D pc ls (.ref a :: st) H k n) (hd : decode code pc = .ok (.ifnull o, 3)) :
    Wk l Z a0 EL own code ml nm rt R D (pc + 3) ls st H k n := by
  obtain ⟨p, e, s, m, args, below, meth, c, s0, H0⟩ := D
  obtain ⟨hx, hown, hc, hml, hnm, hrt, hlk, hEL, hSA, hls, T, L, vm0, k0, X, eT, hS, hk, hZ, hG, hF, hMo, hst⟩ := A
  dsimp only at hx hown hc hml hnm hrt hlk X hS hMo hst
  have hown' : (s.setVm vm0).vm.findClass own = some m.cls := (hS.1.alike.findClass _ _).trans hown
  have hZ' : Z.Warmed39 (s.setVm vm0).vm := hZ
  exact ⟨hx, hown, hc, hml, hnm, hrt, hlk, hEL, hSA, hls, T, L, vm0, k0, X, eT, hS, hk, hZ, hG, hF, hMo, hst.trans (XS.ifnullNo X.here hx rfl (hb hc hd) rfl (Steps.refl _))⟩
theorem Wk.nnullT {o : Int} (A : Wk l Z a0 EL own code ml nm rt R D pc ls (.ref a :: st) H k n) (hd : decode code pc = .ok (.ifnonnull o, 3)) {pe : Nat} (hp : 0 ≤ (pc : Int) + o ∧ ((pc : Int) + o).toNat = pe) :
    Wk l Z a0 EL own code ml nm rt R D pe ls st H k n := by
  obtain ⟨p, e, s, m, args, below, meth, c, s0, H0⟩ := D
  obtain ⟨hx, hown, hc, hml, hnm, hrt, hlk, hEL, hSA, hls, T, L, vm0, k0, X, eT, hS, hk, hZ, hG, hF, hMo, hst⟩ := A
  dsimp only at hx hown hc hml hnm hrt hlk X hS hMo hst
  have hown' : (s.setVm vm0).vm.findClass own = some m.cls := (hS.1.alike.findClass _ _).trans hown
  have hZ' : Z.Warmed39 (s.setVm vm0).vm := hZ
  exact ⟨hx, hown, hc, hml, hnm, hrt, hlk, hEL, hSA, hls, T, L, vm0, k0, X, eT, hS, hk, hZ, hG, hF, hMo, hst.trans (XT.ifnonnullYes X.here hx rfl rfl (hb hc hd) rfl hp.1 hp.2 (Steps.refl _))⟩
theorem Wk.nnullF {o : Int} (A : Wk l Z a0 EL own code ml nm rt R D pc ls (.null :: st) H k n) (hd : decode code pc = .ok (.ifnonnull o, 3)) :
    Wk l Z a0 EL own code ml nm rt R D (pc + 3) ls st H k n := by
  obtain ⟨p, e, s, m, args, below, meth, c, s0, H0⟩ := D
  obtain ⟨hx, hown, hc, hml, hnm, hrt, hlk, hEL, hSA, hls, T, L, vm0, k0, X, eT, hS, hk, hZ, hG, hF, hMo, hst⟩ := A
  dsimp only at hx hown hc hml hnm hrt hlk X hS hMo hst
  have hown' : (s.setVm vm0).vm.findClass own = some m.cls := (hS.1.alike.findClass _ _).trans hown
  have hZ' : Z.Warmed39 (s.setVm vm0).vm := hZ
  exact ⟨hx, hown, hc, hml, hnm, hrt, hlk, hEL, hSA, hls, T, L, vm0, k0, X, eT, hS, hk, hZ, hG, hF, hMo, hst.trans (XT.ifnonnullNo X.here hx rfl (hb hc hd) rfl (Steps.refl _))⟩
theorem Wk.acmp (A : Wk l Z a0 EL own code ml nm rt R D pc ls (w :: v :: st) H k n) {cd : ClassFile.ACond} {o : Int} (hd : decode code pc = .ok (.if_acmp cd o, 3)) (h1 : v.isRef = true) (h2 : w.isRef = true) {same : Bool} (hq : decide (v = w) = same) {pe : Nat} (ho : 0 ≤ (pc : Int) + o) (hp : pe = if acV cd same = true then ((pc : Int) + o).toNat else pc + 3) :
    Wk l Z a0 EL own code ml nm rt R D pe ls st H k n := by
  obtain ⟨p, e, s, m, args, below, meth, c, s0, H0⟩ := D
  obtain ⟨hx, hown, hc, hml, hnm, hrt, hlk, hEL, hSA, hls, T, L, vm0, k0, X, eT, hS, hk, hZ, hG, hF, hMo, hst⟩ := A
  dsimp only at hx hown hc hml hnm hrt hlk X hS hMo hst
  have hown' : (s.setVm vm0).vm.findClass own = some m.cls := (hS.1.alike.findClass _ _).trans hown
  have hZ' : Z.Warmed39 (s.setVm vm0).vm := hZ
  exact ⟨hx, hown, hc, hml, hnm, hrt, hlk, hEL, hSA, hls, T, L, vm0, k0, X, eT, hS, hk, hZ, hG, hF, hMo, hst.trans (acmp X hx rfl h1 h2 rfl (hb hc hd) rfl hq ho hp (Steps.refl _))⟩
theorem Wk.tsw {x : Int32} (A : Wk l Z a0 EL own code ml nm rt R D pc ls (.int x :: st) H k n) :
    Wk l Z a0 EL own code ml nm rt R D pc ls (.int x :: st) H k n := by
  obtain ⟨p, e, s, m, args, below, meth, c, s0, H0⟩ := D
  obtain ⟨hx, hown, hc, hml, hnm, hrt, hlk, hEL, hSA, hls, T, L, vm0, k0, X, eT, hS, hk, hZ, hG, hF, hMo, hst⟩ := A
  dsimp only at hx hown hc hml hnm hrt hlk X hS hMo hst
  have hown' : (s.setVm vm0).vm.findClass own = some m.cls := (hS.1.alike.findClass _ _).trans hown
  have hZ' : Z.Warmed39 (s.setVm vm0).vm := hZ
  exact ⟨hx, hown, hc, hml, hnm, hrt, hlk, hEL, hSA, hls, T, L, vm0, k0, X, eT, hS, hk, hZ, hG, hF, hMo, hst⟩
theorem Wk.getF {R0 O : String} {index : Nat} (A : Wk l Z a0 EL own code ml nm rt R D pc ls (.ref a :: st) H k n) (w : (Jvm.Cond.fieldLink own index R0 nn d).before a0 Z = true) (F : Fld Z H.1 a O nn d v) (hd : decode code pc = .ok (.getfield index, 3)) (via : Via Z R0 O nn d := by exact Via.refl) :
    Wk l Z a0 EL own code ml nm rt R D (pc + 3) ls (v :: st) H k n := by
  obtain ⟨p, e, s, m, args, below, meth, c, s0, H0⟩ := D
  obtain ⟨hx, hown, hc, hml, hnm, hrt, hlk, hEL, hSA, hls, T, L, vm0, k0, X, eT, hS, hk, hZ, hG, hF, hMo, hst⟩ := A
  dsimp only at hx hown hc hml hnm hrt hlk X hS hMo hst
  have hown' : (s.setVm vm0).vm.findClass own = some m.cls := (hS.1.alike.findClass _ _).trans hown
  have hZ' : Z.Warmed39 (s.setVm vm0).vm := hZ
  obtain ⟨T', X', e', st'⟩ := RoadKit.getF (host := "") X hx hZ' hown' (Or.inl w) via eT F (g := mkF m pc ls.toArray (.ref a :: st)) rfl rfl (hb hc hd)
  exact ⟨hx, hown, hc, hml, hnm, hrt, hlk, hEL, hSA, hls, T', L, vm0, k0, X', e', hS, hk, hZ, hG, hF, hMo, hst.trans (st' _ (Steps.refl _))⟩
theorem Wk.getFN {R0 O host : String} {index : Nat} (A : Wk l Z a0 EL own code ml nm rt R D pc ls (.ref a :: st) H k n) (w : (Jvm.Cond.fieldLinkNest own index R0 nn d host).before a0 Z = true) (F : Fld Z H.1 a O nn d v) (hd : decode code pc = .ok (.getfield index, 3)) (via : Via Z R0 O nn d := by exact Via.refl) :
    Wk l Z a0 EL own code ml nm rt R D (pc + 3) ls (v :: st) H k n := by
  obtain ⟨p, e, s, m, args, below, meth, c, s0, H0⟩ := D
  obtain ⟨hx, hown, hc, hml, hnm, hrt, hlk, hEL, hSA, hls, T, L, vm0, k0, X, eT, hS, hk, hZ, hG, hF, hMo, hst⟩ := A
  dsimp only at hx hown hc hml hnm hrt hlk X hS hMo hst
  have hown' : (s.setVm vm0).vm.findClass own = some m.cls := (hS.1.alike.findClass _ _).trans hown
  have hZ' : Z.Warmed39 (s.setVm vm0).vm := hZ
  obtain ⟨T', X', e', st'⟩ := RoadKit.getF X hx hZ' hown' (Or.inr w) via eT F (g := mkF m pc ls.toArray (.ref a :: st)) rfl rfl (hb hc hd)
  exact ⟨hx, hown, hc, hml, hnm, hrt, hlk, hEL, hSA, hls, T', L, vm0, k0, X', e', hS, hk, hZ, hG, hF, hMo, hst.trans (st' _ (Steps.refl _))⟩
theorem Wk.getS {R0 O : String} {index : Nat} (A : Wk l Z a0 EL own code ml nm rt R D pc ls st H k n) (w : (Jvm.Cond.fieldLink own index R0 nn d).before a0 Z = true) (F : Sta Z Z.heap O nn d v) (hd : decode code pc = .ok (.getstatic index, 3)) (via : Via Z R0 O nn d := by exact Via.refl) :
    Wk l Z a0 EL own code ml nm rt R D (pc + 3) ls (v :: st) H k n := by
  obtain ⟨p, e, s, m, args, below, meth, c, s0, H0⟩ := D
  obtain ⟨hx, hown, hc, hml, hnm, hrt, hlk, hEL, hSA, hls, T, L, vm0, k0, X, eT, hS, hk, hZ, hG, hF, hMo, hst⟩ := A
  dsimp only at hx hown hc hml hnm hrt hlk X hS hMo hst
  have hown' : (s.setVm vm0).vm.findClass own = some m.cls := (hS.1.alike.findClass _ _).trans hown
  have hZ' : Z.Warmed39 (s.setVm vm0).vm := hZ
  obtain ⟨T', X', e', st'⟩ := RoadKit.getS (host := "") X hx hZ' hown' w via eT (F.ext hG.1) (g := mkF m pc ls.toArray st) rfl (hb hc hd)
  exact ⟨hx, hown, hc, hml, hnm, hrt, hlk, hEL, hSA, hls, T', L, vm0, k0, X', e', hS, hk, hZ, hG, hF, hMo, hst.trans (st' _ (Steps.refl _))⟩
theorem Wk.putF {R0 O : String} {index kk : Nat} {old : Value} (A : Wk l Z a0 EL own code ml nm rt R D pc ls (v :: .ref a :: st) H k n) (w : (Jvm.Cond.fieldLink own index R0 nn d).before a0 Z = true) (F : Fld Z H.1 a O nn d old) (E : Exa Z H.1 a C) (wl : (Jvm.Cond.lays C O nn d).before a0 Z = true) (wi : (Jvm.Cond.instantiable C kk).before a0 Z = true) (o : H.2 a) (hd : decode code pc = .ok (.putfield index, 3)) (hty : parseFieldDescriptor d = some ty) (hn : narrow ty v = v) (hf : fits ty v = true) (via : Via Z R0 O nn d := by exact Via.refl) :
    ∃ H' : HP, Wk l Z a0 EL own code ml nm rt R D (pc + 3) ls st H' k n ∧ Kp H H' [a] ∧ Wr H.1 H'.1 a (Jvm.RoadKit.slotOf Z O nn d) v := by
  obtain ⟨p, e, s, m, args, below, meth, c, s0, H0⟩ := D
  obtain ⟨hx, hown, hc, hml, hnm, hrt, hlk, hEL, hSA, hls, T, L, vm0, k0, X, eT, hS, hk, hZ, hG, hF, hMo, hst⟩ := A
  dsimp only at hx hown hc hml hnm hrt hlk X hS hMo hst
  have hown' : (s.setVm vm0).vm.findClass own = some m.cls := (hS.1.alike.findClass _ _).trans hown
  have hZ' : Z.Warmed39 (s.setVm vm0).vm := hZ
  obtain ⟨T', h', X', e', Wr1, st'⟩ := RoadKit.putF (host := "") X hx hZ' hown' (Or.inl w) via eT F E (Or.inl wl) wi hty hn hf (g := mkF m pc ls.toArray (v :: .ref a :: st)) rfl rfl (hb hc hd)
  have o2 := hG.2.1 a o
  refine ⟨(h', H.2), ⟨hx, hown, hc, hml, hnm, hrt, hlk, hEL, hSA, hls, T', (L ++ [_]), vm0, k0, X', e', hS, (by show _ ≤ h'.size; rw [Wr1.size]; exact hk), hZ, (hG.wr Wr1 o), (hF.app fun y hy => by cases List.mem_singleton.mp hy; exact o2.1), ⟨hMo.1, by show _ ≤ h'.size; rw [Wr1.size]; exact hMo.2⟩, hst.trans (st' _ (Steps.refl _))⟩, ⟨Keep.of_wr Wr1, fun _ q => q⟩, Wr1⟩
theorem Wk.putFin {R0 O : String} {index kk : Nat} {old : Value} (A : Wk l Z a0 EL own code ml nm rt R D pc ls (v :: .ref a :: st) H k n) (w : (Jvm.Cond.fieldLink own index R0 nn d).before a0 Z = true) (F : Fld Z H.1 a O nn d old) (E : Exa Z H.1 a C) (wl : (Jvm.Cond.laysFinal C O nn d).before a0 Z = true) (ho : own = O) (hi : nm = "<init>") (wi : (Jvm.Cond.instantiable C kk).before a0 Z = true) (o : H.2 a) (hd : decode code pc = .ok (.putfield index, 3)) (hty : parseFieldDescriptor d = some ty) (hn : narrow ty v = v) (hf : fits ty v = true) (via : Via Z R0 O nn d := by exact Via.refl) :
    ∃ H' : HP, Wk l Z a0 EL own code ml nm rt R D (pc + 3) ls st H' k n ∧ Kp H H' [a] ∧ Wr H.1 H'.1 a (Jvm.RoadKit.slotOf Z O nn d) v := by
  obtain ⟨p, e, s, m, args, below, meth, c, s0, H0⟩ := D
  obtain ⟨hx, hown, hc, hml, hnm, hrt, hlk, hEL, hSA, hls, T, L, vm0, k0, X, eT, hS, hk, hZ, hG, hF, hMo, hst⟩ := A
  dsimp only at hx hown hc hml hnm hrt hlk X hS hMo hst
  have hown' : (s.setVm vm0).vm.findClass own = some m.cls := (hS.1.alike.findClass _ _).trans hown
  have hZ' : Z.Warmed39 (s.setVm vm0).vm := hZ
  obtain ⟨T', h', X', e', Wr1, st'⟩ := RoadKit.putF (host := "") X hx hZ' hown' (Or.inl w) via eT F E (Or.inr ⟨wl, ho, hnm.trans hi⟩) wi hty hn hf (g := mkF m pc ls.toArray (v :: .ref a :: st)) rfl rfl (hb hc hd)
  have o2 := hG.2.1 a o
  refine ⟨(h', H.2), ⟨hx, hown, hc, hml, hnm, hrt, hlk, hEL, hSA, hls, T', (L ++ [_]), vm0, k0, X', e', hS, (by show _ ≤ h'.size; rw [Wr1.size]; exact hk), hZ, (hG.wr Wr1 o), (hF.app fun y hy => by cases List.mem_singleton.mp hy; exact o2.1), ⟨hMo.1, by show _ ≤ h'.size; rw [Wr1.size]; exact hMo.2⟩, hst.trans (st' _ (Steps.refl _))⟩, ⟨Keep.of_wr Wr1, fun _ q => q⟩, Wr1⟩
theorem Wk.newO {index q : Nat} (A : Wk l Z a0 EL own code ml nm rt R D pc ls st H k n) (w : (Jvm.Cond.classLink own index C).before a0 Z = true) (wi : (Jvm.Cond.instantiable C q).before a0 Z = true) (wz : (Jvm.Cond.initialized C).before a0 Z = true) (hd : decode code pc = .ok (.new index, 3)) (hcl : k + 1 ≤ R.cells) (hsl : n + q ≤ R.slots) :
    ∃ (a : Addr) (H' : HP), Wk l Z a0 EL own code ml nm rt R D (pc + 3) ls (.ref a :: st) H' (k + 1) (n + q) ∧ H.1.size ≤ a ∧ Kp H H' [] ∧ Exa Z H'.1 a C ∧ H'.2 a ∧ ∀ {O fn fd : String} {t : FieldType}, Laid Z a0 C O fn fd → parseFieldDescriptor fd = some t → Fld Z H'.1 a O fn fd (defaultValue t) := by
  obtain ⟨p, e, s, m, args, below, meth, c, s0, H0⟩ := D
  obtain ⟨hx, hown, hc, hml, hnm, hrt, hlk, hEL, hSA, hls, T, L, vm0, k0, X, eT, hS, hk, hZ, hG, hF, hMo, hst⟩ := A
  dsimp only at hx hown hc hml hnm hrt hlk X hS hMo hst
  have hown' : (s.setVm vm0).vm.findClass own = some m.cls := (hS.1.alike.findClass _ _).trans hown
  have hZ' : Z.Warmed39 (s.setVm vm0).vm := hZ
  obtain ⟨T', h', X', e', E, Ex, Fl, -, st'⟩ := RoadKit.newO X hx hZ' hown' w wi wz eT (g := mkF m pc ls.toArray st) rfl (hb hc hd) hcl hsl
  exact ⟨H.1.size, (h', fun y => H.2 y ∨ y = H.1.size), ⟨hx, hown, hc, hml, hnm, hrt, hlk, hEL, hSA, hls, T', L, vm0, k0, X', e', hS, (Nat.le_trans hk E.1), hZ, (hG.ext E Ex.lt), hF, ⟨fun x q => Or.inl (hMo.1 x q), Nat.le_trans hMo.2 E.1⟩, hst.trans (st' _ (Steps.refl _))⟩, Nat.le_refl _, ⟨(Keep.refl _ _).ext E, fun _ q => Or.inl q⟩, Ex, Or.inr rfl, Fl⟩
theorem Wk.newA {aty : ArrayType} {z : Int32} (A : Wk l Z a0 EL own code ml nm rt R D pc ls (.int z :: st) H k n) (w : (Jvm.Cond.arrayClass (newarray.typeOf aty)).before a0 Z = true) (hd : decode code pc = .ok (.newarray aty, 2)) {N : Nat} (hN : N.toInt32 = z) {cap : Nat} (hcap : N ≤ cap) (hbg : cap * 8 ≤ 536870912) (hcl : k + 1 ≤ R.cells) (hsl : n + cap ≤ R.slots) :
    ∃ (a : Addr) (H' : HP), Wk l Z a0 EL own code ml nm rt R D (pc + 2) ls (.ref a :: st) H' (k + 1) (n + cap) ∧ H.1.size ≤ a ∧ Kp H H' [] ∧ Ar Z H' a (newarray.typeOf aty) (List.replicate N (defaultValue (newarray.typeOf aty))) ∧ H'.2 a := by
  obtain ⟨p, e, s, m, args, below, meth, c, s0, H0⟩ := D
  obtain ⟨hx, hown, hc, hml, hnm, hrt, hlk, hEL, hSA, hls, T, L, vm0, k0, X, eT, hS, hk, hZ, hG, hF, hMo, hst⟩ := A
  dsimp only at hx hown hc hml hnm hrt hlk X hS hMo hst
  have hown' : (s.setVm vm0).vm.findClass own = some m.cls := (hS.1.alike.findClass _ _).trans hown
  have hZ' : Z.Warmed39 (s.setVm vm0).vm := hZ
  subst hN
  have hN2 : N < 2 ^ 31 := by omega
  obtain ⟨T', h', cA, X', e', E, Ex, st'⟩ := RoadKit.newP X hx hZ' w eT (g := mkF m pc ls.toArray (.int N.toInt32 :: st)) rfl (hb hc hd) rfl (nonneg_nat hN2) (cap := cap) (by rw [clamp_nat hN2]; exact hcap) hbg hcl hsl
  refine ⟨H.1.size, (h', fun y => H.2 y ∨ y = H.1.size), ⟨hx, hown, hc, hml, hnm, hrt, hlk, hEL, hSA, hls, T', L, vm0, k0, X', e', hS, (Nat.le_trans hk E.1), hZ, (hG.ext E Ex.lt), hF, ⟨fun x q => Or.inl (hMo.1 x q), Nat.le_trans hMo.2 E.1⟩, hst.trans (st' _ (Steps.refl _))⟩, Nat.le_refl _, ⟨(Keep.refl _ _).ext E, fun _ q => Or.inl q⟩, ⟨_, Ex, by simp [newA, clamp_nat hN2], by simpa using hN2, fun v hv => ?_⟩, Or.inr rfl⟩
  obtain ⟨-, rfl⟩ := List.mem_replicate.mp hv
  cases aty <;> rfl
theorem Wk.alen (A : Wk l Z a0 EL own code ml nm rt R D pc ls (.ref a :: st) H k n) (F : Ar Z H a ty vs) (hd : decode code pc = .ok (.arraylength, 1)) {z : Int32} (hz : vs.length.toInt32 = z) :
    Wk l Z a0 EL own code ml nm rt R D (pc + 1) ls (.int z :: st) H k n := by
  obtain ⟨p, e, s, m, args, below, meth, c, s0, H0⟩ := D
  obtain ⟨hx, hown, hc, hml, hnm, hrt, hlk, hEL, hSA, hls, T, L, vm0, k0, X, eT, hS, hk, hZ, hG, hF, hMo, hst⟩ := A
  dsimp only at hx hown hc hml hnm hrt hlk X hS hMo hst
  have hown' : (s.setVm vm0).vm.findClass own = some m.cls := (hS.1.alike.findClass _ _).trans hown
  have hZ' : Z.Warmed39 (s.setVm vm0).vm := hZ
  obtain ⟨cl, Aq, hsl, -, -⟩ := F
  have hsz : cl.slots.size = vs.length := by rw [hsl]; simp
  exact ⟨hx, hown, hc, hml, hnm, hrt, hlk, hEL, hSA, hls, T, L, vm0, k0, X, eT, hS, hk, hZ, hG, hF, hMo, hst.trans (X.arraylength hx (by rw [eT]; exact Aq.1) (State.isArrayOf_alike hZ'.alike Aq.2.1) (g := mkF m pc ls.toArray (.ref a :: st)) rfl rfl (hb hc hd) _ (by rw [hsz, hz]; exact Steps.refl _))⟩
theorem Wk.caload {i : Nat} {j : Int32} (A : Wk l Z a0 EL own code ml nm rt R D pc ls (.int j :: .ref a :: st) H k n) (F : Ar Z H a .char vs) (hd : decode code pc = .ok (.caload, 1)) (hj : i.toInt32 = j) (hv : vs[i]? = some v) :
    Wk l Z a0 EL own code ml nm rt R D (pc + 1) ls (v :: st) H k n := by
  obtain ⟨p, e, s, m, args, below, meth, c, s0, H0⟩ := D
  obtain ⟨hx, hown, hc, hml, hnm, hrt, hlk, hEL, hSA, hls, T, L, vm0, k0, X, eT, hS, hk, hZ, hG, hF, hMo, hst⟩ := A
  dsimp only at hx hown hc hml hnm hrt hlk X hS hMo hst
  have hown' : (s.setVm vm0).vm.findClass own = some m.cls := (hS.1.alike.findClass _ _).trans hown
  have hZ' : Z.Warmed39 (s.setVm vm0).vm := hZ
  subst hj
  obtain ⟨cl, Aq, hsl, hlen, -⟩ := F
  have hi : i < vs.length := (List.getElem?_eq_some_iff.mp hv).1
  have hsz : cl.slots.size = vs.length := by rw [hsl]; simp
  exact ⟨hx, hown, hc, hml, hnm, hrt, hlk, hEL, hSA, hls, T, L, vm0, k0, X, eT, hS, hk, hZ, hG, hF, hMo, hst.trans (X.caload hx (by rw [eT]; exact Aq.1) (State.isArrayOf_alike hZ'.alike Aq.2.1) Aq.2.2 (by rw [hsz]; exact idx_in hi hlen) (by rw [clamp_nat (Nat.lt_trans hi hlen), hsl]; simpa using hv) (g := mkF m pc ls.toArray (.int i.toInt32 :: .ref a :: st)) rfl rfl (hb hc hd) _ (Steps.refl _))⟩
theorem Wk.baload {i : Nat} {j : Int32} (A : Wk l Z a0 EL own code ml nm rt R D pc ls (.int j :: .ref a :: st) H k n) (F : Ar Z H a .byte vs) (hd : decode code pc = .ok (.baload, 1)) (hj : i.toInt32 = j) (hv : vs[i]? = some v) :
    Wk l Z a0 EL own code ml nm rt R D (pc + 1) ls (v :: st) H k n := by
  obtain ⟨p, e, s, m, args, below, meth, c, s0, H0⟩ := D
  obtain ⟨hx, hown, hc, hml, hnm, hrt, hlk, hEL, hSA, hls, T, L, vm0, k0, X, eT, hS, hk, hZ, hG, hF, hMo, hst⟩ := A
  dsimp only at hx hown hc hml hnm hrt hlk X hS hMo hst
  have hown' : (s.setVm vm0).vm.findClass own = some m.cls := (hS.1.alike.findClass _ _).trans hown
  have hZ' : Z.Warmed39 (s.setVm vm0).vm := hZ
  subst hj
  obtain ⟨cl, Aq, hsl, hlen, -⟩ := F
  have hi : i < vs.length := (List.getElem?_eq_some_iff.mp hv).1
  have hsz : cl.slots.size = vs.length := by rw [hsl]; simp
  exact ⟨hx, hown, hc, hml, hnm, hrt, hlk, hEL, hSA, hls, T, L, vm0, k0, X, eT, hS, hk, hZ, hG, hF, hMo, hst.trans (X.baloadBytes hx (by rw [eT]; exact Aq.1) (State.isArrayOf_alike hZ'.alike Aq.2.1) Aq.2.2 (by rw [hsz]; exact idx_in hi hlen) (by rw [clamp_nat (Nat.lt_trans hi hlen), hsl]; simpa using hv) (g := mkF m pc ls.toArray (.int i.toInt32 :: .ref a :: st)) rfl rfl (hb hc hd) _ (Steps.refl _))⟩
theorem Wk.zaload {i : Nat} {j : Int32} (A : Wk l Z a0 EL own code ml nm rt R D pc ls (.int j :: .ref a :: st) H k n) (F : Ar Z H a .boolean vs) (hd : decode code pc = .ok (.baload, 1)) (hj : i.toInt32 = j) (hv : vs[i]? = some v) :
    Wk l Z a0 EL own code ml nm rt R D (pc + 1) ls (v :: st) H k n := by
  obtain ⟨p, e, s, m, args, below, meth, c, s0, H0⟩ := D
  obtain ⟨hx, hown, hc, hml, hnm, hrt, hlk, hEL, hSA, hls, T, L, vm0, k0, X, eT, hS, hk, hZ, hG, hF, hMo, hst⟩ := A
  dsimp only at hx hown hc hml hnm hrt hlk X hS hMo hst
  have hown' : (s.setVm vm0).vm.findClass own = some m.cls := (hS.1.alike.findClass _ _).trans hown
  have hZ' : Z.Warmed39 (s.setVm vm0).vm := hZ
  subst hj
  obtain ⟨cl, Aq, hsl, hlen, -⟩ := F
  have hi : i < vs.length := (List.getElem?_eq_some_iff.mp hv).1
  have hsz : cl.slots.size = vs.length := by rw [hsl]; simp
  exact ⟨hx, hown, hc, hml, hnm, hrt, hlk, hEL, hSA, hls, T, L, vm0, k0, X, eT, hS, hk, hZ, hG, hF, hMo, hst.trans (X.baloadBooleans hx (by rw [eT]; exact Aq.1) (State.isArrayOf_alike hZ'.alike Aq.2.1) Aq.2.2 (by rw [hsz]; exact idx_in hi hlen) (by rw [clamp_nat (Nat.lt_trans hi hlen), hsl]; simpa using hv) (g := mkF m pc ls.toArray (.int i.toInt32 :: .ref a :: st)) rfl rfl (hb hc hd) _ (Steps.refl _))⟩
theorem Wk.iaload {i : Nat} {j : Int32} (A : Wk l Z a0 EL own code ml nm rt R D pc ls (.int j :: .ref a :: st) H k n) (F : Ar Z H a .int vs) (hd : decode code pc = .ok (.iaload, 1)) (hj : i.toInt32 = j) (hv : vs[i]? = some v) :
    Wk l Z a0 EL own code ml nm rt R D (pc + 1) ls (v :: st) H k n := by
  obtain ⟨p, e, s, m, args, below, meth, c, s0, H0⟩ := D
  obtain ⟨hx, hown, hc, hml, hnm, hrt, hlk, hEL, hSA, hls, T, L, vm0, k0, X, eT, hS, hk, hZ, hG, hF, hMo, hst⟩ := A
  dsimp only at hx hown hc hml hnm hrt hlk X hS hMo hst
  have hown' : (s.setVm vm0).vm.findClass own = some m.cls := (hS.1.alike.findClass _ _).trans hown
  have hZ' : Z.Warmed39 (s.setVm vm0).vm := hZ
  subst hj
  obtain ⟨cl, Aq, hsl, hlen, -⟩ := F
  have hi : i < vs.length := (List.getElem?_eq_some_iff.mp hv).1
  have hsz : cl.slots.size = vs.length := by rw [hsl]; simp
  exact ⟨hx, hown, hc, hml, hnm, hrt, hlk, hEL, hSA, hls, T, L, vm0, k0, X, eT, hS, hk, hZ, hG, hF, hMo, hst.trans (X.iaload hx (by rw [eT]; exact Aq.1) (State.isArrayOf_alike hZ'.alike Aq.2.1) Aq.2.2 (by rw [hsz]; exact idx_in hi hlen) (by rw [clamp_nat (Nat.lt_trans hi hlen), hsl]; simpa using hv) (g := mkF m pc ls.toArray (.int i.toInt32 :: .ref a :: st)) rfl rfl (hb hc hd) _ (Steps.refl _))⟩
theorem Wk.laload {i : Nat} {j : Int32} (A : Wk l Z a0 EL own code ml nm rt R D pc ls (.int j :: .ref a :: st) H k n) (F : Ar Z H a .long vs) (hd : decode code pc = .ok (.laload, 1)) (hj : i.toInt32 = j) (hv : vs[i]? = some v) :
    Wk l Z a0 EL own code ml nm rt R D (pc + 1) ls (v :: st) H k n := by
  obtain ⟨p, e, s, m, args, below, meth, c, s0, H0⟩ := D
  obtain ⟨hx, hown, hc, hml, hnm, hrt, hlk, hEL, hSA, hls, T, L, vm0, k0, X, eT, hS, hk, hZ, hG, hF, hMo, hst⟩ := A
  dsimp only at hx hown hc hml hnm hrt hlk X hS hMo hst
  have hown' : (s.setVm vm0).vm.findClass own = some m.cls := (hS.1.alike.findClass _ _).trans hown
  have hZ' : Z.Warmed39 (s.setVm vm0).vm := hZ
  subst hj
  obtain ⟨cl, Aq, hsl, hlen, -⟩ := F
  have hi : i < vs.length := (List.getElem?_eq_some_iff.mp hv).1
  have hsz : cl.slots.size = vs.length := by rw [hsl]; simp
  exact ⟨hx, hown, hc, hml, hnm, hrt, hlk, hEL, hSA, hls, T, L, vm0, k0, X, eT, hS, hk, hZ, hG, hF, hMo, hst.trans (X.laload hx (by rw [eT]; exact Aq.1) (State.isArrayOf_alike hZ'.alike Aq.2.1) Aq.2.2 (by rw [hsz]; exact idx_in hi hlen) (by rw [clamp_nat (Nat.lt_trans hi hlen), hsl]; simpa using hv) (g := mkF m pc ls.toArray (.int i.toInt32 :: .ref a :: st)) rfl rfl (hb hc hd) _ (Steps.refl _))⟩
theorem Wk.aaload {i : Nat} {j : Int32} (A : Wk l Z a0 EL own code ml nm rt R D pc ls (.int j :: .ref a :: st) H k n) (F : Ar Z H a ty vs) (hd : decode code pc = .ok (.aaload, 1)) (hj : i.toInt32 = j) (hv : vs[i]? = some v) (hty : ty.isReference = true) :
    Wk l Z a0 EL own code ml nm rt R D (pc + 1) ls (v :: st) H k n := by
  obtain ⟨p, e, s, m, args, below, meth, c, s0, H0⟩ := D
  obtain ⟨hx, hown, hc, hml, hnm, hrt, hlk, hEL, hSA, hls, T, L, vm0, k0, X, eT, hS, hk, hZ, hG, hF, hMo, hst⟩ := A
  dsimp only at hx hown hc hml hnm hrt hlk X hS hMo hst
  have hown' : (s.setVm vm0).vm.findClass own = some m.cls := (hS.1.alike.findClass _ _).trans hown
  have hZ' : Z.Warmed39 (s.setVm vm0).vm := hZ
  subst hj
  obtain ⟨cl, Aq, hsl, hlen, -⟩ := F
  have hi : i < vs.length := (List.getElem?_eq_some_iff.mp hv).1
  have hsz : cl.slots.size = vs.length := by rw [hsl]; simp
  exact ⟨hx, hown, hc, hml, hnm, hrt, hlk, hEL, hSA, hls, T, L, vm0, k0, X, eT, hS, hk, hZ, hG, hF, hMo, hst.trans (X.aaload hx (by rw [eT]; exact Aq.1) (State.isArrayOf_alike hZ'.alike Aq.2.1) hty Aq.2.2 (by rw [hsz]; exact idx_in hi hlen) (by rw [clamp_nat (Nat.lt_trans hi hlen), hsl]; simpa using hv) (g := mkF m pc ls.toArray (.int i.toInt32 :: .ref a :: st)) rfl rfl (hb hc hd) _ (Steps.refl _))⟩
theorem Wk.castore {i : Nat} {j : Int32} {x x2 : Int32} (A : Wk l Z a0 EL own code ml nm rt R D pc ls (.int x :: .int j :: .ref a :: st) H k n) (F : Ar Z H a .char vs) (o : H.2 a) (hd : decode code pc = .ok (.castore, 1)) (hj : i.toInt32 = j) (hi : i < vs.length) (hx2 : nar .char x = x2) :
    ∃ H' : HP, Wk l Z a0 EL own code ml nm rt R D (pc + 1) ls st H' k n ∧ Kp H H' [a] ∧ Ar Z H' a .char (vs.set i (.int x2)) := by
  obtain ⟨p, e, s, m, args, below, meth, c, s0, H0⟩ := D
  obtain ⟨hx, hown, hc, hml, hnm, hrt, hlk, hEL, hSA, hls, T, L, vm0, k0, X, eT, hS, hk, hZ, hG, hF, hMo, hst⟩ := A
  dsimp only at hx hown hc hml hnm hrt hlk X hS hMo hst
  have hown' : (s.setVm vm0).vm.findClass own = some m.cls := (hS.1.alike.findClass _ _).trans hown
  have hZ' : Z.Warmed39 (s.setVm vm0).vm := hZ
  subst hj
  obtain ⟨cl, Aq, hsl, hlen, hft⟩ := F
  have hsz : cl.slots.size = vs.length := by rw [hsl]; simp
  have hi2 : i < 2 ^ 31 := Nat.lt_trans hi hlen
  obtain ⟨T', h', X', e', Wr1, st'⟩ := stC X hx hZ' eT Aq (by rw [hsz]; exact idx_in hi hlen) (g := mkF m pc ls.toArray (.int x :: .int i.toInt32 :: .ref a :: st)) rfl rfl (hb hc hd)
  have o2 := hG.2.1 a o
  refine ⟨(h', H.2), ⟨hx, hown, hc, hml, hnm, hrt, hlk, hEL, hSA, hls, T', (L ++ [_]), vm0, k0, X', e', hS, (by show _ ≤ h'.size; rw [Wr1.size]; exact hk), hZ, (hG.wr Wr1 o), (hF.app fun y hy => by cases List.mem_singleton.mp hy; exact o2.1), ⟨hMo.1, by show _ ≤ h'.size; rw [Wr1.size]; exact hMo.2⟩, hst.trans (st' _ (Steps.refl _))⟩, ⟨Keep.of_wr Wr1, fun _ q => q⟩, ⟨_, Aq.same Wr1, ?_, by simpa using hlen, fun v hv => ?_⟩⟩
  · rw [clamp_nat hi2]; show cl.slots.setIfInBounds i _ = _; rw [hsl]; subst hx2; simp
  · rcases List.mem_or_eq_of_mem_set hv with q | rfl
    · exact hft v q
    · rw [← hx2]; exact fits_nar_char x
theorem Wk.bastore {i : Nat} {j : Int32} {x x2 : Int32} (A : Wk l Z a0 EL own code ml nm rt R D pc ls (.int x :: .int j :: .ref a :: st) H k n) (F : Ar Z H a .byte vs) (o : H.2 a) (hd : decode code pc = .ok (.bastore, 1)) (hj : i.toInt32 = j) (hi : i < vs.length) (hx2 : nar .byte x = x2) :
    ∃ H' : HP, Wk l Z a0 EL own code ml nm rt R D (pc + 1) ls st H' k n ∧ Kp H H' [a] ∧ Ar Z H' a .byte (vs.set i (.int x2)) := by
  obtain ⟨p, e, s, m, args, below, meth, c, s0, H0⟩ := D
  obtain ⟨hx, hown, hc, hml, hnm, hrt, hlk, hEL, hSA, hls, T, L, vm0, k0, X, eT, hS, hk, hZ, hG, hF, hMo, hst⟩ := A
  dsimp only at hx hown hc hml hnm hrt hlk X hS hMo hst
  have hown' : (s.setVm vm0).vm.findClass own = some m.cls := (hS.1.alike.findClass _ _).trans hown
  have hZ' : Z.Warmed39 (s.setVm vm0).vm := hZ
  subst hj
  obtain ⟨cl, Aq, hsl, hlen, hft⟩ := F
  have hsz : cl.slots.size = vs.length := by rw [hsl]; simp
  have hi2 : i < 2 ^ 31 := Nat.lt_trans hi hlen
  obtain ⟨T', h', X', e', Wr1, st'⟩ := stB X hx hZ' eT Aq (by rw [hsz]; exact idx_in hi hlen) (g := mkF m pc ls.toArray (.int x :: .int i.toInt32 :: .ref a :: st)) rfl rfl (hb hc hd)
  have o2 := hG.2.1 a o
  refine ⟨(h', H.2), ⟨hx, hown, hc, hml, hnm, hrt, hlk, hEL, hSA, hls, T', (L ++ [_]), vm0, k0, X', e', hS, (by show _ ≤ h'.size; rw [Wr1.size]; exact hk), hZ, (hG.wr Wr1 o), (hF.app fun y hy => by cases List.mem_singleton.mp hy; exact o2.1), ⟨hMo.1, by show _ ≤ h'.size; rw [Wr1.size]; exact hMo.2⟩, hst.trans (st' _ (Steps.refl _))⟩, ⟨Keep.of_wr Wr1, fun _ q => q⟩, ⟨_, Aq.same Wr1, ?_, by simpa using hlen, fun v hv => ?_⟩⟩
  · rw [clamp_nat hi2]; show cl.slots.setIfInBounds i _ = _; rw [hsl]; subst hx2; simp
  · rcases List.mem_or_eq_of_mem_set hv with q | rfl
    · exact hft v q
    · rw [← hx2]; exact fits_nar_byte x
theorem Wk.zastore {i : Nat} {j : Int32} {x x2 : Int32} (A : Wk l Z a0 EL own code ml nm rt R D pc ls (.int x :: .int j :: .ref a :: st) H k n) (F : Ar Z H a .boolean vs) (o : H.2 a) (hd : decode code pc = .ok (.bastore, 1)) (hj : i.toInt32 = j) (hi : i < vs.length) (hx2 : nar .boolean x = x2) :
    ∃ H' : HP, Wk l Z a0 EL own code ml nm rt R D (pc + 1) ls st H' k n ∧ Kp H H' [a] ∧ Ar Z H' a .boolean (vs.set i (.int x2)) := by
  obtain ⟨p, e, s, m, args, below, meth, c, s0, H0⟩ := D
  obtain ⟨hx, hown, hc, hml, hnm, hrt, hlk, hEL, hSA, hls, T, L, vm0, k0, X, eT, hS, hk, hZ, hG, hF, hMo, hst⟩ := A
  dsimp only at hx hown hc hml hnm hrt hlk X hS hMo hst
  have hown' : (s.setVm vm0).vm.findClass own = some m.cls := (hS.1.alike.findClass _ _).trans hown
  have hZ' : Z.Warmed39 (s.setVm vm0).vm := hZ
  subst hj
  obtain ⟨cl, Aq, hsl, hlen, hft⟩ := F
  have hsz : cl.slots.size = vs.length := by rw [hsl]; simp
  have hi2 : i < 2 ^ 31 := Nat.lt_trans hi hlen
  obtain ⟨T', h', X', e', Wr1, st'⟩ := stZ X hx hZ' eT Aq (by rw [hsz]; exact idx_in hi hlen) (g := mkF m pc ls.toArray (.int x :: .int i.toInt32 :: .ref a :: st)) rfl rfl (hb hc hd)
  have o2 := hG.2.1 a o
  refine ⟨(h', H.2), ⟨hx, hown, hc, hml, hnm, hrt, hlk, hEL, hSA, hls, T', (L ++ [_]), vm0, k0, X', e', hS, (by show _ ≤ h'.size; rw [Wr1.size]; exact hk), hZ, (hG.wr Wr1 o), (hF.app fun y hy => by cases List.mem_singleton.mp hy; exact o2.1), ⟨hMo.1, by show _ ≤ h'.size; rw [Wr1.size]; exact hMo.2⟩, hst.trans (st' _ (Steps.refl _))⟩, ⟨Keep.of_wr Wr1, fun _ q => q⟩, ⟨_, Aq.same Wr1, ?_, by simpa using hlen, fun v hv => ?_⟩⟩
  · rw [clamp_nat hi2]; show cl.slots.setIfInBounds i _ = _; rw [hsl]; subst hx2; simp
  · rcases List.mem_or_eq_of_mem_set hv with q | rfl
    · exact hft v q
    · rw [← hx2]; exact fits_nar_bool x
theorem Wk.iastore {i : Nat} {j : Int32} {x : Int32} (A : Wk l Z a0 EL own code ml nm rt R D pc ls (.int x :: .int j :: .ref a :: st) H k n) (F : Ar Z H a .int vs) (o : H.2 a) (hd : decode code pc = .ok (.iastore, 1)) (hj : i.toInt32 = j) (hi : i < vs.length) :
    ∃ H' : HP, Wk l Z a0 EL own code ml nm rt R D (pc + 1) ls st H' k n ∧ Kp H H' [a] ∧ Ar Z H' a .int (vs.set i (.int x)) := by
  obtain ⟨p, e, s, m, args, below, meth, c, s0, H0⟩ := D
  obtain ⟨hx, hown, hc, hml, hnm, hrt, hlk, hEL, hSA, hls, T, L, vm0, k0, X, eT, hS, hk, hZ, hG, hF, hMo, hst⟩ := A
  dsimp only at hx hown hc hml hnm hrt hlk X hS hMo hst
  have hown' : (s.setVm vm0).vm.findClass own = some m.cls := (hS.1.alike.findClass _ _).trans hown
  have hZ' : Z.Warmed39 (s.setVm vm0).vm := hZ
  subst hj
  obtain ⟨cl, Aq, hsl, hlen, hft⟩ := F
  have hsz : cl.slots.size = vs.length := by rw [hsl]; simp
  have hi2 : i < 2 ^ 31 := Nat.lt_trans hi hlen
  obtain ⟨T', h', X', e', Wr1, st'⟩ := stI X hx hZ' eT Aq (by rw [hsz]; exact idx_in hi hlen) (g := mkF m pc ls.toArray (.int x :: .int i.toInt32 :: .ref a :: st)) rfl rfl (hb hc hd)
  have o2 := hG.2.1 a o
  refine ⟨(h', H.2), ⟨hx, hown, hc, hml, hnm, hrt, hlk, hEL, hSA, hls, T', (L ++ [_]), vm0, k0, X', e', hS, (by show _ ≤ h'.size; rw [Wr1.size]; exact hk), hZ, (hG.wr Wr1 o), (hF.app fun y hy => by cases List.mem_singleton.mp hy; exact o2.1), ⟨hMo.1, by show _ ≤ h'.size; rw [Wr1.size]; exact hMo.2⟩, hst.trans (st' _ (Steps.refl _))⟩, ⟨Keep.of_wr Wr1, fun _ q => q⟩, ⟨_, Aq.same Wr1, ?_, by simpa using hlen, fun v hv => ?_⟩⟩
  · rw [clamp_nat hi2]; show cl.slots.setIfInBounds i _ = _; rw [hsl]; simp
  · rcases List.mem_or_eq_of_mem_set hv with q | rfl
    · exact hft v q
    · rfl
theorem Wk.lastore {i : Nat} {j : Int32} {x : Int64} (A : Wk l Z a0 EL own code ml nm rt R D pc ls (.long x :: .int j :: .ref a :: st) H k n) (F : Ar Z H a .long vs) (o : H.2 a) (hd : decode code pc = .ok (.lastore, 1)) (hj : i.toInt32 = j) (hi : i < vs.length) :
    ∃ H' : HP, Wk l Z a0 EL own code ml nm rt R D (pc + 1) ls st H' k n ∧ Kp H H' [a] ∧ Ar Z H' a .long (vs.set i (.long x)) := by
  obtain ⟨p, e, s, m, args, below, meth, c, s0, H0⟩ := D
  obtain ⟨hx, hown, hc, hml, hnm, hrt, hlk, hEL, hSA, hls, T, L, vm0, k0, X, eT, hS, hk, hZ, hG, hF, hMo, hst⟩ := A
  dsimp only at hx hown hc hml hnm hrt hlk X hS hMo hst
  have hown' : (s.setVm vm0).vm.findClass own = some m.cls := (hS.1.alike.findClass _ _).trans hown
  have hZ' : Z.Warmed39 (s.setVm vm0).vm := hZ
  subst hj
  obtain ⟨cl, Aq, hsl, hlen, hft⟩ := F
  have hsz : cl.slots.size = vs.length := by rw [hsl]; simp
  have hi2 : i < 2 ^ 31 := Nat.lt_trans hi hlen
  obtain ⟨T', h', X', e', Wr1, st'⟩ := stJ X hx hZ' eT Aq (by rw [hsz]; exact idx_in hi hlen) (g := mkF m pc ls.toArray (.long x :: .int i.toInt32 :: .ref a :: st)) rfl rfl (hb hc hd)
  have o2 := hG.2.1 a o
  refine ⟨(h', H.2), ⟨hx, hown, hc, hml, hnm, hrt, hlk, hEL, hSA, hls, T', (L ++ [_]), vm0, k0, X', e', hS, (by show _ ≤ h'.size; rw [Wr1.size]; exact hk), hZ, (hG.wr Wr1 o), (hF.app fun y hy => by cases List.mem_singleton.mp hy; exact o2.1), ⟨hMo.1, by show _ ≤ h'.size; rw [Wr1.size]; exact hMo.2⟩, hst.trans (st' _ (Steps.refl _))⟩, ⟨Keep.of_wr Wr1, fun _ q => q⟩, ⟨_, Aq.same Wr1, ?_, by simpa using hlen, fun v hv => ?_⟩⟩
  · rw [clamp_nat hi2]; show cl.slots.setIfInBounds i _ = _; rw [hsl]; simp
  · rcases List.mem_or_eq_of_mem_set hv with q | rfl
    · exact hft v q
    · rfl
theorem Wk.initO {idx Wd : Nat} (A : Wk l Z a0 EL own code ml nm rt R D pc ls (.ref a :: st) H k n) (w1 : (Jvm.Cond.methodLink own idx Lib.objectInit).before a0 Z = true) (w2 : (Jvm.Cond.instanceMethod Lib.objectInit).before a0 Z = true) (w3 : (Jvm.Cond.code Lib.objectInit ⟨#[0xb1]⟩ 1 none).before a0 Z = true) (hd : decode code pc = .ok (.invokespecial idx, 3)) (hf : 1 ≤ R.frames) (hW : (st.map fun v => v.category).sum ≤ Wd) (hlo : Wd + 12 ≤ R.locals) :
    Wk l Z a0 EL own code ml nm rt R D (pc + 3) ls st H k n := by
  obtain ⟨p, e, s, m, args, below, meth, c, s0, H0⟩ := D
  obtain ⟨hx, hown, hc, hml, hnm, hrt, hlk, hEL, hSA, hls, T, L, vm0, k0, X, eT, hS, hk, hZ, hG, hF, hMo, hst⟩ := A
  dsimp only at hx hown hc hml hnm hrt hlk X hS hMo hst
  have hown' : (s.setVm vm0).vm.findClass own = some m.cls := (hS.1.alike.findClass _ _).trans hown
  have hZ' : Z.Warmed39 (s.setVm vm0).vm := hZ
  obtain ⟨T', X', e', st'⟩ := RoadKit.initO X hx hZ' hown' w1 w2 w3 eT (g := mkF m pc ls.toArray (.ref a :: st)) rfl (by simp [hls, hml]) rfl (hb hc hd) hf (W := Wd) (by simpa using hW) hlo
  exact ⟨hx, hown, hc, hml, hnm, hrt, hlk, hEL, hSA, hls, T', L, vm0, k0, X', e', hS, hk, hZ, hG, hF, hMo, hst.trans (st' _ (Steps.refl _))⟩
theorem Wk.instY {K : String} {index : Nat} (A : Wk l Z a0 EL own code ml nm rt R D pc ls (.ref a :: st) H k n) (w : (Jvm.Cond.classLink own index K).before a0 Z = true) (F : Ins Z H.1 a K true) (hd : decode code pc = .ok (.instanceof index, 3)) :
    Wk l Z a0 EL own code ml nm rt R D (pc + 3) ls (.int 1 :: st) H k n := by
  obtain ⟨p, e, s, m, args, below, meth, c, s0, H0⟩ := D
  obtain ⟨hx, hown, hc, hml, hnm, hrt, hlk, hEL, hSA, hls, T, L, vm0, k0, X, eT, hS, hk, hZ, hG, hF, hMo, hst⟩ := A
  dsimp only at hx hown hc hml hnm hrt hlk X hS hMo hst
  have hown' : (s.setVm vm0).vm.findClass own = some m.cls := (hS.1.alike.findClass _ _).trans hown
  have hZ' : Z.Warmed39 (s.setVm vm0).vm := hZ
  obtain ⟨T', X', e', st'⟩ := RoadKit.instY X hx hZ' hown' w eT F (g := mkF m pc ls.toArray (.ref a :: st)) rfl rfl (hb hc hd)
  exact ⟨hx, hown, hc, hml, hnm, hrt, hlk, hEL, hSA, hls, T', L, vm0, k0, X', e', hS, hk, hZ, hG, hF, hMo, hst.trans (st' _ (Steps.refl _))⟩
theorem Wk.instN {K : String} {index : Nat} (A : Wk l Z a0 EL own code ml nm rt R D pc ls (.ref a :: st) H k n) (w : (Jvm.Cond.classLink own index K).before a0 Z = true) (E : Exa Z H.1 a C) (F : ∃ c t, Z.vm.findClass C = some c ∧ Z.vm.findClass K = some t ∧ Z.vm.assignable c t = false) (hd : decode code pc = .ok (.instanceof index, 3)) :
    Wk l Z a0 EL own code ml nm rt R D (pc + 3) ls (.int 0 :: st) H k n := by
  obtain ⟨p, e, s, m, args, below, meth, c, s0, H0⟩ := D
  obtain ⟨hx, hown, hc, hml, hnm, hrt, hlk, hEL, hSA, hls, T, L, vm0, k0, X, eT, hS, hk, hZ, hG, hF, hMo, hst⟩ := A
  dsimp only at hx hown hc hml hnm hrt hlk X hS hMo hst
  have hown' : (s.setVm vm0).vm.findClass own = some m.cls := (hS.1.alike.findClass _ _).trans hown
  have hZ' : Z.Warmed39 (s.setVm vm0).vm := hZ
  obtain ⟨T', X', e', st'⟩ := RoadKit.instNo X hx hZ' hown' w eT E F (g := mkF m pc ls.toArray (.ref a :: st)) rfl rfl (hb hc hd)
  exact ⟨hx, hown, hc, hml, hnm, hrt, hlk, hEL, hSA, hls, T', L, vm0, k0, X', e', hS, hk, hZ, hG, hF, hMo, hst.trans (st' _ (Steps.refl _))⟩
theorem Wk.castY {K : String} {index : Nat} (A : Wk l Z a0 EL own code ml nm rt R D pc ls (.ref a :: st) H k n) (w : (Jvm.Cond.classLink own index K).before a0 Z = true) (F : Ins Z H.1 a K true) (hd : decode code pc = .ok (.checkcast index, 3)) :
    Wk l Z a0 EL own code ml nm rt R D (pc + 3) ls (.ref a :: st) H k n := by
  obtain ⟨p, e, s, m, args, below, meth, c, s0, H0⟩ := D
  obtain ⟨hx, hown, hc, hml, hnm, hrt, hlk, hEL, hSA, hls, T, L, vm0, k0, X, eT, hS, hk, hZ, hG, hF, hMo, hst⟩ := A
  dsimp only at hx hown hc hml hnm hrt hlk X hS hMo hst
  have hown' : (s.setVm vm0).vm.findClass own = some m.cls := (hS.1.alike.findClass _ _).trans hown
  have hZ' : Z.Warmed39 (s.setVm vm0).vm := hZ
  obtain ⟨T', X', e', st'⟩ := RoadKit.castY X hx hZ' hown' w eT F (g := mkF m pc ls.toArray (.ref a :: st)) rfl rfl (hb hc hd)
  exact ⟨hx, hown, hc, hml, hnm, hrt, hlk, hEL, hSA, hls, T', L, vm0, k0, X', e', hS, hk, hZ, hG, hF, hMo, hst.trans (st' _ (Steps.refl _))⟩
theorem Wk.instNull {index : Nat} (A : Wk l Z a0 EL own code ml nm rt R D pc ls (.null :: st) H k n) (hd : decode code pc = .ok (.instanceof index, 3)) :
    Wk l Z a0 EL own code ml nm rt R D (pc + 3) ls (.int 0 :: st) H k n := by
  obtain ⟨p, e, s, m, args, below, meth, c, s0, H0⟩ := D
  obtain ⟨hx, hown, hc, hml, hnm, hrt, hlk, hEL, hSA, hls, T, L, vm0, k0, X, eT, hS, hk, hZ, hG, hF, hMo, hst⟩ := A
  dsimp only at hx hown hc hml hnm hrt hlk X hS hMo hst
  have hown' : (s.setVm vm0).vm.findClass own = some m.cls := (hS.1.alike.findClass _ _).trans hown
  have hZ' : Z.Warmed39 (s.setVm vm0).vm := hZ
  exact ⟨hx, hown, hc, hml, hnm, hrt, hlk, hEL, hSA, hls, T, L, vm0, k0, X, eT, hS, hk, hZ, hG, hF, hMo, hst.trans (X.instanceofNull hx (g := mkF m pc ls.toArray (.null :: st)) rfl rfl (hb hc hd) _ (Steps.refl _))⟩
theorem Wk.castNull {index : Nat} (A : Wk l Z a0 EL own code ml nm rt R D pc ls (.null :: st) H k n) (hd : decode code pc = .ok (.checkcast index, 3)) :
    Wk l Z a0 EL own code ml nm rt R D (pc + 3) ls (.null :: st) H k n := by
  obtain ⟨p, e, s, m, args, below, meth, c, s0, H0⟩ := D
  obtain ⟨hx, hown, hc, hml, hnm, hrt, hlk, hEL, hSA, hls, T, L, vm0, k0, X, eT, hS, hk, hZ, hG, hF, hMo, hst⟩ := A
  dsimp only at hx hown hc hml hnm hrt hlk X hS hMo hst
  have hown' : (s.setVm vm0).vm.findClass own = some m.cls := (hS.1.alike.findClass _ _).trans hown
  have hZ' : Z.Warmed39 (s.setVm vm0).vm := hZ
  exact ⟨hx, hown, hc, hml, hnm, hrt, hlk, hEL, hSA, hls, T, L, vm0, k0, X, eT, hS, hk, hZ, hG, hF, hMo, hst.trans (X.checkcastNull hx (g := mkF m pc ls.toArray (.null :: st)) rfl rfl (hb hc hd) _ (Steps.refl _))⟩
theorem no_asg {K : String} {q : Nat} (w : (Jvm.Cond.superclass C "java/lang/Object").before a0 Z = true) (w2 : (Jvm.Cond.noSuperclass "java/lang/Object").before a0 Z = true) (wi : (Jvm.Cond.instantiable K q).before a0 Z = true) (h1 : C ≠ K) (h2 : "java/lang/Object" ≠ K) : ∃ c t, Z.vm.findClass C = some c ∧ Z.vm.findClass K = some t ∧ Z.vm.assignable c t = false := by
  obtain ⟨co, ko, o1, o2, o3, -, -⟩ := Cond.noSuperclass_spec w2
  obtain ⟨t, kt, g0, g2, g5, g7, -⟩ := Cond.instantiable_spec wi
  obtain ⟨c, h0⟩ := found_sup w
  obtain ⟨p, k, kp, p1, p2, p3, p4, p5, -, -⟩ := Cond.superclass_spec h0 w
  cases o1.symm.trans p1
  have ne := ids_ne h0 g0 h1
  have ne2 := ids_ne o1 g0 h2
  have g8 : kt.isInterface = false := by cases hq : kt.isInterface <;> simp [hq] at g7 ⊢
  have n3 : ∀ fuel, Z.vm.isSubclassAux fuel co t = false := fun fuel => by
    cases fuel with
    | zero => rfl
    | succ f => simp [Vm.isSubclassAux, ne2, o2, o3]
  have n4 : ∀ fuel, Z.vm.isSubclassAux fuel c t = false := fun fuel => by
    cases fuel with
    | zero => rfl
    | succ f => simp [Vm.isSubclassAux, ne, p2, p4, n3]
  refine ⟨c, t, h0, g0, ?_⟩
  show Z.vm.assignableAux (255 + 1) c t = false
  simp [Vm.assignableAux, ne, p2, g2, p5, g5, g8, Vm.isSubclass, n4]
theorem Wk.ldcI {index : Nat} {x : Int32} (A : Wk l Z a0 EL own code ml nm rt R D pc ls st H k n) (w : (Jvm.Cond.constant own index x).before a0 Z = true) (hd : decode code pc = .ok (.ldc index, 2)) :
    Wk l Z a0 EL own code ml nm rt R D (pc + 2) ls (.int x :: st) H k n := by
  obtain ⟨p, e, s, m, args, below, meth, c, s0, H0⟩ := D
  obtain ⟨hx, hown, hc, hml, hnm, hrt, hlk, hEL, hSA, hls, T, L, vm0, k0, X, eT, hS, hk, hZ, hG, hF, hMo, hst⟩ := A
  dsimp only at hx hown hc hml hnm hrt hlk X hS hMo hst
  have hown' : (s.setVm vm0).vm.findClass own = some m.cls := (hS.1.alike.findClass _ _).trans hown
  have hZ' : Z.Warmed39 (s.setVm vm0).vm := hZ
  exact ⟨hx, hown, hc, hml, hnm, hrt, hlk, hEL, hSA, hls, T, L, vm0, k0, X, eT, hS, hk, hZ, hG, hF, hMo, hst.trans (X.ldcI hx hown' (mvT hZ' w) (g := mkF m pc ls.toArray st) rfl (hb hc hd) (Steps.refl _))⟩
theorem Wk.ldcJ {index : Nat} {x : Int64} (A : Wk l Z a0 EL own code ml nm rt R D pc ls st H k n) (w : (Jvm.Cond.constantLong own index x).before a0 Z = true) (hd : decode code pc = .ok (.ldc2_w index, 3)) :
    Wk l Z a0 EL own code ml nm rt R D (pc + 3) ls (.long x :: st) H k n := by
  obtain ⟨p, e, s, m, args, below, meth, c, s0, H0⟩ := D
  obtain ⟨hx, hown, hc, hml, hnm, hrt, hlk, hEL, hSA, hls, T, L, vm0, k0, X, eT, hS, hk, hZ, hG, hF, hMo, hst⟩ := A
  dsimp only at hx hown hc hml hnm hrt hlk X hS hMo hst
  have hown' : (s.setVm vm0).vm.findClass own = some m.cls := (hS.1.alike.findClass _ _).trans hown
  have hZ' : Z.Warmed39 (s.setVm vm0).vm := hZ
  exact ⟨hx, hown, hc, hml, hnm, hrt, hlk, hEL, hSA, hls, T, L, vm0, k0, X, eT, hS, hk, hZ, hG, hF, hMo, hst.trans (X.ldc2J hx hown' (mvT hZ' w) (g := mkF m pc ls.toArray st) rfl (hb hc hd) (Steps.refl _))⟩
theorem Wk.ldcS {index : Nat} {text : String} (A : Wk l Z a0 EL own code ml nm rt R D pc ls st H k n) (w : (Jvm.Cond.stringLink own index text).before a0 Z = true) (hmem : (own, index) ∈ EL) (ht : (∀ c ∈ text.toList, c.toNat < 256) ∧ text.toList.map (fun c => Value.int (Jvm.Lit.byteI c.toNat.toUInt16)) = vs) (hd : decode code pc = .ok (.ldc index, 2)) {z : Int32} (hz : ¬ z < 0) (hl : z.toNatClampNeg = vs.length) {q : Nat} (hq : 4 * text.toList.length ≤ q) (hbg : q ≤ 536870912) (hcl : k + 2 ≤ R.cells) (hsl : n + (q + 4) ≤ R.slots) :
    ∃ (a b : Addr) (H' : HP), Wk l Z a0 EL own code ml nm rt R D (pc + 2) ls (.ref a :: st) H' (k + 2) (n + (q + 4)) ∧ Kp H H' [] ∧ Exa Z H'.1 a "java/lang/String" ∧ Fld Z H'.1 a "java/lang/String" "coder" "B" (.int 0) ∧ Fld Z H'.1 a "java/lang/String" "value" "[B" (.ref b) ∧ Ar Z H' b .byte vs ∧ ∀ x, H'.2 x → x ≠ a ∧ x ≠ b := by
  obtain ⟨p, e, s, m, args, below, meth, c, s0, H0⟩ := D
  obtain ⟨hx, hown, hc, hml, hnm, hrt, hlk, hEL, hSA, hls, T, L, vm0, k0, X, eT, hS, hk, hZ, hG, hF, hMo, hst⟩ := A
  dsimp only at hx hown hc hml hnm hrt hlk X hS hMo hst
  have hown' : (s.setVm vm0).vm.findClass own = some m.cls := (hS.1.alike.findClass _ _).trans hown
  have hZ' : Z.Warmed39 (s.setVm vm0).vm := hZ
  obtain ⟨a, T', h', k1, b, kb, X', e', E, hS', hk', hZ2, hown2, F1, F2, F3, F4, -, -, hC, -, hne, st'⟩ := ldcCH X hx hZ hown' w hSA eT hS hk hEL hmem hG.2.2.1 ht hz hl (g := mkF m pc ls.toArray st) rfl (hb hc hd) hq hbg hcl hsl
  have hG' := hG.go hC E
  exact ⟨a, b, (h', H.2), ⟨hx, hown, hc, hml, hnm, hrt, hlk, hEL, hSA, hls, T', L, T'.vm, k1, X', e', hS', hk', hZ2, hG', hF, ⟨hMo.1, Nat.le_trans hMo.2 E.1⟩, hst.trans (st' _ (Steps.refl _))⟩, ⟨(Keep.refl _ _).ext E, fun _ q => q⟩, F1, F2, F3, Ar.of_arv (H := (h', H.2)) F4 hl, fun x hx' => hne x fun B => hG'.2.2.2 x B hx'⟩
theorem Wk.ldcSo {index : Nat} {text : String} (A : Wk l Z a0 EL own code ml nm rt R D pc ls st H k n) (w : (Jvm.Cond.stringLink own index text).before a0 Z = true) (hd : decode code pc = .ok (.ldc index, 2)) {q : Nat} (hq : 4 * text.toList.length ≤ q) (hbg : q ≤ 536870912) (hcl : k + 2 ≤ R.cells) (hsl : n + (q + 4) ≤ R.slots) :
    ∃ (a : Addr) (H' : HP), Wk l Z a0 EL own code ml nm rt R D (pc + 2) ls (.ref a :: st) H' (k + 2) (n + (q + 4)) ∧ Kp H H' [] := by
  obtain ⟨p, e, s, m, args, below, meth, c, s0, H0⟩ := D
  obtain ⟨hx, hown, hc, hml, hnm, hrt, hlk, hEL, hSA, hls, T, L, vm0, k0, X, eT, hS, hk, hZ, hG, hF, hMo, hst⟩ := A
  dsimp only at hx hown hc hml hnm hrt hlk X hS hMo hst
  have hown' : (s.setVm vm0).vm.findClass own = some m.cls := (hS.1.alike.findClass _ _).trans hown
  have hZ' : Z.Warmed39 (s.setVm vm0).vm := hZ
  obtain ⟨a, T', h', k1, X', e', E, hS', hk', hZ2, hown2, hC, -, st'⟩ := ldcOH X hx hZ hown' w hSA eT hS hk hEL hG.2.2.1 (g := mkF m pc ls.toArray st) rfl (hb hc hd) hq hbg hcl hsl
  exact ⟨a, (h', H.2), ⟨hx, hown, hc, hml, hnm, hrt, hlk, hEL, hSA, hls, T', L, T'.vm, k1, X', e', hS', hk', hZ2, (hG.go hC E), hF, ⟨hMo.1, Nat.le_trans hMo.2 E.1⟩, hst.trans (st' _ (Steps.refl _))⟩, ⟨(Keep.refl _ _).ext E, fun _ q => q⟩⟩
theorem Wk.more (A : Wk l Z a0 EL own code ml nm rt R D pc ls st H k n) {k' n' : Nat} (h1 : k ≤ k') (h2 : n ≤ n') :
    Wk l Z a0 EL own code ml nm rt R D pc ls st H k' n' := by
  obtain ⟨p, e, s, m, args, below, meth, c, s0, H0⟩ := D
  obtain ⟨hx, hown, hc, hml, hnm, hrt, hlk, hEL, hSA, hls, T, L, vm0, k0, X, eT, hS, hk, hZ, hG, hF, hMo, hst⟩ := A
  dsimp only at hx hown hc hml hnm hrt hlk X hS hMo hst
  have hown' : (s.setVm vm0).vm.findClass own = some m.cls := (hS.1.alike.findClass _ _).trans hown
  have hZ' : Z.Warmed39 (s.setVm vm0).vm := hZ
  exact ⟨hx, hown, hc, hml, hnm, hrt, hlk, hEL, hSA, hls, T, L, vm0, k0, (X.more h1 h2), eT, hS, hk, hZ, hG, hF, hMo, hst⟩
theorem Wk.ret  (A : Wk l Z a0 EL own code ml nm none R D pc ls st H k n) (hd : decode code pc = .ok (.return_, 1)) :
    Rt Z EL D none H k n := by
  obtain ⟨p, e, s, m, args, below, meth, c, s0, H0⟩ := D
  obtain ⟨hx, hown, hc, hml, hnm, hrt, hlk, hEL, hSA, hls, T, L, vm0, k0, X, eT, hS, hk, hZ, hG, hF, hMo, hst⟩ := A
  dsimp only at hx hown hc hml hnm hrt hlk X hS hMo hst
  have hown' : (s.setVm vm0).vm.findClass own = some m.cls := (hS.1.alike.findClass _ _).trans hown
  have hZ' : Z.Warmed39 (s.setVm vm0).vm := hZ
  obtain ⟨fs, hr, hrun, hended, hE⟩ := X.leaveW hS (by rw [eT]; exact hk) (v := none) (fun _ => rfl) hlk
  exact ⟨_, L, hst.trans (retV X hx hrt (hb hc hd) hr), hrun, hended, eT, hMo, (show GI Z EL T.vm H from hG.at X hZ hEL), hF, hE⟩
theorem Wk.retZ {x x2 : Int32} (A : Wk l Z a0 EL own code ml nm (some .boolean) R D pc ls (.int x :: st) H k n) (hd : decode code pc = .ok (.ireturn, 1)) (hx2 : nar .boolean x = x2) :
    Rt Z EL D (some (.int x2)) H k n := by
  obtain ⟨p, e, s, m, args, below, meth, c, s0, H0⟩ := D
  obtain ⟨hx, hown, hc, hml, hnm, hrt, hlk, hEL, hSA, hls, T, L, vm0, k0, X, eT, hS, hk, hZ, hG, hF, hMo, hst⟩ := A
  dsimp only at hx hown hc hml hnm hrt hlk X hS hMo hst
  have hown' : (s.setVm vm0).vm.findClass own = some m.cls := (hS.1.alike.findClass _ _).trans hown
  have hZ' : Z.Warmed39 (s.setVm vm0).vm := hZ
  subst hx2
  obtain ⟨fs, hr, hrun, hended, hE⟩ := X.leaveW hS (by rw [eT]; exact hk) (v := some (.int (nar .boolean x))) (fun h => by rw [hrt] at h; cases h) hlk
  exact ⟨_, L, hst.trans (retN X hx (t := .boolean) hrt (by simp) (hb hc hd) hr), hrun, hended, eT, hMo, (show GI Z EL T.vm H from hG.at X hZ hEL), hF, hE⟩
theorem Wk.retB {x x2 : Int32} (A : Wk l Z a0 EL own code ml nm (some .byte) R D pc ls (.int x :: st) H k n) (hd : decode code pc = .ok (.ireturn, 1)) (hx2 : nar .byte x = x2) :
    Rt Z EL D (some (.int x2)) H k n := by
  obtain ⟨p, e, s, m, args, below, meth, c, s0, H0⟩ := D
  obtain ⟨hx, hown, hc, hml, hnm, hrt, hlk, hEL, hSA, hls, T, L, vm0, k0, X, eT, hS, hk, hZ, hG, hF, hMo, hst⟩ := A
  dsimp only at hx hown hc hml hnm hrt hlk X hS hMo hst
  have hown' : (s.setVm vm0).vm.findClass own = some m.cls := (hS.1.alike.findClass _ _).trans hown
  have hZ' : Z.Warmed39 (s.setVm vm0).vm := hZ
  subst hx2
  obtain ⟨fs, hr, hrun, hended, hE⟩ := X.leaveW hS (by rw [eT]; exact hk) (v := some (.int (nar .byte x))) (fun h => by rw [hrt] at h; cases h) hlk
  exact ⟨_, L, hst.trans (retN X hx (t := .byte) hrt (by simp) (hb hc hd) hr), hrun, hended, eT, hMo, (show GI Z EL T.vm H from hG.at X hZ hEL), hF, hE⟩
theorem Wk.retC {x x2 : Int32} (A : Wk l Z a0 EL own code ml nm (some .char) R D pc ls (.int x :: st) H k n) (hd : decode code pc = .ok (.ireturn, 1)) (hx2 : nar .char x = x2) :
    Rt Z EL D (some (.int x2)) H k n := by
  obtain ⟨p, e, s, m, args, below, meth, c, s0, H0⟩ := D
  obtain ⟨hx, hown, hc, hml, hnm, hrt, hlk, hEL, hSA, hls, T, L, vm0, k0, X, eT, hS, hk, hZ, hG, hF, hMo, hst⟩ := A
  dsimp only at hx hown hc hml hnm hrt hlk X hS hMo hst
  have hown' : (s.setVm vm0).vm.findClass own = some m.cls := (hS.1.alike.findClass _ _).trans hown
  have hZ' : Z.Warmed39 (s.setVm vm0).vm := hZ
  subst hx2
  obtain ⟨fs, hr, hrun, hended, hE⟩ := X.leaveW hS (by rw [eT]; exact hk) (v := some (.int (nar .char x))) (fun h => by rw [hrt] at h; cases h) hlk
  exact ⟨_, L, hst.trans (retN X hx (t := .char) hrt (by simp) (hb hc hd) hr), hrun, hended, eT, hMo, (show GI Z EL T.vm H from hG.at X hZ hEL), hF, hE⟩
theorem Wk.retS {x x2 : Int32} (A : Wk l Z a0 EL own code ml nm (some .short) R D pc ls (.int x :: st) H k n) (hd : decode code pc = .ok (.ireturn, 1)) (hx2 : nar .short x = x2) :
    Rt Z EL D (some (.int x2)) H k n := by
  obtain ⟨p, e, s, m, args, below, meth, c, s0, H0⟩ := D
  obtain ⟨hx, hown, hc, hml, hnm, hrt, hlk, hEL, hSA, hls, T, L, vm0, k0, X, eT, hS, hk, hZ, hG, hF, hMo, hst⟩ := A
  dsimp only at hx hown hc hml hnm hrt hlk X hS hMo hst
  have hown' : (s.setVm vm0).vm.findClass own = some m.cls := (hS.1.alike.findClass _ _).trans hown
  have hZ' : Z.Warmed39 (s.setVm vm0).vm := hZ
  subst hx2
  obtain ⟨fs, hr, hrun, hended, hE⟩ := X.leaveW hS (by rw [eT]; exact hk) (v := some (.int (nar .short x))) (fun h => by rw [hrt] at h; cases h) hlk
  exact ⟨_, L, hst.trans (retN X hx (t := .short) hrt (by simp) (hb hc hd) hr), hrun, hended, eT, hMo, (show GI Z EL T.vm H from hG.at X hZ hEL), hF, hE⟩
theorem Wk.retI {x : Int32} (A : Wk l Z a0 EL own code ml nm (some .int) R D pc ls (.int x :: st) H k n) (hd : decode code pc = .ok (.ireturn, 1)) :
    Rt Z EL D (some (.int x)) H k n := by
  obtain ⟨p, e, s, m, args, below, meth, c, s0, H0⟩ := D
  obtain ⟨hx, hown, hc, hml, hnm, hrt, hlk, hEL, hSA, hls, T, L, vm0, k0, X, eT, hS, hk, hZ, hG, hF, hMo, hst⟩ := A
  dsimp only at hx hown hc hml hnm hrt hlk X hS hMo hst
  have hown' : (s.setVm vm0).vm.findClass own = some m.cls := (hS.1.alike.findClass _ _).trans hown
  have hZ' : Z.Warmed39 (s.setVm vm0).vm := hZ
  obtain ⟨fs, hr, hrun, hended, hE⟩ := X.leaveW hS (by rw [eT]; exact hk) (v := (some (.int x))) (fun h => by rw [hrt] at h; cases h) hlk
  exact ⟨_, L, hst.trans (retOut X hx hrt rfl (Or.inl ⟨rfl, Or.inl rfl, x, rfl⟩) (hb hc hd) hr), hrun, hended, eT, hMo, (show GI Z EL T.vm H from hG.at X hZ hEL), hF, hE⟩
theorem Wk.retJ {x : Int64} (A : Wk l Z a0 EL own code ml nm (some .long) R D pc ls (.long x :: st) H k n) (hd : decode code pc = .ok (.lreturn, 1)) :
    Rt Z EL D (some (.long x)) H k n := by
  obtain ⟨p, e, s, m, args, below, meth, c, s0, H0⟩ := D
  obtain ⟨hx, hown, hc, hml, hnm, hrt, hlk, hEL, hSA, hls, T, L, vm0, k0, X, eT, hS, hk, hZ, hG, hF, hMo, hst⟩ := A
  dsimp only at hx hown hc hml hnm hrt hlk X hS hMo hst
  have hown' : (s.setVm vm0).vm.findClass own = some m.cls := (hS.1.alike.findClass _ _).trans hown
  have hZ' : Z.Warmed39 (s.setVm vm0).vm := hZ
  obtain ⟨fs, hr, hrun, hended, hE⟩ := X.leaveW hS (by rw [eT]; exact hk) (v := (some (.long x))) (fun h => by rw [hrt] at h; cases h) hlk
  exact ⟨_, L, hst.trans (retOut X hx hrt rfl (Or.inr (Or.inl ⟨rfl, rfl, x, rfl⟩)) (hb hc hd) hr), hrun, hended, eT, hMo, (show GI Z EL T.vm H from hG.at X hZ hEL), hF, hE⟩
theorem Wk.retA {t : FieldType} (A : Wk l Z a0 EL own code ml nm (some t) R D pc ls (v :: st) H k n) (hd : decode code pc = .ok (.areturn, 1)) (ht : t.isReference = true) (hv : v.isRef = true) :
    Rt Z EL D (some v) H k n := by
  obtain ⟨p, e, s, m, args, below, meth, c, s0, H0⟩ := D
  obtain ⟨hx, hown, hc, hml, hnm, hrt, hlk, hEL, hSA, hls, T, L, vm0, k0, X, eT, hS, hk, hZ, hG, hF, hMo, hst⟩ := A
  dsimp only at hx hown hc hml hnm hrt hlk X hS hMo hst
  have hown' : (s.setVm vm0).vm.findClass own = some m.cls := (hS.1.alike.findClass _ _).trans hown
  have hZ' : Z.Warmed39 (s.setVm vm0).vm := hZ
  obtain ⟨fs, hr, hrun, hended, hE⟩ := X.leaveW hS (by rw [eT]; exact hk) (v := some v) (fun h => by rw [hrt] at h; cases h) hlk
  have hn : narrow t v = v := by rcases ref_cases hv with rfl | ⟨z, rfl⟩ <;> cases t <;> first | rfl | cases ht
  exact ⟨_, L, hst.trans (retOut X hx hrt hn (Or.inr (Or.inr (Or.inr (Or.inr ⟨rfl, ht, hv⟩)))) (hb hc hd) hr), hrun, hended, eT, hMo, (show GI Z EL T.vm H from hG.at X hZ hEL), hF, hE⟩
theorem Ct.intro {y : MethodName} {bytes : ByteArray} {ret : Option FieldType} {rm : Room} {wz : List Jvm.Cond} {as : List Value} {Q : Option Value → HP → Prop} (hpl : plainFor y = true) (hEL : EW Z a0 EL) (hSA : ∀ a ∈ Bundle.stringAtoms, a.before a0 Z = true) (hls : locsOf as ml = ls) (hlen : ls.length = ml)
    (body : ∀ D, Wk l Z a0 EL y.cls bytes ml y.name ret rm D 0 ls [] H 0 0 → ∃ v H' k n, Rt Z EL D v H' k n ∧ Q v H' ∧ k ≤ rm.cells ∧ n ≤ rm.slots) : Ct l Z EL y bytes ml ret rm wz as H Q := by
  refine MetFree.of_bodySF hpl hisR ?_
  intro p e s m args below meth c s₁ Bd hml0 hP hK
  obtain ⟨rfl, hZ, hh, hG⟩ := hP
  have hx := Bd.exec
  have hown : s.vm.findClass y.cls = some m.cls := findClass_of_methodNamed Bd.named
  have hnm := (name_of_methodNamed Bd.named Bd.method).1
  have X0 : Stand p l e rm s m as.toArray below meth c s₁ [] 0 0 := Stand.of_body Bd
  have e0 : s₁.heap = H.1 := by rw [← hh, Bd.state]; rfl
  have hst : Steps p.tables e below (s₁.setTop (entryFrame m as.toArray ml)) (s₁.setTop (mkF m 0 ls.toArray [])) := by rw [entry_locs, hls]; exact Steps.refl _
  obtain ⟨v, H', k, n, ⟨s₂, L, h1, h2, h3, h4, h5, h6, h7, h8⟩, hQ, hk, hn⟩ := body (p, e, s, m, as.toArray, below, meth, c, s₁.setTop (entryFrame m as.toArray ml), H) ⟨hx, hown, Bd.bytes, hml0, hnm, Bd.returns, Bd.notSynchronized, hEL, hSA, hlen, s₁, [], s.vm, H.1.size, X0, e0, (State.WarmedH.refl s).since _, Nat.le_refl _, hZ, hG, Fr.nil _, ⟨fun _ q => q, Nat.le_refl _⟩, hst⟩
  obtain ⟨hp, O⟩ := H'
  have h4 : s₂.heap = hp := h4
  subst h4
  obtain ⟨g1, g2, g3, g4⟩ := h8
  exact ⟨s₂, _, h1, h2, h3, v, L, O, rfl, hQ, h5, h6, h7, g1, g2, g3, g4.mono hk hn⟩
theorem Ct.mono {y : MethodName} {bytes : ByteArray} {ret : Option FieldType} {rm : Room} {wz : List Jvm.Cond} {as : List Value} {Q Q' : Option Value → HP → Prop} (h : Ct l Z EL y bytes ml ret rm wz as H Q) (q : ∀ v H', Q v H' → Q' v H') : Ct l Z EL y bytes ml ret rm wz as H Q' :=
  MetFree.mono h (fun _ _ h => h) (fun _ _ _ _ _ h => h) fun _ _ _ _ _ ⟨v, L, O, h1, h2, h3⟩ => ⟨v, L, O, h1, q _ _ h2, h3⟩
theorem ctBack {p : Program} {e : Env} {s : State} {args : Array Value} {below : List Frame} {y : MethodName} {bytes : ByteArray} {ret : Option FieldType} {rm : Room} {as : List Value} {Q : Option Value → HP → Prop} {len Wd : Nat}
    (hM : Ct l Z EL y bytes ml ret rm [] as H Q) (hZ : Z.Warmed39 vm0) (wc : (Jvm.Cond.code y bytes ml ret).before a0 Z = true) (wz : (Jvm.Cond.initialized y.cls).before a0 Z = true) (hf : rm.frames + 1 ≤ R.frames) (hl : Wd + (ml + 11) + rm.locals ≤ R.locals) (hEL : EW Z a0 EL) (hG : GI Z EL vm0 H) :
    BackS l R p e below (s.setVm vm0) args y len Wd (fun A a => a = as.toArray ∧ A.U.heap = H.1 ∧ A.cells + rm.cells ≤ R.cells ∧ A.slots + rm.slots ≤ R.slots)
      (fun A _ v B => ∃ L O, Q v (B.U.heap, O) ∧ ((∀ x, H.2 x → O x) ∧ H.1.size ≤ B.U.heap.size) ∧ GI Z EL B.U.vm (B.U.heap, O) ∧ Fr Z.heap.size L ∧ B.locs = A.locs ++ L ∧ B.cells = A.cells + rm.cells ∧ B.slots = A.slots + rm.slots) :=
  BackS.of_freeW (bytes := bytes) (maxL := ml) (ret := ret) (E := fun _ first o t L k n => k = rm.cells ∧ n = rm.slots ∧ ∃ v O, o = .returned v ∧ Q v (t.heap, O) ∧ ((∀ x, H.2 x → O x) ∧ H.1.size ≤ t.heap.size) ∧ GI Z EL t.vm (t.heap, O) ∧ Fr Z.heap.size L) hM hf hl
    (fun m meth c A a Y hp => have hU : Z.Warmed39 A.U.vm := wtrans (s := (s.setVm vm0)) hZ Y.warmed
      ⟨by show (Jvm.Cond.and _ .tt).before a A.U = true; rw [Cond.before_and, mv hU wc]; rfl, mv hU wc, mv hU wz, hp.2.2.1, hp.2.2.2⟩)
    (fun m meth c A a g mk Y hp => ⟨hp.1, wtrans (s := (s.setVm vm0)) hZ Y.warmed, hp.2.1, (show GI Z EL A.U.vm H from hG.at Y hZ hEL)⟩) (fun _ _ _ _ _ _ _ _ _ => trivial)
    (fun _ _ _ _ ⟨v, L, O, h1, h2, h3, h4, h5, h6⟩ => ⟨L, _, _, h6, rfl, rfl, v, O, h1, h2, h3, h4, h5⟩)
    (fun m meth c A a g mk v t L k n Y hp _ _ ⟨e1, e2, v', O, e3, e4, e5, e6, e7⟩ => by cases e3; subst e1 e2; exact ⟨L, O, e4, e5, e6, e7, rfl, rfl, rfl⟩)
theorem Wk.callS {y : MethodName} {bytes : ByteArray} {ret : Option FieldType} {cml : Nat} {rm : Room} {Q : Option Value → HP → Prop} {argsL : List Value} {index Wd : Nat} (A : Wk l Z a0 EL own code ml nm rt R D pc ls (argsL.reverse ++ st) H k n) (w1 : (Jvm.Cond.methodLink own index y).before a0 Z = true) (w2 : (Jvm.Cond.static y).before a0 Z = true) (wz : (Jvm.Cond.initialized y.cls).before a0 Z = true) (wc : (Jvm.Cond.code y bytes cml ret).before a0 Z = true) (hM : Ct l Z EL y bytes cml ret rm [] argsL H Q) (hy : y.cls ≠ "java/lang/invoke/MethodHandle" ∧ y.cls ≠ "java/lang/invoke/VarHandle") (hlen : ∃ ps r, parseMethodDescriptor y.desc = some ⟨ps, r⟩ ∧ argsL.length = ps.length) (hd : decode code pc = .ok (.invokestatic index, 3)) (hf : rm.frames + 1 ≤ R.frames) (hW : (st.map fun v => v.category).sum ≤ Wd) (hlo : Wd + (cml + 11) + rm.locals ≤ R.locals) (hcl : k + rm.cells ≤ R.cells) (hsl : n + rm.slots ≤ R.slots) :
    ∃ (v : Option Value) (H' : HP), Q v H' ∧ Wk l Z a0 EL own code ml nm rt R D (pc + 3) ls (v.toList ++ st) H' (k + rm.cells) (n + rm.slots) ∧ (∀ x, H.2 x → H'.2 x) ∧ H.1.size ≤ H'.1.size := by
  obtain ⟨p, e, s, m, args, below, meth, c, s0, H0⟩ := D
  obtain ⟨hx, hown, hc, hml, hnm, hrt, hlk, hEL, hSA, hls, T, L, vm0, k0, X, eT, hS, hk, hZ, hG, hF, hMo, hst⟩ := A
  dsimp only at hx hown hc hml hnm hrt hlk X hS hMo hst
  have hown' : (s.setVm vm0).vm.findClass own = some m.cls := (hS.1.alike.findClass _ _).trans hown
  have hZ' : Z.Warmed39 (s.setVm vm0).vm := hZ
  obtain ⟨v, vm1, ⟨T', L', c', n'⟩, -, X', hS2, hgr, ⟨Lc, O, hQ, hmo, hG', hFc, l1, l2, l3⟩, st'⟩ := RoadKit.callSS X hx hown' (mvT hZ' w1) (mvT hZ' w2) (mvT hZ' wz) (mvT hZ' wc) hy (ctBack hM hZ wc wz hf hlo hEL hG) (g := mkF m pc ls.toArray (argsL.reverse ++ st)) rfl (by simp [hls, hml]) (by obtain ⟨ps, r, q1, q2⟩ := hlen; exact lenOf q1 q2) rfl (by simpa using hW) (hb hc hd) (fun _ _ => ⟨rfl, eT, hcl, hsl⟩)
  dsimp only [Pt.U, Pt.locs, Pt.cells, Pt.slots] at X' hS2 hgr hQ hmo hG' l1 l2 l3 st'
  subst l1 l2 l3
  have hS' := hS.trans hS2 (by rw [eT] at hgr; exact Nat.le_trans hk hgr)
  exact ⟨v, (T'.heap, O), hQ, ⟨hx, hown, hc, hml, hnm, hrt, hlk, hEL, hSA, hls, T', _, T'.vm, T'.heap.size, X', rfl, hS', (Nat.le_refl _), (State.Warmed39.trans (t := s.setVm vm0) hZ hS2.1), hG', (hF.app hFc), ⟨fun x q => hmo.1 x (hMo.1 x q), Nat.le_trans hMo.2 hmo.2⟩, hst.trans st'⟩, hmo.1, hmo.2⟩
theorem Wk.callI {y : MethodName} {bytes : ByteArray} {cml : Nat} {rm : Room} {Q : Option Value → HP → Prop} {argsL : List Value} {index Wd : Nat} (A : Wk l Z a0 EL own code ml nm rt R D pc ls (argsL.reverse ++ .ref a :: st) H k n) (hy1 : y.name = "<init>") (w1 : (Jvm.Cond.methodLink own index y).before a0 Z = true) (w2 : (Jvm.Cond.instanceMethod y).before a0 Z = true) (wz : (Jvm.Cond.initialized y.cls).before a0 Z = true) (wc : (Jvm.Cond.code y bytes cml none).before a0 Z = true) (hM : Ct l Z EL y bytes cml none rm [] (.ref a :: argsL) H Q) (hy : y.cls ≠ "java/lang/invoke/MethodHandle" ∧ y.cls ≠ "java/lang/invoke/VarHandle") (hlen : ∃ ps r, parseMethodDescriptor y.desc = some ⟨ps, r⟩ ∧ argsL.length = ps.length) (hd : decode code pc = .ok (.invokespecial index, 3)) (hf : rm.frames + 1 ≤ R.frames) (hW : (st.map fun v => v.category).sum ≤ Wd) (hlo : Wd + (cml + 11) + rm.locals ≤ R.locals) (hcl : k + rm.cells ≤ R.cells) (hsl : n + rm.slots ≤ R.slots) :
    ∃ (v : Option Value) (H' : HP), Q v H' ∧ Wk l Z a0 EL own code ml nm rt R D (pc + 3) ls (v.toList ++ st) H' (k + rm.cells) (n + rm.slots) ∧ (∀ x, H.2 x → H'.2 x) ∧ H.1.size ≤ H'.1.size := by
  obtain ⟨p, e, s, m, args, below, meth, c, s0, H0⟩ := D
  obtain ⟨hx, hown, hc, hml, hnm, hrt, hlk, hEL, hSA, hls, T, L, vm0, k0, X, eT, hS, hk, hZ, hG, hF, hMo, hst⟩ := A
  dsimp only at hx hown hc hml hnm hrt hlk X hS hMo hst
  have hown' : (s.setVm vm0).vm.findClass own = some m.cls := (hS.1.alike.findClass _ _).trans hown
  have hZ' : Z.Warmed39 (s.setVm vm0).vm := hZ
  obtain ⟨v, vm1, ⟨T', L', c', n'⟩, -, X', hS2, hgr, ⟨Lc, O, hQ, hmo, hG', hFc, l1, l2, l3⟩, st'⟩ := X.specialBackS hx hy1 hown' (mvT hZ' w1) (mvT hZ' w2) (mvT hZ' wc) hy (ctBack hM hZ wc wz hf hlo hEL hG) (g := mkF m pc ls.toArray (argsL.reverse ++ .ref a :: st)) rfl (by simp [hls, hml]) (Steps.refl _) (by obtain ⟨ps, r, q1, q2⟩ := hlen; exact lenOf q1 q2) rfl (by simpa using hW) (hb hc hd) (fun _ _ => ⟨rfl, eT, hcl, hsl⟩)
  dsimp only [Pt.U, Pt.locs, Pt.cells, Pt.slots] at X' hS2 hgr hQ hmo hG' l1 l2 l3 st'
  subst l1 l2 l3
  have hS' := hS.trans hS2 (by rw [eT] at hgr; exact Nat.le_trans hk hgr)
  exact ⟨v, (T'.heap, O), hQ, ⟨hx, hown, hc, hml, hnm, hrt, hlk, hEL, hSA, hls, T', _, T'.vm, T'.heap.size, X', rfl, hS', (Nat.le_refl _), (State.Warmed39.trans (t := s.setVm vm0) hZ hS2.1), hG', (hF.app hFc), ⟨fun x q => hmo.1 x (hMo.1 x q), Nat.le_trans hMo.2 hmo.2⟩, hst.trans st'⟩, hmo.1, hmo.2⟩
theorem Wk.callV {y z : MethodName} {bytes : ByteArray} {ret : Option FieldType} {cml : Nat} {rm : Room} {Q : Option Value → HP → Prop} {argsL : List Value} {index Wd : Nat} (A : Wk l Z a0 EL own code ml nm rt R D pc ls (argsL.reverse ++ .ref a :: st) H k n) (w1 : (Jvm.Cond.methodLink own index y).before a0 Z = true) (w2 : (Jvm.Cond.declares y).before a0 Z = true) {C' : String} (w3 : (Jvm.Cond.selects C' y y).before a0 Z = true) (w4 : (Jvm.Cond.selects C y z).before a0 Z = true) (w5 : (Jvm.Cond.instanceMethod z).before a0 Z = true) (wz : (Jvm.Cond.initialized z.cls).before a0 Z = true) (wc : (Jvm.Cond.code z bytes cml ret).before a0 Z = true) (E : Exa Z H.1 a C) (hM : Ct l Z EL z bytes cml ret rm [] (.ref a :: argsL) H Q) (hy : y.cls ≠ "java/lang/invoke/MethodHandle" ∧ y.cls ≠ "java/lang/invoke/VarHandle") (hlen : ∃ ps r, parseMethodDescriptor y.desc = some ⟨ps, r⟩ ∧ argsL.length = ps.length) (hd : decode code pc = .ok (.invokevirtual index, 3)) (hf : rm.frames + 1 ≤ R.frames) (hW : (st.map fun v => v.category).sum ≤ Wd) (hlo : Wd + (cml + 11) + rm.locals ≤ R.locals) (hcl : k + rm.cells ≤ R.cells) (hsl : n + rm.slots ≤ R.slots) :
    ∃ (v : Option Value) (H' : HP), Q v H' ∧ Wk l Z a0 EL own code ml nm rt R D (pc + 3) ls (v.toList ++ st) H' (k + rm.cells) (n + rm.slots) ∧ (∀ x, H.2 x → H'.2 x) ∧ H.1.size ≤ H'.1.size := by
  obtain ⟨p, e, s, m, args, below, meth, c, s0, H0⟩ := D
  obtain ⟨hx, hown, hc, hml, hnm, hrt, hlk, hEL, hSA, hls, T, L, vm0, k0, X, eT, hS, hk, hZ, hG, hF, hMo, hst⟩ := A
  dsimp only at hx hown hc hml hnm hrt hlk X hS hMo hst
  have hown' : (s.setVm vm0).vm.findClass own = some m.cls := (hS.1.alike.findClass _ _).trans hown
  have hZ' : Z.Warmed39 (s.setVm vm0).vm := hZ
  obtain ⟨cB, kB, i1, i2, i3⟩ := isOf (s := (s.setVm vm0)) hZ' eT E
  obtain ⟨v, vm1, ⟨T', L', c', n'⟩, -, X', hS2, hgr, ⟨Lc, O, hQ, hmo, hG', hFc, l1, l2, l3⟩, st'⟩ := X.virtualBackS hx hown' (mvT hZ' w1) (mvT hZ' w2) (notFace_of_selects (args := #[]) (mvT hZ' w3)) (mvT hZ' w4) (mvT hZ' w5) hy (ctBack hM hZ wc wz hf hlo hEL hG) i1 i3 (g := mkF m pc ls.toArray (argsL.reverse ++ .ref a :: st)) rfl (by simp [hls, hml]) (Steps.refl _) (by obtain ⟨ps, r, q1, q2⟩ := hlen; exact lenOf q1 q2) rfl (by simpa using hW) (hb hc hd) (fun _ _ => ⟨rfl, eT, hcl, hsl⟩)
  dsimp only [Pt.U, Pt.locs, Pt.cells, Pt.slots] at X' hS2 hgr hQ hmo hG' l1 l2 l3 st'
  subst l1 l2 l3
  have hS' := hS.trans hS2 (by rw [eT] at hgr; exact Nat.le_trans hk hgr)
  exact ⟨v, (T'.heap, O), hQ, ⟨hx, hown, hc, hml, hnm, hrt, hlk, hEL, hSA, hls, T', _, T'.vm, T'.heap.size, X', rfl, hS', (Nat.le_refl _), (State.Warmed39.trans (t := s.setVm vm0) hZ hS2.1), hG', (hF.app hFc), ⟨fun x q => hmo.1 x (hMo.1 x q), Nat.le_trans hMo.2 hmo.2⟩, hst.trans st'⟩, hmo.1, hmo.2⟩
end Laws

abbrev EL0 : List (String × Nat) := []
def Glb (Z : State) (a0 : Array Value) : Prop := (∀ d ∈ tables_1, d.before a0 Z = true) ∧ (∀ d ∈ jdkStatics_1, d.before a0 Z = true) ∧ Fit Z
def txtAt (k : Nat) : String := match tables_1[k]? with
  | some (.stringLink _ _ t) => t
  | _ => ""
theorem wd_0 {Z : State} {a0 : Array Value} (G : Glb Z a0) : (Jvm.Cond.constant "com/example/rightful_roles/rightfulroles/core/NamesRequireNamePinLaw" (25 : Nat) (2147483647 : Int32)).before a0 Z = true := G.1 _ (List.mem_of_getElem? (i := 0) rfl)
theorem wd_1 {Z : State} {a0 : Array Value} (G : Glb Z a0) : (Jvm.Cond.methodLink "com/example/rightful_roles/rightfulroles/core/NamesRequireNamePinLaw" (26 : Nat) ({ cls := "com/example/rightful_roles/rightfulroles/core/NamesRequireNamePinLaw", name := "draw", desc := "(I)C" } : Jvm.MethodName)).before a0 Z = true := G.1 _ (List.mem_of_getElem? (i := 1) rfl)
theorem wd_2 {Z : State} {a0 : Array Value} (G : Glb Z a0) : (Jvm.Cond.static ({ cls := "com/example/rightful_roles/rightfulroles/core/NamesRequireNamePinLaw", name := "draw", desc := "(I)C" } : Jvm.MethodName)).before a0 Z = true := G.1 _ (List.mem_of_getElem? (i := 2) rfl)
theorem wd_3 {Z : State} {a0 : Array Value} (G : Glb Z a0) : (Jvm.Cond.initialized "com/example/rightful_roles/rightfulroles/core/NamesRequireNamePinLaw").before a0 Z = true := G.1 _ (List.mem_of_getElem? (i := 3) rfl)
theorem wd_4 {Z : State} {a0 : Array Value} (G : Glb Z a0) : (Jvm.Cond.code ({ cls := "com/example/rightful_roles/rightfulroles/core/NamesRequireNamePinLaw", name := "draw", desc := "(I)C" } : Jvm.MethodName) method_2_code (1 : Nat) (Option.some Jvm.ClassFile.FieldType.char)).before a0 Z = true := G.1 _ (List.mem_of_getElem? (i := 4) rfl)
theorem wd_5 {Z : State} {a0 : Array Value} (G : Glb Z a0) : (Jvm.Cond.constant "com/example/rightful_roles/rightfulroles/core/NamesRequireNamePinLaw" (7 : Nat) (65536 : Int32)).before a0 Z = true := G.1 _ (List.mem_of_getElem? (i := 5) rfl)
theorem wd_6 {Z : State} {a0 : Array Value} (G : Glb Z a0) : (Jvm.Cond.constant "com/example/rightful_roles/rightfulroles/core/NamesRequireNamePinLaw" (9 : Nat) (65535 : Int32)).before a0 Z = true := G.1 _ (List.mem_of_getElem? (i := 6) rfl)
theorem wd_7 {Z : State} {a0 : Array Value} (G : Glb Z a0) : (Jvm.Cond.arrayClass Jvm.ClassFile.FieldType.char).before a0 Z = true := G.1 _ (List.mem_of_getElem? (i := 7) rfl)
theorem wd_8 {Z : State} {a0 : Array Value} (G : Glb Z a0) : (Jvm.Cond.classLink "com/example/rightful_roles/rightfulroles/core/NamesRequireNamePinLaw" (30 : Nat) "java/lang/String").before a0 Z = true := G.1 _ (List.mem_of_getElem? (i := 8) rfl)
theorem wd_9 {Z : State} {a0 : Array Value} (G : Glb Z a0) : (Jvm.Cond.instantiable "java/lang/String" (4 : Nat)).before a0 Z = true := G.1 _ (List.mem_of_getElem? (i := 9) rfl)
theorem wd_10 {Z : State} {a0 : Array Value} (G : Glb Z a0) : (Jvm.Cond.initialized "java/lang/String").before a0 Z = true := G.1 _ (List.mem_of_getElem? (i := 10) rfl)
theorem wd_11 {Z : State} {a0 : Array Value} (G : Glb Z a0) : (Jvm.Cond.methodLink "com/example/rightful_roles/rightfulroles/core/NamesRequireNamePinLaw" (32 : Nat) ({ cls := "java/lang/String", name := "<init>", desc := "([C)V" } : Jvm.MethodName)).before a0 Z = true := G.1 _ (List.mem_of_getElem? (i := 11) rfl)
theorem wd_12 {Z : State} {a0 : Array Value} (G : Glb Z a0) : (Jvm.Cond.instanceMethod ({ cls := "java/lang/String", name := "<init>", desc := "([C)V" } : Jvm.MethodName)).before a0 Z = true := G.1 _ (List.mem_of_getElem? (i := 12) rfl)
theorem wd_13 {Z : State} {a0 : Array Value} (G : Glb Z a0) : (Jvm.Cond.code ({ cls := "java/lang/String", name := "<init>", desc := "([C)V" } : Jvm.MethodName) jdk_42_method_3_code (2 : Nat) (Option.none : Option Jvm.ClassFile.FieldType)).before a0 Z = true := G.1 _ (List.mem_of_getElem? (i := 13) rfl)
theorem wd_14 {Z : State} {a0 : Array Value} (G : Glb Z a0) : (Jvm.Cond.methodLink "java/lang/String" (27 : Nat) ({ cls := "java/lang/String", name := "<init>", desc := "([CIILjava/lang/Void;)V" } : Jvm.MethodName)).before a0 Z = true := G.1 _ (List.mem_of_getElem? (i := 14) rfl)
theorem wd_15 {Z : State} {a0 : Array Value} (G : Glb Z a0) : (Jvm.Cond.instanceMethod ({ cls := "java/lang/String", name := "<init>", desc := "([CIILjava/lang/Void;)V" } : Jvm.MethodName)).before a0 Z = true := G.1 _ (List.mem_of_getElem? (i := 15) rfl)
theorem wd_17 {Z : State} {a0 : Array Value} (G : Glb Z a0) : (Jvm.Cond.code ({ cls := "java/lang/String", name := "<init>", desc := "([CIILjava/lang/Void;)V" } : Jvm.MethodName) jdk_42_method_149_code (6 : Nat) (Option.none : Option Jvm.ClassFile.FieldType)).before a0 Z = true := G.1 _ (List.mem_of_getElem? (i := 17) rfl)
theorem wd_18 {Z : State} {a0 : Array Value} (G : Glb Z a0) : (Jvm.Cond.methodLink "java/lang/String" (1 : Nat) ({ cls := "java/lang/Object", name := "<init>", desc := "()V" } : Jvm.MethodName)).before a0 Z = true := G.1 _ (List.mem_of_getElem? (i := 18) rfl)
theorem wd_19 {Z : State} {a0 : Array Value} (G : Glb Z a0) : (Jvm.Cond.instanceMethod ({ cls := "java/lang/Object", name := "<init>", desc := "()V" } : Jvm.MethodName)).before a0 Z = true := G.1 _ (List.mem_of_getElem? (i := 19) rfl)
theorem wd_20 {Z : State} {a0 : Array Value} (G : Glb Z a0) : (Jvm.Cond.code ({ cls := "java/lang/Object", name := "<init>", desc := "()V" } : Jvm.MethodName) object_method_1_code (1 : Nat) (Option.none : Option Jvm.ClassFile.FieldType)).before a0 Z = true := G.1 _ (List.mem_of_getElem? (i := 20) rfl)
theorem wd_21 {Z : State} {a0 : Array Value} (G : Glb Z a0) : (Jvm.Cond.fieldLink "java/lang/String" (38 : Nat) "java/lang/String" "COMPACT_STRINGS" "Z").before a0 Z = true := G.1 _ (List.mem_of_getElem? (i := 21) rfl)
theorem wd_22 {Z : State} {a0 : Array Value} (G : Glb Z a0) : (Jvm.Cond.methodLink "java/lang/String" (177 : Nat) ({ cls := "java/lang/StringUTF16", name := "compress", desc := "([CII)[B" } : Jvm.MethodName)).before a0 Z = true := G.1 _ (List.mem_of_getElem? (i := 22) rfl)
theorem wd_23 {Z : State} {a0 : Array Value} (G : Glb Z a0) : (Jvm.Cond.static ({ cls := "java/lang/StringUTF16", name := "compress", desc := "([CII)[B" } : Jvm.MethodName)).before a0 Z = true := G.1 _ (List.mem_of_getElem? (i := 23) rfl)
theorem wd_24 {Z : State} {a0 : Array Value} (G : Glb Z a0) : (Jvm.Cond.initialized "java/lang/StringUTF16").before a0 Z = true := G.1 _ (List.mem_of_getElem? (i := 24) rfl)
theorem wd_25 {Z : State} {a0 : Array Value} (G : Glb Z a0) : (Jvm.Cond.code ({ cls := "java/lang/StringUTF16", name := "compress", desc := "([CII)[B" } : Jvm.MethodName) jdk_52_method_16_code (6 : Nat) (Option.some (Jvm.ClassFile.FieldType.array Jvm.ClassFile.FieldType.byte))).before a0 Z = true := G.1 _ (List.mem_of_getElem? (i := 25) rfl)
theorem wd_26 {Z : State} {a0 : Array Value} (G : Glb Z a0) : (Jvm.Cond.arrayClass Jvm.ClassFile.FieldType.byte).before a0 Z = true := G.1 _ (List.mem_of_getElem? (i := 26) rfl)
theorem wd_27 {Z : State} {a0 : Array Value} (G : Glb Z a0) : (Jvm.Cond.methodLink "java/lang/StringUTF16" (115 : Nat) ({ cls := "java/lang/StringUTF16", name := "compress", desc := "([CI[BII)I" } : Jvm.MethodName)).before a0 Z = true := G.1 _ (List.mem_of_getElem? (i := 27) rfl)
theorem wd_28 {Z : State} {a0 : Array Value} (G : Glb Z a0) : (Jvm.Cond.static ({ cls := "java/lang/StringUTF16", name := "compress", desc := "([CI[BII)I" } : Jvm.MethodName)).before a0 Z = true := G.1 _ (List.mem_of_getElem? (i := 28) rfl)
theorem wd_29 {Z : State} {a0 : Array Value} (G : Glb Z a0) : (Jvm.Cond.code ({ cls := "java/lang/StringUTF16", name := "compress", desc := "([CI[BII)I" } : Jvm.MethodName) jdk_52_method_21_code (7 : Nat) (Option.some Jvm.ClassFile.FieldType.int)).before a0 Z = true := G.1 _ (List.mem_of_getElem? (i := 29) rfl)
theorem wd_30 {Z : State} {a0 : Array Value} (G : Glb Z a0) : (Jvm.Cond.methodLink "java/lang/String" (47 : Nat) ({ cls := "java/lang/StringUTF16", name := "coderFromArrayLen", desc := "([BI)B" } : Jvm.MethodName)).before a0 Z = true := G.1 _ (List.mem_of_getElem? (i := 30) rfl)
theorem wd_31 {Z : State} {a0 : Array Value} (G : Glb Z a0) : (Jvm.Cond.static ({ cls := "java/lang/StringUTF16", name := "coderFromArrayLen", desc := "([BI)B" } : Jvm.MethodName)).before a0 Z = true := G.1 _ (List.mem_of_getElem? (i := 31) rfl)
theorem wd_32 {Z : State} {a0 : Array Value} (G : Glb Z a0) : (Jvm.Cond.code ({ cls := "java/lang/StringUTF16", name := "coderFromArrayLen", desc := "([BI)B" } : Jvm.MethodName) jdk_52_method_15_code (2 : Nat) (Option.some Jvm.ClassFile.FieldType.byte)).before a0 Z = true := G.1 _ (List.mem_of_getElem? (i := 32) rfl)
theorem wd_33 {Z : State} {a0 : Array Value} (G : Glb Z a0) : (Jvm.Cond.fieldLink "java/lang/String" (15 : Nat) "java/lang/String" "coder" "B").before a0 Z = true := G.1 _ (List.mem_of_getElem? (i := 33) rfl)
theorem wd_34 {Z : State} {a0 : Array Value} (G : Glb Z a0) : (Jvm.Cond.laysFinal "java/lang/String" "java/lang/String" "coder" "B").before a0 Z = true := G.1 _ (List.mem_of_getElem? (i := 34) rfl)
theorem wd_35 {Z : State} {a0 : Array Value} (G : Glb Z a0) : (Jvm.Cond.fieldLink "java/lang/String" (9 : Nat) "java/lang/String" "value" "[B").before a0 Z = true := G.1 _ (List.mem_of_getElem? (i := 35) rfl)
theorem wd_36 {Z : State} {a0 : Array Value} (G : Glb Z a0) : (Jvm.Cond.laysFinal "java/lang/String" "java/lang/String" "value" "[B").before a0 Z = true := G.1 _ (List.mem_of_getElem? (i := 36) rfl)
theorem wd_37 {Z : State} {a0 : Array Value} (G : Glb Z a0) : (Jvm.Cond.methodLink "com/example/rightful_roles/rightfulroles/core/NamesRequireNamePinLaw" (13 : Nat) ({ cls := "com/example/rightful_roles/rightfulroles/core/NamesRequireNamePinLaw", name := "surr", desc := "(C)Z" } : Jvm.MethodName)).before a0 Z = true := G.1 _ (List.mem_of_getElem? (i := 37) rfl)
theorem wd_38 {Z : State} {a0 : Array Value} (G : Glb Z a0) : (Jvm.Cond.static ({ cls := "com/example/rightful_roles/rightfulroles/core/NamesRequireNamePinLaw", name := "surr", desc := "(C)Z" } : Jvm.MethodName)).before a0 Z = true := G.1 _ (List.mem_of_getElem? (i := 38) rfl)
theorem wd_39 {Z : State} {a0 : Array Value} (G : Glb Z a0) : (Jvm.Cond.code ({ cls := "com/example/rightful_roles/rightfulroles/core/NamesRequireNamePinLaw", name := "surr", desc := "(C)Z" } : Jvm.MethodName) method_5_code (1 : Nat) (Option.some Jvm.ClassFile.FieldType.boolean)).before a0 Z = true := G.1 _ (List.mem_of_getElem? (i := 39) rfl)
theorem wd_40 {Z : State} {a0 : Array Value} (G : Glb Z a0) : (Jvm.Cond.constant "com/example/rightful_roles/rightfulroles/core/NamesRequireNamePinLaw" (8 : Nat) (55296 : Int32)).before a0 Z = true := G.1 _ (List.mem_of_getElem? (i := 40) rfl)
theorem wd_41 {Z : State} {a0 : Array Value} (G : Glb Z a0) : (Jvm.Cond.stringLink "com/example/rightful_roles/rightfulroles/core/NamesRequireNamePinLaw" (39 : Nat) (txtAt 41)).before a0 Z = true := G.1 _ (List.mem_of_getElem? (i := 41) rfl)
theorem wd_44 {Z : State} {a0 : Array Value} (G : Glb Z a0) : (Jvm.Cond.methodLink "com/example/rightful_roles/rightfulroles/core/NamesRequireNamePinLaw" (41 : Nat) ({ cls := "com/example/rightful_roles/rightfulroles/core/Names", name := "requireName", desc := "(Ljava/lang/String;Ljava/lang/String;)Ljava/lang/String;" } : Jvm.MethodName)).before a0 Z = true := G.1 _ (List.mem_of_getElem? (i := 44) rfl)
theorem wd_45 {Z : State} {a0 : Array Value} (G : Glb Z a0) : (Jvm.Cond.static ({ cls := "com/example/rightful_roles/rightfulroles/core/Names", name := "requireName", desc := "(Ljava/lang/String;Ljava/lang/String;)Ljava/lang/String;" } : Jvm.MethodName)).before a0 Z = true := G.1 _ (List.mem_of_getElem? (i := 45) rfl)
theorem wd_46 {Z : State} {a0 : Array Value} (G : Glb Z a0) : (Jvm.Cond.initialized "com/example/rightful_roles/rightfulroles/core/Names").before a0 Z = true := G.1 _ (List.mem_of_getElem? (i := 46) rfl)
theorem wd_47 {Z : State} {a0 : Array Value} (G : Glb Z a0) : (Jvm.Cond.code ({ cls := "com/example/rightful_roles/rightfulroles/core/Names", name := "requireName", desc := "(Ljava/lang/String;Ljava/lang/String;)Ljava/lang/String;" } : Jvm.MethodName) prog_11_method_2_code (4 : Nat) (Option.some (Jvm.ClassFile.FieldType.object "java/lang/String"))).before a0 Z = true := G.1 _ (List.mem_of_getElem? (i := 47) rfl)
theorem wd_48 {Z : State} {a0 : Array Value} (G : Glb Z a0) : (Jvm.Cond.methodLink "com/example/rightful_roles/rightfulroles/core/Names" (7 : Nat) ({ cls := "java/util/Objects", name := "requireNonNull", desc := "(Ljava/lang/Object;Ljava/lang/String;)Ljava/lang/Object;" } : Jvm.MethodName)).before a0 Z = true := G.1 _ (List.mem_of_getElem? (i := 48) rfl)
theorem wd_49 {Z : State} {a0 : Array Value} (G : Glb Z a0) : (Jvm.Cond.static ({ cls := "java/util/Objects", name := "requireNonNull", desc := "(Ljava/lang/Object;Ljava/lang/String;)Ljava/lang/Object;" } : Jvm.MethodName)).before a0 Z = true := G.1 _ (List.mem_of_getElem? (i := 49) rfl)
theorem wd_50 {Z : State} {a0 : Array Value} (G : Glb Z a0) : (Jvm.Cond.initialized "java/util/Objects").before a0 Z = true := G.1 _ (List.mem_of_getElem? (i := 50) rfl)
theorem wd_51 {Z : State} {a0 : Array Value} (G : Glb Z a0) : (Jvm.Cond.code ({ cls := "java/util/Objects", name := "requireNonNull", desc := "(Ljava/lang/Object;Ljava/lang/String;)Ljava/lang/Object;" } : Jvm.MethodName) jdk_31_method_11_code (2 : Nat) (Option.some (Jvm.ClassFile.FieldType.object "java/lang/Object"))).before a0 Z = true := G.1 _ (List.mem_of_getElem? (i := 51) rfl)
theorem wd_52 {Z : State} {a0 : Array Value} (G : Glb Z a0) : (Jvm.Cond.methodLink "com/example/rightful_roles/rightfulroles/core/Names" (13 : Nat) ({ cls := "java/lang/String", name := "isEmpty", desc := "()Z" } : Jvm.MethodName)).before a0 Z = true := G.1 _ (List.mem_of_getElem? (i := 52) rfl)
theorem wd_53 {Z : State} {a0 : Array Value} (G : Glb Z a0) : (Jvm.Cond.declares ({ cls := "java/lang/String", name := "isEmpty", desc := "()Z" } : Jvm.MethodName)).before a0 Z = true := G.1 _ (List.mem_of_getElem? (i := 53) rfl)
theorem wd_54 {Z : State} {a0 : Array Value} (G : Glb Z a0) : (Jvm.Cond.instanceMethod ({ cls := "java/lang/String", name := "isEmpty", desc := "()Z" } : Jvm.MethodName)).before a0 Z = true := G.1 _ (List.mem_of_getElem? (i := 54) rfl)
theorem wd_55 {Z : State} {a0 : Array Value} (G : Glb Z a0) : (Jvm.Cond.selects "java/lang/String" ({ cls := "java/lang/String", name := "isEmpty", desc := "()Z" } : Jvm.MethodName) ({ cls := "java/lang/String", name := "isEmpty", desc := "()Z" } : Jvm.MethodName)).before a0 Z = true := G.1 _ (List.mem_of_getElem? (i := 55) rfl)
theorem wd_56 {Z : State} {a0 : Array Value} (G : Glb Z a0) : (Jvm.Cond.code ({ cls := "java/lang/String", name := "isEmpty", desc := "()Z" } : Jvm.MethodName) jdk_42_method_55_code (1 : Nat) (Option.some Jvm.ClassFile.FieldType.boolean)).before a0 Z = true := G.1 _ (List.mem_of_getElem? (i := 56) rfl)
theorem wd_57 {Z : State} {a0 : Array Value} (G : Glb Z a0) : (Jvm.Cond.methodLink "com/example/rightful_roles/rightfulroles/core/Names" (28 : Nat) ({ cls := "java/lang/String", name := "length", desc := "()I" } : Jvm.MethodName)).before a0 Z = true := G.1 _ (List.mem_of_getElem? (i := 57) rfl)
theorem wd_58 {Z : State} {a0 : Array Value} (G : Glb Z a0) : (Jvm.Cond.declares ({ cls := "java/lang/String", name := "length", desc := "()I" } : Jvm.MethodName)).before a0 Z = true := G.1 _ (List.mem_of_getElem? (i := 58) rfl)
theorem wd_59 {Z : State} {a0 : Array Value} (G : Glb Z a0) : (Jvm.Cond.instanceMethod ({ cls := "java/lang/String", name := "length", desc := "()I" } : Jvm.MethodName)).before a0 Z = true := G.1 _ (List.mem_of_getElem? (i := 59) rfl)
theorem wd_60 {Z : State} {a0 : Array Value} (G : Glb Z a0) : (Jvm.Cond.selects "java/lang/String" ({ cls := "java/lang/String", name := "length", desc := "()I" } : Jvm.MethodName) ({ cls := "java/lang/String", name := "length", desc := "()I" } : Jvm.MethodName)).before a0 Z = true := G.1 _ (List.mem_of_getElem? (i := 60) rfl)
theorem wd_61 {Z : State} {a0 : Array Value} (G : Glb Z a0) : (Jvm.Cond.code ({ cls := "java/lang/String", name := "length", desc := "()I" } : Jvm.MethodName) jdk_42_method_54_code (1 : Nat) (Option.some Jvm.ClassFile.FieldType.int)).before a0 Z = true := G.1 _ (List.mem_of_getElem? (i := 61) rfl)
theorem wd_62 {Z : State} {a0 : Array Value} (G : Glb Z a0) : (Jvm.Cond.methodLink "java/lang/String" (335 : Nat) ({ cls := "java/lang/String", name := "coder", desc := "()B" } : Jvm.MethodName)).before a0 Z = true := G.1 _ (List.mem_of_getElem? (i := 62) rfl)
theorem wd_63 {Z : State} {a0 : Array Value} (G : Glb Z a0) : (Jvm.Cond.declares ({ cls := "java/lang/String", name := "coder", desc := "()B" } : Jvm.MethodName)).before a0 Z = true := G.1 _ (List.mem_of_getElem? (i := 63) rfl)
theorem wd_64 {Z : State} {a0 : Array Value} (G : Glb Z a0) : (Jvm.Cond.instanceMethod ({ cls := "java/lang/String", name := "coder", desc := "()B" } : Jvm.MethodName)).before a0 Z = true := G.1 _ (List.mem_of_getElem? (i := 64) rfl)
theorem wd_65 {Z : State} {a0 : Array Value} (G : Glb Z a0) : (Jvm.Cond.selects "java/lang/String" ({ cls := "java/lang/String", name := "coder", desc := "()B" } : Jvm.MethodName) ({ cls := "java/lang/String", name := "coder", desc := "()B" } : Jvm.MethodName)).before a0 Z = true := G.1 _ (List.mem_of_getElem? (i := 65) rfl)
theorem wd_66 {Z : State} {a0 : Array Value} (G : Glb Z a0) : (Jvm.Cond.code ({ cls := "java/lang/String", name := "coder", desc := "()B" } : Jvm.MethodName) jdk_42_method_152_code (1 : Nat) (Option.some Jvm.ClassFile.FieldType.byte)).before a0 Z = true := G.1 _ (List.mem_of_getElem? (i := 66) rfl)
theorem wd_67 {Z : State} {a0 : Array Value} (G : Glb Z a0) : (Jvm.Cond.methodLink "com/example/rightful_roles/rightfulroles/core/Names" (32 : Nat) ({ cls := "java/lang/String", name := "codePointAt", desc := "(I)I" } : Jvm.MethodName)).before a0 Z = true := G.1 _ (List.mem_of_getElem? (i := 67) rfl)
theorem wd_68 {Z : State} {a0 : Array Value} (G : Glb Z a0) : (Jvm.Cond.declares ({ cls := "java/lang/String", name := "codePointAt", desc := "(I)I" } : Jvm.MethodName)).before a0 Z = true := G.1 _ (List.mem_of_getElem? (i := 68) rfl)
theorem wd_69 {Z : State} {a0 : Array Value} (G : Glb Z a0) : (Jvm.Cond.instanceMethod ({ cls := "java/lang/String", name := "codePointAt", desc := "(I)I" } : Jvm.MethodName)).before a0 Z = true := G.1 _ (List.mem_of_getElem? (i := 69) rfl)
theorem wd_70 {Z : State} {a0 : Array Value} (G : Glb Z a0) : (Jvm.Cond.selects "java/lang/String" ({ cls := "java/lang/String", name := "codePointAt", desc := "(I)I" } : Jvm.MethodName) ({ cls := "java/lang/String", name := "codePointAt", desc := "(I)I" } : Jvm.MethodName)).before a0 Z = true := G.1 _ (List.mem_of_getElem? (i := 70) rfl)
theorem wd_71 {Z : State} {a0 : Array Value} (G : Glb Z a0) : (Jvm.Cond.code ({ cls := "java/lang/String", name := "codePointAt", desc := "(I)I" } : Jvm.MethodName) jdk_42_method_57_code (3 : Nat) (Option.some Jvm.ClassFile.FieldType.int)).before a0 Z = true := G.1 _ (List.mem_of_getElem? (i := 71) rfl)
theorem wd_72 {Z : State} {a0 : Array Value} (G : Glb Z a0) : (Jvm.Cond.methodLink "java/lang/String" (492 : Nat) ({ cls := "java/lang/String", name := "isLatin1", desc := "()Z" } : Jvm.MethodName)).before a0 Z = true := G.1 _ (List.mem_of_getElem? (i := 72) rfl)
theorem wd_73 {Z : State} {a0 : Array Value} (G : Glb Z a0) : (Jvm.Cond.declares ({ cls := "java/lang/String", name := "isLatin1", desc := "()Z" } : Jvm.MethodName)).before a0 Z = true := G.1 _ (List.mem_of_getElem? (i := 73) rfl)
theorem wd_74 {Z : State} {a0 : Array Value} (G : Glb Z a0) : (Jvm.Cond.instanceMethod ({ cls := "java/lang/String", name := "isLatin1", desc := "()Z" } : Jvm.MethodName)).before a0 Z = true := G.1 _ (List.mem_of_getElem? (i := 74) rfl)
theorem wd_75 {Z : State} {a0 : Array Value} (G : Glb Z a0) : (Jvm.Cond.selects "java/lang/String" ({ cls := "java/lang/String", name := "isLatin1", desc := "()Z" } : Jvm.MethodName) ({ cls := "java/lang/String", name := "isLatin1", desc := "()Z" } : Jvm.MethodName)).before a0 Z = true := G.1 _ (List.mem_of_getElem? (i := 75) rfl)
theorem wd_76 {Z : State} {a0 : Array Value} (G : Glb Z a0) : (Jvm.Cond.code ({ cls := "java/lang/String", name := "isLatin1", desc := "()Z" } : Jvm.MethodName) jdk_42_method_154_code (1 : Nat) (Option.some Jvm.ClassFile.FieldType.boolean)).before a0 Z = true := G.1 _ (List.mem_of_getElem? (i := 76) rfl)
theorem wd_77 {Z : State} {a0 : Array Value} (G : Glb Z a0) : (Jvm.Cond.methodLink "java/lang/String" (499 : Nat) ({ cls := "java/lang/String", name := "checkIndex", desc := "(II)V" } : Jvm.MethodName)).before a0 Z = true := G.1 _ (List.mem_of_getElem? (i := 77) rfl)
theorem wd_78 {Z : State} {a0 : Array Value} (G : Glb Z a0) : (Jvm.Cond.static ({ cls := "java/lang/String", name := "checkIndex", desc := "(II)V" } : Jvm.MethodName)).before a0 Z = true := G.1 _ (List.mem_of_getElem? (i := 78) rfl)
theorem wd_79 {Z : State} {a0 : Array Value} (G : Glb Z a0) : (Jvm.Cond.code ({ cls := "java/lang/String", name := "checkIndex", desc := "(II)V" } : Jvm.MethodName) jdk_42_method_155_code (2 : Nat) (Option.none : Option Jvm.ClassFile.FieldType)).before a0 Z = true := G.1 _ (List.mem_of_getElem? (i := 79) rfl)
theorem wd_80 {Z : State} {a0 : Array Value} (G : Glb Z a0) : (Jvm.Cond.fieldLink "java/lang/String" (1053 : Nat) "jdk/internal/util/Preconditions" "SIOOBE_FORMATTER" "Ljava/util/function/BiFunction;").before a0 Z = true := G.1 _ (List.mem_of_getElem? (i := 80) rfl)
theorem wd_81 {Z : State} {a0 : Array Value} (G : Glb Z a0) : (Jvm.Cond.initialized "jdk/internal/util/Preconditions").before a0 Z = true := G.1 _ (List.mem_of_getElem? (i := 81) rfl)
theorem wd_82 {Z : State} {a0 : Array Value} (G : Glb Z a0) : (Jvm.Cond.methodLink "java/lang/String" (1059 : Nat) ({ cls := "jdk/internal/util/Preconditions", name := "checkIndex", desc := "(IILjava/util/function/BiFunction;)I" } : Jvm.MethodName)).before a0 Z = true := G.1 _ (List.mem_of_getElem? (i := 82) rfl)
theorem wd_83 {Z : State} {a0 : Array Value} (G : Glb Z a0) : (Jvm.Cond.static ({ cls := "jdk/internal/util/Preconditions", name := "checkIndex", desc := "(IILjava/util/function/BiFunction;)I" } : Jvm.MethodName)).before a0 Z = true := G.1 _ (List.mem_of_getElem? (i := 83) rfl)
theorem wd_84 {Z : State} {a0 : Array Value} (G : Glb Z a0) : (Jvm.Cond.code ({ cls := "jdk/internal/util/Preconditions", name := "checkIndex", desc := "(IILjava/util/function/BiFunction;)I" } : Jvm.MethodName) jdk_41_method_11_code (3 : Nat) (Option.some Jvm.ClassFile.FieldType.int)).before a0 Z = true := G.1 _ (List.mem_of_getElem? (i := 84) rfl)
theorem wd_85 {Z : State} {a0 : Array Value} (G : Glb Z a0) : (Jvm.Cond.constant "com/example/rightful_roles/rightfulroles/core/Names" (38 : Nat) (55296 : Int32)).before a0 Z = true := G.1 _ (List.mem_of_getElem? (i := 85) rfl)
theorem wd_86 {Z : State} {a0 : Array Value} (G : Glb Z a0) : (Jvm.Cond.methodLink "com/example/rightful_roles/rightfulroles/core/Names" (43 : Nat) ({ cls := "java/lang/Character", name := "charCount", desc := "(I)I" } : Jvm.MethodName)).before a0 Z = true := G.1 _ (List.mem_of_getElem? (i := 86) rfl)
theorem wd_87 {Z : State} {a0 : Array Value} (G : Glb Z a0) : (Jvm.Cond.static ({ cls := "java/lang/Character", name := "charCount", desc := "(I)I" } : Jvm.MethodName)).before a0 Z = true := G.1 _ (List.mem_of_getElem? (i := 87) rfl)
theorem wd_88 {Z : State} {a0 : Array Value} (G : Glb Z a0) : (Jvm.Cond.initialized "java/lang/Character").before a0 Z = true := G.1 _ (List.mem_of_getElem? (i := 88) rfl)
theorem wd_89 {Z : State} {a0 : Array Value} (G : Glb Z a0) : (Jvm.Cond.code ({ cls := "java/lang/Character", name := "charCount", desc := "(I)I" } : Jvm.MethodName) jdk_89_method_18_code (1 : Nat) (Option.some Jvm.ClassFile.FieldType.int)).before a0 Z = true := G.1 _ (List.mem_of_getElem? (i := 89) rfl)
theorem wd_90 {Z : State} {a0 : Array Value} (G : Glb Z a0) : (Jvm.Cond.constant "java/lang/Character" (73 : Nat) (65536 : Int32)).before a0 Z = true := G.1 _ (List.mem_of_getElem? (i := 90) rfl)
theorem wd_91 {Z : State} {a0 : Array Value} (G : Glb Z a0) : (Jvm.Cond.methodLink "com/example/rightful_roles/rightfulroles/core/NamesRequireNamePinLaw" (35 : Nat) ({ cls := "com/example/rightful_roles/rightfulroles/core/NamesRequireNamePinLaw", name := "valid2", desc := "(CC)Z" } : Jvm.MethodName)).before a0 Z = true := G.1 _ (List.mem_of_getElem? (i := 91) rfl)
theorem wd_92 {Z : State} {a0 : Array Value} (G : Glb Z a0) : (Jvm.Cond.static ({ cls := "com/example/rightful_roles/rightfulroles/core/NamesRequireNamePinLaw", name := "valid2", desc := "(CC)Z" } : Jvm.MethodName)).before a0 Z = true := G.1 _ (List.mem_of_getElem? (i := 92) rfl)
theorem wd_93 {Z : State} {a0 : Array Value} (G : Glb Z a0) : (Jvm.Cond.code ({ cls := "com/example/rightful_roles/rightfulroles/core/NamesRequireNamePinLaw", name := "valid2", desc := "(CC)Z" } : Jvm.MethodName) method_6_code (2 : Nat) (Option.some Jvm.ClassFile.FieldType.boolean)).before a0 Z = true := G.1 _ (List.mem_of_getElem? (i := 93) rfl)
theorem wd_94 {Z : State} {a0 : Array Value} (G : Glb Z a0) : (Jvm.Cond.methodLink "java/lang/StringUTF16" (119 : Nat) ({ cls := "java/lang/StringUTF16", name := "toBytes", desc := "([CII)[B" } : Jvm.MethodName)).before a0 Z = true := G.1 _ (List.mem_of_getElem? (i := 94) rfl)
theorem wd_95 {Z : State} {a0 : Array Value} (G : Glb Z a0) : (Jvm.Cond.static ({ cls := "java/lang/StringUTF16", name := "toBytes", desc := "([CII)[B" } : Jvm.MethodName)).before a0 Z = true := G.1 _ (List.mem_of_getElem? (i := 95) rfl)
theorem wd_96 {Z : State} {a0 : Array Value} (G : Glb Z a0) : (Jvm.Cond.code ({ cls := "java/lang/StringUTF16", name := "toBytes", desc := "([CII)[B" } : Jvm.MethodName) jdk_52_method_14_code (5 : Nat) (Option.some (Jvm.ClassFile.FieldType.array Jvm.ClassFile.FieldType.byte))).before a0 Z = true := G.1 _ (List.mem_of_getElem? (i := 96) rfl)
theorem wd_97 {Z : State} {a0 : Array Value} (G : Glb Z a0) : (Jvm.Cond.methodLink "java/lang/StringUTF16" (107 : Nat) ({ cls := "java/lang/StringUTF16", name := "newBytesFor", desc := "(I)[B" } : Jvm.MethodName)).before a0 Z = true := G.1 _ (List.mem_of_getElem? (i := 97) rfl)
theorem wd_98 {Z : State} {a0 : Array Value} (G : Glb Z a0) : (Jvm.Cond.static ({ cls := "java/lang/StringUTF16", name := "newBytesFor", desc := "(I)[B" } : Jvm.MethodName)).before a0 Z = true := G.1 _ (List.mem_of_getElem? (i := 98) rfl)
theorem wd_99 {Z : State} {a0 : Array Value} (G : Glb Z a0) : (Jvm.Cond.code ({ cls := "java/lang/StringUTF16", name := "newBytesFor", desc := "(I)[B" } : Jvm.MethodName) jdk_52_method_2_code (1 : Nat) (Option.some (Jvm.ClassFile.FieldType.array Jvm.ClassFile.FieldType.byte))).before a0 Z = true := G.1 _ (List.mem_of_getElem? (i := 99) rfl)
theorem wd_100 {Z : State} {a0 : Array Value} (G : Glb Z a0) : (Jvm.Cond.methodLink "java/lang/StringUTF16" (11 : Nat) ({ cls := "java/lang/StringUTF16", name := "newBytesLength", desc := "(I)I" } : Jvm.MethodName)).before a0 Z = true := G.1 _ (List.mem_of_getElem? (i := 100) rfl)
theorem wd_101 {Z : State} {a0 : Array Value} (G : Glb Z a0) : (Jvm.Cond.static ({ cls := "java/lang/StringUTF16", name := "newBytesLength", desc := "(I)I" } : Jvm.MethodName)).before a0 Z = true := G.1 _ (List.mem_of_getElem? (i := 101) rfl)
theorem wd_102 {Z : State} {a0 : Array Value} (G : Glb Z a0) : (Jvm.Cond.code ({ cls := "java/lang/StringUTF16", name := "newBytesLength", desc := "(I)I" } : Jvm.MethodName) jdk_52_method_3_code (1 : Nat) (Option.some Jvm.ClassFile.FieldType.int)).before a0 Z = true := G.1 _ (List.mem_of_getElem? (i := 102) rfl)
theorem wd_103 {Z : State} {a0 : Array Value} (G : Glb Z a0) : (Jvm.Cond.constant "java/lang/StringUTF16" (20 : Nat) (1073741823 : Int32)).before a0 Z = true := G.1 _ (List.mem_of_getElem? (i := 103) rfl)
theorem wd_104 {Z : State} {a0 : Array Value} (G : Glb Z a0) : (Jvm.Cond.methodLink "java/lang/StringUTF16" (111 : Nat) ({ cls := "java/lang/StringUTF16", name := "putChar", desc := "([BII)V" } : Jvm.MethodName)).before a0 Z = true := G.1 _ (List.mem_of_getElem? (i := 104) rfl)
theorem wd_105 {Z : State} {a0 : Array Value} (G : Glb Z a0) : (Jvm.Cond.static ({ cls := "java/lang/StringUTF16", name := "putChar", desc := "([BII)V" } : Jvm.MethodName)).before a0 Z = true := G.1 _ (List.mem_of_getElem? (i := 105) rfl)
theorem wd_106 {Z : State} {a0 : Array Value} (G : Glb Z a0) : (Jvm.Cond.code ({ cls := "java/lang/StringUTF16", name := "putChar", desc := "([BII)V" } : Jvm.MethodName) jdk_52_method_4_code (3 : Nat) (Option.none : Option Jvm.ClassFile.FieldType)).before a0 Z = true := G.1 _ (List.mem_of_getElem? (i := 106) rfl)
theorem wd_107 {Z : State} {a0 : Array Value} (G : Glb Z a0) : (Jvm.Cond.fieldLink "java/lang/StringUTF16" (44 : Nat) "java/lang/StringUTF16" "$assertionsDisabled" "Z").before a0 Z = true := G.1 _ (List.mem_of_getElem? (i := 107) rfl)
theorem wd_108 {Z : State} {a0 : Array Value} (G : Glb Z a0) : (Jvm.Cond.fieldLink "java/lang/StringUTF16" (59 : Nat) "java/lang/StringUTF16" "HI_BYTE_SHIFT" "I").before a0 Z = true := G.1 _ (List.mem_of_getElem? (i := 108) rfl)
theorem wd_109 {Z : State} {a0 : Array Value} (G : Glb Z a0) : (Jvm.Cond.fieldLink "java/lang/StringUTF16" (63 : Nat) "java/lang/StringUTF16" "LO_BYTE_SHIFT" "I").before a0 Z = true := G.1 _ (List.mem_of_getElem? (i := 109) rfl)
theorem wd_110 {Z : State} {a0 : Array Value} (G : Glb Z a0) : (Jvm.Cond.methodLink "java/lang/StringUTF16" (71 : Nat) ({ cls := "java/lang/StringUTF16", name := "getChar", desc := "([BI)C" } : Jvm.MethodName)).before a0 Z = true := G.1 _ (List.mem_of_getElem? (i := 110) rfl)
theorem wd_111 {Z : State} {a0 : Array Value} (G : Glb Z a0) : (Jvm.Cond.static ({ cls := "java/lang/StringUTF16", name := "getChar", desc := "([BI)C" } : Jvm.MethodName)).before a0 Z = true := G.1 _ (List.mem_of_getElem? (i := 111) rfl)
theorem wd_112 {Z : State} {a0 : Array Value} (G : Glb Z a0) : (Jvm.Cond.code ({ cls := "java/lang/StringUTF16", name := "getChar", desc := "([BI)C" } : Jvm.MethodName) jdk_52_method_5_code (2 : Nat) (Option.some Jvm.ClassFile.FieldType.char)).before a0 Z = true := G.1 _ (List.mem_of_getElem? (i := 112) rfl)
theorem wd_113 {Z : State} {a0 : Array Value} (G : Glb Z a0) : (Jvm.Cond.constant "com/example/rightful_roles/rightfulroles/core/NamesRequireNamePinLaw" (12 : Nat) (57343 : Int32)).before a0 Z = true := G.1 _ (List.mem_of_getElem? (i := 113) rfl)
theorem wd_114 {Z : State} {a0 : Array Value} (G : Glb Z a0) : (Jvm.Cond.methodLink "com/example/rightful_roles/rightfulroles/core/NamesRequireNamePinLaw" (19 : Nat) ({ cls := "com/example/rightful_roles/rightfulroles/core/NamesRequireNamePinLaw", name := "high", desc := "(C)Z" } : Jvm.MethodName)).before a0 Z = true := G.1 _ (List.mem_of_getElem? (i := 114) rfl)
theorem wd_115 {Z : State} {a0 : Array Value} (G : Glb Z a0) : (Jvm.Cond.static ({ cls := "com/example/rightful_roles/rightfulroles/core/NamesRequireNamePinLaw", name := "high", desc := "(C)Z" } : Jvm.MethodName)).before a0 Z = true := G.1 _ (List.mem_of_getElem? (i := 115) rfl)
theorem wd_116 {Z : State} {a0 : Array Value} (G : Glb Z a0) : (Jvm.Cond.code ({ cls := "com/example/rightful_roles/rightfulroles/core/NamesRequireNamePinLaw", name := "high", desc := "(C)Z" } : Jvm.MethodName) method_3_code (1 : Nat) (Option.some Jvm.ClassFile.FieldType.boolean)).before a0 Z = true := G.1 _ (List.mem_of_getElem? (i := 116) rfl)
theorem wd_117 {Z : State} {a0 : Array Value} (G : Glb Z a0) : (Jvm.Cond.constant "com/example/rightful_roles/rightfulroles/core/NamesRequireNamePinLaw" (10 : Nat) (56319 : Int32)).before a0 Z = true := G.1 _ (List.mem_of_getElem? (i := 117) rfl)
theorem wd_118 {Z : State} {a0 : Array Value} (G : Glb Z a0) : (Jvm.Cond.methodLink "java/lang/String" (502 : Nat) ({ cls := "java/lang/StringUTF16", name := "codePointAt", desc := "([BII)I" } : Jvm.MethodName)).before a0 Z = true := G.1 _ (List.mem_of_getElem? (i := 118) rfl)
theorem wd_119 {Z : State} {a0 : Array Value} (G : Glb Z a0) : (Jvm.Cond.static ({ cls := "java/lang/StringUTF16", name := "codePointAt", desc := "([BII)I" } : Jvm.MethodName)).before a0 Z = true := G.1 _ (List.mem_of_getElem? (i := 119) rfl)
theorem wd_120 {Z : State} {a0 : Array Value} (G : Glb Z a0) : (Jvm.Cond.code ({ cls := "java/lang/StringUTF16", name := "codePointAt", desc := "([BII)I" } : Jvm.MethodName) jdk_52_method_8_code (3 : Nat) (Option.some Jvm.ClassFile.FieldType.int)).before a0 Z = true := G.1 _ (List.mem_of_getElem? (i := 120) rfl)
theorem wd_121 {Z : State} {a0 : Array Value} (G : Glb Z a0) : (Jvm.Cond.methodLink "java/lang/StringUTF16" (88 : Nat) ({ cls := "java/lang/StringUTF16", name := "codePointAt", desc := "([BIIZ)I" } : Jvm.MethodName)).before a0 Z = true := G.1 _ (List.mem_of_getElem? (i := 121) rfl)
theorem wd_122 {Z : State} {a0 : Array Value} (G : Glb Z a0) : (Jvm.Cond.static ({ cls := "java/lang/StringUTF16", name := "codePointAt", desc := "([BIIZ)I" } : Jvm.MethodName)).before a0 Z = true := G.1 _ (List.mem_of_getElem? (i := 122) rfl)
theorem wd_123 {Z : State} {a0 : Array Value} (G : Glb Z a0) : (Jvm.Cond.code ({ cls := "java/lang/StringUTF16", name := "codePointAt", desc := "([BIIZ)I" } : Jvm.MethodName) jdk_52_method_7_code (6 : Nat) (Option.some Jvm.ClassFile.FieldType.int)).before a0 Z = true := G.1 _ (List.mem_of_getElem? (i := 123) rfl)
theorem wd_124 {Z : State} {a0 : Array Value} (G : Glb Z a0) : (Jvm.Cond.methodLink "java/lang/StringUTF16" (75 : Nat) ({ cls := "java/lang/Character", name := "isHighSurrogate", desc := "(C)Z" } : Jvm.MethodName)).before a0 Z = true := G.1 _ (List.mem_of_getElem? (i := 124) rfl)
theorem wd_125 {Z : State} {a0 : Array Value} (G : Glb Z a0) : (Jvm.Cond.static ({ cls := "java/lang/Character", name := "isHighSurrogate", desc := "(C)Z" } : Jvm.MethodName)).before a0 Z = true := G.1 _ (List.mem_of_getElem? (i := 125) rfl)
theorem wd_126 {Z : State} {a0 : Array Value} (G : Glb Z a0) : (Jvm.Cond.code ({ cls := "java/lang/Character", name := "isHighSurrogate", desc := "(C)Z" } : Jvm.MethodName) jdk_89_method_14_code (1 : Nat) (Option.some Jvm.ClassFile.FieldType.boolean)).before a0 Z = true := G.1 _ (List.mem_of_getElem? (i := 126) rfl)
theorem wd_127 {Z : State} {a0 : Array Value} (G : Glb Z a0) : (Jvm.Cond.constant "java/lang/Character" (75 : Nat) (55296 : Int32)).before a0 Z = true := G.1 _ (List.mem_of_getElem? (i := 127) rfl)
theorem wd_128 {Z : State} {a0 : Array Value} (G : Glb Z a0) : (Jvm.Cond.constant "java/lang/Character" (76 : Nat) (56320 : Int32)).before a0 Z = true := G.1 _ (List.mem_of_getElem? (i := 128) rfl)
theorem wd_129 {Z : State} {a0 : Array Value} (G : Glb Z a0) : (Jvm.Cond.constant "com/example/rightful_roles/rightfulroles/core/Names" (39 : Nat) (57343 : Int32)).before a0 Z = true := G.1 _ (List.mem_of_getElem? (i := 129) rfl)
theorem wd_130 {Z : State} {a0 : Array Value} (G : Glb Z a0) : (Jvm.Cond.methodLink "com/example/rightful_roles/rightfulroles/core/NamesRequireNamePinLaw" (22 : Nat) ({ cls := "com/example/rightful_roles/rightfulroles/core/NamesRequireNamePinLaw", name := "low", desc := "(C)Z" } : Jvm.MethodName)).before a0 Z = true := G.1 _ (List.mem_of_getElem? (i := 130) rfl)
theorem wd_131 {Z : State} {a0 : Array Value} (G : Glb Z a0) : (Jvm.Cond.static ({ cls := "com/example/rightful_roles/rightfulroles/core/NamesRequireNamePinLaw", name := "low", desc := "(C)Z" } : Jvm.MethodName)).before a0 Z = true := G.1 _ (List.mem_of_getElem? (i := 131) rfl)
theorem wd_132 {Z : State} {a0 : Array Value} (G : Glb Z a0) : (Jvm.Cond.code ({ cls := "com/example/rightful_roles/rightfulroles/core/NamesRequireNamePinLaw", name := "low", desc := "(C)Z" } : Jvm.MethodName) method_4_code (1 : Nat) (Option.some Jvm.ClassFile.FieldType.boolean)).before a0 Z = true := G.1 _ (List.mem_of_getElem? (i := 132) rfl)
theorem wd_133 {Z : State} {a0 : Array Value} (G : Glb Z a0) : (Jvm.Cond.constant "com/example/rightful_roles/rightfulroles/core/NamesRequireNamePinLaw" (11 : Nat) (56320 : Int32)).before a0 Z = true := G.1 _ (List.mem_of_getElem? (i := 133) rfl)
theorem wd_134 {Z : State} {a0 : Array Value} (G : Glb Z a0) : (Jvm.Cond.methodLink "java/lang/StringUTF16" (81 : Nat) ({ cls := "java/lang/Character", name := "isLowSurrogate", desc := "(C)Z" } : Jvm.MethodName)).before a0 Z = true := G.1 _ (List.mem_of_getElem? (i := 134) rfl)
theorem wd_135 {Z : State} {a0 : Array Value} (G : Glb Z a0) : (Jvm.Cond.static ({ cls := "java/lang/Character", name := "isLowSurrogate", desc := "(C)Z" } : Jvm.MethodName)).before a0 Z = true := G.1 _ (List.mem_of_getElem? (i := 135) rfl)
theorem wd_136 {Z : State} {a0 : Array Value} (G : Glb Z a0) : (Jvm.Cond.code ({ cls := "java/lang/Character", name := "isLowSurrogate", desc := "(C)Z" } : Jvm.MethodName) jdk_89_method_15_code (1 : Nat) (Option.some Jvm.ClassFile.FieldType.boolean)).before a0 Z = true := G.1 _ (List.mem_of_getElem? (i := 136) rfl)
theorem wd_137 {Z : State} {a0 : Array Value} (G : Glb Z a0) : (Jvm.Cond.constant "java/lang/Character" (77 : Nat) (57344 : Int32)).before a0 Z = true := G.1 _ (List.mem_of_getElem? (i := 137) rfl)
theorem wd_138 {Z : State} {a0 : Array Value} (G : Glb Z a0) : (Jvm.Cond.methodLink "java/lang/StringUTF16" (84 : Nat) ({ cls := "java/lang/Character", name := "toCodePoint", desc := "(CC)I" } : Jvm.MethodName)).before a0 Z = true := G.1 _ (List.mem_of_getElem? (i := 138) rfl)
theorem wd_139 {Z : State} {a0 : Array Value} (G : Glb Z a0) : (Jvm.Cond.static ({ cls := "java/lang/Character", name := "toCodePoint", desc := "(CC)I" } : Jvm.MethodName)).before a0 Z = true := G.1 _ (List.mem_of_getElem? (i := 139) rfl)
theorem wd_140 {Z : State} {a0 : Array Value} (G : Glb Z a0) : (Jvm.Cond.code ({ cls := "java/lang/Character", name := "toCodePoint", desc := "(CC)I" } : Jvm.MethodName) jdk_89_method_19_code (2 : Nat) (Option.some Jvm.ClassFile.FieldType.int)).before a0 Z = true := G.1 _ (List.mem_of_getElem? (i := 140) rfl)
theorem wd_141 {Z : State} {a0 : Array Value} (G : Glb Z a0) : (Jvm.Cond.constant "java/lang/Character" (85 : Nat) (-56613888 : Int32)).before a0 Z = true := G.1 _ (List.mem_of_getElem? (i := 141) rfl)
theorem G_SA {Z : State} {a0 : Array Value} (G : Glb Z a0) : ∀ a ∈ Bundle.stringAtoms, a.before a0 Z = true := fun a ha => G.1 a ((by decide +kernel : ∀ a ∈ Bundle.stringAtoms, a ∈ tables_1) a ha)
theorem G_EL {Z : State} {a0 : Array Value} (G : Glb Z a0) : EW Z a0 EL0 := (show EW Z a0 [] from EW.nil)
theorem Ct.in {l : Launch} {Z : State} {a0 : Array Value} (G : Glb Z a0) {ml : Nat} {H : HP} {ls : List Slot} {y : MethodName} {bytes : ByteArray} {ret : Option FieldType} {rm : Room} {wz : List Jvm.Cond} {as : List Value} {Q : Option Value → HP → Prop} (hpl : plainFor y = true) (hls : locsOf as ml = ls) (hlen : ls.length = ml)
    (body : ∀ D, Wk l Z a0 EL0 y.cls bytes ml y.name ret rm D 0 ls [] H 0 0 → ∃ v H' k n, Rt Z EL0 D v H' k n ∧ Q v H' ∧ k ≤ rm.cells ∧ n ≤ rm.slots) : Ct l Z EL0 y bytes ml ret rm wz as H Q := Ct.intro hpl (G_EL G) (G_SA G) hls hlen body

/-! numbers -/
theorem n32_toInt {i : Nat} (h : i < 2 ^ 31) : (i.toInt32).toInt = i := by simp [Nat.toInt32, Int32.toInt_ofNat_of_lt h]
theorem n32_lt {i j : Nat} (hi : i < 2 ^ 31) (hj : j < 2 ^ 31) : i.toInt32 < j.toInt32 ↔ i < j := by
  rw [Int32.lt_iff_toInt_lt, n32_toInt hi, n32_toInt hj]; omega
theorem n32_inj {i j : Nat} (hi : i < 2 ^ 31) (hj : j < 2 ^ 31) : i.toInt32 = j.toInt32 ↔ i = j := by
  constructor
  · intro h; have := congrArg Int32.toInt h; rw [n32_toInt hi, n32_toInt hj] at this; omega
  · rintro rfl; rfl
theorem n32_succ (i : Nat) : i.toInt32 + 1 = (i + 1).toInt32 := by
  show Int32.ofNat i + Int32.ofNat 1 = Int32.ofNat (i + 1)
  rw [Int32.ofNat_add]
theorem n32_add (i j : Nat) : i.toInt32 + j.toInt32 = (i + j).toInt32 := by
  show Int32.ofNat i + Int32.ofNat j = Int32.ofNat (i + j)
  rw [Int32.ofNat_add]

theorem G_compact {Z : State} {a0 : Array Value} (G : Glb Z a0) : ∃ x : Int32, ¬ x = 0 ∧ Sta Z Z.heap "java/lang/String" "COMPACT_STRINGS" "Z" (.int x) := by
  obtain ⟨x, e⟩ := is_v (Cond.before_iff.mp (G.2.1 _ (List.mem_of_getElem? (i := 1) rfl)))
  have n := not_v (Cond.before_iff.mp (G.2.1 _ (List.mem_of_getElem? (i := 2) rfl)))
  exact ⟨x, gotF (Cond.eq_ints e (Term.int_eval 0)) n, Sta.start e (Or.inl (G.2.1 _ (List.mem_of_getElem? (i := 0) rfl)))⟩

theorem stEq {args : Array Value} {s : State} {t : Term} {z : Int32} (h : (Jvm.Cond.eq t (.int z)).value args s none s [] = some true) : t.eval args s none [] s = some (.int z) := by
  obtain ⟨x, y, hx, hy, k1, -⟩ := cmp_v (Or.inl h)
  cases (Term.int_eval z).symm.trans hy
  cases x <;> simp [Kin, Value.isRef] at k1
  rename_i v
  have q : v = z := by simpa [Cond.value, hx, Term.eval] using h
  rw [hx, q]


/-! ## new String(char[]) -/
abbrev chs (cs : List Int32) : List Value := cs.map Value.int
abbrev b8 (c : Int32) : Int32 := c.toInt8.toInt32
abbrev lo8 (cs : List Int32) : List Value := cs.map fun c => Value.int (b8 c)
def pfx : List Int32 → Nat
  | [] => 0
  | c :: r => if (255 : Int32) < c then 0 else pfx r + 1
theorem pfx_le : ∀ cs, pfx cs ≤ cs.length
  | [] => Nat.le_refl _
  | c :: r => by unfold pfx; split <;> simp [pfx_le r]
theorem pfx_all : ∀ {cs}, (∀ c ∈ cs, ¬ (255 : Int32) < c) → pfx cs = cs.length
  | [], _ => rfl
  | c :: r, h => by
    unfold pfx
    rw [if_neg (h c (List.mem_cons_self ..)), pfx_all fun x hx => h x (List.mem_cons_of_mem _ hx)]; rfl
section JStr
variable {l : Launch} {Z : State} {a0 : Array Value} {D : Dyn} {H : HP}
set_option maxRecDepth 65536 in
theorem l_cmp5 (G : Glb Z a0) {s t : Addr} {cs : List Int32} {vs : List Value} (F : Ar Z H s .char (chs cs)) (hl : vs.length = cs.length) (hne : s ≠ t) :
    ∀ (q : List Int32) (i : Nat) (H1 : HP) (s6 : Slot), cs.drop i = q → i ≤ cs.length → Kp H H1 [t] → H1.2 t → Ar Z H1 t .byte (lo8 (cs.take i) ++ vs.drop i) → (s6 = .unset ∨ ∃ x, s6 = .val (.int x)) →
      Wk l Z a0 EL0 "java/lang/StringUTF16" jdk_52_method_21_code 7 "compress" (some .int) ({ frames := 0, cells := 0, slots := 0, locals := 0 } : Room) D 3 [.val (.ref s), .val (.int i.toInt32), .val (.ref t), .val (.int i.toInt32), .val (.int cs.length.toInt32), .val (.int i.toInt32), s6] [] H1 0 0 →
      ∃ H', Rt Z EL0 D (some (.int (i + pfx q).toInt32)) H' 0 0 ∧ Kp H H' [t] ∧ Ar Z H' t .byte (lo8 (cs.take (i + pfx q)) ++ vs.drop (i + pfx q)) := by
  have hn : cs.length < 2 ^ 31 := by simpa using F.len
  intro q
  induction q with
  | nil =>
    intro i H1 s6 hd hi K o T h6 A0
    have e : i = cs.length := by have := List.drop_eq_nil_iff.mp hd; omega
    subst e
    have A1 := A0.run [(3, .iload 5, 5, 0), (5, .iload 4, 7, 0)] (pe := 7) (by decide +kernel) rfl
    have A2 := A1.icT (cd := .ge) (o := 37) (by decide +kernel) Int32.lt_irrefl (pe := 44) (by decide)
    have A3 := A2.run [(44, .iload 4, 46, 0)] (pe := 46) (by decide +kernel) rfl
    have A4 := A3.retI (by decide +kernel)
    exact ⟨_, A4, K, T⟩
  | cons c r ih =>
    intro i H1 s6 hd hi K o T h6 A0
    have hlt : i < cs.length := by
      rcases Nat.lt_or_ge i cs.length with h | h
      · exact h
      · rw [List.drop_eq_nil_of_le h] at hd; cases hd
    have hc : cs[i]? = some c := by have := congrArg List.head? hd; simpa [List.head?_drop] using this
    have hr : cs.drop (i + 1) = r := by have := congrArg List.tail hd; simpa using this
    have A1 := A0.run [(3, .iload 5, 5, 0), (5, .iload 4, 7, 0)] (pe := 7) (by decide +kernel) rfl
    have A2 := A1.icF (cd := .ge) (o := 37) (by decide +kernel) (by show ¬ ¬ _ < _; exact not_not_intro ((n32_lt (by omega) hn).mpr hlt))
    have A3 := A2.run [(10, .aload_n 0, 11, 0), (11, .iload_n 1, 12, 0)] (pe := 12) (by decide +kernel) rfl
    have A4 := A3.caload (F.ky K (by simpa using hne)) (by decide +kernel) rfl (v := .int c) (by simp [hc])
    have A6 : Wk l Z a0 EL0 "java/lang/StringUTF16" jdk_52_method_21_code 7 "compress" (some .int) ({ frames := 0, cells := 0, slots := 0, locals := 0 } : Room) D 20 [.val (.ref s), .val (.int i.toInt32), .val (.ref t), .val (.int i.toInt32), .val (.int cs.length.toInt32), .val (.int i.toInt32), .val (.int c)] [.int 255, .int c] H1 0 0 := by
      rcases h6 with rfl | ⟨x, rfl⟩
      · exact A4.run [(13, .istore 6, 15, 0), (15, .iload 6, 17, 0), (17, .sipush 255, 20, 255)] (pe := 20) (by decide +kernel) rfl
      · exact A4.run [(13, .istore 6, 15, 0), (15, .iload 6, 17, 0), (17, .sipush 255, 20, 255)] (pe := 20) (by decide +kernel) rfl
    by_cases h255 : (255 : Int32) < c
    · have A7 := A6.icF (cd := .le) (o := 6) (by decide +kernel) (by show ¬ ¬ _ < _; exact not_not_intro h255)
      have A8 := A7.run [(23, .iload 5, 25, 0)] (pe := 25) (by decide +kernel) rfl
      have A9 := A8.retI (by decide +kernel)
      have e : pfx (c :: r) = 0 := by simp [pfx, h255]
      rw [e]
      exact ⟨_, A9, K, T⟩
    · have A7 := A6.icT (cd := .le) (o := 6) (by decide +kernel) (by show ¬ _ < _; exact h255) (pe := 26) (by decide)
      have A8 := A7.run [(26, .aload_n 2, 27, 0), (27, .iload_n 3, 28, 0), (28, .iload 6, 30, 0), (30, .i2b, 31, 0)] (pe := 31) (by decide +kernel) rfl
      obtain ⟨H2, A9, K2, T2⟩ := A8.bastore T o (by decide +kernel) rfl (by simp; omega) (x2 := b8 c) (by simp [nar])
      have A10 := A9.run [(32, .iinc 1 1, 35, 1), (35, .iinc 3 1, 38, 1), (38, .iinc 5 1, 41, 1), (41, .goto (-38), 3, 0)] (pe := 3) (by decide +kernel) rfl
      have e : pfx (c :: r) = pfx r + 1 := by simp [pfx, h255]
      have hl2 : (lo8 (cs.take i) ++ vs.drop i).set i (.int (b8 c)) = lo8 (cs.take (i + 1)) ++ vs.drop (i + 1) := by
        have h1 : (lo8 (cs.take i)).length = i := by simp; omega
        have h2 : vs.drop i = vs[i]'(by omega) :: vs.drop (i + 1) := by rw [List.drop_eq_getElem_cons]
        rw [List.set_append_right _ _ (by omega), h1, Nat.sub_self, h2, List.set_cons_zero]
        rw [List.take_add_one, hc]
        simp
      rw [hl2] at T2
      rw [n32_succ] at A10
      obtain ⟨H', B1, B2, B3⟩ := ih (i + 1) H2 _ hr hlt (K.trans K2 fun x hx => Or.inl hx) (K2.2 _ o) T2 (Or.inr ⟨c, rfl⟩) A10
      rw [e]
      rw [show i + (pfx r + 1) = i + 1 + pfx r by omega]
      exact ⟨H', B1, B2, B3⟩
theorem c_cmp5 (G : Glb Z a0) {s t : Addr} {cs : List Int32} {vs : List Value} (F : Ar Z H s .char (chs cs)) (T : Ar Z H t .byte vs) (o : H.2 t) (hl : vs.length = cs.length) (hne : s ≠ t) :
    Ct l Z EL0 (⟨"java/lang/StringUTF16", "compress", "([CI[BII)I"⟩ : MethodName) jdk_52_method_21_code 7 ((some .int)) ({ frames := 0, cells := 0, slots := 0, locals := 0 } : Room) [] [.ref s, .int 0, .ref t, .int 0, .int cs.length.toInt32] H (fun v H' => v = some (.int (pfx cs).toInt32) ∧ Kp H H' [t] ∧ Ar Z H' t .byte (lo8 (cs.take (pfx cs)) ++ vs.drop (pfx cs))) := by
  refine Ct.in G (by first | exact plainFor_of_name (by simp [plainName, overriddenIn]; done) | decide +kernel) (ls := [.val (.ref s), .val (.int 0), .val (.ref t), .val (.int 0), .val (.int cs.length.toInt32), .unset, .unset]) rfl rfl fun D A0 => ?_
  have A1 := A0.run [(0, .iconst 0, 1, 0), (1, .istore 5, 3, 0)] (pe := 3) (by decide +kernel) rfl
  obtain ⟨H', B1, B2, B3⟩ := l_cmp5 G F hl hne cs 0 H .unset rfl (Nat.zero_le _) (Kp.refl H |>.wide fun x hx => nomatch hx) o (by simpa using T) (Or.inl rfl) A1
  rw [Nat.zero_add] at B1 B3
  exact ⟨_, H', 0, 0, B1, ⟨rfl, B2, B3⟩, Nat.le_refl _, Nat.le_refl _⟩
/-- all chars below 256 -/
abbrev Lat (cs : List Int32) : Prop := ∀ c ∈ cs, ¬ (255 : Int32) < c
theorem c_cmp3 (G : Glb Z a0) {s : Addr} {cs : List Int32} (F : Ar Z H s .char (chs cs)) (hn : cs.length ≤ 3) (hla : Lat cs) :
    Ct l Z EL0 (⟨"java/lang/StringUTF16", "compress", "([CII)[B"⟩ : MethodName) jdk_52_method_16_code 6 ((some (.array .byte))) ({ frames := 3, cells := 2, slots := 9, locals := 40 } : Room) [] [.ref s, .int 0, .int cs.length.toInt32] H (fun v H' => ∃ t, v = some (.ref t) ∧ H.1.size ≤ t ∧ Kp H H' [] ∧ Ar Z H' t .byte (lo8 cs) ∧ H'.2 t) := by
  refine Ct.in G (by first | exact plainFor_of_name (by simp [plainName, overriddenIn]; done) | decide +kernel) (ls := [.val (.ref s), .val (.int 0), .val (.int cs.length.toInt32), .unset, .unset, .unset]) rfl rfl fun D A0 => ?_
  have A1 := A0.run [(0, .iload_n 2, 1, 0)] (pe := 1) (by decide +kernel) rfl
  obtain ⟨t, H1, A2, hge, K1, T1, o1⟩ := A1.newA (aty := .byte) (wd_26 G) (by decide +kernel) rfl (cap := 3) hn (by decide) (by decide) (by decide)
  have A3 := A2.run [(3, .astore_n 3, 4, 0), (4, .aload_n 0, 5, 0), (5, .iload_n 1, 6, 0), (6, .aload_n 3, 7, 0), (7, .iconst 0, 8, 0), (8, .iload_n 2, 9, 0)] (pe := 9) (by decide +kernel) rfl
  have hne : s ≠ t := Nat.ne_of_lt (Nat.lt_of_lt_of_le F.lt hge)
  obtain ⟨_, HA4, qA4, A4, moA4, szA4⟩ := A3.callS (argsL := [.ref s, .int 0, .ref t, .int 0, .int cs.length.toInt32]) (wd_27 G) (wd_28 G) (wd_24 G) (wd_29 G) (c_cmp5 G (F.ky K1) T1 o1 (by simp) hne) (by decide) ⟨_, _, (by decide +kernel : parseMethodDescriptor "([CI[BII)I" = some ⟨[(.array .char), .int, (.array .byte), .int, .int], some .int⟩), rfl⟩ (by decide +kernel) (Wd := 0) (by decide) (Nat.le_of_ble_eq_true rfl) (by decide) (by decide) (by decide)
  obtain ⟨rfl, K2, T2⟩ := qA4
  rw [pfx_all hla] at T2 A4
  have A5 := A4.run [(12, .istore 4, 14, 0), (14, .iload 4, 16, 0), (16, .iload_n 2, 17, 0)] (pe := 17) (by decide +kernel) rfl
  have A6 := A5.icT (cd := .eq) (o := 40) (by decide +kernel) rfl (pe := 57) (by decide)
  have A7 := A6.run [(57, .aload_n 3, 58, 0)] (pe := 58) (by decide +kernel) rfl
  have A8 := A7.retA (by decide +kernel) rfl rfl
  refine ⟨_, _, _, _, A8, ⟨t, rfl, hge, K1.trans K2 (fun x hx => Or.inr ?_), by simpa using T2, moA4 _ o1⟩, by decide, by decide⟩
  cases List.mem_singleton.mp hx; exact hge
theorem c_cfa (G : Glb Z a0) {t : Addr} {n : Nat} {vs : List Value} (F : Ar Z H t .byte vs) (hl : vs.length = n) :
    Ct l Z EL0 (⟨"java/lang/StringUTF16", "coderFromArrayLen", "([BI)B"⟩ : MethodName) jdk_52_method_15_code 2 ((some .byte)) ({ frames := 0, cells := 0, slots := 0, locals := 0 } : Room) [] [.ref t, .int n.toInt32] H (fun v H' => v = some (.int 0) ∧ H = H') := by
  refine Ct.in G (by first | exact plainFor_of_name (by simp [plainName, overriddenIn]; done) | decide +kernel) (ls := [.val (.ref t), .val (.int n.toInt32)]) rfl rfl fun D A0 => ?_
  have A1 := A0.run [(0, .iload_n 1, 1, 0), (1, .aload_n 0, 2, 0)] (pe := 2) (by decide +kernel) rfl
  have A2 := A1.alen F (by decide +kernel) (z := n.toInt32) (by rw [hl])
  have A3 := A2.run [(3, .isub, 4, 0), (4, .bipush 31, 6, 31), (6, .iushr, 7, 0), (7, .i2b, 8, 0)] (pe := 8) (by decide +kernel) rfl
  have A4 := A3.retB (by decide +kernel) (x2 := 0) (by rw [Int32.sub_self]; decide)
  exact ⟨_, _, _, _, A4, ⟨rfl, rfl⟩, Nat.le_refl _, Nat.le_refl _⟩
/-- a char's value -/
abbrev isC (c : Int32) : Prop := 0 ≤ c.toInt ∧ c.toInt < 65536
abbrev e16 (c : Int32) : List Value := [.int (b8 c), .int (b8 (c >>> (8 &&& 31)))]
abbrev enc16 (cs : List Int32) : List Value := cs.flatMap e16
/-- the String a says cs -/
def Str (Z : State) (H : HP) (a : Addr) (cs : List Int32) : Prop := Exa Z H.1 a "java/lang/String" ∧ (∀ c ∈ cs, isC c) ∧ ∃ t, Fld Z H.1 a "java/lang/String" "value" "[B" (.ref t) ∧
  (Lat cs ∧ Fld Z H.1 a "java/lang/String" "coder" "B" (.int 0) ∧ Ar Z H t .byte (lo8 cs) ∨ ¬ Lat cs ∧ Fld Z H.1 a "java/lang/String" "coder" "B" (.int 1) ∧ Ar Z H t .byte (enc16 cs))
theorem Str.ky {H H' : HP} {a : Addr} {cs : List Int32} (S : Str Z H a cs) (K : Kp H H' []) : Str Z H' a cs := by
  obtain ⟨h1, h2, t, h3, h4⟩ := S
  exact ⟨h1.ky K, h2, t, h3.ky K, h4.imp (fun ⟨q1, q2, q3⟩ => ⟨q1, q2.ky K, q3.ky K⟩) (fun ⟨q1, q2, q3⟩ => ⟨q1, q2.ky K, q3.ky K⟩)⟩
theorem Ar.kyE {H H' : HP} {t x : Addr} {ty : FieldType} {vs : List Value} {C : String} {q : Nat} (F : Ar Z H t ty vs) (K : Kp H H' [x]) (E : Exa Z H.1 x C) (wi : (Jvm.Cond.instantiable C q).before a0 Z = true) : Ar Z H' t ty vs :=
  F.ky K (by obtain ⟨c, A, -⟩ := F; simpa using Ne.symm (ne_arr E wi A))
theorem Str.kyE {H H' : HP} {a x : Addr} {cs : List Int32} {C : String} {q : Nat} (S : Str Z H a cs) (K : Kp H H' [x]) (E : Exa Z H.1 x C) (hC : C ≠ "java/lang/String") (wi : (Jvm.Cond.instantiable C q).before a0 Z = true) : Str Z H' a cs := by
  obtain ⟨h1, h2, t, h3, h4⟩ := S
  have ha : a ∉ [x] := by simpa using Ne.symm (ne_exa E h1 hC)
  exact ⟨h1.ky K, h2, t, h3.ky K ha, h4.imp (fun ⟨q1, q2, q3⟩ => ⟨q1, q2.ky K ha, q3.kyE K E wi⟩) (fun ⟨q1, q2, q3⟩ => ⟨q1, q2.ky K ha, q3.kyE K E wi⟩)⟩
theorem Str.lt {H : HP} {a : Addr} {cs : List Int32} (S : Str Z H a cs) : a < H.1.size := S.1.lt
theorem Str.opL {H : HP} {a : Addr} {cs : List Int32} (S : Str Z H a cs) (h : Lat cs) : Exa Z H.1 a "java/lang/String" ∧ ∃ t, Fld Z H.1 a "java/lang/String" "value" "[B" (.ref t) ∧ Fld Z H.1 a "java/lang/String" "coder" "B" (.int 0) ∧ Ar Z H t .byte (lo8 cs) := by
  obtain ⟨h1, h2, t, h3, h4⟩ := S
  rcases h4 with ⟨-, q⟩ | ⟨q, -⟩
  · exact ⟨h1, t, h3, q⟩
  · exact absurd h q
theorem Str.opU {H : HP} {a : Addr} {cs : List Int32} (S : Str Z H a cs) (h : ¬ Lat cs) : Exa Z H.1 a "java/lang/String" ∧ ∃ t, Fld Z H.1 a "java/lang/String" "value" "[B" (.ref t) ∧ Fld Z H.1 a "java/lang/String" "coder" "B" (.int 1) ∧ Ar Z H t .byte (enc16 cs) := by
  obtain ⟨h1, h2, t, h3, h4⟩ := S
  rcases h4 with ⟨q, -⟩ | ⟨-, q⟩
  · exact absurd q h
  · exact ⟨h1, t, h3, q⟩
theorem isC_of {H : HP} {s : Addr} {cs : List Int32} (F : Ar Z H s .char (chs cs)) : ∀ c ∈ cs, isC c := fun c hc => by
  have h := rng_char (F.fits (.int c) (List.mem_map_of_mem hc))
  rw [Int32.lt_iff_toInt_lt, Int32.lt_iff_toInt_lt] at h
  have e1 : (0 : Int32).toInt = 0 := by decide
  have e2 : (65535 : Int32).toInt = 65535 := by decide
  omega
set_option maxRecDepth 65536 in
theorem c_sI4L (G : Glb Z a0) {x s : Addr} {cs : List Int32} (F : Ar Z H s .char (chs cs)) (hn : cs.length ≤ 3) (h0 : cs ≠ []) (hla : Lat cs) (E : Exa Z H.1 x "java/lang/String") (V : Fld Z H.1 x "java/lang/String" "value" "[B" .null) (C : Fld Z H.1 x "java/lang/String" "coder" "B" (.int 0)) (o : H.2 x) :
    Ct l Z EL0 (⟨"java/lang/String", "<init>", "([CIILjava/lang/Void;)V"⟩ : MethodName) jdk_42_method_149_code 6 (none) ({ frames := 4, cells := 2, slots := 9, locals := 57 } : Room) [] [.ref x, .ref s, .int 0, .int cs.length.toInt32, .null] H (fun v H' => v = none ∧ Kp H H' [x] ∧ Str Z H' x cs) := by
  refine Ct.in G (by first | exact plainFor_of_name (by simp [plainName, overriddenIn]; done) | decide +kernel) (ls := [.val (.ref x), .val (.ref s), .val (.int 0), .val (.int cs.length.toInt32), .val .null, .unset]) rfl rfl fun D A0 => ?_
  have hn31 : cs.length < 2 ^ 31 := by omega
  obtain ⟨cz, hcz, cS⟩ := G_compact G
  have A1 := A0.run [(0, .aload_n 0, 1, 0)] (pe := 1) (by decide +kernel) rfl
  have A2 := A1.initO (wd_18 G) (wd_19 G) (wd_20 G) (by decide +kernel) (Wd := 0) (by decide) (Nat.le_of_ble_eq_true rfl) (by decide)
  have A3 := A2.run [(4, .iload_n 3, 5, 0)] (pe := 5) (by decide +kernel) rfl
  have A4 := A3.ifT (cd := .ne) (o := 22) (by decide +kernel) (by show ¬ _ = _; exact fun e => h0 (List.length_eq_zero_iff.mp ((n32_inj (j := 0) hn31 (by decide)).mp e))) (pe := 27) (by decide)
  have A5 := A4.getS (wd_21 G) cS (by decide +kernel)
  have A6 := A5.ifF (cd := .eq) (o := 28) (by decide +kernel) hcz
  have A7 := A6.run [(33, .aload_n 1, 34, 0), (34, .iload_n 2, 35, 0), (35, .iload_n 3, 36, 0)] (pe := 36) (by decide +kernel) rfl
  obtain ⟨_, HA8, qA8, A8, moA8, szA8⟩ := A7.callS (argsL := [.ref s, .int 0, .int cs.length.toInt32]) (wd_22 G) (wd_23 G) (wd_24 G) (wd_25 G) (c_cmp3 G F hn hla) (by decide) ⟨_, _, (by decide +kernel : parseMethodDescriptor "([CII)[B" = some ⟨[(.array .char), .int, .int], some (.array .byte)⟩), rfl⟩ (by decide +kernel) (Wd := 0) (by decide) (Nat.le_of_ble_eq_true rfl) (by decide) (by decide) (by decide)
  obtain ⟨t, rfl, hge, K1, T1, o1⟩ := qA8
  have A9 := A8.run [(39, .astore 5, 41, 0), (41, .aload_n 0, 42, 0), (42, .aload 5, 44, 0), (44, .iload_n 3, 45, 0)] (pe := 45) (by decide +kernel) rfl
  obtain ⟨_, HA10, qA10, A10, moA10, szA10⟩ := A9.callS (argsL := [.ref t, .int cs.length.toInt32]) (wd_30 G) (wd_31 G) (wd_24 G) (wd_32 G) (c_cfa G T1 (by simp)) (by decide) ⟨_, _, (by decide +kernel : parseMethodDescriptor "([BI)B" = some ⟨[(.array .byte), .int], some .byte⟩), rfl⟩ (by decide +kernel) (Wd := 1) (by decide) (Nat.le_of_ble_eq_true rfl) (by decide) (by decide) (by decide)
  obtain ⟨rfl, rfl⟩ := qA10
  obtain ⟨H2, A11, K2, W2⟩ := A10.putFin (wd_33 G) (C.ky K1) (E.ky K1) (wd_34 G) rfl rfl (wd_9 G) (K1.2 _ o) (by decide +kernel) (ty := .byte) (by decide) rfl rfl
  have A12 := A11.run [(51, .aload_n 0, 52, 0), (52, .aload 5, 54, 0)] (pe := 54) (by decide +kernel) rfl
  have V2 := (V.ky K1).other W2 (Or.inr (slot_ne (Or.inr (wd_36 G)) (Or.inr (wd_34 G)) (by decide) (t := .array .byte) (by decide) (t' := .byte) (by decide)))
  obtain ⟨H3, A13, K3, W3⟩ := A12.putFin (wd_35 G) V2 ((E.ky K1).ky K2) (wd_36 G) rfl rfl (wd_9 G) (K2.2 _ (K1.2 _ o)) (by decide +kernel) (ty := .array .byte) (by decide) rfl rfl
  have A14 := A13.ret (by decide +kernel)
  have hxt : t ≠ x := Nat.ne_of_gt (Nat.lt_of_lt_of_le E.lt hge)
  have C3 := ((C.ky K1).same W2).other W3 (Or.inr (slot_ne (Or.inr (wd_34 G)) (Or.inr (wd_36 G)) (by decide) (t := .byte) (by decide) (t' := .array .byte) (by decide)))
  refine ⟨_, _, _, _, A14, ⟨rfl, (K1.wide fun x hx => nomatch hx).trans (K2.trans K3 fun x hx => Or.inl hx) fun x hx => Or.inl hx, (((E.ky K1).ky K2).ky K3), isC_of F, t, V2.same W3, Or.inl ⟨hla, C3, (T1.ky K2 (by simpa using hxt)).ky K3 (by simpa using hxt)⟩⟩, by decide, by decide⟩
theorem c_sI1 (G : Glb Z a0) {x s : Addr} {cs : List Int32} (F : Ar Z H s .char (chs cs)) (M : Ct l Z EL0 (⟨"java/lang/String", "<init>", "([CIILjava/lang/Void;)V"⟩ : MethodName) jdk_42_method_149_code 6 (none) ({ frames := 4, cells := 2, slots := 9, locals := 57 } : Room) [] [.ref x, .ref s, .int 0, .int cs.length.toInt32, .null] H (fun v H' => v = none ∧ Kp H H' [x] ∧ Str Z H' x cs)) :
    Ct l Z EL0 (⟨"java/lang/String", "<init>", "([C)V"⟩ : MethodName) jdk_42_method_3_code 2 (none) ({ frames := 5, cells := 2, slots := 9, locals := 74 } : Room) [] [.ref x, .ref s] H (fun v H' => v = none ∧ Kp H H' [x] ∧ Str Z H' x cs) := by
  refine Ct.in G (by first | exact plainFor_of_name (by simp [plainName, overriddenIn]; done) | decide +kernel) (ls := [.val (.ref x), .val (.ref s)]) rfl rfl fun D A0 => ?_
  have A1 := A0.run [(0, .aload_n 0, 1, 0), (1, .aload_n 1, 2, 0), (2, .iconst 0, 3, 0), (3, .aload_n 1, 4, 0)] (pe := 4) (by decide +kernel) rfl
  have A2 := A1.alen F (by decide +kernel) (z := cs.length.toInt32) (by simp)
  have A3 := A2.run [(5, .aconst_null, 6, 0)] (pe := 6) (by decide +kernel) rfl
  obtain ⟨_, HA4, qA4, A4, moA4, szA4⟩ := A3.callI (argsL := [.ref s, .int 0, .int cs.length.toInt32, .null]) rfl (wd_14 G) (wd_15 G) (wd_10 G) (wd_17 G) (M) (by decide) ⟨_, _, (by decide +kernel : parseMethodDescriptor "([CIILjava/lang/Void;)V" = some ⟨[(.array .char), .int, .int, (.object "java/lang/Void")], none⟩), rfl⟩ (by decide +kernel) (Wd := 0) (by decide) (Nat.le_of_ble_eq_true rfl) (by decide) (by decide) (by decide)
  obtain ⟨rfl, K1, S1⟩ := qA4
  have A5 := A4.ret (by decide +kernel)
  exact ⟨_, _, _, _, A5, ⟨rfl, K1, S1⟩, by decide, by decide⟩
end JStr

theorem b8_back {c : Int32} (h : isC c) (h2 : ¬ (255 : Int32) < c) : (b8 c &&& 255).toUInt32.toUInt16.toUInt32.toInt32 = c := by
  rw [i2c_mask]
  apply Int32.toInt_inj.mp
  rw [c_mask _ 255 8 (by decide) (by decide)]
  have h3 := c_i2b c
  show (b8 c).toInt % _ = _
  simp only [b8] at *
  rw [Int32.lt_iff_toInt_lt, show (255 : Int32).toInt = 255 by decide] at h2
  omega
theorem isC_nar {c : Int32} (h : isC c) : nar .char c = c := by
  apply Int32.toInt_inj.mp
  have := c_i2c c
  show (c.toUInt32.toUInt16.toUInt32.toInt32).toInt = _
  omega
theorem okc_mask (i : Int32) : isC (i &&& 255) ∧ ¬ (255 : Int32) < i &&& 255 := by
  have h := c_and i 255 (by decide)
  have e : (255 : Int32).toInt = 255 := by decide
  rw [Int32.lt_iff_toInt_lt]
  simp only [isC]; omega
theorem okc_i2c (i : Int32) : (i &&& 255).toUInt32.toUInt16.toUInt32.toInt32 = i &&& 255 := i2c_mask i
theorem lat1 {a : Int32} (ha : ¬ (255 : Int32) < a) : Lat [a] := fun e he => by simp at he; subst he; exact ha
theorem latC {a : Int32} {cs : List Int32} (ha : ¬ (255 : Int32) < a) (h : Lat cs) : Lat (a :: cs) := fun e he => by
  rcases List.mem_cons.mp he with rfl | he
  · exact ha
  · exact h e he
theorem lat2 {a b : Int32} (ha : ¬ (255 : Int32) < a) (hb : ¬ (255 : Int32) < b) : Lat [a, b] := latC ha (lat1 hb)
theorem lat3 {a b c : Int32} (ha : ¬ (255 : Int32) < a) (hb : ¬ (255 : Int32) < b) (hc : ¬ (255 : Int32) < c) : Lat [a, b, c] := latC ha (lat2 hb hc)


section JLen
variable {l : Launch} {Z : State} {a0 : Array Value} {D : Dyn} {H : HP}
theorem enc16_len : ∀ cs : List Int32, (enc16 cs).length = 2 * cs.length
  | [] => rfl
  | c :: r => by have := enc16_len r; simp only [enc16, List.flatMap_cons, List.length_append] at this ⊢; simp [e16]; simp at this; omega
theorem c_sCod (G : Glb Z a0) {a : Addr} {b : Int32} (F : Fld Z H.1 a "java/lang/String" "coder" "B" (.int b)) (hb : b = 0 ∨ b = 1) :
    Ct l Z EL0 (⟨"java/lang/String", "coder", "()B"⟩ : MethodName) jdk_42_method_152_code 1 ((some .byte)) ({ frames := 0, cells := 0, slots := 0, locals := 0 } : Room) [] [.ref a] H (fun v H' => v = some (.int b) ∧ H = H') := by
  refine Ct.in G (by first | exact plainFor_of_name (by simp [plainName, overriddenIn]; done) | decide +kernel) (ls := [.val (.ref a)]) rfl rfl fun D A0 => ?_
  obtain ⟨cz, hcz, cS⟩ := G_compact G
  have A1 := A0.getS (wd_21 G) cS (by decide +kernel)
  have A2 := A1.ifF (cd := .eq) (o := 10) (by decide +kernel) hcz
  have A3 := A2.run [(6, .aload_n 0, 7, 0)] (pe := 7) (by decide +kernel) rfl
  have A4 := A3.getF (wd_33 G) F (by decide +kernel)
  have A5 := A4.run [(10, .goto 4, 14, 0)] (pe := 14) (by decide +kernel) rfl
  exact ⟨_, _, _, _, A5.retB (by decide +kernel) (x2 := b) (by rcases hb with rfl | rfl <;> decide), ⟨rfl, rfl⟩, by decide, by decide⟩
theorem n32_shr1 {n : Nat} (h : 2 * n < 2 ^ 31) : (2 * n).toInt32 >>> ((1 : Int32) &&& 31) = n.toInt32 := by
  apply Int32.toInt_inj.mp
  rw [c_ishr _ 1 1 (by decide), n32_toInt h, n32_toInt (by omega)]
  omega
theorem n32_shr0 (x : Int32) : x >>> ((0 : Int32) &&& 31) = x := by
  apply Int32.toInt_inj.mp
  rw [c_ishr _ 0 0 (by decide)]; simp
theorem c_sLen (G : Glb Z a0) {a : Addr} {cs : List Int32} (S : Str Z H a cs) :
    Ct l Z EL0 (⟨"java/lang/String", "length", "()I"⟩ : MethodName) jdk_42_method_54_code 1 ((some .int)) ({ frames := 1, cells := 0, slots := 0, locals := 13 } : Room) [] [.ref a] H (fun v H' => v = some (.int cs.length.toInt32) ∧ H = H') := by
  refine Ct.in G (by first | exact plainFor_of_name (by simp [plainName, overriddenIn]; done) | decide +kernel) (ls := [.val (.ref a)]) rfl rfl fun D A0 => ?_
  obtain ⟨E, hC, t, F, q⟩ := S
  have A1 := A0.run [(0, .aload_n 0, 1, 0)] (pe := 1) (by decide +kernel) rfl
  have A2 := A1.getF (wd_35 G) F (by decide +kernel)
  rcases q with ⟨-, C, T⟩ | ⟨-, C, T⟩
  · have A3 := A2.alen T (by decide +kernel) (z := cs.length.toInt32) (by simp)
    have A4 := A3.run [(5, .aload_n 0, 6, 0)] (pe := 6) (by decide +kernel) rfl
    obtain ⟨_, HA5, qA5, A5, moA5, szA5⟩ := A4.callV (argsL := []) (wd_62 G) (wd_63 G) (wd_65 G) (wd_65 G) (wd_64 G) (wd_10 G) (wd_66 G) E (c_sCod G C (Or.inl rfl)) (by decide) ⟨_, _, (by decide +kernel : parseMethodDescriptor "()B" = some ⟨[], some .byte⟩), rfl⟩ (by decide +kernel) (Wd := 1) (by decide) (Nat.le_of_ble_eq_true rfl) (by decide) (by decide) (by decide)
    obtain ⟨rfl, rfl⟩ := qA5
    have A6 := A5.run [(9, .ishr, 10, 0)] (pe := 10) (by decide +kernel) rfl
    rw [n32_shr0] at A6
    exact ⟨_, _, _, _, A6.retI (by decide +kernel), ⟨rfl, rfl⟩, by decide, by decide⟩
  · have A3 := A2.alen T (by decide +kernel) (z := (2 * cs.length).toInt32) (by rw [enc16_len])
    have A4 := A3.run [(5, .aload_n 0, 6, 0)] (pe := 6) (by decide +kernel) rfl
    obtain ⟨_, HA5, qA5, A5, moA5, szA5⟩ := A4.callV (argsL := []) (wd_62 G) (wd_63 G) (wd_65 G) (wd_65 G) (wd_64 G) (wd_10 G) (wd_66 G) E (c_sCod G C (Or.inr rfl)) (by decide) ⟨_, _, (by decide +kernel : parseMethodDescriptor "()B" = some ⟨[], some .byte⟩), rfl⟩ (by decide +kernel) (Wd := 1) (by decide) (Nat.le_of_ble_eq_true rfl) (by decide) (by decide) (by decide)
    obtain ⟨rfl, rfl⟩ := qA5
    have A6 := A5.run [(9, .ishr, 10, 0)] (pe := 10) (by decide +kernel) rfl
    rw [n32_shr1 (by rw [← enc16_len]; exact T.len)] at A6
    exact ⟨_, _, _, _, A6.retI (by decide +kernel), ⟨rfl, rfl⟩, by decide, by decide⟩
end JLen


section JCh
variable {l : Launch} {Z : State} {a0 : Array Value} {D : Dyn} {H : HP}
theorem G_fmt {Z : State} {a0 : Array Value} (G : Glb Z a0) : ∃ x : Value, x.isRef = true ∧ Sta Z Z.heap "jdk/internal/util/Preconditions" "SIOOBE_FORMATTER" "Ljava/util/function/BiFunction;" x := by
  obtain ⟨x, e, r⟩ := isR_v (Cond.before_iff.mp (G.2.1 _ (List.mem_of_getElem? (i := 8) rfl)))
  exact ⟨x, r, Sta.start e (Or.inl (G.2.1 _ (List.mem_of_getElem? (i := 7) rfl)))⟩
theorem c_isL (G : Glb Z a0) {a : Addr} {b : Int32} (F : Fld Z H.1 a "java/lang/String" "coder" "B" (.int b)) (r : Int32) (hb : b = 0 ∧ r = 1 ∨ b = 1 ∧ r = 0) :
    Ct l Z EL0 (⟨"java/lang/String", "isLatin1", "()Z"⟩ : MethodName) jdk_42_method_154_code 1 ((some .boolean)) ({ frames := 0, cells := 0, slots := 0, locals := 0 } : Room) [] [.ref a] H (fun v H' => v = some (.int r) ∧ H = H') := by
  refine Ct.in G (by first | exact plainFor_of_name (by simp [plainName, overriddenIn]; done) | decide +kernel) (ls := [.val (.ref a)]) rfl rfl fun D A0 => ?_
  obtain ⟨cz, hcz, cS⟩ := G_compact G
  have A1 := A0.getS (wd_21 G) cS (by decide +kernel)
  have A2 := A1.ifF (cd := .eq) (o := 14) (by decide +kernel) hcz
  have A3 := A2.run [(6, .aload_n 0, 7, 0)] (pe := 7) (by decide +kernel) rfl
  have A4 := A3.getF (wd_33 G) F (by decide +kernel)
  rcases hb with ⟨rfl, rfl⟩ | ⟨rfl, rfl⟩
  · have A5 := A4.ifF (cd := .ne) (o := 7) (by decide +kernel) (by show ¬ ¬ _ = _; decide)
    have A6 := A5.run [(13, .iconst 1, 14, 1), (14, .goto 4, 18, 0)] (pe := 18) (by decide +kernel) rfl
    exact ⟨_, _, _, _, A6.retZ (by decide +kernel) rfl, ⟨rfl, rfl⟩, by decide, by decide⟩
  · have A5 := A4.ifT (cd := .ne) (o := 7) (by decide +kernel) (by show ¬ _ = _; decide) (pe := 17) (by decide)
    have A6 := A5.run [(17, .iconst 0, 18, 0)] (pe := 18) (by decide +kernel) rfl
    exact ⟨_, _, _, _, A6.retZ (by decide +kernel) rfl, ⟨rfl, rfl⟩, by decide, by decide⟩
theorem c_pci (G : Glb Z a0) {i n : Nat} {f : Value} (hf : f.isRef = true) (hi : i < n) (hn : n < 2 ^ 31) :
    Ct l Z EL0 (⟨"jdk/internal/util/Preconditions", "checkIndex", "(IILjava/util/function/BiFunction;)I"⟩ : MethodName) jdk_41_method_11_code 3 ((some .int)) ({ frames := 0, cells := 0, slots := 0, locals := 0 } : Room) [] [.int i.toInt32, .int n.toInt32, f] H (fun v H' => v = some (.int i.toInt32) ∧ H = H') := by
  have key : ∀ s : Slot, locsOf [.int i.toInt32, .int n.toInt32, f] 3 = [.val (.int i.toInt32), .val (.int n.toInt32), s] → Ct l Z EL0 (⟨"jdk/internal/util/Preconditions", "checkIndex", "(IILjava/util/function/BiFunction;)I"⟩ : MethodName) jdk_41_method_11_code 3 ((some .int)) ({ frames := 0, cells := 0, slots := 0, locals := 0 } : Room) [] [.int i.toInt32, .int n.toInt32, f] H (fun v H' => v = some (.int i.toInt32) ∧ H = H') := by
    intro s hs
    refine Ct.in G (by first | exact plainFor_of_name (by simp [plainName, overriddenIn]; done) | decide +kernel) (ls := [.val (.int i.toInt32), .val (.int n.toInt32), s]) hs rfl fun D A0 => ?_
    have A1 := A0.run [(0, .iload_n 0, 1, 0)] (pe := 1) (by decide +kernel) rfl
    have A2 := A1.ifF (cd := .lt) (o := 8) (by decide +kernel) (nonneg_nat (by omega))
    have A3 := A2.run [(4, .iload_n 0, 5, 0), (5, .iload_n 1, 6, 0)] (pe := 6) (by decide +kernel) rfl
    have A4 := A3.icT (cd := .lt) (o := 10) (by decide +kernel) ((n32_lt (by omega) hn).mpr hi) (pe := 16) (by decide)
    have A5 := A4.run [(16, .iload_n 0, 17, 0)] (pe := 17) (by decide +kernel) rfl
    exact ⟨_, _, _, _, A5.retI (by decide +kernel), ⟨rfl, rfl⟩, by decide, by decide⟩
  rcases ref_cases hf with rfl | ⟨x, rfl⟩ <;> exact key _ rfl
theorem c_sci (G : Glb Z a0) {i n : Nat} (hi : i < n) (hn : n < 2 ^ 31) :
    Ct l Z EL0 (⟨"java/lang/String", "checkIndex", "(II)V"⟩ : MethodName) jdk_42_method_155_code 2 (none) ({ frames := 1, cells := 0, slots := 0, locals := 14 } : Room) [] [.int i.toInt32, .int n.toInt32] H (fun v H' => v = none ∧ H = H') := by
  refine Ct.in G (by first | exact plainFor_of_name (by simp [plainName, overriddenIn]; done) | decide +kernel) (ls := [.val (.int i.toInt32), .val (.int n.toInt32)]) rfl rfl fun D A0 => ?_
  obtain ⟨f, hf, fS⟩ := G_fmt G
  have A1 := A0.run [(0, .iload_n 0, 1, 0), (1, .iload_n 1, 2, 0)] (pe := 2) (by decide +kernel) rfl
  have A2 := A1.getS (wd_80 G) fS (by decide +kernel)
  obtain ⟨_, HA3, qA3, A3, moA3, szA3⟩ := A2.callS (argsL := [.int i.toInt32, .int n.toInt32, f]) (wd_82 G) (wd_83 G) (wd_81 G) (wd_84 G) (c_pci G hf hi hn) (by decide) ⟨_, _, (by decide +kernel : parseMethodDescriptor "(IILjava/util/function/BiFunction;)I" = some ⟨[.int, .int, (.object "java/util/function/BiFunction")], some .int⟩), rfl⟩ (by decide +kernel) (Wd := 0) (by decide) (Nat.le_of_ble_eq_true rfl) (by decide) (by decide) (by decide)
  obtain ⟨rfl, rfl⟩ := qA3
  have A4 := A3.run [(8, .pop, 9, 0)] (pe := 9) (by decide +kernel) rfl
  exact ⟨_, _, _, _, A4.ret (by decide +kernel), ⟨rfl, rfl⟩, by decide, by decide⟩
end JCh


section JUtf
variable {l : Launch} {Z : State} {a0 : Array Value} {D : Dyn} {H : HP}
theorem G_asr {Z : State} {a0 : Array Value} (G : Glb Z a0) : Sta Z Z.heap "java/lang/StringUTF16" "$assertionsDisabled" "Z" (.int 1) := by
  have h := Cond.before_iff.mp (G.2.1 _ (List.mem_of_getElem? (i := 12) rfl))
  exact Sta.start (stEq h) (Or.inl (G.2.1 _ (List.mem_of_getElem? (i := 11) rfl)))
theorem G_hi {Z : State} {a0 : Array Value} (G : Glb Z a0) : Sta Z Z.heap "java/lang/StringUTF16" "HI_BYTE_SHIFT" "I" (.int 0) := by
  have h := Cond.before_iff.mp (G.2.1 _ (List.mem_of_getElem? (i := 15) rfl))
  exact Sta.start (stEq h) (Or.inl (G.2.1 _ (List.mem_of_getElem? (i := 14) rfl)))
theorem G_lo {Z : State} {a0 : Array Value} (G : Glb Z a0) : Sta Z Z.heap "java/lang/StringUTF16" "LO_BYTE_SHIFT" "I" (.int 8) := by
  have h := Cond.before_iff.mp (G.2.1 _ (List.mem_of_getElem? (i := 18) rfl))
  exact Sta.start (stEq h) (Or.inl (G.2.1 _ (List.mem_of_getElem? (i := 17) rfl)))
theorem n32_shl1 {n : Nat} (h : 2 * n < 2 ^ 31) : n.toInt32 <<< ((1 : Int32) &&& 31) = (2 * n).toInt32 := by
  apply Int32.toInt_inj.mp
  have := c_ishl n.toInt32 1 1 (by decide)
  rw [n32_toInt (by omega)] at this
  rw [n32_toInt h]
  have r := rng32 (n.toInt32 <<< ((1 : Int32) &&& 31))
  omega
theorem c_nbl (G : Glb Z a0) {n : Nat} (hn : n ≤ 4096) : Ct l Z EL0 (⟨"java/lang/StringUTF16", "newBytesLength", "(I)I"⟩ : MethodName) jdk_52_method_3_code 1 ((some .int)) ({ frames := 0, cells := 0, slots := 0, locals := 0 } : Room) [] [.int n.toInt32] H (fun v H' => v = some (.int (2 * n).toInt32) ∧ H = H') := by
  refine Ct.in G (by first | exact plainFor_of_name (by simp [plainName, overriddenIn]; done) | decide +kernel) (ls := [.val (.int n.toInt32)]) rfl rfl fun D A0 => ?_
  have A1 := A0.run [(0, .iload_n 0, 1, 0)] (pe := 1) (by decide +kernel) rfl
  have A2 := A1.ifT (cd := .ge) (o := 11) (by decide +kernel) (nonneg_nat (by omega)) (pe := 12) (by decide)
  have A3 := A2.run [(12, .iload_n 0, 13, 0)] (pe := 13) (by decide +kernel) rfl
  have A4 := A3.ldcI (wd_103 G) (by decide +kernel)
  have A5 := A4.icT (cd := .lt) (o := 40) (by decide +kernel) (by show _ < _; rw [Int32.lt_iff_toInt_lt, n32_toInt (by omega), show (1073741823 : Int32).toInt = 1073741823 by decide]; omega) (pe := 55) (by decide)
  have A6 := A5.run [(55, .iload_n 0, 56, 0), (56, .iconst 1, 57, 1), (57, .ishl, 58, 0)] (pe := 58) (by decide +kernel) rfl
  rw [n32_shl1 (by omega)] at A6
  exact ⟨_, _, _, _, A6.retI (by decide +kernel), ⟨rfl, rfl⟩, by decide, by decide⟩
theorem c_nbf (G : Glb Z a0) {n : Nat} (hn : 2 * n ≤ 6) : Ct l Z EL0 (⟨"java/lang/StringUTF16", "newBytesFor", "(I)[B"⟩ : MethodName) jdk_52_method_2_code 1 ((some (.array .byte))) ({ frames := 1, cells := 1, slots := 6, locals := 12 } : Room) [] [.int n.toInt32] H (fun v H' => ∃ t, v = some (.ref t) ∧ H.1.size ≤ t ∧ Kp H H' [] ∧ Ar Z H' t .byte (List.replicate (2 * n) (.int 0)) ∧ H'.2 t) := by
  refine Ct.in G (by first | exact plainFor_of_name (by simp [plainName, overriddenIn]; done) | decide +kernel) (ls := [.val (.int n.toInt32)]) rfl rfl fun D A0 => ?_
  have A1 := A0.run [(0, .iload_n 0, 1, 0)] (pe := 1) (by decide +kernel) rfl
  obtain ⟨_, HA2, qA2, A2, moA2, szA2⟩ := A1.callS (argsL := [.int n.toInt32]) (wd_100 G) (wd_101 G) (wd_24 G) (wd_102 G) (c_nbl G (by omega)) (by decide) ⟨_, _, (by decide +kernel : parseMethodDescriptor "(I)I" = some ⟨[.int], some .int⟩), rfl⟩ (by decide +kernel) (Wd := 0) (by decide) (Nat.le_of_ble_eq_true rfl) (by decide) (by decide) (by decide)
  obtain ⟨rfl, rfl⟩ := qA2
  obtain ⟨t, H1, A3, hge, K1, T1, o1⟩ := A2.newA (aty := .byte) (wd_26 G) (by decide +kernel) rfl (cap := 6) hn (by decide) (by decide) (by decide)
  exact ⟨_, _, _, _, A3.retA (by decide +kernel) rfl rfl, ⟨t, rfl, hge, K1, T1, o1⟩, by decide, by decide⟩
theorem c_pch (G : Glb Z a0) {t : Addr} {vs : List Value} {i : Nat} {c : Int32} (T : Ar Z H t .byte vs) (o : H.2 t) (hi : 2 * i + 1 < vs.length) :
    Ct l Z EL0 (⟨"java/lang/StringUTF16", "putChar", "([BII)V"⟩ : MethodName) jdk_52_method_4_code 3 (none) ({ frames := 0, cells := 0, slots := 0, locals := 0 } : Room) [] [.ref t, .int i.toInt32, .int c] H (fun v H' => v = none ∧ Kp H H' [t] ∧ Ar Z H' t .byte ((vs.set (2 * i) (.int (b8 c))).set (2 * i + 1) (.int (b8 (c >>> (8 &&& 31)))))) := by
  refine Ct.in G (by first | exact plainFor_of_name (by simp [plainName, overriddenIn]; done) | decide +kernel) (ls := [.val (.ref t), .val (.int i.toInt32), .val (.int c)]) rfl rfl fun D A0 => ?_
  have hL := T.len
  have A1 := A0.getS (wd_107 G) (G_asr G) (by decide +kernel)
  have A2 := A1.ifT (cd := .ne) (o := 25) (by decide +kernel) (by show ¬ _ = _; decide) (pe := 28) (by decide)
  have A3 := A2.run [(28, .iload_n 1, 29, 0), (29, .iconst 1, 30, 1), (30, .ishl, 31, 0), (31, .istore_n 1, 32, 0), (32, .aload_n 0, 33, 0), (33, .iload_n 1, 34, 0), (34, .iinc 1 1, 37, 1), (37, .iload_n 2, 38, 0)] (pe := 38) (by decide +kernel) rfl
  rw [n32_shl1 (by omega), n32_succ] at A3
  have A4 := A3.getS (wd_108 G) (G_hi G) (by decide +kernel)
  have A5 := A4.run [(41, .ishr, 42, 0), (42, .i2b, 43, 0)] (pe := 43) (by decide +kernel) rfl
  rw [n32_shr0] at A5
  obtain ⟨H1, A6, K1, T1⟩ := A5.bastore T o (by decide +kernel) rfl (by omega) (x2 := b8 c) (by simp [nar])
  have A7 := A6.run [(44, .aload_n 0, 45, 0), (45, .iload_n 1, 46, 0), (46, .iload_n 2, 47, 0)] (pe := 47) (by decide +kernel) rfl
  have A8 := A7.getS (wd_109 G) (G_lo G) (by decide +kernel)
  have A9 := A8.run [(50, .ishr, 51, 0), (51, .i2b, 52, 0)] (pe := 52) (by decide +kernel) rfl
  obtain ⟨H2, A10, K2, T2⟩ := A9.bastore T1 (K1.2 _ o) (by decide +kernel) rfl (by simp; omega) (x2 := b8 (c >>> (8 &&& 31))) (by simp [nar])
  exact ⟨_, _, _, _, A10.ret (by decide +kernel), ⟨rfl, K1.trans K2 fun x hx => Or.inl hx, T2⟩, by decide, by decide⟩
theorem set2_enc {cs : List Int32} {i : Nat} {c : Int32} (hc : cs[i]? = some c) (n : Nat) (hn : n = cs.length) :
    ((enc16 (cs.take i) ++ List.replicate (2 * (n - i)) (Value.int 0)).set (2 * i) (.int (b8 c))).set (2 * i + 1) (.int (b8 (c >>> (8 &&& 31)))) = enc16 (cs.take (i + 1)) ++ List.replicate (2 * (n - (i + 1))) (Value.int 0) := by
  have hi : i < cs.length := (List.getElem?_eq_some_iff.mp hc).1
  have h1 : (enc16 (cs.take i)).length = 2 * i := by rw [enc16_len]; simp; omega
  have h2 : List.replicate (2 * (n - i)) (Value.int 0) = .int 0 :: .int 0 :: List.replicate (2 * (n - (i + 1))) (.int 0) := by
    rw [show 2 * (n - i) = 2 * (n - (i + 1)) + 1 + 1 by omega]; rfl
  rw [h2, List.set_append_right _ _ (by omega), h1, Nat.sub_self, List.set_cons_zero, List.set_append_right _ _ (by omega), h1, show 2 * i + 1 - 2 * i = 0 + 1 by omega, List.set_cons_succ, List.set_cons_zero]
  rw [List.take_add_one, hc]
  simp [enc16, e16]
set_option maxRecDepth 65536 in
theorem l_tby (G : Glb Z a0) {s t : Addr} {cs : List Int32} (F : Ar Z H s .char (chs cs)) (hst : s ≠ t) (hge : H.1.size ≤ t) :
    ∀ (j i : Nat) (H1 : HP), i + j = cs.length → Kp H H1 [] → H1.2 t → Ar Z H1 t .byte (enc16 (cs.take i) ++ List.replicate (2 * (cs.length - i)) (.int 0)) →
      Wk l Z a0 EL0 "java/lang/StringUTF16" jdk_52_method_14_code 5 "toBytes" (some (.array .byte)) ({ frames := 2, cells := 1, slots := 6, locals := 24 } : Room) D 8 [.val (.ref s), .val (.int i.toInt32), .val (.int cs.length.toInt32), .val (.ref t), .val (.int i.toInt32)] [] H1 1 6 →
      ∃ H', Rt Z EL0 D (some (.ref t)) H' 1 6 ∧ Kp H H' [] ∧ Ar Z H' t .byte (enc16 cs) ∧ H'.2 t := by
  have hn : cs.length < 2 ^ 31 := by simpa using F.len
  intro j
  induction j with
  | zero =>
    intro i H1 e K o T A0
    have e : i = cs.length := by omega
    subst e
    have A1 := A0.run [(8, .iload 4, 10, 0), (10, .iload_n 2, 11, 0)] (pe := 11) (by decide +kernel) rfl
    have A2 := A1.icT (cd := .ge) (o := 21) (by decide +kernel) Int32.lt_irrefl (pe := 32) (by decide)
    have A3 := A2.run [(32, .aload_n 3, 33, 0)] (pe := 33) (by decide +kernel) rfl
    exact ⟨_, A3.retA (by decide +kernel) rfl rfl, K, by simpa using T, o⟩
  | succ j ih =>
    intro i H1 e K o T A0
    have hlt : i < cs.length := by omega
    obtain ⟨c, hc⟩ : ∃ c, cs[i]? = some c := ⟨_, List.getElem?_eq_getElem hlt⟩
    have A1 := A0.run [(8, .iload 4, 10, 0), (10, .iload_n 2, 11, 0)] (pe := 11) (by decide +kernel) rfl
    have A2 := A1.icF (cd := .ge) (o := 21) (by decide +kernel) (not_not_intro ((n32_lt (by omega) hn).mpr hlt))
    have A3 := A2.run [(14, .aload_n 3, 15, 0), (15, .iload 4, 17, 0), (17, .aload_n 0, 18, 0), (18, .iload_n 1, 19, 0)] (pe := 19) (by decide +kernel) rfl
    have A4 := A3.caload (F.ky K) (by decide +kernel) rfl (v := .int c) (by simp [hc])
    obtain ⟨_, HA5, qA5, A5, moA5, szA5⟩ := A4.callS (argsL := [.ref t, .int i.toInt32, .int c]) (wd_104 G) (wd_105 G) (wd_24 G) (wd_106 G) (c_pch G T o (by have := enc16_len (cs.take i); simp only [List.length_append, List.length_replicate, this, List.length_take]; omega)) (by decide) ⟨_, _, (by decide +kernel : parseMethodDescriptor "([BII)V" = some ⟨[(.array .byte), .int, .int], none⟩), rfl⟩ (by decide +kernel) (Wd := 0) (by decide) (Nat.le_of_ble_eq_true rfl) (by decide) (by decide) (by decide)
    obtain ⟨rfl, K5, T5⟩ := qA5
    have A6 := A5.run [(23, .iinc 1 1, 26, 1), (26, .iinc 4 1, 29, 1), (29, .goto (-21), 8, 0)] (pe := 8) (by decide +kernel) rfl
    rw [set2_enc hc _ rfl] at T5
    rw [n32_succ] at A6
    exact ih (i + 1) _ (by omega) (K.trans K5 fun x hx => by cases List.mem_singleton.mp hx; exact Or.inr hge) (K5.2 _ o) T5 A6
theorem c_tby (G : Glb Z a0) {s : Addr} {cs : List Int32} (F : Ar Z H s .char (chs cs)) (hn : 2 * cs.length ≤ 6) :
    Ct l Z EL0 (⟨"java/lang/StringUTF16", "toBytes", "([CII)[B"⟩ : MethodName) jdk_52_method_14_code 5 ((some (.array .byte))) ({ frames := 2, cells := 1, slots := 6, locals := 24 } : Room) [] [.ref s, .int 0, .int cs.length.toInt32] H (fun v H' => ∃ t, v = some (.ref t) ∧ H.1.size ≤ t ∧ Kp H H' [] ∧ Ar Z H' t .byte (enc16 cs) ∧ H'.2 t) := by
  refine Ct.in G (by first | exact plainFor_of_name (by simp [plainName, overriddenIn]; done) | decide +kernel) (ls := [.val (.ref s), .val (.int 0), .val (.int cs.length.toInt32), .unset, .unset]) rfl rfl fun D A0 => ?_
  have A1 := A0.run [(0, .iload_n 2, 1, 0)] (pe := 1) (by decide +kernel) rfl
  obtain ⟨_, HA2, qA2, A2, moA2, szA2⟩ := A1.callS (argsL := [.int cs.length.toInt32]) (wd_97 G) (wd_98 G) (wd_24 G) (wd_99 G) (c_nbf G hn) (by decide) ⟨_, _, (by decide +kernel : parseMethodDescriptor "(I)[B" = some ⟨[.int], some (.array .byte)⟩), rfl⟩ (by decide +kernel) (Wd := 0) (by decide) (Nat.le_of_ble_eq_true rfl) (by decide) (by decide) (by decide)
  obtain ⟨t, rfl, hge, K1, T1, o1⟩ := qA2
  have A3 := A2.run [(4, .astore_n 3, 5, 0), (5, .iconst 0, 6, 0), (6, .istore 4, 8, 0)] (pe := 8) (by decide +kernel) rfl
  have hst : s ≠ t := Nat.ne_of_lt (Nat.lt_of_lt_of_le F.lt hge)
  obtain ⟨H', B1, B2, B3, B4⟩ := l_tby G F hst hge cs.length 0 _ (by omega) K1 o1 (by simpa using T1) A3
  exact ⟨_, _, _, _, B1, ⟨t, rfl, hge, B2, B3, B4⟩, by decide, by decide⟩
theorem e16_at : ∀ {cs : List Int32} {i : Nat} {c : Int32}, cs[i]? = some c → (enc16 cs)[2 * i]? = some (.int (b8 c)) ∧ (enc16 cs)[2 * i + 1]? = some (.int (b8 (c >>> (8 &&& 31))))
  | [], i, c, h => by simp at h
  | d :: r, 0, c, h => by
    have : d = c := by simpa using h
    subst this; simp [enc16, e16]
  | d :: r, i + 1, c, h => by
    obtain ⟨h1, h2⟩ := e16_at (cs := r) (i := i) (c := c) (by simpa using h)
    rw [show 2 * (i + 1) = 2 * i + 1 + 1 by omega]
    exact ⟨by simpa [enc16, e16] using h1, by simpa [enc16, e16] using h2⟩
theorem n32_shl0 (x : Int32) : x <<< ((0 : Int32) &&& 31) = x := by
  apply Int32.toInt_inj.mp
  have := c_ishl x 0 0 (by decide)
  have r := rng32 x
  have r2 := rng32 (x <<< ((0 : Int32) &&& 31))
  rw [show ((2 ^ 0 : Nat) : Int) = 1 by decide] at this
  omega
theorem c16_back {c : Int32} (h : isC c) : ((b8 c &&& (255 : Int32)) ||| ((b8 (c >>> (8 &&& 31)) &&& (255 : Int32)) <<< ((8 : Int32) &&& 31))).toUInt32.toUInt16.toUInt32.toInt32 = c := by
  apply Int32.toInt_inj.mp
  have a1 := c_mask (b8 c) 255 8 (by decide) (by decide)
  have a2 : ((b8 c).toInt - c.toInt) % 256 = 0 ∧ -128 ≤ (b8 c).toInt ∧ (b8 c).toInt < 128 := c_i2b c
  have a3 := c_mask (b8 (c >>> (8 &&& 31))) 255 8 (by decide) (by decide)
  have a4 : ((b8 (c >>> (8 &&& 31))).toInt - (c >>> (8 &&& 31)).toInt) % 256 = 0 ∧ -128 ≤ (b8 (c >>> (8 &&& 31))).toInt ∧ (b8 (c >>> (8 &&& 31))).toInt < 128 := c_i2b (c >>> (8 &&& 31))
  have a5 := c_ishr c 8 8 (by decide)
  have a6 := c_ishl (b8 (c >>> (8 &&& 31)) &&& 255) 8 8 (by decide)
  have r6 := rng32 ((b8 (c >>> (8 &&& 31)) &&& 255) <<< ((8 : Int32) &&& 31))
  generalize hX : (b8 c &&& 255) = X at *
  generalize hY : (b8 (c >>> (8 &&& 31)) &&& 255) = Y at *
  generalize hW : (Y <<< ((8 : Int32) &&& 31)) = W at *
  have a7 := c_or' X W 8 (by decide) 256 (by decide)
  have r7 := rng32 (X ||| W)
  have a8 := c_i2c (X ||| W)
  simp only [Nat.reducePow] at a1 a3 a5 a6
  have b1 : X.toInt = c.toInt % 256 := by omega
  have b2 : Y.toInt = c.toInt / 256 := by omega
  have b3 : W.toInt = c.toInt / 256 * 256 := by omega
  have b4 := a7 (by omega) (by omega) (by omega)
  omega
theorem c_gch (G : Glb Z a0) {t : Addr} {cs : List Int32} {i : Nat} {c : Int32} (T : Ar Z H t .byte (enc16 cs)) (hC : isC c) (hc : cs[i]? = some c) :
    Ct l Z EL0 (⟨"java/lang/StringUTF16", "getChar", "([BI)C"⟩ : MethodName) jdk_52_method_5_code 2 ((some .char)) ({ frames := 0, cells := 0, slots := 0, locals := 0 } : Room) [] [.ref t, .int i.toInt32] H (fun v H' => v = some (.int c) ∧ H = H') := by
  refine Ct.in G (by first | exact plainFor_of_name (by simp [plainName, overriddenIn]; done) | decide +kernel) (ls := [.val (.ref t), .val (.int i.toInt32)]) rfl rfl fun D A0 => ?_
  have hi : i < cs.length := (List.getElem?_eq_some_iff.mp hc).1
  have hL := T.len; rw [enc16_len] at hL
  obtain ⟨g1, g2⟩ := e16_at hc
  have A1 := A0.getS (wd_107 G) (G_asr G) (by decide +kernel)
  have A2 := A1.ifT (cd := .ne) (o := 25) (by decide +kernel) (by show ¬ _ = _; decide) (pe := 28) (by decide)
  have A3 := A2.run [(28, .iload_n 1, 29, 0), (29, .iconst 1, 30, 1), (30, .ishl, 31, 0), (31, .istore_n 1, 32, 0), (32, .aload_n 0, 33, 0), (33, .iload_n 1, 34, 0), (34, .iinc 1 1, 37, 1)] (pe := 37) (by decide +kernel) rfl
  rw [n32_shl1 (by omega), n32_succ] at A3
  have A4 := A3.baload T (by decide +kernel) rfl g1
  have A5 := A4.run [(38, .sipush 255, 41, 255), (41, .iand, 42, 0)] (pe := 42) (by decide +kernel) rfl
  have A6 := A5.getS (wd_108 G) (G_hi G) (by decide +kernel)
  have A7 := A6.run [(45, .ishl, 46, 0), (46, .aload_n 0, 47, 0), (47, .iload_n 1, 48, 0)] (pe := 48) (by decide +kernel) rfl
  have A8 := A7.baload T (by decide +kernel) rfl g2
  have A9 := A8.run [(49, .sipush 255, 52, 255), (52, .iand, 53, 0)] (pe := 53) (by decide +kernel) rfl
  have A10 := A9.getS (wd_109 G) (G_lo G) (by decide +kernel)
  have A11 := A10.run [(56, .ishl, 57, 0), (57, .ior, 58, 0), (58, .i2c, 59, 0)] (pe := 59) (by decide +kernel) rfl
  rw [n32_shl0, c16_back hC] at A11
  exact ⟨_, _, _, _, A11.retC (by decide +kernel) (isC_nar hC), ⟨rfl, rfl⟩, by decide, by decide⟩
end JUtf


section JUtf2
variable {l : Launch} {Z : State} {a0 : Array Value} {D : Dyn} {H : HP}
theorem pfx_at : ∀ {cs : List Int32}, ¬ Lat cs → ∃ c, cs[pfx cs]? = some c ∧ (255 : Int32) < c
  | [], h => absurd (fun c hc => nomatch hc) h
  | d :: r, h => by
    by_cases hd : (255 : Int32) < d
    · exact ⟨d, by simp [pfx, hd], hd⟩
    · have hr : ¬ Lat r := fun q => h fun c hc => by
        rcases List.mem_cons.mp hc with rfl | hc
        · exact hd
        · exact q c hc
      obtain ⟨c, h1, h2⟩ := pfx_at hr
      exact ⟨c, by simpa [pfx, hd] using h1, h2⟩
theorem c_cmp3U (G : Glb Z a0) {s : Addr} {cs : List Int32} (F : Ar Z H s .char (chs cs)) (hn : cs.length ≤ 3) (hla : ¬ Lat cs) :
    Ct l Z EL0 (⟨"java/lang/StringUTF16", "compress", "([CII)[B"⟩ : MethodName) jdk_52_method_16_code 6 ((some (.array .byte))) ({ frames := 3, cells := 2, slots := 9, locals := 40 } : Room) [] [.ref s, .int 0, .int cs.length.toInt32] H (fun v H' => ∃ t, v = some (.ref t) ∧ H.1.size ≤ t ∧ Kp H H' [] ∧ Ar Z H' t .byte (enc16 cs) ∧ H'.2 t) := by
  refine Ct.in G (by first | exact plainFor_of_name (by simp [plainName, overriddenIn]; done) | decide +kernel) (ls := [.val (.ref s), .val (.int 0), .val (.int cs.length.toInt32), .unset, .unset, .unset]) rfl rfl fun D A0 => ?_
  have hn31 : cs.length < 2 ^ 31 := by omega
  obtain ⟨c, hc, hc2⟩ := pfx_at hla
  have hp : pfx cs < cs.length := (List.getElem?_eq_some_iff.mp hc).1
  have A1 := A0.run [(0, .iload_n 2, 1, 0)] (pe := 1) (by decide +kernel) rfl
  obtain ⟨t, H1, A2, hge, K1, T1, o1⟩ := A1.newA (aty := .byte) (wd_26 G) (by decide +kernel) rfl (cap := 3) hn (by decide) (by decide) (by decide)
  have A3 := A2.run [(3, .astore_n 3, 4, 0), (4, .aload_n 0, 5, 0), (5, .iload_n 1, 6, 0), (6, .aload_n 3, 7, 0), (7, .iconst 0, 8, 0), (8, .iload_n 2, 9, 0)] (pe := 9) (by decide +kernel) rfl
  have hne : s ≠ t := Nat.ne_of_lt (Nat.lt_of_lt_of_le F.lt hge)
  obtain ⟨_, HA4, qA4, A4, moA4, szA4⟩ := A3.callS (argsL := [.ref s, .int 0, .ref t, .int 0, .int cs.length.toInt32]) (wd_27 G) (wd_28 G) (wd_24 G) (wd_29 G) (c_cmp5 G (F.ky K1) T1 o1 (by simp) hne) (by decide) ⟨_, _, (by decide +kernel : parseMethodDescriptor "([CI[BII)I" = some ⟨[(.array .char), .int, (.array .byte), .int, .int], some .int⟩), rfl⟩ (by decide +kernel) (Wd := 0) (by decide) (Nat.le_of_ble_eq_true rfl) (by decide) (by decide) (by decide)
  obtain ⟨rfl, K2, T2⟩ := qA4
  have A5 := A4.run [(12, .istore 4, 14, 0), (14, .iload 4, 16, 0), (16, .iload_n 2, 17, 0)] (pe := 17) (by decide +kernel) rfl
  have A6 := A5.icF (cd := .eq) (o := 40) (by decide +kernel) (fun e => by have := (n32_inj (by omega) hn31).mp e; omega)
  have A7 := A6.run [(20, .aload_n 0, 21, 0), (21, .iload_n 1, 22, 0), (22, .iload_n 2, 23, 0)] (pe := 23) (by decide +kernel) rfl
  have F2 := (F.ky K1).ky K2 (by simpa using hne)
  obtain ⟨_, HA8, qA8, A8, moA8, szA8⟩ := A7.callS (argsL := [.ref s, .int 0, .int cs.length.toInt32]) (wd_94 G) (wd_95 G) (wd_24 G) (wd_96 G) (c_tby G F2 (by omega)) (by decide) ⟨_, _, (by decide +kernel : parseMethodDescriptor "([CII)[B" = some ⟨[(.array .char), .int, .int], some (.array .byte)⟩), rfl⟩ (by decide +kernel) (Wd := 0) (by decide) (Nat.le_of_ble_eq_true rfl) (by decide) (by decide) (by decide)
  obtain ⟨u, rfl, hgu, K3, T3, o3⟩ := qA8
  have A9 := A8.run [(26, .astore 5, 28, 0), (28, .aload 5, 30, 0), (30, .iload 4, 32, 0)] (pe := 32) (by decide +kernel) rfl
  obtain ⟨_, HA10, qA10, A10, moA10, szA10⟩ := A9.callS (argsL := [.ref u, .int (pfx cs).toInt32]) (wd_110 G) (wd_111 G) (wd_24 G) (wd_112 G) (c_gch G T3 (isC_of F c (List.mem_of_getElem? hc)) hc) (by decide) ⟨_, _, (by decide +kernel : parseMethodDescriptor "([BI)C" = some ⟨[(.array .byte), .int], some .char⟩), rfl⟩ (by decide +kernel) (Wd := 0) (by decide) (Nat.le_of_ble_eq_true rfl) (by decide) (by decide) (by decide)
  obtain ⟨rfl, rfl⟩ := qA10
  have A11 := A10.run [(35, .sipush 255, 38, 255)] (pe := 38) (by decide +kernel) rfl
  have A12 := A11.icT (cd := .gt) (o := 16) (by decide +kernel) hc2 (pe := 54) (by decide)
  have A13 := A12.run [(54, .aload 5, 56, 0)] (pe := 56) (by decide +kernel) rfl
  have A14 := A13.retA (by decide +kernel) rfl rfl
  have K12 := K1.trans K2 (fun x hx => Or.inr (by cases List.mem_singleton.mp hx; exact hge))
  exact ⟨_, _, _, _, A14, ⟨u, rfl, Nat.le_trans K12.size hgu, K12.tr K3, T3, o3⟩, by decide, by decide⟩
theorem sub_neg {n : Nat} (h0 : 0 < n) (h : 2 * n < 2 ^ 31) : (XT.ushr (n.toInt32 - (2 * n).toInt32) 31).toInt8.toInt32 = 1 := by
  have e : n.toInt32 - (2 * n).toInt32 = -(n.toInt32) := by
    apply Int32.toInt_inj.mp
    have a := c_isub n.toInt32 (2 * n).toInt32
    have b := c_ineg n.toInt32
    rw [n32_toInt (by omega), n32_toInt h] at a
    rw [n32_toInt (by omega)] at b
    have r1 := rng32 (n.toInt32 - (2 * n).toInt32)
    have r2 := rng32 (-(n.toInt32))
    omega
  rw [e]
  have q : XT.ushr (-(n.toInt32)) 31 = 1 := by
    apply Int32.toInt_inj.mp
    have a := c_iushr (-(n.toInt32)) 31 31 (by decide) (by decide)
    have b := c_ineg n.toInt32
    rw [n32_toInt (by omega)] at b
    have r2 := rng32 (-(n.toInt32))
    show ((-(n.toInt32)).toUInt32 >>> ((31 : Int32) &&& 31).toUInt32).toInt32.toInt = _
    rw [a, show (1 : Int32).toInt = 1 by decide]
    simp only [Nat.reducePow]
    omega
  rw [q]; decide
theorem c_cfaU (G : Glb Z a0) {t : Addr} {n : Nat} {vs : List Value} (F : Ar Z H t .byte vs) (h0 : 0 < n) (hl : vs.length = 2 * n) :
    Ct l Z EL0 (⟨"java/lang/StringUTF16", "coderFromArrayLen", "([BI)B"⟩ : MethodName) jdk_52_method_15_code 2 ((some .byte)) ({ frames := 0, cells := 0, slots := 0, locals := 0 } : Room) [] [.ref t, .int n.toInt32] H (fun v H' => v = some (.int 1) ∧ H = H') := by
  refine Ct.in G (by first | exact plainFor_of_name (by simp [plainName, overriddenIn]; done) | decide +kernel) (ls := [.val (.ref t), .val (.int n.toInt32)]) rfl rfl fun D A0 => ?_
  have A1 := A0.run [(0, .iload_n 1, 1, 0), (1, .aload_n 0, 2, 0)] (pe := 2) (by decide +kernel) rfl
  have A2 := A1.alen F (by decide +kernel) (z := (2 * n).toInt32) (by rw [hl])
  have A3 := A2.run [(3, .isub, 4, 0), (4, .bipush 31, 6, 31), (6, .iushr, 7, 0), (7, .i2b, 8, 0)] (pe := 8) (by decide +kernel) rfl
  rw [sub_neg h0 (by rw [← hl]; exact F.len)] at A3
  have A4 := A3.retB (by decide +kernel) (x2 := 1) (by decide)
  exact ⟨_, _, _, _, A4, ⟨rfl, rfl⟩, Nat.le_refl _, Nat.le_refl _⟩
set_option maxRecDepth 65536 in
theorem c_sI4U (G : Glb Z a0) {x s : Addr} {cs : List Int32} (F : Ar Z H s .char (chs cs)) (hn : cs.length ≤ 3) (hla : ¬ Lat cs) (E : Exa Z H.1 x "java/lang/String") (V : Fld Z H.1 x "java/lang/String" "value" "[B" .null) (C : Fld Z H.1 x "java/lang/String" "coder" "B" (.int 0)) (o : H.2 x) :
    Ct l Z EL0 (⟨"java/lang/String", "<init>", "([CIILjava/lang/Void;)V"⟩ : MethodName) jdk_42_method_149_code 6 (none) ({ frames := 4, cells := 2, slots := 9, locals := 57 } : Room) [] [.ref x, .ref s, .int 0, .int cs.length.toInt32, .null] H (fun v H' => v = none ∧ Kp H H' [x] ∧ Str Z H' x cs) := by
  refine Ct.in G (by first | exact plainFor_of_name (by simp [plainName, overriddenIn]; done) | decide +kernel) (ls := [.val (.ref x), .val (.ref s), .val (.int 0), .val (.int cs.length.toInt32), .val .null, .unset]) rfl rfl fun D A0 => ?_
  have h0 : cs ≠ [] := fun e => hla (by rw [e]; exact fun c hc => nomatch hc)
  have hn31 : cs.length < 2 ^ 31 := by omega
  obtain ⟨cz, hcz, cS⟩ := G_compact G
  have A1 := A0.run [(0, .aload_n 0, 1, 0)] (pe := 1) (by decide +kernel) rfl
  have A2 := A1.initO (wd_18 G) (wd_19 G) (wd_20 G) (by decide +kernel) (Wd := 0) (by decide) (Nat.le_of_ble_eq_true rfl) (by decide)
  have A3 := A2.run [(4, .iload_n 3, 5, 0)] (pe := 5) (by decide +kernel) rfl
  have A4 := A3.ifT (cd := .ne) (o := 22) (by decide +kernel) (fun e => h0 (List.length_eq_zero_iff.mp ((n32_inj (j := 0) hn31 (by decide)).mp e))) (pe := 27) (by decide)
  have A5 := A4.getS (wd_21 G) cS (by decide +kernel)
  have A6 := A5.ifF (cd := .eq) (o := 28) (by decide +kernel) hcz
  have A7 := A6.run [(33, .aload_n 1, 34, 0), (34, .iload_n 2, 35, 0), (35, .iload_n 3, 36, 0)] (pe := 36) (by decide +kernel) rfl
  obtain ⟨_, HA8, qA8, A8, moA8, szA8⟩ := A7.callS (argsL := [.ref s, .int 0, .int cs.length.toInt32]) (wd_22 G) (wd_23 G) (wd_24 G) (wd_25 G) (c_cmp3U G F hn hla) (by decide) ⟨_, _, (by decide +kernel : parseMethodDescriptor "([CII)[B" = some ⟨[(.array .char), .int, .int], some (.array .byte)⟩), rfl⟩ (by decide +kernel) (Wd := 0) (by decide) (Nat.le_of_ble_eq_true rfl) (by decide) (by decide) (by decide)
  obtain ⟨t, rfl, hge, K1, T1, o1⟩ := qA8
  have A9 := A8.run [(39, .astore 5, 41, 0), (41, .aload_n 0, 42, 0), (42, .aload 5, 44, 0), (44, .iload_n 3, 45, 0)] (pe := 45) (by decide +kernel) rfl
  obtain ⟨_, HA10, qA10, A10, moA10, szA10⟩ := A9.callS (argsL := [.ref t, .int cs.length.toInt32]) (wd_30 G) (wd_31 G) (wd_24 G) (wd_32 G) (c_cfaU G T1 (List.length_pos_iff.mpr h0) (enc16_len _)) (by decide) ⟨_, _, (by decide +kernel : parseMethodDescriptor "([BI)B" = some ⟨[(.array .byte), .int], some .byte⟩), rfl⟩ (by decide +kernel) (Wd := 1) (by decide) (Nat.le_of_ble_eq_true rfl) (by decide) (by decide) (by decide)
  obtain ⟨rfl, rfl⟩ := qA10
  obtain ⟨H2, A11, K2, W2⟩ := A10.putFin (wd_33 G) (C.ky K1) (E.ky K1) (wd_34 G) rfl rfl (wd_9 G) (K1.2 _ o) (by decide +kernel) (ty := .byte) (by decide) rfl rfl
  have A12 := A11.run [(51, .aload_n 0, 52, 0), (52, .aload 5, 54, 0)] (pe := 54) (by decide +kernel) rfl
  have V2 := (V.ky K1).other W2 (Or.inr (slot_ne (Or.inr (wd_36 G)) (Or.inr (wd_34 G)) (by decide) (t := .array .byte) (by decide) (t' := .byte) (by decide)))
  obtain ⟨H3, A13, K3, W3⟩ := A12.putFin (wd_35 G) V2 ((E.ky K1).ky K2) (wd_36 G) rfl rfl (wd_9 G) (K2.2 _ (K1.2 _ o)) (by decide +kernel) (ty := .array .byte) (by decide) rfl rfl
  have A14 := A13.ret (by decide +kernel)
  have hxt : t ≠ x := Nat.ne_of_gt (Nat.lt_of_lt_of_le E.lt hge)
  have C3 := ((C.ky K1).same W2).other W3 (Or.inr (slot_ne (Or.inr (wd_34 G)) (Or.inr (wd_36 G)) (by decide) (t := .byte) (by decide) (t' := .array .byte) (by decide)))
  refine ⟨_, _, _, _, A14, ⟨rfl, (K1.wide fun x hx => nomatch hx).trans (K2.trans K3 fun x hx => Or.inl hx) fun x hx => Or.inl hx, (((E.ky K1).ky K2).ky K3), isC_of F, t, V2.same W3, Or.inr ⟨hla, C3, (T1.ky K2 (by simpa using hxt)).ky K3 (by simpa using hxt)⟩⟩, by decide, by decide⟩
theorem c_sI4 (G : Glb Z a0) {x s : Addr} {cs : List Int32} (F : Ar Z H s .char (chs cs)) (hn : cs.length ≤ 3) (h0 : cs ≠ []) (E : Exa Z H.1 x "java/lang/String") (V : Fld Z H.1 x "java/lang/String" "value" "[B" .null) (C : Fld Z H.1 x "java/lang/String" "coder" "B" (.int 0)) (o : H.2 x) :
    Ct l Z EL0 (⟨"java/lang/String", "<init>", "([CIILjava/lang/Void;)V"⟩ : MethodName) jdk_42_method_149_code 6 (none) ({ frames := 4, cells := 2, slots := 9, locals := 57 } : Room) [] [.ref x, .ref s, .int 0, .int cs.length.toInt32, .null] H (fun v H' => v = none ∧ Kp H H' [x] ∧ Str Z H' x cs) := by
  by_cases hla : Lat cs
  · exact c_sI4L G F hn h0 hla E V C o
  · exact c_sI4U G F hn hla E V C o
end JUtf2

abbrev bit (p : Prop) [Decidable p] : Int32 := if p then 1 else 0
theorem bit_isB (p : Prop) [Decidable p] : nar .boolean (bit p) = bit p := by by_cases h : p <;> simp [bit, h, nar]


section JName
variable {l : Launch} {Z : State} {a0 : Array Value} {D : Dyn} {H : HP}
theorem c_rnn (G : Glb Z a0) {s w : Addr} : Ct l Z EL0 (⟨"java/util/Objects", "requireNonNull", "(Ljava/lang/Object;Ljava/lang/String;)Ljava/lang/Object;"⟩ : MethodName) jdk_31_method_11_code 2 ((some (.object "java/lang/Object"))) ({ frames := 0, cells := 0, slots := 0, locals := 0 } : Room) [] [.ref s, .ref w] H (fun v H' => v = some (.ref s) ∧ H = H') := by
  refine Ct.in G (by first | exact plainFor_of_name (by simp [plainName, overriddenIn]; done) | decide +kernel) (ls := [.val (.ref s), .val (.ref w)]) rfl rfl fun D A0 => ?_
  have A1 := A0.run [(0, .aload_n 0, 1, 0)] (pe := 1) (by decide +kernel) rfl
  have A2 := A1.nnullT (o := 12) (by decide +kernel) (pe := 13) (by decide)
  have A3 := A2.run [(13, .aload_n 0, 14, 0)] (pe := 14) (by decide +kernel) rfl
  exact ⟨_, _, _, _, A3.retA (by decide +kernel) rfl rfl, ⟨rfl, rfl⟩, by decide, by decide⟩
theorem c_sEmp (G : Glb Z a0) {a : Addr} {cs : List Int32} (S : Str Z H a cs) : Ct l Z EL0 (⟨"java/lang/String", "isEmpty", "()Z"⟩ : MethodName) jdk_42_method_55_code 1 ((some .boolean)) ({ frames := 0, cells := 0, slots := 0, locals := 0 } : Room) [] [.ref a] H (fun v H' => v = some (.int (bit (cs = []))) ∧ H = H') := by
  refine Ct.in G (by first | exact plainFor_of_name (by simp [plainName, overriddenIn]; done) | decide +kernel) (ls := [.val (.ref a)]) rfl rfl fun D A0 => ?_
  obtain ⟨E, hC, t, F, q⟩ := S
  have A1 := A0.run [(0, .aload_n 0, 1, 0)] (pe := 1) (by decide +kernel) rfl
  have A2 := A1.getF (wd_35 G) F (by decide +kernel)
  obtain ⟨vs, T, hvs⟩ : ∃ vs, Ar Z H t .byte vs ∧ (vs.length = 0 ↔ cs = []) := by
    rcases q with ⟨-, -, T⟩ | ⟨-, -, T⟩
    · exact ⟨_, T, by simp⟩
    · exact ⟨_, T, by rw [enc16_len, ← List.length_eq_zero_iff]; omega⟩
  have A3 := A2.alen T (by decide +kernel) (z := vs.length.toInt32) rfl
  by_cases h : cs = []
  · have A4 := A3.ifF (cd := .ne) (o := 7) (by decide +kernel) (not_not_intro (by rw [hvs.mpr h]; rfl))
    have A5 := A4.run [(8, .iconst 1, 9, 1), (9, .goto 4, 13, 0)] (pe := 13) (by decide +kernel) rfl
    exact ⟨_, _, _, _, A5.retZ (by decide +kernel) rfl, ⟨by rw [bit, if_pos h]; rfl, rfl⟩, by decide, by decide⟩
  · have A4 := A3.ifT (cd := .ne) (o := 7) (by decide +kernel) (fun e => h (hvs.mp ((n32_inj (j := 0) T.len (by decide)).mp e))) (pe := 12) (by decide)
    have A5 := A4.run [(12, .iconst 0, 13, 0)] (pe := 13) (by decide +kernel) rfl
    exact ⟨_, _, _, _, A5.retZ (by decide +kernel) rfl, ⟨by rw [bit, if_neg h]; rfl, rfl⟩, by decide, by decide⟩
theorem b8_back' {c : Int32} (h : isC c) (h2 : ¬ (255 : Int32) < c) : b8 c &&& 255 = c := by rw [← i2c_mask]; exact b8_back h h2
theorem c_cpaL (G : Glb Z a0) {a : Addr} {cs : List Int32} {i : Nat} {c : Int32} (S : Str Z H a cs) (hla : Lat cs) (hc : cs[i]? = some c) :
    Ct l Z EL0 (⟨"java/lang/String", "codePointAt", "(I)I"⟩ : MethodName) jdk_42_method_57_code 3 ((some .int)) ({ frames := 3, cells := 0, slots := 0, locals := 44 } : Room) [] [.ref a, .int i.toInt32] H (fun v H' => v = some (.int c) ∧ H = H') := by
  refine Ct.in G (by first | exact plainFor_of_name (by simp [plainName, overriddenIn]; done) | decide +kernel) (ls := [.val (.ref a), .val (.int i.toInt32), .unset]) rfl rfl fun D A0 => ?_
  have hi : i < cs.length := (List.getElem?_eq_some_iff.mp hc).1
  have hm : c ∈ cs := List.mem_of_getElem? hc
  have hC := S.2.1
  obtain ⟨E, t, F, C, T⟩ := S.opL hla
  have hn : cs.length < 2 ^ 31 := by simpa using T.len
  have A1 := A0.run [(0, .aload_n 0, 1, 0)] (pe := 1) (by decide +kernel) rfl
  obtain ⟨_, HA2, qA2, A2, moA2, szA2⟩ := A1.callV (argsL := []) (wd_72 G) (wd_73 G) (wd_75 G) (wd_75 G) (wd_74 G) (wd_10 G) (wd_76 G) E (c_isL G C 1 (Or.inl ⟨rfl, rfl⟩)) (by decide) ⟨_, _, (by decide +kernel : parseMethodDescriptor "()Z" = some ⟨[], some .boolean⟩), rfl⟩ (by decide +kernel) (Wd := 0) (by decide) (Nat.le_of_ble_eq_true rfl) (by decide) (by decide) (by decide)
  obtain ⟨rfl, rfl⟩ := qA2
  have A3 := A2.ifF (cd := .eq) (o := 23) (by decide +kernel) (by show ¬ _ = _; decide)
  have A4 := A3.run [(7, .iload_n 1, 8, 0), (8, .aload_n 0, 9, 0)] (pe := 9) (by decide +kernel) rfl
  have A5 := A4.getF (wd_35 G) F (by decide +kernel)
  have A6 := A5.alen T (by decide +kernel) (z := cs.length.toInt32) (by simp)
  obtain ⟨_, HA7, qA7, A7, moA7, szA7⟩ := A6.callS (argsL := [.int i.toInt32, .int cs.length.toInt32]) (wd_77 G) (wd_78 G) (wd_10 G) (wd_79 G) (c_sci G hi hn) (by decide) ⟨_, _, (by decide +kernel : parseMethodDescriptor "(II)V" = some ⟨[.int, .int], none⟩), rfl⟩ (by decide +kernel) (Wd := 0) (by decide) (Nat.le_of_ble_eq_true rfl) (by decide) (by decide) (by decide)
  obtain ⟨rfl, rfl⟩ := qA7
  have A8 := A7.run [(16, .aload_n 0, 17, 0)] (pe := 17) (by decide +kernel) rfl
  have A9 := A8.getF (wd_35 G) F (by decide +kernel)
  have A10 := A9.run [(20, .iload_n 1, 21, 0)] (pe := 21) (by decide +kernel) rfl
  have A11 := A10.baload T (by decide +kernel) rfl (v := .int (b8 c)) (by simp [hc])
  have A12 := A11.run [(22, .sipush 255, 25, 255), (25, .iand, 26, 0)] (pe := 26) (by decide +kernel) rfl
  rw [b8_back' (hC c hm) (hla c hm)] at A12
  exact ⟨_, _, _, _, A12.retI (by decide +kernel), ⟨rfl, rfl⟩, by decide, by decide⟩
theorem c_chc1 (G : Glb Z a0) {c : Int32} (h : c.toInt < 65536) : Ct l Z EL0 (⟨"java/lang/Character", "charCount", "(I)I"⟩ : MethodName) jdk_89_method_18_code 1 ((some .int)) ({ frames := 0, cells := 0, slots := 0, locals := 0 } : Room) [] [.int c] H (fun v H' => v = some (.int 1) ∧ H = H') := by
  refine Ct.in G (by first | exact plainFor_of_name (by simp [plainName, overriddenIn]; done) | decide +kernel) (ls := [.val (.int c)]) rfl rfl fun D A0 => ?_
  have A1 := A0.run [(0, .iload_n 0, 1, 0)] (pe := 1) (by decide +kernel) rfl
  have A2 := A1.ldcI (wd_90 G) (by decide +kernel)
  have A3 := A2.icT (cd := .lt) (o := 7) (by decide +kernel) (by show _ < _; rw [Int32.lt_iff_toInt_lt, show (65536 : Int32).toInt = 65536 by decide]; exact h) (pe := 10) (by decide)
  have A4 := A3.run [(10, .iconst 1, 11, 1)] (pe := 11) (by decide +kernel) rfl
  exact ⟨_, _, _, _, A4.retI (by decide +kernel), ⟨rfl, rfl⟩, by decide, by decide⟩
end JName


def Bt (e : Int32) (P : Prop) : Prop := e = 1 ∧ P ∨ e = 0 ∧ ¬ P
abbrev sur (c : Int32) : Prop := ¬ c < 55296 ∧ ¬ 57343 < c
abbrev hig (c : Int32) : Prop := ¬ c < 55296 ∧ ¬ 56319 < c
abbrev low (c : Int32) : Prop := ¬ c < 56320 ∧ ¬ 57343 < c
def WF : List Int32 → Prop
  | [] => True
  | [c] => ¬ sur c
  | c :: d :: r => (¬ sur c ∧ WF (d :: r)) ∨ (hig c ∧ low d ∧ WF r)
theorem isC_i2c (x : Int32) : isC x.toUInt32.toUInt16.toUInt32.toInt32 := (c_i2c x).2
section LawR
variable {l : Launch} {Z : State} {a0 : Array Value} {D : Dyn} {H : HP}
theorem c_su (G : Glb Z a0) (c : Int32) : Ct l Z EL0 (⟨"com/example/rightful_roles/rightfulroles/core/NamesRequireNamePinLaw", "surr", "(C)Z"⟩ : MethodName) method_5_code 1 ((some .boolean)) ({ frames := 0, cells := 0, slots := 0, locals := 0 } : Room) [] [.int c] H (fun v H' => ∃ e, Bt e (sur c) ∧ v = some (.int e) ∧ H = H') := by
  refine Ct.in G (by first | exact plainFor_of_name (by simp [plainName, overriddenIn]; done) | decide +kernel) (ls := [.val (.int c)]) rfl rfl fun D A0 => ?_
  have A1 := A0.run [(0, .iload_n 0, 1, 0)] (pe := 1) (by decide +kernel) rfl
  have A2 := A1.ldcI (wd_40 G) (by decide +kernel)
  by_cases h : c < 55296
  · have A3 := A2.icT (cd := .lt) (o := 13) (by decide +kernel) h (pe := 16) (by decide)
    have A4 := A3.run [(16, .iconst 0, 17, 0)] (pe := 17) (by decide +kernel) rfl
    exact ⟨_, _, _, _, A4.retZ (by decide +kernel) rfl, ⟨0, Or.inr ⟨rfl, fun q => q.1 h⟩, rfl, rfl⟩, by decide, by decide⟩
  · have A3 := A2.icF (cd := .lt) (o := 13) (by decide +kernel) h
    have A4 := A3.run [(6, .iload_n 0, 7, 0)] (pe := 7) (by decide +kernel) rfl
    have A5 := A4.ldcI (wd_113 G) (by decide +kernel)
    by_cases h2 : 57343 < c
    · have A6 := A5.icT (cd := .gt) (o := 7) (by decide +kernel) h2 (pe := 16) (by decide)
      have A7 := A6.run [(16, .iconst 0, 17, 0)] (pe := 17) (by decide +kernel) rfl
      exact ⟨_, _, _, _, A7.retZ (by decide +kernel) rfl, ⟨0, Or.inr ⟨rfl, fun q => q.2 h2⟩, rfl, rfl⟩, by decide, by decide⟩
    · have A6 := A5.icF (cd := .gt) (o := 7) (by decide +kernel) h2
      have A7 := A6.run [(12, .iconst 1, 13, 1), (13, .goto 4, 17, 0)] (pe := 17) (by decide +kernel) rfl
      exact ⟨_, _, _, _, A7.retZ (by decide +kernel) rfl, ⟨1, Or.inl ⟨rfl, h, h2⟩, rfl, rfl⟩, by decide, by decide⟩
theorem c_hi (G : Glb Z a0) (c : Int32) : Ct l Z EL0 (⟨"com/example/rightful_roles/rightfulroles/core/NamesRequireNamePinLaw", "high", "(C)Z"⟩ : MethodName) method_3_code 1 ((some .boolean)) ({ frames := 0, cells := 0, slots := 0, locals := 0 } : Room) [] [.int c] H (fun v H' => ∃ e, Bt e (hig c) ∧ v = some (.int e) ∧ H = H') := by
  refine Ct.in G (by first | exact plainFor_of_name (by simp [plainName, overriddenIn]; done) | decide +kernel) (ls := [.val (.int c)]) rfl rfl fun D A0 => ?_
  have A1 := A0.run [(0, .iload_n 0, 1, 0)] (pe := 1) (by decide +kernel) rfl
  have A2 := A1.ldcI (wd_40 G) (by decide +kernel)
  by_cases h : c < 55296
  · have A3 := A2.icT (cd := .lt) (o := 13) (by decide +kernel) h (pe := 16) (by decide)
    have A4 := A3.run [(16, .iconst 0, 17, 0)] (pe := 17) (by decide +kernel) rfl
    exact ⟨_, _, _, _, A4.retZ (by decide +kernel) rfl, ⟨0, Or.inr ⟨rfl, fun q => q.1 h⟩, rfl, rfl⟩, by decide, by decide⟩
  · have A3 := A2.icF (cd := .lt) (o := 13) (by decide +kernel) h
    have A4 := A3.run [(6, .iload_n 0, 7, 0)] (pe := 7) (by decide +kernel) rfl
    have A5 := A4.ldcI (wd_117 G) (by decide +kernel)
    by_cases h2 : 56319 < c
    · have A6 := A5.icT (cd := .gt) (o := 7) (by decide +kernel) h2 (pe := 16) (by decide)
      have A7 := A6.run [(16, .iconst 0, 17, 0)] (pe := 17) (by decide +kernel) rfl
      exact ⟨_, _, _, _, A7.retZ (by decide +kernel) rfl, ⟨0, Or.inr ⟨rfl, fun q => q.2 h2⟩, rfl, rfl⟩, by decide, by decide⟩
    · have A6 := A5.icF (cd := .gt) (o := 7) (by decide +kernel) h2
      have A7 := A6.run [(12, .iconst 1, 13, 1), (13, .goto 4, 17, 0)] (pe := 17) (by decide +kernel) rfl
      exact ⟨_, _, _, _, A7.retZ (by decide +kernel) rfl, ⟨1, Or.inl ⟨rfl, h, h2⟩, rfl, rfl⟩, by decide, by decide⟩
theorem c_lo (G : Glb Z a0) (c : Int32) : Ct l Z EL0 (⟨"com/example/rightful_roles/rightfulroles/core/NamesRequireNamePinLaw", "low", "(C)Z"⟩ : MethodName) method_4_code 1 ((some .boolean)) ({ frames := 0, cells := 0, slots := 0, locals := 0 } : Room) [] [.int c] H (fun v H' => ∃ e, Bt e (low c) ∧ v = some (.int e) ∧ H = H') := by
  refine Ct.in G (by first | exact plainFor_of_name (by simp [plainName, overriddenIn]; done) | decide +kernel) (ls := [.val (.int c)]) rfl rfl fun D A0 => ?_
  have A1 := A0.run [(0, .iload_n 0, 1, 0)] (pe := 1) (by decide +kernel) rfl
  have A2 := A1.ldcI (wd_133 G) (by decide +kernel)
  by_cases h : c < 56320
  · have A3 := A2.icT (cd := .lt) (o := 13) (by decide +kernel) h (pe := 16) (by decide)
    have A4 := A3.run [(16, .iconst 0, 17, 0)] (pe := 17) (by decide +kernel) rfl
    exact ⟨_, _, _, _, A4.retZ (by decide +kernel) rfl, ⟨0, Or.inr ⟨rfl, fun q => q.1 h⟩, rfl, rfl⟩, by decide, by decide⟩
  · have A3 := A2.icF (cd := .lt) (o := 13) (by decide +kernel) h
    have A4 := A3.run [(6, .iload_n 0, 7, 0)] (pe := 7) (by decide +kernel) rfl
    have A5 := A4.ldcI (wd_113 G) (by decide +kernel)
    by_cases h2 : 57343 < c
    · have A6 := A5.icT (cd := .gt) (o := 7) (by decide +kernel) h2 (pe := 16) (by decide)
      have A7 := A6.run [(16, .iconst 0, 17, 0)] (pe := 17) (by decide +kernel) rfl
      exact ⟨_, _, _, _, A7.retZ (by decide +kernel) rfl, ⟨0, Or.inr ⟨rfl, fun q => q.2 h2⟩, rfl, rfl⟩, by decide, by decide⟩
    · have A6 := A5.icF (cd := .gt) (o := 7) (by decide +kernel) h2
      have A7 := A6.run [(12, .iconst 1, 13, 1), (13, .goto 4, 17, 0)] (pe := 17) (by decide +kernel) rfl
      exact ⟨_, _, _, _, A7.retZ (by decide +kernel) rfl, ⟨1, Or.inl ⟨rfl, h, h2⟩, rfl, rfl⟩, by decide, by decide⟩
theorem c_jhi (G : Glb Z a0) (c : Int32) : Ct l Z EL0 (⟨"java/lang/Character", "isHighSurrogate", "(C)Z"⟩ : MethodName) jdk_89_method_14_code 1 ((some .boolean)) ({ frames := 0, cells := 0, slots := 0, locals := 0 } : Room) [] [.int c] H (fun v H' => ∃ e, Bt e (hig c) ∧ v = some (.int e) ∧ H = H') := by
  refine Ct.in G (by first | exact plainFor_of_name (by simp [plainName, overriddenIn]; done) | decide +kernel) (ls := [.val (.int c)]) rfl rfl fun D A0 => ?_
  have hiff : c < 56320 ↔ ¬ 56319 < c := by
    rw [Int32.lt_iff_toInt_lt, Int32.lt_iff_toInt_lt, show (56320 : Int32).toInt = 56320 by decide, show (56319 : Int32).toInt = 56319 by decide]; omega
  have A1 := A0.run [(0, .iload_n 0, 1, 0)] (pe := 1) (by decide +kernel) rfl
  have A2 := A1.ldcI (wd_127 G) (by decide +kernel)
  by_cases h : c < 55296
  · have A3 := A2.icT (cd := .lt) (o := 13) (by decide +kernel) h (pe := 16) (by decide)
    have A4 := A3.run [(16, .iconst 0, 17, 0)] (pe := 17) (by decide +kernel) rfl
    exact ⟨_, _, _, _, A4.retZ (by decide +kernel) rfl, ⟨0, Or.inr ⟨rfl, fun q => q.1 h⟩, rfl, rfl⟩, by decide, by decide⟩
  · have A3 := A2.icF (cd := .lt) (o := 13) (by decide +kernel) h
    have A4 := A3.run [(6, .iload_n 0, 7, 0)] (pe := 7) (by decide +kernel) rfl
    have A5 := A4.ldcI (wd_128 G) (by decide +kernel)
    by_cases h2 : c < 56320
    · have A6 := A5.icF (cd := .ge) (o := 7) (by decide +kernel) (not_not_intro h2)
      have A7 := A6.run [(12, .iconst 1, 13, 1), (13, .goto 4, 17, 0)] (pe := 17) (by decide +kernel) rfl
      exact ⟨_, _, _, _, A7.retZ (by decide +kernel) rfl, ⟨1, Or.inl ⟨rfl, h, hiff.mp h2⟩, rfl, rfl⟩, by decide, by decide⟩
    · have A6 := A5.icT (cd := .ge) (o := 7) (by decide +kernel) h2 (pe := 16) (by decide)
      have A7 := A6.run [(16, .iconst 0, 17, 0)] (pe := 17) (by decide +kernel) rfl
      exact ⟨_, _, _, _, A7.retZ (by decide +kernel) rfl, ⟨0, Or.inr ⟨rfl, fun q => h2 (hiff.mpr q.2)⟩, rfl, rfl⟩, by decide, by decide⟩
theorem c_jlo (G : Glb Z a0) (c : Int32) : Ct l Z EL0 (⟨"java/lang/Character", "isLowSurrogate", "(C)Z"⟩ : MethodName) jdk_89_method_15_code 1 ((some .boolean)) ({ frames := 0, cells := 0, slots := 0, locals := 0 } : Room) [] [.int c] H (fun v H' => ∃ e, Bt e (low c) ∧ v = some (.int e) ∧ H = H') := by
  refine Ct.in G (by first | exact plainFor_of_name (by simp [plainName, overriddenIn]; done) | decide +kernel) (ls := [.val (.int c)]) rfl rfl fun D A0 => ?_
  have hiff : c < 57344 ↔ ¬ 57343 < c := by
    rw [Int32.lt_iff_toInt_lt, Int32.lt_iff_toInt_lt, show (57344 : Int32).toInt = 57344 by decide, show (57343 : Int32).toInt = 57343 by decide]; omega
  have A1 := A0.run [(0, .iload_n 0, 1, 0)] (pe := 1) (by decide +kernel) rfl
  have A2 := A1.ldcI (wd_128 G) (by decide +kernel)
  by_cases h : c < 56320
  · have A3 := A2.icT (cd := .lt) (o := 13) (by decide +kernel) h (pe := 16) (by decide)
    have A4 := A3.run [(16, .iconst 0, 17, 0)] (pe := 17) (by decide +kernel) rfl
    exact ⟨_, _, _, _, A4.retZ (by decide +kernel) rfl, ⟨0, Or.inr ⟨rfl, fun q => q.1 h⟩, rfl, rfl⟩, by decide, by decide⟩
  · have A3 := A2.icF (cd := .lt) (o := 13) (by decide +kernel) h
    have A4 := A3.run [(6, .iload_n 0, 7, 0)] (pe := 7) (by decide +kernel) rfl
    have A5 := A4.ldcI (wd_137 G) (by decide +kernel)
    by_cases h2 : c < 57344
    · have A6 := A5.icF (cd := .ge) (o := 7) (by decide +kernel) (not_not_intro h2)
      have A7 := A6.run [(12, .iconst 1, 13, 1), (13, .goto 4, 17, 0)] (pe := 17) (by decide +kernel) rfl
      exact ⟨_, _, _, _, A7.retZ (by decide +kernel) rfl, ⟨1, Or.inl ⟨rfl, h, hiff.mp h2⟩, rfl, rfl⟩, by decide, by decide⟩
    · have A6 := A5.icT (cd := .ge) (o := 7) (by decide +kernel) h2 (pe := 16) (by decide)
      have A7 := A6.run [(16, .iconst 0, 17, 0)] (pe := 17) (by decide +kernel) rfl
      exact ⟨_, _, _, _, A7.retZ (by decide +kernel) rfl, ⟨0, Or.inr ⟨rfl, fun q => h2 (hiff.mpr q.2)⟩, rfl, rfl⟩, by decide, by decide⟩
theorem c_v2 (G : Glb Z a0) (c d : Int32) : Ct l Z EL0 (⟨"com/example/rightful_roles/rightfulroles/core/NamesRequireNamePinLaw", "valid2", "(CC)Z"⟩ : MethodName) method_6_code 2 ((some .boolean)) ({ frames := 1, cells := 0, slots := 0, locals := 12 } : Room) [] [.int c, .int d] H (fun v H' => ∃ e, Bt e ((¬ sur c ∧ ¬ sur d) ∨ (hig c ∧ low d)) ∧ v = some (.int e) ∧ H = H') := by
  refine Ct.in G (by first | exact plainFor_of_name (by simp [plainName, overriddenIn]; done) | decide +kernel) (ls := [.val (.int c), .val (.int d)]) rfl rfl fun D A0 => ?_
  have A1 := A0.run [(0, .iload_n 0, 1, 0)] (pe := 1) (by decide +kernel) rfl
  obtain ⟨_, HA2, qA2, A2, moA2, szA2⟩ := A1.callS (argsL := [.int c]) (wd_37 G) (wd_38 G) (wd_3 G) (wd_39 G) (c_su G c) (by decide) ⟨_, _, (by decide +kernel : parseMethodDescriptor "(C)Z" = some ⟨[.char], some .boolean⟩), rfl⟩ (by decide +kernel) (Wd := 0) (by decide) (Nat.le_of_ble_eq_true rfl) (by decide) (by decide) (by decide)
  obtain ⟨e, he, rfl, rfl⟩ := qA2
  have key : (¬ sur c ∧ ¬ sur d ∧ Wk l Z a0 EL0 "com/example/rightful_roles/rightfulroles/core/NamesRequireNamePinLaw" method_6_code 2 "valid2" (some .boolean) ({ frames := 1, cells := 0, slots := 0, locals := 12 } : Room) D 28 [.val (.int c), .val (.int d)] [] H 0 0) ∨ (¬ (¬ sur c ∧ ¬ sur d) ∧ Wk l Z a0 EL0 "com/example/rightful_roles/rightfulroles/core/NamesRequireNamePinLaw" method_6_code 2 "valid2" (some .boolean) ({ frames := 1, cells := 0, slots := 0, locals := 12 } : Room) D 14 [.val (.int c), .val (.int d)] [] H 0 0) := by
    rcases he with ⟨rfl, he⟩ | ⟨rfl, he⟩
    · have B1 := A2.ifT (cd := .ne) (o := 10) (by decide +kernel) (by show ¬ _ = _; decide) (pe := 14) (by decide)
      exact Or.inr ⟨fun q => q.1 he, B1⟩
    · have B1 := A2.ifF (cd := .ne) (o := 10) (by decide +kernel) (not_not_intro rfl)
      have B2 := B1.run [(7, .iload_n 1, 8, 0)] (pe := 8) (by decide +kernel) rfl
      obtain ⟨_, HB3, qB3, B3, moB3, szB3⟩ := B2.callS (argsL := [.int d]) (wd_37 G) (wd_38 G) (wd_3 G) (wd_39 G) (c_su G d) (by decide) ⟨_, _, (by decide +kernel : parseMethodDescriptor "(C)Z" = some ⟨[.char], some .boolean⟩), rfl⟩ (by decide +kernel) (Wd := 0) (by decide) (Nat.le_of_ble_eq_true rfl) (by decide) (by decide) (by decide)
      obtain ⟨f, hf, rfl, rfl⟩ := qB3
      rcases hf with ⟨rfl, hf⟩ | ⟨rfl, hf⟩
      · have B4 := B3.ifF (cd := .eq) (o := 17) (by decide +kernel) (by show ¬ _ = _; decide)
        exact Or.inr ⟨fun q => q.2 hf, B4⟩
      · have B4 := B3.ifT (cd := .eq) (o := 17) (by decide +kernel) rfl (pe := 28) (by decide)
        exact Or.inl ⟨he, hf, B4⟩
  rcases key with ⟨k1, k2, A3⟩ | ⟨k1, A3⟩
  · have A4 := A3.run [(28, .iconst 1, 29, 1), (29, .goto 4, 33, 0)] (pe := 33) (by decide +kernel) rfl
    exact ⟨_, _, _, _, A4.retZ (by decide +kernel) rfl, ⟨1, Or.inl ⟨rfl, Or.inl ⟨k1, k2⟩⟩, rfl, rfl⟩, by decide, by decide⟩
  · have A4 := A3.run [(14, .iload_n 0, 15, 0)] (pe := 15) (by decide +kernel) rfl
    obtain ⟨_, HA5, qA5, A5, moA5, szA5⟩ := A4.callS (argsL := [.int c]) (wd_114 G) (wd_115 G) (wd_3 G) (wd_116 G) (c_hi G c) (by decide) ⟨_, _, (by decide +kernel : parseMethodDescriptor "(C)Z" = some ⟨[.char], some .boolean⟩), rfl⟩ (by decide +kernel) (Wd := 0) (by decide) (Nat.le_of_ble_eq_true rfl) (by decide) (by decide) (by decide)
    obtain ⟨f, hf, rfl, rfl⟩ := qA5
    rcases hf with ⟨rfl, hf⟩ | ⟨rfl, hf⟩
    · have A6 := A5.ifF (cd := .eq) (o := 14) (by decide +kernel) (by show ¬ _ = _; decide)
      have A7 := A6.run [(21, .iload_n 1, 22, 0)] (pe := 22) (by decide +kernel) rfl
      obtain ⟨_, HA8, qA8, A8, moA8, szA8⟩ := A7.callS (argsL := [.int d]) (wd_130 G) (wd_131 G) (wd_3 G) (wd_132 G) (c_lo G d) (by decide) ⟨_, _, (by decide +kernel : parseMethodDescriptor "(C)Z" = some ⟨[.char], some .boolean⟩), rfl⟩ (by decide +kernel) (Wd := 0) (by decide) (Nat.le_of_ble_eq_true rfl) (by decide) (by decide) (by decide)
      obtain ⟨g, hg, rfl, rfl⟩ := qA8
      rcases hg with ⟨rfl, hg⟩ | ⟨rfl, hg⟩
      · have A9 := A8.ifF (cd := .eq) (o := 7) (by decide +kernel) (by show ¬ _ = _; decide)
        have A10 := A9.run [(28, .iconst 1, 29, 1), (29, .goto 4, 33, 0)] (pe := 33) (by decide +kernel) rfl
        exact ⟨_, _, _, _, A10.retZ (by decide +kernel) rfl, ⟨1, Or.inl ⟨rfl, Or.inr ⟨hf, hg⟩⟩, rfl, rfl⟩, by decide, by decide⟩
      · have A9 := A8.ifT (cd := .eq) (o := 7) (by decide +kernel) rfl (pe := 32) (by decide)
        have A10 := A9.run [(32, .iconst 0, 33, 0)] (pe := 33) (by decide +kernel) rfl
        exact ⟨_, _, _, _, A10.retZ (by decide +kernel) rfl, ⟨0, Or.inr ⟨rfl, fun q => q.elim k1 fun r => hg r.2⟩, rfl, rfl⟩, by decide, by decide⟩
    · have A6 := A5.ifT (cd := .eq) (o := 14) (by decide +kernel) rfl (pe := 32) (by decide)
      have A7 := A6.run [(32, .iconst 0, 33, 0)] (pe := 33) (by decide +kernel) rfl
      exact ⟨_, _, _, _, A7.retZ (by decide +kernel) rfl, ⟨0, Or.inr ⟨rfl, fun q => q.elim k1 fun r => hf r.1⟩, rfl, rfl⟩, by decide, by decide⟩
theorem c_dr (G : Glb Z a0) (i : Int32) : Ct l Z EL0 (⟨"com/example/rightful_roles/rightfulroles/core/NamesRequireNamePinLaw", "draw", "(I)C"⟩ : MethodName) method_2_code 1 ((some .char)) ({ frames := 0, cells := 0, slots := 0, locals := 0 } : Room) [] [.int i] H (fun v H' => ∃ c, isC c ∧ v = some (.int c) ∧ H = H') := by
  refine Ct.in G (by first | exact plainFor_of_name (by simp [plainName, overriddenIn]; done) | decide +kernel) (ls := [.val (.int i)]) rfl rfl fun D A0 => ?_
  have A1 := A0.run [(0, .iload_n 0, 1, 0)] (pe := 1) (by decide +kernel) rfl
  have A2 := A1.ldcI (wd_5 G) (by decide +kernel)
  have A3 := A2.run [(3, .iand, 4, 0)] (pe := 4) (by decide +kernel) rfl
  by_cases h : i &&& 65536 = 0
  · have A4 := A3.ifT (cd := .eq) (o := 13) (by decide +kernel) h (pe := 17) (by decide)
    have A5 := A4.run [(17, .iload_n 0, 18, 0)] (pe := 18) (by decide +kernel) rfl
    have A6 := A5.ldcI (wd_6 G) (by decide +kernel)
    have A7 := A6.run [(20, .iand, 21, 0), (21, .i2c, 22, 0)] (pe := 22) (by decide +kernel) rfl
    exact ⟨_, _, _, _, A7.retC (by decide +kernel) (isC_nar (isC_i2c _)), ⟨_, isC_i2c _, rfl, rfl⟩, by decide, by decide⟩
  · have A4 := A3.ifF (cd := .eq) (o := 13) (by decide +kernel) h
    have A5 := A4.ldcI (wd_40 G) (by decide +kernel)
    have A6 := A5.run [(9, .iload_n 0, 10, 0), (10, .sipush 2047, 13, 2047), (13, .iand, 14, 0), (14, .ior, 15, 0), (15, .i2c, 16, 0)] (pe := 16) (by decide +kernel) rfl
    exact ⟨_, _, _, _, A6.retC (by decide +kernel) (isC_nar (isC_i2c _)), ⟨_, isC_i2c _, rfl, rfl⟩, by decide, by decide⟩
abbrev cpv (c d : Int32) : Int32 := c <<< (10 &&& 31) + d + (-56613888)
theorem cpv_rng {c d : Int32} (hc : hig c) (hd : low d) : 65536 ≤ (cpv c d).toInt := by
  obtain ⟨h1, h2⟩ := hc
  obtain ⟨h3, h4⟩ := hd
  rw [Int32.lt_iff_toInt_lt] at h1 h2 h3 h4
  rw [show (55296 : Int32).toInt = 55296 by decide] at h1
  rw [show (56319 : Int32).toInt = 56319 by decide] at h2
  rw [show (56320 : Int32).toInt = 56320 by decide] at h3
  rw [show (57343 : Int32).toInt = 57343 by decide] at h4
  have a1 := c_ishl c 10 10 (by decide)
  have a2 := c_iadd (c <<< (10 &&& 31)) d
  have a3 := c_iadd (c <<< (10 &&& 31) + d) (-56613888)
  have r := rng32 (cpv c d)
  rw [show (-56613888 : Int32).toInt = -56613888 by decide] at a3
  simp only [Nat.reducePow] at a1
  simp only [cpv] at r ⊢
  omega
theorem c_tcp (G : Glb Z a0) (c d : Int32) : Ct l Z EL0 (⟨"java/lang/Character", "toCodePoint", "(CC)I"⟩ : MethodName) jdk_89_method_19_code 2 ((some .int)) ({ frames := 0, cells := 0, slots := 0, locals := 0 } : Room) [] [.int c, .int d] H (fun v H' => v = some (.int (cpv c d)) ∧ H = H') := by
  refine Ct.in G (by first | exact plainFor_of_name (by simp [plainName, overriddenIn]; done) | decide +kernel) (ls := [.val (.int c), .val (.int d)]) rfl rfl fun D A0 => ?_
  have A1 := A0.run [(0, .iload_n 0, 1, 0), (1, .bipush 10, 3, 10), (3, .ishl, 4, 0), (4, .iload_n 1, 5, 0), (5, .iadd, 6, 0)] (pe := 6) (by decide +kernel) rfl
  have A2 := A1.ldcI (wd_141 G) (by decide +kernel)
  have A3 := A2.run [(8, .iadd, 9, 0)] (pe := 9) (by decide +kernel) rfl
  exact ⟨_, _, _, _, A3.retI (by decide +kernel), ⟨rfl, rfl⟩, by decide, by decide⟩
/-- what codePointAt answers at a well-formed place -/
def CpAt (cs : List Int32) (i : Nat) (r : Int32) : Prop := (∃ c, cs[i]? = some c ∧ ¬ hig c ∧ r = c) ∨ ∃ c d, cs[i]? = some c ∧ cs[i + 1]? = some d ∧ hig c ∧ low d ∧ r = cpv c d
set_option maxRecDepth 65536 in
theorem c_cp4 (G : Glb Z a0) {t : Addr} {cs : List Int32} {i : Nat} {r : Int32} (T : Ar Z H t .byte (enc16 cs)) (hC : ∀ c ∈ cs, isC c) (hr : CpAt cs i r) :
    Ct l Z EL0 (⟨"java/lang/StringUTF16", "codePointAt", "([BIIZ)I"⟩ : MethodName) jdk_52_method_7_code 6 ((some .int)) ({ frames := 1, cells := 0, slots := 0, locals := 13 } : Room) [] [.ref t, .int i.toInt32, .int cs.length.toInt32, .int 0] H (fun v H' => v = some (.int r) ∧ H = H') := by
  refine Ct.in G (by first | exact plainFor_of_name (by simp [plainName, overriddenIn]; done) | decide +kernel) (ls := [.val (.ref t), .val (.int i.toInt32), .val (.int cs.length.toInt32), .val (.int 0), .unset, .unset]) rfl rfl fun D A0 => ?_
  have hL := T.len; rw [enc16_len] at hL
  have A1 := A0.getS (wd_107 G) (G_asr G) (by decide +kernel)
  have A2 := A1.ifT (cd := .ne) (o := 16) (by decide +kernel) (by show ¬ _ = _; decide) (pe := 19) (by decide)
  have A3 := A2.run [(19, .iload_n 3, 20, 0)] (pe := 20) (by decide +kernel) rfl
  have A4 := A3.ifT (cd := .eq) (o := 8) (by decide +kernel) rfl (pe := 28) (by decide)
  have A5 := A4.run [(28, .aload_n 0, 29, 0), (29, .iload_n 1, 30, 0)] (pe := 30) (by decide +kernel) rfl
  rcases hr with ⟨c, hc, hnh, rfl⟩ | ⟨c, d, hc, hd, hh, hl, rfl⟩
  · obtain ⟨_, HA6, qA6, A6, moA6, szA6⟩ := A5.callS (argsL := [.ref t, .int i.toInt32]) (wd_110 G) (wd_111 G) (wd_24 G) (wd_112 G) (c_gch G T (hC r (List.mem_of_getElem? hc)) hc) (by decide) ⟨_, _, (by decide +kernel : parseMethodDescriptor "([BI)C" = some ⟨[(.array .byte), .int], some .char⟩), rfl⟩ (by decide +kernel) (Wd := 0) (by decide) (Nat.le_of_ble_eq_true rfl) (by decide) (by decide) (by decide)
    obtain ⟨rfl, rfl⟩ := qA6
    have A7 := A6.run [(33, .istore 4, 35, 0), (35, .iload 4, 37, 0)] (pe := 37) (by decide +kernel) rfl
    obtain ⟨_, HA8, qA8, A8, moA8, szA8⟩ := A7.callS (argsL := [.int r]) (wd_124 G) (wd_125 G) (wd_88 G) (wd_126 G) (c_jhi G r) (by decide) ⟨_, _, (by decide +kernel : parseMethodDescriptor "(C)Z" = some ⟨[.char], some .boolean⟩), rfl⟩ (by decide +kernel) (Wd := 0) (by decide) (Nat.le_of_ble_eq_true rfl) (by decide) (by decide) (by decide)
    obtain ⟨e, he, rfl, rfl⟩ := qA8
    rcases he with ⟨rfl, he⟩ | ⟨rfl, he⟩
    · exact absurd he hnh
    · have A9 := A8.ifT (cd := .eq) (o := 43) (by decide +kernel) rfl (pe := 83) (by decide)
      have A10 := A9.run [(83, .iload 4, 85, 0)] (pe := 85) (by decide +kernel) rfl
      exact ⟨_, _, _, _, A10.retI (by decide +kernel), ⟨rfl, rfl⟩, by decide, by decide⟩
  · obtain ⟨_, HA6, qA6, A6, moA6, szA6⟩ := A5.callS (argsL := [.ref t, .int i.toInt32]) (wd_110 G) (wd_111 G) (wd_24 G) (wd_112 G) (c_gch G T (hC c (List.mem_of_getElem? hc)) hc) (by decide) ⟨_, _, (by decide +kernel : parseMethodDescriptor "([BI)C" = some ⟨[(.array .byte), .int], some .char⟩), rfl⟩ (by decide +kernel) (Wd := 0) (by decide) (Nat.le_of_ble_eq_true rfl) (by decide) (by decide) (by decide)
    obtain ⟨rfl, rfl⟩ := qA6
    have A7 := A6.run [(33, .istore 4, 35, 0), (35, .iload 4, 37, 0)] (pe := 37) (by decide +kernel) rfl
    obtain ⟨_, HA8, qA8, A8, moA8, szA8⟩ := A7.callS (argsL := [.int c]) (wd_124 G) (wd_125 G) (wd_88 G) (wd_126 G) (c_jhi G c) (by decide) ⟨_, _, (by decide +kernel : parseMethodDescriptor "(C)Z" = some ⟨[.char], some .boolean⟩), rfl⟩ (by decide +kernel) (Wd := 0) (by decide) (Nat.le_of_ble_eq_true rfl) (by decide) (by decide) (by decide)
    obtain ⟨e, he, rfl, rfl⟩ := qA8
    rcases he with ⟨rfl, he⟩ | ⟨rfl, he⟩
    · have A9 := A8.ifF (cd := .eq) (o := 43) (by decide +kernel) (by show ¬ _ = _; decide)
      have A10 := A9.run [(43, .iinc 1 1, 46, 1), (46, .iload_n 1, 47, 0), (47, .iload_n 2, 48, 0)] (pe := 48) (by decide +kernel) rfl
      rw [n32_succ] at A10
      have hi1 : i + 1 < cs.length := (List.getElem?_eq_some_iff.mp hd).1
      have A11 := A10.icF (cd := .ge) (o := 35) (by decide +kernel) (not_not_intro ((n32_lt (by omega) (by omega)).mpr hi1))
      have A12 := A11.run [(51, .iload_n 3, 52, 0)] (pe := 52) (by decide +kernel) rfl
      have A13 := A12.ifT (cd := .eq) (o := 8) (by decide +kernel) rfl (pe := 60) (by decide)
      have A14 := A13.run [(60, .aload_n 0, 61, 0), (61, .iload_n 1, 62, 0)] (pe := 62) (by decide +kernel) rfl
      obtain ⟨_, HA15, qA15, A15, moA15, szA15⟩ := A14.callS (argsL := [.ref t, .int (i + 1).toInt32]) (wd_110 G) (wd_111 G) (wd_24 G) (wd_112 G) (c_gch G T (hC d (List.mem_of_getElem? hd)) hd) (by decide) ⟨_, _, (by decide +kernel : parseMethodDescriptor "([BI)C" = some ⟨[(.array .byte), .int], some .char⟩), rfl⟩ (by decide +kernel) (Wd := 0) (by decide) (Nat.le_of_ble_eq_true rfl) (by decide) (by decide) (by decide)
      obtain ⟨rfl, rfl⟩ := qA15
      have A16 := A15.run [(65, .istore 5, 67, 0), (67, .iload 5, 69, 0)] (pe := 69) (by decide +kernel) rfl
      obtain ⟨_, HA17, qA17, A17, moA17, szA17⟩ := A16.callS (argsL := [.int d]) (wd_134 G) (wd_135 G) (wd_88 G) (wd_136 G) (c_jlo G d) (by decide) ⟨_, _, (by decide +kernel : parseMethodDescriptor "(C)Z" = some ⟨[.char], some .boolean⟩), rfl⟩ (by decide +kernel) (Wd := 0) (by decide) (Nat.le_of_ble_eq_true rfl) (by decide) (by decide) (by decide)
      obtain ⟨f, hf, rfl, rfl⟩ := qA17
      rcases hf with ⟨rfl, hf⟩ | ⟨rfl, hf⟩
      · have A18 := A17.ifF (cd := .eq) (o := 11) (by decide +kernel) (by show ¬ _ = _; decide)
        have A19 := A18.run [(75, .iload 4, 77, 0), (77, .iload 5, 79, 0)] (pe := 79) (by decide +kernel) rfl
        obtain ⟨_, HA20, qA20, A20, moA20, szA20⟩ := A19.callS (argsL := [.int c, .int d]) (wd_138 G) (wd_139 G) (wd_88 G) (wd_140 G) (c_tcp G c d) (by decide) ⟨_, _, (by decide +kernel : parseMethodDescriptor "(CC)I" = some ⟨[.char, .char], some .int⟩), rfl⟩ (by decide +kernel) (Wd := 0) (by decide) (Nat.le_of_ble_eq_true rfl) (by decide) (by decide) (by decide)
        obtain ⟨rfl, rfl⟩ := qA20
        exact ⟨_, _, _, _, A20.retI (by decide +kernel), ⟨rfl, rfl⟩, by decide, by decide⟩
      · exact absurd hl hf
    · exact absurd hh he
theorem c_cp3 (G : Glb Z a0) {t : Addr} {cs : List Int32} {i : Nat} {r : Int32} (T : Ar Z H t .byte (enc16 cs)) (hC : ∀ c ∈ cs, isC c) (hr : CpAt cs i r) :
    Ct l Z EL0 (⟨"java/lang/StringUTF16", "codePointAt", "([BII)I"⟩ : MethodName) jdk_52_method_8_code 3 ((some .int)) ({ frames := 2, cells := 0, slots := 0, locals := 30 } : Room) [] [.ref t, .int i.toInt32, .int cs.length.toInt32] H (fun v H' => v = some (.int r) ∧ H = H') := by
  refine Ct.in G (by first | exact plainFor_of_name (by simp [plainName, overriddenIn]; done) | decide +kernel) (ls := [.val (.ref t), .val (.int i.toInt32), .val (.int cs.length.toInt32)]) rfl rfl fun D A0 => ?_
  have A1 := A0.run [(0, .aload_n 0, 1, 0), (1, .iload_n 1, 2, 0), (2, .iload_n 2, 3, 0), (3, .iconst 0, 4, 0)] (pe := 4) (by decide +kernel) rfl
  obtain ⟨_, HA2, qA2, A2, moA2, szA2⟩ := A1.callS (argsL := [.ref t, .int i.toInt32, .int cs.length.toInt32, .int 0]) (wd_121 G) (wd_122 G) (wd_24 G) (wd_123 G) (c_cp4 G T hC hr) (by decide) ⟨_, _, (by decide +kernel : parseMethodDescriptor "([BIIZ)I" = some ⟨[(.array .byte), .int, .int, .boolean], some .int⟩), rfl⟩ (by decide +kernel) (Wd := 0) (by decide) (Nat.le_of_ble_eq_true rfl) (by decide) (by decide) (by decide)
  obtain ⟨rfl, rfl⟩ := qA2
  exact ⟨_, _, _, _, A2.retI (by decide +kernel), ⟨rfl, rfl⟩, by decide, by decide⟩
theorem CpAt.lt {cs : List Int32} {i : Nat} {r : Int32} (h : CpAt cs i r) : i < cs.length := by
  rcases h with ⟨c, h, -⟩ | ⟨c, d, h, -⟩ <;> exact (List.getElem?_eq_some_iff.mp h).1
theorem c_cpaU (G : Glb Z a0) {a : Addr} {cs : List Int32} {i : Nat} {r : Int32} (S : Str Z H a cs) (hla : ¬ Lat cs) (hr : CpAt cs i r) :
    Ct l Z EL0 (⟨"java/lang/String", "codePointAt", "(I)I"⟩ : MethodName) jdk_42_method_57_code 3 ((some .int)) ({ frames := 3, cells := 0, slots := 0, locals := 44 } : Room) [] [.ref a, .int i.toInt32] H (fun v H' => v = some (.int r) ∧ H = H') := by
  refine Ct.in G (by first | exact plainFor_of_name (by simp [plainName, overriddenIn]; done) | decide +kernel) (ls := [.val (.ref a), .val (.int i.toInt32), .unset]) rfl rfl fun D A0 => ?_
  have hC := S.2.1
  obtain ⟨E, t, F, C, T⟩ := S.opU hla
  have hL := T.len; rw [enc16_len] at hL
  have A1 := A0.run [(0, .aload_n 0, 1, 0)] (pe := 1) (by decide +kernel) rfl
  obtain ⟨_, HA2, qA2, A2, moA2, szA2⟩ := A1.callV (argsL := []) (wd_72 G) (wd_73 G) (wd_75 G) (wd_75 G) (wd_74 G) (wd_10 G) (wd_76 G) E (c_isL G C 0 (Or.inr ⟨rfl, rfl⟩)) (by decide) ⟨_, _, (by decide +kernel : parseMethodDescriptor "()Z" = some ⟨[], some .boolean⟩), rfl⟩ (by decide +kernel) (Wd := 0) (by decide) (Nat.le_of_ble_eq_true rfl) (by decide) (by decide) (by decide)
  obtain ⟨rfl, rfl⟩ := qA2
  have A3 := A2.ifT (cd := .eq) (o := 23) (by decide +kernel) rfl (pe := 27) (by decide)
  have A4 := A3.run [(27, .aload_n 0, 28, 0)] (pe := 28) (by decide +kernel) rfl
  have A5 := A4.getF (wd_35 G) F (by decide +kernel)
  have A6 := A5.alen T (by decide +kernel) (z := (2 * cs.length).toInt32) (by rw [enc16_len])
  have A7 := A6.run [(32, .iconst 1, 33, 1), (33, .ishr, 34, 0), (34, .istore_n 2, 35, 0), (35, .iload_n 1, 36, 0), (36, .iload_n 2, 37, 0)] (pe := 37) (by decide +kernel) rfl
  rw [n32_shr1 (by omega)] at A7
  obtain ⟨_, HA8, qA8, A8, moA8, szA8⟩ := A7.callS (argsL := [.int i.toInt32, .int cs.length.toInt32]) (wd_77 G) (wd_78 G) (wd_10 G) (wd_79 G) (c_sci G hr.lt (by omega)) (by decide) ⟨_, _, (by decide +kernel : parseMethodDescriptor "(II)V" = some ⟨[.int, .int], none⟩), rfl⟩ (by decide +kernel) (Wd := 0) (by decide) (Nat.le_of_ble_eq_true rfl) (by decide) (by decide) (by decide)
  obtain ⟨rfl, rfl⟩ := qA8
  have A9 := A8.run [(40, .aload_n 0, 41, 0)] (pe := 41) (by decide +kernel) rfl
  have A10 := A9.getF (wd_35 G) F (by decide +kernel)
  have A11 := A10.run [(44, .iload_n 1, 45, 0), (45, .iload_n 2, 46, 0)] (pe := 46) (by decide +kernel) rfl
  obtain ⟨_, HA12, qA12, A12, moA12, szA12⟩ := A11.callS (argsL := [.ref t, .int i.toInt32, .int cs.length.toInt32]) (wd_118 G) (wd_119 G) (wd_24 G) (wd_120 G) (c_cp3 G T hC hr) (by decide) ⟨_, _, (by decide +kernel : parseMethodDescriptor "([BII)I" = some ⟨[(.array .byte), .int, .int], some .int⟩), rfl⟩ (by decide +kernel) (Wd := 0) (by decide) (Nat.le_of_ble_eq_true rfl) (by decide) (by decide) (by decide)
  obtain ⟨rfl, rfl⟩ := qA12
  exact ⟨_, _, _, _, A12.retI (by decide +kernel), ⟨rfl, rfl⟩, by decide, by decide⟩
theorem not_hig_lat {c : Int32} (h : ¬ (255 : Int32) < c) : ¬ hig c := fun q => by
  have := q.1
  rw [Int32.lt_iff_toInt_lt] at h this
  rw [show (55296 : Int32).toInt = 55296 by decide] at this
  rw [show (255 : Int32).toInt = 255 by decide] at h
  omega
theorem c_cpa (G : Glb Z a0) {a : Addr} {cs : List Int32} {i : Nat} {r : Int32} (S : Str Z H a cs) (hr : CpAt cs i r) :
    Ct l Z EL0 (⟨"java/lang/String", "codePointAt", "(I)I"⟩ : MethodName) jdk_42_method_57_code 3 ((some .int)) ({ frames := 3, cells := 0, slots := 0, locals := 44 } : Room) [] [.ref a, .int i.toInt32] H (fun v H' => v = some (.int r) ∧ H = H') := by
  by_cases hla : Lat cs
  · rcases hr with ⟨c, hc, -, rfl⟩ | ⟨c, d, hc, hd, hh, -, -⟩
    · exact c_cpaL G S hla hc
    · exact absurd hh (not_hig_lat (hla c (List.mem_of_getElem? hc)))
  · exact c_cpaU G S hla hr
theorem c_chc2 (G : Glb Z a0) {c : Int32} (h : 65536 ≤ c.toInt) : Ct l Z EL0 (⟨"java/lang/Character", "charCount", "(I)I"⟩ : MethodName) jdk_89_method_18_code 1 ((some .int)) ({ frames := 0, cells := 0, slots := 0, locals := 0 } : Room) [] [.int c] H (fun v H' => v = some (.int 2) ∧ H = H') := by
  refine Ct.in G (by first | exact plainFor_of_name (by simp [plainName, overriddenIn]; done) | decide +kernel) (ls := [.val (.int c)]) rfl rfl fun D A0 => ?_
  have A1 := A0.run [(0, .iload_n 0, 1, 0)] (pe := 1) (by decide +kernel) rfl
  have A2 := A1.ldcI (wd_90 G) (by decide +kernel)
  have A3 := A2.icF (cd := .lt) (o := 7) (by decide +kernel) (by show ¬ _ < _; rw [Int32.lt_iff_toInt_lt, show (65536 : Int32).toInt = 65536 by decide]; omega)
  have A4 := A3.run [(6, .iconst 2, 7, 2), (7, .goto 4, 11, 0)] (pe := 11) (by decide +kernel) rfl
  exact ⟨_, _, _, _, A4.retI (by decide +kernel), ⟨rfl, rfl⟩, by decide, by decide⟩
theorem l_rqn0 (G : Glb Z a0) {s w : Addr} {cs : List Int32} (S : Str Z H s cs) (s3 : Slot) (A0 : Wk l Z a0 EL0 "com/example/rightful_roles/rightfulroles/core/Names" prog_11_method_2_code 4 "requireName" (some (.object "java/lang/String")) ({ frames := 4, cells := 0, slots := 0, locals := 58 } : Room) D 29 [.val (.ref s), .val (.ref w), .val (.int cs.length.toInt32), s3] [] H 0 0) : Rt Z EL0 D (some (.ref s)) H 0 0 := by
  have A1 := A0.run [(29, .iload_n 2, 30, 0), (30, .aload_n 0, 31, 0)] (pe := 31) (by decide +kernel) rfl
  obtain ⟨_, HA2, qA2, A2, moA2, szA2⟩ := A1.callV (argsL := []) (wd_57 G) (wd_58 G) (wd_60 G) (wd_60 G) (wd_59 G) (wd_10 G) (wd_61 G) S.1 (c_sLen G S) (by decide) ⟨_, _, (by decide +kernel : parseMethodDescriptor "()I" = some ⟨[], some .int⟩), rfl⟩ (by decide +kernel) (Wd := 1) (by decide) (Nat.le_of_ble_eq_true rfl) (by decide) (by decide) (by decide)
  obtain ⟨rfl, rfl⟩ := qA2
  have A3 := A2.icT (cd := .ge) (o := 46) (by decide +kernel) Int32.lt_irrefl (pe := 80) (by decide)
  have A4 := A3.run [(80, .aload_n 0, 81, 0)] (pe := 81) (by decide +kernel) rfl
  exact A4.retA (by decide +kernel) rfl rfl
set_option maxRecDepth 65536 in
theorem l_rqn (G : Glb Z a0) {s w : Addr} {cs : List Int32} (S : Str Z H s cs) (hn : cs.length < 2 ^ 30) :
    ∀ (j i : Nat) (s3 : Slot), cs.length - i ≤ j → i ≤ cs.length → WF (cs.drop i) → (s3 = .unset ∨ ∃ x, s3 = .val (.int x)) → Wk l Z a0 EL0 "com/example/rightful_roles/rightfulroles/core/Names" prog_11_method_2_code 4 "requireName" (some (.object "java/lang/String")) ({ frames := 4, cells := 0, slots := 0, locals := 58 } : Room) D 29 [.val (.ref s), .val (.ref w), .val (.int i.toInt32), s3] [] H 0 0 → Rt Z EL0 D (some (.ref s)) H 0 0 := by
  intro j
  induction j with
  | zero =>
    intro i s3 e hi hw h3 A0
    have e : i = cs.length := by omega
    subst e
    exact l_rqn0 G S s3 A0
  | succ j ih =>
    intro i s3 e hi hw h3 A0
    by_cases hlt : i < cs.length
    · have hd0 : cs.drop i = cs[i] :: cs.drop (i + 1) := List.drop_eq_getElem_cons hlt
      have hc0 : cs[i]? = some cs[i] := List.getElem?_eq_getElem hlt
      obtain ⟨r, hr, hend⟩ : ∃ r, CpAt cs i r ∧ ((r.toInt < 65536 ∧ ¬ sur r ∧ WF (cs.drop (i + 1)) ) ∨ (65536 ≤ r.toInt ∧ i + 2 ≤ cs.length ∧ WF (cs.drop (i + 2)))) := by
        have nsh : ∀ c, ¬ sur c → ¬ hig c := fun c h q => h ⟨q.1, fun z => by
          have := q.2
          rw [Int32.lt_iff_toInt_lt] at z this
          rw [show (57343 : Int32).toInt = 57343 by decide] at z
          rw [show (56319 : Int32).toInt = 56319 by decide] at this
          omega⟩
        rw [hd0] at hw
        have hC := S.2.1 cs[i] (List.getElem_mem hlt)
        cases hq : cs.drop (i + 1) with
        | nil =>
          rw [hq] at hw
          exact ⟨cs[i], Or.inl ⟨_, hc0, nsh _ hw, rfl⟩, Or.inl ⟨hC.2, hw, trivial⟩⟩
        | cons d r =>
          rw [hq] at hw
          rcases hw with ⟨h1, h2⟩ | ⟨h1, h2, h4⟩
          · exact ⟨cs[i], Or.inl ⟨_, hc0, nsh _ h1, rfl⟩, Or.inl ⟨hC.2, h1, h2⟩⟩
          · have hd : cs[i + 1]? = some d := by have := congrArg List.head? hq; simpa [List.head?_drop] using this
            have hr' : cs.drop (i + 2) = r := by have := congrArg List.tail hq; simpa using this
            have hi2 := (List.getElem?_eq_some_iff.mp hd).1
            exact ⟨cpv cs[i] d, Or.inr ⟨_, d, hc0, hd, h1, h2, rfl⟩, Or.inr ⟨cpv_rng h1 h2, by omega, by rw [hr']; exact h4⟩⟩
      have A1 := A0.run [(29, .iload_n 2, 30, 0), (30, .aload_n 0, 31, 0)] (pe := 31) (by decide +kernel) rfl
      obtain ⟨_, HA2, qA2, A2, moA2, szA2⟩ := A1.callV (argsL := []) (wd_57 G) (wd_58 G) (wd_60 G) (wd_60 G) (wd_59 G) (wd_10 G) (wd_61 G) S.1 (c_sLen G S) (by decide) ⟨_, _, (by decide +kernel : parseMethodDescriptor "()I" = some ⟨[], some .int⟩), rfl⟩ (by decide +kernel) (Wd := 1) (by decide) (Nat.le_of_ble_eq_true rfl) (by decide) (by decide) (by decide)
      obtain ⟨rfl, rfl⟩ := qA2
      have A3 := A2.icF (cd := .ge) (o := 46) (by decide +kernel) (not_not_intro ((n32_lt (by omega) (by omega)).mpr hlt))
      have A4 := A3.run [(37, .aload_n 0, 38, 0), (38, .iload_n 2, 39, 0)] (pe := 39) (by decide +kernel) rfl
      obtain ⟨_, HA5, qA5, A5, moA5, szA5⟩ := A4.callV (argsL := [.int i.toInt32]) (wd_67 G) (wd_68 G) (wd_70 G) (wd_70 G) (wd_69 G) (wd_10 G) (wd_71 G) S.1 (c_cpa G S hr) (by decide) ⟨_, _, (by decide +kernel : parseMethodDescriptor "(I)I" = some ⟨[.int], some .int⟩), rfl⟩ (by decide +kernel) (Wd := 0) (by decide) (Nat.le_of_ble_eq_true rfl) (by decide) (by decide) (by decide)
      obtain ⟨rfl, rfl⟩ := qA5
      have A6 : Wk l Z a0 EL0 "com/example/rightful_roles/rightfulroles/core/Names" prog_11_method_2_code 4 "requireName" (some (.object "java/lang/String")) ({ frames := 4, cells := 0, slots := 0, locals := 58 } : Room) D 44 [.val (.ref s), .val (.ref w), .val (.int i.toInt32), .val (.int r)] [.int r] H 0 0 := by
        rcases h3 with rfl | ⟨x, rfl⟩
        · exact A5.run [(42, .istore_n 3, 43, 0), (43, .iload_n 3, 44, 0)] (pe := 44) (by decide +kernel) rfl
        · exact A5.run [(42, .istore_n 3, 43, 0), (43, .iload_n 3, 44, 0)] (pe := 44) (by decide +kernel) rfl
      have A7 := A6.ldcI (wd_85 G) (by decide +kernel)
      have A8 : Wk l Z a0 EL0 "com/example/rightful_roles/rightfulroles/core/Names" prog_11_method_2_code 4 "requireName" (some (.object "java/lang/String")) ({ frames := 4, cells := 0, slots := 0, locals := 58 } : Room) D 70 [.val (.ref s), .val (.ref w), .val (.int i.toInt32), .val (.int r)] [] H 0 0 := by
        by_cases h1 : r < 55296
        · have B1 := A7.icT (cd := .lt) (o := 24) (by decide +kernel) h1 (pe := 70) (by decide)
          exact B1
        · have B1 := A7.icF (cd := .lt) (o := 24) (by decide +kernel) h1
          have B2 := B1.run [(49, .iload_n 3, 50, 0)] (pe := 50) (by decide +kernel) rfl
          have B3 := B2.ldcI (wd_129 G) (by decide +kernel)
          have h2 : 57343 < r := by
            rcases hend with ⟨-, hs, -⟩ | ⟨hb, -⟩
            · exact Classical.not_not.mp fun q => hs ⟨h1, q⟩
            · rw [Int32.lt_iff_toInt_lt, show (57343 : Int32).toInt = 57343 by decide]; omega
          have B4 := B3.icT (cd := .gt) (o := 18) (by decide +kernel) h2 (pe := 70) (by decide)
          exact B4
      have A9 := A8.run [(70, .iload_n 2, 71, 0), (71, .iload_n 3, 72, 0)] (pe := 72) (by decide +kernel) rfl
      rcases hend with ⟨hb, -, hw'⟩ | ⟨hb, hi2, hw'⟩
      · obtain ⟨_, HA10, qA10, A10, moA10, szA10⟩ := A9.callS (argsL := [.int r]) (wd_86 G) (wd_87 G) (wd_88 G) (wd_89 G) (c_chc1 G hb) (by decide) ⟨_, _, (by decide +kernel : parseMethodDescriptor "(I)I" = some ⟨[.int], some .int⟩), rfl⟩ (by decide +kernel) (Wd := 1) (by decide) (Nat.le_of_ble_eq_true rfl) (by decide) (by decide) (by decide)
        obtain ⟨rfl, rfl⟩ := qA10
        have A11 := A10.run [(75, .iadd, 76, 0), (76, .istore_n 2, 77, 0), (77, .goto (-48), 29, 0)] (pe := 29) (by decide +kernel) rfl
        rw [n32_succ] at A11
        exact ih (i + 1) _ (by omega) (by omega) hw' (Or.inr ⟨r, rfl⟩) A11
      · obtain ⟨_, HA10, qA10, A10, moA10, szA10⟩ := A9.callS (argsL := [.int r]) (wd_86 G) (wd_87 G) (wd_88 G) (wd_89 G) (c_chc2 G hb) (by decide) ⟨_, _, (by decide +kernel : parseMethodDescriptor "(I)I" = some ⟨[.int], some .int⟩), rfl⟩ (by decide +kernel) (Wd := 1) (by decide) (Nat.le_of_ble_eq_true rfl) (by decide) (by decide) (by decide)
        obtain ⟨rfl, rfl⟩ := qA10
        have A11 := A10.run [(75, .iadd, 76, 0), (76, .istore_n 2, 77, 0), (77, .goto (-48), 29, 0)] (pe := 29) (by decide +kernel) rfl
        have e2 : i.toInt32 + 2 = (i + 2).toInt32 := n32_add i 2
        rw [e2] at A11
        exact ih (i + 2) _ (by omega) (by omega) hw' (Or.inr ⟨r, rfl⟩) A11
    · have e' : i = cs.length := by omega
      subst e'
      exact l_rqn0 G S s3 A0
theorem c_rqn (G : Glb Z a0) {s w : Addr} {cs : List Int32} (S : Str Z H s cs) (hn : cs.length < 2 ^ 30) (hw : WF cs) (h0 : cs ≠ []) : Ct l Z EL0 (⟨"com/example/rightful_roles/rightfulroles/core/Names", "requireName", "(Ljava/lang/String;Ljava/lang/String;)Ljava/lang/String;"⟩ : MethodName) prog_11_method_2_code 4 ((some (.object "java/lang/String"))) ({ frames := 4, cells := 0, slots := 0, locals := 58 } : Room) [] [.ref s, .ref w] H (fun v H' => v = some (.ref s) ∧ H = H') := by
  refine Ct.in G (by first | exact plainFor_of_name (by simp [plainName, overriddenIn]; done) | decide +kernel) (ls := [.val (.ref s), .val (.ref w), .unset, .unset]) rfl rfl fun D A0 => ?_
  have A1 := A0.run [(0, .aload_n 0, 1, 0), (1, .aload_n 1, 2, 0)] (pe := 2) (by decide +kernel) rfl
  obtain ⟨_, HA2, qA2, A2, moA2, szA2⟩ := A1.callS (argsL := [.ref s, .ref w]) (wd_48 G) (wd_49 G) (wd_50 G) (wd_51 G) (c_rnn G) (by decide) ⟨_, _, (by decide +kernel : parseMethodDescriptor "(Ljava/lang/Object;Ljava/lang/String;)Ljava/lang/Object;" = some ⟨[(.object "java/lang/Object"), (.object "java/lang/String")], some (.object "java/lang/Object")⟩), rfl⟩ (by decide +kernel) (Wd := 0) (by decide) (Nat.le_of_ble_eq_true rfl) (by decide) (by decide) (by decide)
  obtain ⟨rfl, rfl⟩ := qA2
  have A3 := A2.run [(5, .pop, 6, 0), (6, .aload_n 0, 7, 0)] (pe := 7) (by decide +kernel) rfl
  obtain ⟨_, HA4, qA4, A4, moA4, szA4⟩ := A3.callV (argsL := []) (wd_52 G) (wd_53 G) (wd_55 G) (wd_55 G) (wd_54 G) (wd_10 G) (wd_56 G) S.1 (c_sEmp G S) (by decide) ⟨_, _, (by decide +kernel : parseMethodDescriptor "()Z" = some ⟨[], some .boolean⟩), rfl⟩ (by decide +kernel) (Wd := 0) (by decide) (Nat.le_of_ble_eq_true rfl) (by decide) (by decide) (by decide)
  obtain ⟨rfl, rfl⟩ := qA4
  have A5 := A4.ifT (cd := .eq) (o := 17) (by decide +kernel) (by show _ = _; rw [bit, if_neg h0]) (pe := 27) (by decide)
  have A6 := A5.run [(27, .iconst 0, 28, 0), (28, .istore_n 2, 29, 0)] (pe := 29) (by decide +kernel) rfl
  exact ⟨_, _, _, _, l_rqn G S hn cs.length 0 _ (by omega) (by omega) (by simpa using hw) (Or.inl rfl) A6, ⟨rfl, rfl⟩, by decide, by decide⟩
theorem rem3 (x : Int32) : (x &&& 2147483647) % 3 + 1 = 1 ∨ (x &&& 2147483647) % 3 + 1 = 2 ∨ (x &&& 2147483647) % 3 + 1 = 3 := by
  have h := c_and x 2147483647 (by decide)
  have hr := (c_irem (x &&& 2147483647) 3 3 (by decide)).1 h.1
  have a := c_iadd ((x &&& 2147483647) % 3) 1
  have r := rng32 ((x &&& 2147483647) % 3 + 1)
  rw [← Int32.toInt_inj, ← Int32.toInt_inj, ← Int32.toInt_inj]
  rw [show (1 : Int32).toInt = 1 by decide] at a ⊢
  rw [show (2 : Int32).toInt = 2 by decide, show (3 : Int32).toInt = 3 by decide]
  omega
set_option maxRecDepth 65536 in
set_option maxHeartbeats 8000000 in
theorem c_law (G : Glb Z a0) (i0 i1 i2 i3 : Int32) : Ct l Z EL0 x code maxLocals ret room_1 tables_1 [.int i0, .int i1, .int i2, .int i3] H (fun v H' => v = some (.int 1)) := by
  refine Ct.in G (plainFor_of_name (by show plainName "com/example/rightful_roles/rightfulroles/core/NamesRequireNamePinLaw" = true; simp [plainName, overriddenIn])) (ls := [.val (.int i0), .val (.int i1), .val (.int i2), .val (.int i3), .unset, .unset, .unset, .unset, .unset, .unset, .unset, .unset]) rfl rfl fun D A0 => ?_
  have A1 := A0.run [(0, .iload_n 0, 1, 0)] (pe := 1) (by decide +kernel) rfl
  have A2 := A1.ldcI (wd_0 G) (by decide +kernel)
  have A3 := A2.run [(3, .iand, 4, 0), (4, .iconst 3, 5, 3)] (pe := 5) (by decide +kernel) rfl
  have A4 := A3.irem (by decide +kernel) (by decide)
  have A5 := A4.run [(6, .iconst 1, 7, 1), (7, .iadd, 8, 0), (8, .istore 4, 10, 0), (10, .iload_n 1, 11, 0)] (pe := 11) (by decide +kernel) rfl
  have hm := rem3 i0
  generalize (i0 &&& 2147483647) % 3 + 1 = m at A5 hm
  obtain ⟨_, HA6, qA6, A6, moA6, szA6⟩ := A5.callS (argsL := [.int i1]) (wd_1 G) (wd_2 G) (wd_3 G) (wd_4 G) (c_dr G i1) (by decide) ⟨_, _, (by decide +kernel : parseMethodDescriptor "(I)C" = some ⟨[.int], some .char⟩), rfl⟩ (by decide +kernel) (Wd := 0) (by decide) (Nat.le_of_ble_eq_true rfl) (by decide) (by decide) (by decide)
  obtain ⟨a, ha, rfl, rfl⟩ := qA6
  have A7 := A6.run [(14, .istore 5, 16, 0), (16, .iload_n 2, 17, 0)] (pe := 17) (by decide +kernel) rfl
  obtain ⟨_, HA8, qA8, A8, moA8, szA8⟩ := A7.callS (argsL := [.int i2]) (wd_1 G) (wd_2 G) (wd_3 G) (wd_4 G) (c_dr G i2) (by decide) ⟨_, _, (by decide +kernel : parseMethodDescriptor "(I)C" = some ⟨[.int], some .char⟩), rfl⟩ (by decide +kernel) (Wd := 0) (by decide) (Nat.le_of_ble_eq_true rfl) (by decide) (by decide) (by decide)
  obtain ⟨b, hb, rfl, rfl⟩ := qA8
  have A9 := A8.run [(20, .istore 6, 22, 0), (22, .iload_n 3, 23, 0)] (pe := 23) (by decide +kernel) rfl
  obtain ⟨_, HA10, qA10, A10, moA10, szA10⟩ := A9.callS (argsL := [.int i3]) (wd_1 G) (wd_2 G) (wd_3 G) (wd_4 G) (c_dr G i3) (by decide) ⟨_, _, (by decide +kernel : parseMethodDescriptor "(I)C" = some ⟨[.int], some .char⟩), rfl⟩ (by decide +kernel) (Wd := 0) (by decide) (Nat.le_of_ble_eq_true rfl) (by decide) (by decide) (by decide)
  obtain ⟨c, hc, rfl, rfl⟩ := qA10
  have A11 := A10.run [(26, .istore 7, 28, 0), (28, .iload 4, 30, 0)] (pe := 30) (by decide +kernel) rfl
  have sv := Or.inr (b := (Jvm.Cond.laysFinal "java/lang/String" "java/lang/String" "value" "[B").before a0 Z = true) (a := (Jvm.Cond.lays "java/lang/String" "java/lang/String" "value" "[B").before a0 Z = true) (wd_36 G)
  have sc := Or.inr (b := (Jvm.Cond.laysFinal "java/lang/String" "java/lang/String" "coder" "B").before a0 Z = true) (a := (Jvm.Cond.lays "java/lang/String" "java/lang/String" "coder" "B").before a0 Z = true) (wd_34 G)
  obtain ⟨cs, hcs0, hcsn, s, H1, e, K1, S1, he, ca, A12⟩ : ∃ (cs : List Int32), cs ≠ [] ∧ cs.length ≤ 3 ∧ ∃ s H1 e, Kp H H1 [] ∧ Str Z H1 s cs ∧ (e = 1 ∧ WF cs ∨ e = 0) ∧ ∃ ca, Wk l Z a0 EL0 "com/example/rightful_roles/rightfulroles/core/NamesRequireNamePinLaw" code maxLocals "law" ret room_1 D 166 [.val (.int i0), .val (.int i1), .val (.int i2), .val (.int i3), .val (.int m), .val (.int a), .val (.int b), .val (.int c), .val (.ref ca), .val (.ref s), .val (.int e), .unset] [] H1 6 20 := by

    rcases hm with rfl | rfl | rfl
    · obtain ⟨ca, H2, B1, gca, K2, T0, oa0⟩ := A11.newA (aty := .char) (wd_7 G) (by decide +kernel) (N := 1) rfl (cap := 3) (by decide) (by decide) (by decide) (by decide)
      have B2 := B1.run [(32, .astore 8, 34, 0), (34, .aload 8, 36, 0), (36, .iconst 0, 37, 0), (37, .iload 5, 39, 0)] (pe := 39) (by decide +kernel) rfl
      obtain ⟨G1, B3, J1, T1⟩ := B2.castore T0 oa0 (by decide +kernel) (i := 0) rfl (by simp) (isC_nar ha)
      have B4 := B3.run [(40, .iload 4, 42, 0), (42, .iconst 1, 43, 1)] (pe := 43) (by decide +kernel) rfl
      have B5 := B4.icT (cd := .le) (o := 9) (by decide +kernel) (by show ¬ _ < _; decide) (pe := 52) (by decide)
      have hq : ∀ x ∈ [ca], x ∈ ([] : List Addr) ∨ H.1.size ≤ x := fun x hx => by cases List.mem_singleton.mp hx; exact Or.inr gca
      have B8 := B5.run [(52, .iload 4, 54, 0), (54, .iconst 2, 55, 2)] (pe := 55) (by decide +kernel) rfl
      have B9 := B8.icT (cd := .le) (o := 9) (by decide +kernel) (by show ¬ _ < _; decide) (pe := 64) (by decide)
      obtain ⟨s, H5, B12, gs, K5, E5, o5, D5⟩ := B9.newO (wd_8 G) (wd_9 G) (wd_10 G) (by decide +kernel) (by decide) (by decide)
      have B13 := B12.run [(67, .dup, 68, 0), (68, .aload 8, 70, 0)] (pe := 70) (by decide +kernel) rfl
      have FT : Ar Z H5 ca .char (chs [a]) := T1.ky K5
      obtain ⟨_, HB14, qB14, B14, moB14, szB14⟩ := B13.callI (argsL := [.ref ca]) rfl (wd_11 G) (wd_12 G) (wd_10 G) (wd_13 G) (c_sI1 G FT (c_sI4 G FT (by simp) (by simp) E5 (D5 sv (t := .array .byte) (by decide)) (D5 sc (t := .byte) (by decide)) o5)) (by decide) ⟨_, _, (by decide +kernel : parseMethodDescriptor "([C)V" = some ⟨[(.array .char)], none⟩), rfl⟩ (by decide +kernel) (Wd := 1) (by decide) (Nat.le_of_ble_eq_true rfl) (by decide) (by decide) (by decide)
      obtain ⟨rfl, K6, S6⟩ := qB14
      have KK := ((K2.trans J1 hq).tr K5).trans K6 (fun x hx => by cases List.mem_singleton.mp hx; exact Or.inr (Nat.le_trans (K2.trans J1 hq).size gs))
      have B15 := B14.run [(73, .astore 9, 75, 0), (75, .iload 4, 77, 0), (77, .iconst 1, 78, 1)] (pe := 78) (by decide +kernel) rfl
      have B16 := B15.icF (cd := .ne) (o := 21) (by decide +kernel) (by show ¬ ¬ _ = _; decide)
      have B17 := B16.run [(81, .iload 5, 83, 0)] (pe := 83) (by decide +kernel) rfl
      obtain ⟨_, HB18, qB18, B18, moB18, szB18⟩ := B17.callS (argsL := [.int a]) (wd_37 G) (wd_38 G) (wd_3 G) (wd_39 G) (c_su G a) (by decide) ⟨_, _, (by decide +kernel : parseMethodDescriptor "(C)Z" = some ⟨[.char], some .boolean⟩), rfl⟩ (by decide +kernel) (Wd := 0) (by decide) (Nat.le_of_ble_eq_true rfl) (by decide) (by decide) (by decide)
      obtain ⟨z, hz, rfl, rfl⟩ := qB18
      rcases hz with ⟨rfl, hz⟩ | ⟨rfl, hz⟩
      · have B19 := B18.ifT (cd := .ne) (o := 7) (by decide +kernel) (by show ¬ _ = _; decide) (pe := 93) (by decide)
        exact ⟨[a], by simp, by simp, s, _, 0, KK, S6, Or.inr rfl, ca, (B19.run [(93, .iconst 0, 94, 0), (94, .istore 10, 96, 0), (96, .goto 70, 166, 0)] (pe := 166) (by decide +kernel) rfl).more (by decide) (by decide)⟩
      · have B19 := B18.ifF (cd := .ne) (o := 7) (by decide +kernel) (not_not_intro rfl)
        exact ⟨[a], by simp, by simp, s, _, 1, KK, S6, Or.inl ⟨rfl, hz⟩, ca, (B19.run [(89, .iconst 1, 90, 1), (90, .goto 4, 94, 0), (94, .istore 10, 96, 0), (96, .goto 70, 166, 0)] (pe := 166) (by decide +kernel) rfl).more (by decide) (by decide)⟩
    · obtain ⟨ca, H2, B1, gca, K2, T0, oa0⟩ := A11.newA (aty := .char) (wd_7 G) (by decide +kernel) (N := 2) rfl (cap := 3) (by decide) (by decide) (by decide) (by decide)
      have B2 := B1.run [(32, .astore 8, 34, 0), (34, .aload 8, 36, 0), (36, .iconst 0, 37, 0), (37, .iload 5, 39, 0)] (pe := 39) (by decide +kernel) rfl
      obtain ⟨G1, B3, J1, T1⟩ := B2.castore T0 oa0 (by decide +kernel) (i := 0) rfl (by simp) (isC_nar ha)
      have B4 := B3.run [(40, .iload 4, 42, 0), (42, .iconst 1, 43, 1)] (pe := 43) (by decide +kernel) rfl
      have B5 := B4.icF (cd := .le) (o := 9) (by decide +kernel) (by show ¬ ¬ _ < _; decide)
      have B6 := B5.run [(46, .aload 8, 48, 0), (48, .iconst 1, 49, 1), (49, .iload 6, 51, 0)] (pe := 51) (by decide +kernel) rfl
      obtain ⟨G2, B7, J2, T2⟩ := B6.castore T1 (J1.2 _ oa0) (by decide +kernel) (i := 1) rfl (by simp) (isC_nar hb)
      have hq : ∀ x ∈ [ca], x ∈ ([] : List Addr) ∨ H.1.size ≤ x := fun x hx => by cases List.mem_singleton.mp hx; exact Or.inr gca
      have B8 := B7.run [(52, .iload 4, 54, 0), (54, .iconst 2, 55, 2)] (pe := 55) (by decide +kernel) rfl
      have B9 := B8.icT (cd := .le) (o := 9) (by decide +kernel) (by show ¬ _ < _; decide) (pe := 64) (by decide)
      obtain ⟨s, H5, B12, gs, K5, E5, o5, D5⟩ := B9.newO (wd_8 G) (wd_9 G) (wd_10 G) (by decide +kernel) (by decide) (by decide)
      have B13 := B12.run [(67, .dup, 68, 0), (68, .aload 8, 70, 0)] (pe := 70) (by decide +kernel) rfl
      have FT : Ar Z H5 ca .char (chs [a, b]) := T2.ky K5
      obtain ⟨_, HB14, qB14, B14, moB14, szB14⟩ := B13.callI (argsL := [.ref ca]) rfl (wd_11 G) (wd_12 G) (wd_10 G) (wd_13 G) (c_sI1 G FT (c_sI4 G FT (by simp) (by simp) E5 (D5 sv (t := .array .byte) (by decide)) (D5 sc (t := .byte) (by decide)) o5)) (by decide) ⟨_, _, (by decide +kernel : parseMethodDescriptor "([C)V" = some ⟨[(.array .char)], none⟩), rfl⟩ (by decide +kernel) (Wd := 1) (by decide) (Nat.le_of_ble_eq_true rfl) (by decide) (by decide) (by decide)
      obtain ⟨rfl, K6, S6⟩ := qB14
      have KK := (((K2.trans J1 hq).trans J2 hq).tr K5).trans K6 (fun x hx => by cases List.mem_singleton.mp hx; exact Or.inr (Nat.le_trans ((K2.trans J1 hq).trans J2 hq).size gs))
      have B15 := B14.run [(73, .astore 9, 75, 0), (75, .iload 4, 77, 0), (77, .iconst 1, 78, 1)] (pe := 78) (by decide +kernel) rfl
      have B16 := B15.icT (cd := .ne) (o := 21) (by decide +kernel) (by show ¬ _ = _; decide) (pe := 99) (by decide)
      have B17 := B16.run [(99, .iload 4, 101, 0), (101, .iconst 2, 102, 2)] (pe := 102) (by decide +kernel) rfl
      have B18 := B17.icF (cd := .ne) (o := 15) (by decide +kernel) (by show ¬ ¬ _ = _; decide)
      have B19 := B18.run [(105, .iload 5, 107, 0), (107, .iload 6, 109, 0)] (pe := 109) (by decide +kernel) rfl
      obtain ⟨_, HB20, qB20, B20, moB20, szB20⟩ := B19.callS (argsL := [.int a, .int b]) (wd_91 G) (wd_92 G) (wd_3 G) (wd_93 G) (c_v2 G a b) (by decide) ⟨_, _, (by decide +kernel : parseMethodDescriptor "(CC)Z" = some ⟨[.char, .char], some .boolean⟩), rfl⟩ (by decide +kernel) (Wd := 0) (by decide) (Nat.le_of_ble_eq_true rfl) (by decide) (by decide) (by decide)
      obtain ⟨z, hz, rfl, rfl⟩ := qB20
      refine ⟨[a, b], by simp, by simp, s, _, z, KK, S6, ?_, ca, (B20.run [(112, .istore 10, 114, 0), (114, .goto 52, 166, 0)] (pe := 166) (by decide +kernel) rfl).more (by decide) (by decide)⟩
      rcases hz with ⟨rfl, hz⟩ | ⟨rfl, hz⟩
      · exact Or.inl ⟨rfl, hz.imp (fun q => ⟨q.1, q.2⟩) (fun q => ⟨q.1, q.2, trivial⟩)⟩
      · exact Or.inr rfl
    · obtain ⟨ca, H2, B1, gca, K2, T0, oa0⟩ := A11.newA (aty := .char) (wd_7 G) (by decide +kernel) (N := 3) rfl (cap := 3) (by decide) (by decide) (by decide) (by decide)
      have B2 := B1.run [(32, .astore 8, 34, 0), (34, .aload 8, 36, 0), (36, .iconst 0, 37, 0), (37, .iload 5, 39, 0)] (pe := 39) (by decide +kernel) rfl
      obtain ⟨G1, B3, J1, T1⟩ := B2.castore T0 oa0 (by decide +kernel) (i := 0) rfl (by simp) (isC_nar ha)
      have B4 := B3.run [(40, .iload 4, 42, 0), (42, .iconst 1, 43, 1)] (pe := 43) (by decide +kernel) rfl
      have B5 := B4.icF (cd := .le) (o := 9) (by decide +kernel) (by show ¬ ¬ _ < _; decide)
      have B6 := B5.run [(46, .aload 8, 48, 0), (48, .iconst 1, 49, 1), (49, .iload 6, 51, 0)] (pe := 51) (by decide +kernel) rfl
      obtain ⟨G2, B7, J2, T2⟩ := B6.castore T1 (J1.2 _ oa0) (by decide +kernel) (i := 1) rfl (by simp) (isC_nar hb)
      have hq : ∀ x ∈ [ca], x ∈ ([] : List Addr) ∨ H.1.size ≤ x := fun x hx => by cases List.mem_singleton.mp hx; exact Or.inr gca
      have B8 := B7.run [(52, .iload 4, 54, 0), (54, .iconst 2, 55, 2)] (pe := 55) (by decide +kernel) rfl
      have B10 := B8.icF (cd := .le) (o := 9) (by decide +kernel) (by show ¬ ¬ _ < _; decide)
      have B11 := B10.run [(58, .aload 8, 60, 0), (60, .iconst 2, 61, 2), (61, .iload 7, 63, 0)] (pe := 63) (by decide +kernel) rfl
      obtain ⟨G3, B9, J3, T3⟩ := B11.castore T2 (J2.2 _ (J1.2 _ oa0)) (by decide +kernel) (i := 2) rfl (by simp) (isC_nar hc)
      obtain ⟨s, H5, B12, gs, K5, E5, o5, D5⟩ := B9.newO (wd_8 G) (wd_9 G) (wd_10 G) (by decide +kernel) (by decide) (by decide)
      have B13 := B12.run [(67, .dup, 68, 0), (68, .aload 8, 70, 0)] (pe := 70) (by decide +kernel) rfl
      have FT : Ar Z H5 ca .char (chs [a, b, c]) := T3.ky K5
      obtain ⟨_, HB14, qB14, B14, moB14, szB14⟩ := B13.callI (argsL := [.ref ca]) rfl (wd_11 G) (wd_12 G) (wd_10 G) (wd_13 G) (c_sI1 G FT (c_sI4 G FT (by simp) (by simp) E5 (D5 sv (t := .array .byte) (by decide)) (D5 sc (t := .byte) (by decide)) o5)) (by decide) ⟨_, _, (by decide +kernel : parseMethodDescriptor "([C)V" = some ⟨[(.array .char)], none⟩), rfl⟩ (by decide +kernel) (Wd := 1) (by decide) (Nat.le_of_ble_eq_true rfl) (by decide) (by decide) (by decide)
      obtain ⟨rfl, K6, S6⟩ := qB14
      have KK := ((((K2.trans J1 hq).trans J2 hq).trans J3 hq).tr K5).trans K6 (fun x hx => by cases List.mem_singleton.mp hx; exact Or.inr (Nat.le_trans (((K2.trans J1 hq).trans J2 hq).trans J3 hq).size gs))
      have B15 := B14.run [(73, .astore 9, 75, 0), (75, .iload 4, 77, 0), (77, .iconst 1, 78, 1)] (pe := 78) (by decide +kernel) rfl
      have B16 := B15.icT (cd := .ne) (o := 21) (by decide +kernel) (by show ¬ _ = _; decide) (pe := 99) (by decide)
      have B17 := B16.run [(99, .iload 4, 101, 0), (101, .iconst 2, 102, 2)] (pe := 102) (by decide +kernel) rfl
      have B18 := B17.icT (cd := .ne) (o := 15) (by decide +kernel) (by show ¬ _ = _; decide) (pe := 117) (by decide)
      have B19 := B18.run [(117, .iload 5, 119, 0)] (pe := 119) (by decide +kernel) rfl
      obtain ⟨_, HB20, qB20, B20, moB20, szB20⟩ := B19.callS (argsL := [.int a]) (wd_37 G) (wd_38 G) (wd_3 G) (wd_39 G) (c_su G a) (by decide) ⟨_, _, (by decide +kernel : parseMethodDescriptor "(C)Z" = some ⟨[.char], some .boolean⟩), rfl⟩ (by decide +kernel) (Wd := 0) (by decide) (Nat.le_of_ble_eq_true rfl) (by decide) (by decide) (by decide)
      obtain ⟨z, hz, rfl, rfl⟩ := qB20
      have fin0 : ∀ {k n : Nat}, k ≤ 6 → n ≤ 20 → Wk l Z a0 EL0 "com/example/rightful_roles/rightfulroles/core/NamesRequireNamePinLaw" code maxLocals "law" ret room_1 D 163 [.val (.int i0), .val (.int i1), .val (.int i2), .val (.int i3), .val (.int 3), .val (.int a), .val (.int b), .val (.int c), .val (.ref ca), .val (.ref s), .unset, .unset] [] HB14 k n → ∃ (cs : List Int32), cs ≠ [] ∧ cs.length ≤ 3 ∧ ∃ s H1 e, Kp H H1 [] ∧ Str Z H1 s cs ∧ (e = 1 ∧ WF cs ∨ e = 0) ∧ ∃ ca, Wk l Z a0 EL0 "com/example/rightful_roles/rightfulroles/core/NamesRequireNamePinLaw" code maxLocals "law" ret room_1 D 166 [.val (.int i0), .val (.int i1), .val (.int i2), .val (.int i3), .val (.int 3), .val (.int a), .val (.int b), .val (.int c), .val (.ref ca), .val (.ref s), .val (.int e), .unset] [] H1 6 20 := fun hk hn B => ⟨[a, b, c], by simp, by simp, s, _, 0, KK, S6, Or.inr rfl, ca, (B.run [(163, .iconst 0, 164, 0), (164, .istore 10, 166, 0)] (pe := 166) (by decide +kernel) rfl).more hk hn⟩
      have fin1 : WF [a, b, c] → ∀ {k n : Nat}, k ≤ 6 → n ≤ 20 → Wk l Z a0 EL0 "com/example/rightful_roles/rightfulroles/core/NamesRequireNamePinLaw" code maxLocals "law" ret room_1 D 159 [.val (.int i0), .val (.int i1), .val (.int i2), .val (.int i3), .val (.int 3), .val (.int a), .val (.int b), .val (.int c), .val (.ref ca), .val (.ref s), .unset, .unset] [] HB14 k n → ∃ (cs : List Int32), cs ≠ [] ∧ cs.length ≤ 3 ∧ ∃ s H1 e, Kp H H1 [] ∧ Str Z H1 s cs ∧ (e = 1 ∧ WF cs ∨ e = 0) ∧ ∃ ca, Wk l Z a0 EL0 "com/example/rightful_roles/rightfulroles/core/NamesRequireNamePinLaw" code maxLocals "law" ret room_1 D 166 [.val (.int i0), .val (.int i1), .val (.int i2), .val (.int i3), .val (.int 3), .val (.int a), .val (.int b), .val (.int c), .val (.ref ca), .val (.ref s), .val (.int e), .unset] [] H1 6 20 := fun hw k n hk hn B => ⟨[a, b, c], by simp, by simp, s, _, 1, KK, S6, Or.inl ⟨rfl, hw⟩, ca, (B.run [(159, .iconst 1, 160, 1), (160, .goto 4, 164, 0), (164, .istore 10, 166, 0)] (pe := 166) (by decide +kernel) rfl).more hk hn⟩
      have rest : ∀ {k n : Nat}, k ≤ 6 → n ≤ 20 → Wk l Z a0 EL0 "com/example/rightful_roles/rightfulroles/core/NamesRequireNamePinLaw" code maxLocals "law" ret room_1 D 135 [.val (.int i0), .val (.int i1), .val (.int i2), .val (.int i3), .val (.int 3), .val (.int a), .val (.int b), .val (.int c), .val (.ref ca), .val (.ref s), .unset, .unset] [] HB14 k n → ∃ (cs : List Int32), cs ≠ [] ∧ cs.length ≤ 3 ∧ ∃ s H1 e, Kp H H1 [] ∧ Str Z H1 s cs ∧ (e = 1 ∧ WF cs ∨ e = 0) ∧ ∃ ca, Wk l Z a0 EL0 "com/example/rightful_roles/rightfulroles/core/NamesRequireNamePinLaw" code maxLocals "law" ret room_1 D 166 [.val (.int i0), .val (.int i1), .val (.int i2), .val (.int i3), .val (.int 3), .val (.int a), .val (.int b), .val (.int c), .val (.ref ca), .val (.ref s), .val (.int e), .unset] [] H1 6 20 := by
        intro k n hk hn B
        have B := B.more hk hn
        have B0 := B.run [(135, .iload 5, 137, 0)] (pe := 137) (by decide +kernel) rfl
        obtain ⟨_, HB1, qB1, B1, moB1, szB1⟩ := B0.callS (argsL := [.int a]) (wd_114 G) (wd_115 G) (wd_3 G) (wd_116 G) (c_hi G a) (by decide) ⟨_, _, (by decide +kernel : parseMethodDescriptor "(C)Z" = some ⟨[.char], some .boolean⟩), rfl⟩ (by decide +kernel) (Wd := 0) (by decide) (Nat.le_of_ble_eq_true rfl) (by decide) (by decide) (by decide)
        obtain ⟨z, hz, rfl, rfl⟩ := qB1
        rcases hz with ⟨rfl, h1⟩ | ⟨rfl, hz⟩
        · have B2 := B1.ifF (cd := .eq) (o := 23) (by decide +kernel) (by show ¬ _ = _; decide)
          have B3 := B2.run [(143, .iload 6, 145, 0)] (pe := 145) (by decide +kernel) rfl
          obtain ⟨_, HB4, qB4, B4, moB4, szB4⟩ := B3.callS (argsL := [.int b]) (wd_130 G) (wd_131 G) (wd_3 G) (wd_132 G) (c_lo G b) (by decide) ⟨_, _, (by decide +kernel : parseMethodDescriptor "(C)Z" = some ⟨[.char], some .boolean⟩), rfl⟩ (by decide +kernel) (Wd := 0) (by decide) (Nat.le_of_ble_eq_true rfl) (by decide) (by decide) (by decide)
          obtain ⟨z, hz, rfl, rfl⟩ := qB4
          rcases hz with ⟨rfl, h2⟩ | ⟨rfl, hz⟩
          · have B5 := B4.ifF (cd := .eq) (o := 15) (by decide +kernel) (by show ¬ _ = _; decide)
            have B6 := B5.run [(151, .iload 7, 153, 0)] (pe := 153) (by decide +kernel) rfl
            obtain ⟨_, HB7, qB7, B7, moB7, szB7⟩ := B6.callS (argsL := [.int c]) (wd_37 G) (wd_38 G) (wd_3 G) (wd_39 G) (c_su G c) (by decide) ⟨_, _, (by decide +kernel : parseMethodDescriptor "(C)Z" = some ⟨[.char], some .boolean⟩), rfl⟩ (by decide +kernel) (Wd := 0) (by decide) (Nat.le_of_ble_eq_true rfl) (by decide) (by decide) (by decide)
            obtain ⟨z, hz, rfl, rfl⟩ := qB7
            rcases hz with ⟨rfl, h3⟩ | ⟨rfl, h3⟩
            · have B8 := B7.ifT (cd := .ne) (o := 7) (by decide +kernel) (by show ¬ _ = _; decide) (pe := 163) (by decide)
              exact fin0 (by decide) (by decide) B8
            · have B8 := B7.ifF (cd := .ne) (o := 7) (by decide +kernel) (not_not_intro rfl)
              exact fin1 (Or.inr ⟨h1, h2, h3⟩) (by decide) (by decide) B8
          · have B5 := B4.ifT (cd := .eq) (o := 15) (by decide +kernel) rfl (pe := 163) (by decide)
            exact fin0 (by decide) (by decide) B5
        · have B2 := B1.ifT (cd := .eq) (o := 23) (by decide +kernel) rfl (pe := 163) (by decide)
          exact fin0 (by decide) (by decide) B2
      rcases hz with ⟨rfl, hz⟩ | ⟨rfl, hz⟩
      · have B21 := B20.ifT (cd := .ne) (o := 13) (by decide +kernel) (by show ¬ _ = _; decide) (pe := 135) (by decide)
        exact rest (by decide) (by decide) B21
      · have B21 := B20.ifF (cd := .ne) (o := 13) (by decide +kernel) (not_not_intro rfl)
        have B22 := B21.run [(125, .iload 6, 127, 0), (127, .iload 7, 129, 0)] (pe := 129) (by decide +kernel) rfl
        obtain ⟨_, HB23, qB23, B23, moB23, szB23⟩ := B22.callS (argsL := [.int b, .int c]) (wd_91 G) (wd_92 G) (wd_3 G) (wd_93 G) (c_v2 G b c) (by decide) ⟨_, _, (by decide +kernel : parseMethodDescriptor "(CC)Z" = some ⟨[.char, .char], some .boolean⟩), rfl⟩ (by decide +kernel) (Wd := 0) (by decide) (Nat.le_of_ble_eq_true rfl) (by decide) (by decide) (by decide)
        obtain ⟨y, hy, rfl, rfl⟩ := qB23
        rcases hy with ⟨rfl, hy⟩ | ⟨rfl, hy⟩
        · have B24 := B23.ifT (cd := .ne) (o := 27) (by decide +kernel) (by show ¬ _ = _; decide) (pe := 159) (by decide)
          exact fin1 (Or.inl ⟨hz, hy.imp (fun q => ⟨q.1, q.2⟩) (fun q => ⟨q.1, q.2, trivial⟩)⟩) (by decide) (by decide) B24
        · have B24 := B23.ifF (cd := .ne) (o := 27) (by decide +kernel) (not_not_intro rfl)
          exact rest (by decide) (by decide) B24
  have A13 := A12.run [(166, .iload 10, 168, 0)] (pe := 168) (by decide +kernel) rfl
  rcases he with ⟨rfl, hw⟩ | rfl
  · have A14 := A13.ifT (cd := .ne) (o := 5) (by decide +kernel) (by show ¬ _ = _; decide) (pe := 173) (by decide)
    obtain ⟨w, H15, A15, K15⟩ := A14.ldcSo (wd_41 G) (by decide +kernel) (q := 16) (by decide +kernel) (by decide) (by decide) (by decide)
    have A16 := A15.run [(175, .astore 11, 177, 0), (177, .aload 9, 179, 0), (179, .aload 11, 181, 0)] (pe := 181) (by decide +kernel) rfl
    obtain ⟨_, HA17, qA17, A17, moA17, szA17⟩ := A16.callS (argsL := [.ref s, .ref w]) (wd_44 G) (wd_45 G) (wd_46 G) (wd_47 G) (c_rqn G (S1.ky K15) (by omega) hw hcs0) (by decide) ⟨_, _, (by decide +kernel : parseMethodDescriptor "(Ljava/lang/String;Ljava/lang/String;)Ljava/lang/String;" = some ⟨[(.object "java/lang/String"), (.object "java/lang/String")], some (.object "java/lang/String")⟩), rfl⟩ (by decide +kernel) (Wd := 0) (by decide) (Nat.le_of_ble_eq_true rfl) (by decide) (by decide) (by decide)
    obtain ⟨rfl, rfl⟩ := qA17
    have A18 := A17.run [(184, .aload 9, 186, 0)] (pe := 186) (by decide +kernel) rfl
    have A19 := A18.acmp (cd := .ne) (o := 7) (by decide +kernel) rfl rfl (same := true) (decide_eq_true rfl) (pe := 189) (by decide) rfl
    have A20 := A19.run [(189, .iconst 1, 190, 1), (190, .goto 4, 194, 0)] (pe := 194) (by decide +kernel) rfl
    exact ⟨_, _, _, _, A20.retZ (by decide +kernel) rfl, rfl, by decide, by decide⟩
  · have A14 := A13.ifF (cd := .ne) (o := 5) (by decide +kernel) (not_not_intro rfl)
    have A15 := A14.run [(171, .iconst 1, 172, 1)] (pe := 172) (by decide +kernel) rfl
    exact ⟨_, _, _, _, A15.retZ (by decide +kernel) rfl, rfl, by decide, by decide⟩
end LawR

theorem comes_1 {Post : Tables → Env → Array Value → State → Outcome → State → Prop} (hpost : ∀ tb e args s v u, (limb_1_1.after args s (.returned v) u = true ∧ limb_1_2.after args s (.returned v) u = true) → ReturnedEndW s (.returned v) u (Jvm.fieldLocs frame_1_writes args s ++ Jvm.arrayLocs frame_1_arrays args s ++ Jvm.staticLocs frame_1_statics s) 24 1152 → Post tb e args s (.returned v) u) :
    ArmFor flags0 classFile x code maxLocals ret World_1 tables_1 room_1 Calls_1 rest_1 Pre_1 Post := by
  intro l hfl _ _ p e ha hc hk s m args below hf hA hF happ hP
  obtain ⟨hcalls, hrest, hpre⟩ := hP
  obtain ⟨-, -, -, hnamed, -, -, -, hat⟩ := (Spec.applies_iff hf).mp happ
  obtain ⟨hg, hn⟩ := and_e (Cond.before_iff.mp (show (Jvm.Cond.and given_1 narrow_1).before args s = true from hpre))
  obtain ⟨h1, g0⟩ := and_e hg
  obtain ⟨f0, g1⟩ := and_e g0
  obtain ⟨f1, g2⟩ := and_e g1
  obtain ⟨f2, g3⟩ := and_e g2
  have f3 := g3
  obtain ⟨w0, w1, w2, w3, rfl⟩ : ∃ w0 w1 w2 w3 : Value, args = #[w0, w1, w2, w3] := by
    have hs : args.size = 4 := by simpa [Cond.value, given_1] using h1
    obtain ⟨L⟩ := args
    match L, hs with
    | [w0, w1, w2, w3], _ => exact ⟨w0, w1, w2, w3, rfl⟩
  have hw := fun d (hd : d ∈ tables_1) => atoms_spec (ws := Jvm.Cond.code x code maxLocals ret :: tables_1) hat d (List.mem_cons_of_mem _ hd)
  obtain ⟨hsets, hown0⟩ := atoms_of _ (rest_1_c_eq ▸ (show rest_1_c.before _ s = true from hrest))
  have hfit : Fit s := fun {y c} hc i hi => by
    obtain ⟨ha, rfl⟩ := Array.getElem?_eq_some_iff.mp hc
    have q := List.all_eq_true.mp ((Array.all_eq_true_iff_forall_mem.mp hF) _ (Array.getElem_mem ha)) i (List.mem_range.mpr hi)
    simpa [Array.getElem?_eq_getElem hi] using q
  obtain ⟨i0, e0⟩ := is_v f0
  obtain rfl : w0 = .int i0 := Option.some.inj e0
  obtain ⟨i1, e1⟩ := is_v f1
  obtain rfl : w1 = .int i1 := Option.some.inj e1
  obtain ⟨i2, e2⟩ := is_v f2
  obtain rfl : w2 = .int i2 := Option.some.inj e2
  obtain ⟨i3, e3⟩ := is_v f3
  obtain rfl : w3 = .int i3 := Option.some.inj e3
  have G : Glb s #[.int i0, .int i1, .int i2, .int i3] := ⟨hw, hsets, hfit⟩
  have G_cw : Jvm.Lit.compactW.before _ s = true := (G.2.1 _ (List.mem_of_getElem? (i := 2) rfl))
  have G_wa := (wd_26 G)
  have G_wi := (wd_9 G)
  obtain ⟨n, o, h1, h2, h3, v, L, O, rfl, hv, -, -, N, hq⟩ := c_law (l := l) (H := (s.heap, fun _ => False)) G i0 i1 i2 i3 p e ha hc hk s m _ below hf ((Spec.applies_iff_loose hf).mp happ).1 ⟨rfl, State.Warmed39.refl s, rfl, ⟨ext_refl _, fun _ q => q.elim, CHv.start (G_EL G) (fun p hp => nomatch hp) G_cw G_wa G_wi, fun _ _ q => q.elim⟩⟩ trivial
  subst hv
  refine ⟨n, _, h1, h2, h3, hpost _ _ _ _ _ _ ⟨Cond.after_iff.mpr rfl, Cond.after_iff.mpr (eq_i res_at (Term.int_eval (1)) rfl)⟩ ⟨hq.1, hq.2.1, hq.2.2.1, (hq.2.2.2.sift fun y hy => Or.inr (N y hy)).mono (by decide) (by decide)⟩⟩
theorem main_1_1 : Claimed_1_1 := comes_1 fun _ _ _ _ _ _ h hF => ⟨h.1, hF⟩
theorem main_1_2 : Claimed_1_2 := comes_1 fun _ _ _ _ _ _ h hF => ⟨h.2, hF⟩
end Jvm.Pilot.@@N@@
namespace Jvm.Pilot.@@N@@
open Jvm Jvm.ClassFile Sem Op Lib Jvm.Free Jvm.Stand Jvm.Pilot.@@N@@.Jvm.D
/-! MADE BY PROGRAM (witnessworld.py) out of the Statement's table words and the real class files: 22 classes; the members and pool entries that the words name. The judged class is class 1, her method 6. -/
namespace start1
open Jvm.ClassFile
def u (s : String) : CpInfo := .utf8 (stringToUtf16 s)
/-- a pool by its gaps: so many unusable entries, then the entry; so many at the end -/
def gap : Nat → List CpInfo → List CpInfo
  | 0, r => r
  | n + 1, r => .unusable :: gap n r
def poolList (es : List (Nat × CpInfo)) (last : Nat) : List CpInfo := es.foldr (fun e r => gap e.1 (e.2 :: r)) (gap last [])
def pool (es : List (Nat × CpInfo)) (last : Nat) : Array CpInfo := ⟨poolList es last⟩
def fileOf (pool : Array CpInfo) (this : Nat) (attrs : Array Attribute := #[]) (ms : Array MethodInfo := #[]) (fl : Nat := 33) (sup : Nat := 0) (ifs : Array Nat := #[]) (fds : Array FieldInfo := #[]) : ClassFile where
  minorVersion := 0
  majorVersion := 65
  constantPool := pool
  accessFlags := fl
  thisClass := this
  superClass := sup
  interfaces := ifs
  fields := fds
  methods := ms
  attributes := attrs
def plain (name : String) (sup : Option ClassId) : Class where
  name := name
  kind := .ordinary
  loader := none
  accessFlags := 33
  super := sup
  interfaces := #[]
  cf := none
  fields := #[]
  methods := #[]
  instanceTypes := #[]
  staticTypes := #[]
  resolved := #[]
  callSites := []
  init := .initialized
  statics := none
  mirror := none

def pool0 : Array CpInfo := pool [(5, u "<init>"), (0, u "()V"), (1, .class_ 10), (1, u "java/lang/Object")] 113

def k0c0 : Code := { maxStack := 0, maxLocals := 1, code := object_method_1_code, exceptionTable := #[], attributes := #[] }
def k0m0 : Method := { name := "<init>", desc := "()V", sig := { parameters := [], returnType := none }, accessFlags := 1, code := some k0c0 }
/-- java/lang/Object -/
def k0 : Class := { plain "java/lang/Object" none with
  accessFlags := 33
  interfaces := #[]
  cf := some (fileOf pool0 8 #[] #[{ accessFlags := 1, nameIndex := 5, descriptorIndex := 6, attributes := #[] }] 33 0 #[] #[])
  fields := #[]
  methods := #[k0m0]
  instanceTypes := #[]
  staticTypes := #[]
  resolved := Array.replicate 124 none
  statics := none }

def pool1 : Array CpInfo := pool [(2, .class_ 4), (1, u "java/lang/Object"), (0, u "<init>"), (0, u "()V"), (0, .integer 65536), (0, .integer 55296), (0, .integer 65535), (0, .integer 56319), (0, .integer 56320), (0, .integer 57343), (0, .methodref 14 15), (0, .class_ 16), (0, .nameAndType 17 18), (0, u "com/example/rightful_roles/rightfulroles/core/NamesRequireNamePinLaw"), (0, u "surr"), (0, u "(C)Z"), (0, .methodref 14 20), (0, .nameAndType 21 18), (0, u "high"), (0, .methodref 14 23), (0, .nameAndType 24 18), (0, u "low"), (0, .integer 2147483647), (0, .methodref 14 27), (0, .nameAndType 28 29), (0, u "draw"), (0, u "(I)C"), (0, .class_ 31), (0, u "java/lang/String"), (0, .methodref 30 33), (0, .nameAndType 5 34), (0, u "([C)V"), (0, .methodref 14 36), (0, .nameAndType 37 38), (0, u "valid2"), (0, u "(CC)Z"), (0, .string 40), (0, u "user"), (0, .methodref 42 43), (0, .class_ 44), (0, .nameAndType 45 46), (0, u "com/example/rightful_roles/rightfulroles/core/Names"), (0, u "requireName"), (0, u "(Ljava/lang/String;Ljava/lang/String;)Ljava/lang/String;"), (3, u "law"), (0, u "(IIII)Z")] 4

def k1m0 : Method := { name := "<init>", desc := "()V", sig := { parameters := [], returnType := none }, accessFlags := 2, code := none }
def k1c1 : Code := { maxStack := 3, maxLocals := 1, code := method_2_code, exceptionTable := #[], attributes := #[] }
def k1m1 : Method := { name := "draw", desc := "(I)C", sig := { parameters := [.int], returnType := some .char }, accessFlags := 10, code := some k1c1 }
def k1c2 : Code := { maxStack := 2, maxLocals := 1, code := method_3_code, exceptionTable := #[], attributes := #[] }
def k1m2 : Method := { name := "high", desc := "(C)Z", sig := { parameters := [.char], returnType := some .boolean }, accessFlags := 10, code := some k1c2 }
def k1c3 : Code := { maxStack := 2, maxLocals := 1, code := method_4_code, exceptionTable := #[], attributes := #[] }
def k1m3 : Method := { name := "low", desc := "(C)Z", sig := { parameters := [.char], returnType := some .boolean }, accessFlags := 10, code := some k1c3 }
def k1c4 : Code := { maxStack := 2, maxLocals := 1, code := method_5_code, exceptionTable := #[], attributes := #[] }
def k1m4 : Method := { name := "surr", desc := "(C)Z", sig := { parameters := [.char], returnType := some .boolean }, accessFlags := 10, code := some k1c4 }
def k1c5 : Code := { maxStack := 1, maxLocals := 2, code := method_6_code, exceptionTable := #[], attributes := #[] }
def k1m5 : Method := { name := "valid2", desc := "(CC)Z", sig := { parameters := [.char, .char], returnType := some .boolean }, accessFlags := 10, code := some k1c5 }
def k1c6 : Code := { maxStack := 3, maxLocals := 12, code := code, exceptionTable := #[], attributes := #[] }
def k1m6 : Method := { name := "law", desc := "(IIII)Z", sig := { parameters := [.int, .int, .int, .int], returnType := some .boolean }, accessFlags := 9, code := some k1c6 }
/-- com/example/rightful_roles/rightfulroles/core/NamesRequireNamePinLaw -/
def k1 : Class := { plain "com/example/rightful_roles/rightfulroles/core/NamesRequireNamePinLaw" (some 0) with
  accessFlags := 49
  interfaces := #[]
  cf := some (fileOf pool1 14 #[] #[{ accessFlags := 2, nameIndex := 5, descriptorIndex := 6, attributes := #[] }, { accessFlags := 10, nameIndex := 28, descriptorIndex := 29, attributes := #[] }, { accessFlags := 10, nameIndex := 21, descriptorIndex := 18, attributes := #[] }, { accessFlags := 10, nameIndex := 24, descriptorIndex := 18, attributes := #[] }, { accessFlags := 10, nameIndex := 17, descriptorIndex := 18, attributes := #[] }, { accessFlags := 10, nameIndex := 37, descriptorIndex := 38, attributes := #[] }, { accessFlags := 9, nameIndex := 50, descriptorIndex := 51, attributes := #[] }] 49 2 #[] #[])
  fields := #[]
  methods := #[k1m0, k1m1, k1m2, k1m3, k1m4, k1m5, k1m6]
  instanceTypes := #[]
  staticTypes := #[]
  resolved := Array.replicate 56 none
  statics := none }

def pool2 : Array CpInfo := pool [(1, .class_ 2), (0, u "java/io/Serializable"), (0, .class_ 4), (0, u "java/lang/Object")] 2

/-- java/io/Serializable -/
def k2 : Class := { plain "java/io/Serializable" (some 0) with
  accessFlags := 1537
  interfaces := #[]
  cf := some (fileOf pool2 1 #[] #[] 1537 3 #[] #[])
  fields := #[]
  methods := #[]
  instanceTypes := #[]
  staticTypes := #[]
  resolved := Array.replicate 7 none
  statics := none }

def pool3 : Array CpInfo := pool [(1, .class_ 2), (0, u "java/lang/Comparable"), (0, .class_ 4), (0, u "java/lang/Object")] 7

/-- java/lang/Comparable -/
def k3 : Class := { plain "java/lang/Comparable" (some 0) with
  accessFlags := 1537
  interfaces := #[]
  cf := some (fileOf pool3 1 #[] #[] 1537 3 #[] #[])
  fields := #[]
  methods := #[]
  instanceTypes := #[]
  staticTypes := #[]
  resolved := Array.replicate 12 none
  statics := none }

def pool4 : Array CpInfo := pool [(2, .class_ 4), (1, u "java/lang/CharSequence"), (42, .class_ 48), (0, u "java/lang/CharSequence$1CodePointIterator"), (10, .class_ 60), (0, u "java/lang/CharSequence$1CharIterator"), (5, .class_ 67), (0, u "java/lang/Object")] 63

/-- java/lang/CharSequence -/
def k4 : Class := { plain "java/lang/CharSequence" (some 0) with
  accessFlags := 1537
  interfaces := #[]
  cf := some (fileOf pool4 2 #[.nestMembers #[47, 59]] #[] 1537 66 #[] #[])
  fields := #[]
  methods := #[]
  instanceTypes := #[]
  staticTypes := #[]
  resolved := Array.replicate 131 none
  statics := none }

def pool5 : Array CpInfo := pool [(1, .class_ 2), (0, u "java/lang/constant/Constable"), (0, .class_ 4), (0, u "java/lang/Object")] 6

/-- java/lang/constant/Constable -/
def k5 : Class := { plain "java/lang/constant/Constable" (some 0) with
  accessFlags := 1537
  interfaces := #[]
  cf := some (fileOf pool5 1 #[] #[] 1537 3 #[] #[])
  fields := #[]
  methods := #[]
  instanceTypes := #[]
  staticTypes := #[]
  resolved := Array.replicate 11 none
  statics := none }

def pool6 : Array CpInfo := pool [(1, .class_ 2), (0, u "java/lang/constant/ConstantDesc"), (0, .class_ 4), (0, u "java/lang/Object")] 32

/-- java/lang/constant/ConstantDesc -/
def k6 : Class := { plain "java/lang/constant/ConstantDesc" (some 0) with
  accessFlags := 1537
  interfaces := #[]
  cf := some (fileOf pool6 1 #[] #[] 1537 3 #[] #[])
  fields := #[]
  methods := #[]
  instanceTypes := #[]
  staticTypes := #[]
  resolved := Array.replicate 37 none
  statics := none }

def pool7 : Array CpInfo := pool [(1, .methodref 2 3), (0, .class_ 4), (0, .nameAndType 5 6), (0, u "java/lang/Object"), (0, u "<init>"), (0, u "()V"), (2, .fieldref 10 11), (0, .class_ 12), (0, .nameAndType 13 14), (0, u "java/lang/String"), (0, u "value"), (0, u "[B"), (0, .fieldref 10 16), (0, .nameAndType 17 18), (0, u "coder"), (0, u "B"), (2, u "hash"), (0, u "I"), (2, u "hashIsZero"), (0, u "Z"), (0, .methodref 10 28), (0, .nameAndType 5 29), (0, u "([CIILjava/lang/Void;)V"), (8, .fieldref 10 39), (0, .nameAndType 40 26), (0, u "COMPACT_STRINGS"), (1, .class_ 44), (1, u "java/lang/StringUTF16"), (0, u "compress"), (1, .methodref 42 48), (0, .nameAndType 49 50), (0, u "coderFromArrayLen"), (0, u "([BI)B"), (46, u "([BII)I"), (44, u "()Z"), (34, .methodref 42 178), (0, .nameAndType 45 179), (0, u "([CII)[B"), (154, u "()I"), (0, .methodref 10 336), (0, .nameAndType 17 337), (0, u "()B"), (53, u "(II)V"), (100, .methodref 10 493), (0, .nameAndType 494 142), (0, u "isLatin1"), (4, .methodref 10 500), (0, .nameAndType 501 391), (0, u "checkIndex"), (0, .methodref 42 503), (0, .nameAndType 504 97), (0, u "codePointAt"), (2, u "length"), (67, .class_ 576), (0, u "java/lang/CharSequence"), (22, u "CASE_INSENSITIVE_ORDER"), (0, u "Ljava/util/Comparator;"), (91, u "isEmpty"), (72, u "(I)I"), (244, u "([C)V"), (42, .fieldref 1054 1055), (0, .class_ 1056), (0, .nameAndType 1057 1058), (0, u "jdk/internal/util/Preconditions"), (0, u "SIOOBE_FORMATTER"), (0, u "Ljava/util/function/BiFunction;"), (0, .methodref 1054 1060), (0, .nameAndType 501 1061), (0, u "(IILjava/util/function/BiFunction;)I"), (39, u "serialPersistentFields"), (0, u "[Ljava/io/ObjectStreamField;"), (0, .class_ 1104), (0, u "java/lang/String$CaseInsensitiveComparator"), (1, .class_ 1107), (0, u "java/io/Serializable"), (0, .class_ 1109), (0, u "java/lang/Comparable"), (0, .class_ 1111), (0, u "java/lang/constant/Constable"), (0, .class_ 1113), (0, u "java/lang/constant/ConstantDesc"), (2, u "serialVersionUID"), (0, u "J"), (3, u "REPL"), (0, u "C"), (2, u "LATIN1"), (1, u "UTF16")] 323

def k7m0 : Method := { name := "<init>", desc := "()V", sig := { parameters := [], returnType := none }, accessFlags := 1, code := none }
def k7c1 : Code := { maxStack := 5, maxLocals := 2, code := jdk_42_method_3_code, exceptionTable := #[], attributes := #[] }
def k7m1 : Method := { name := "<init>", desc := "([C)V", sig := { parameters := [(.array .char)], returnType := none }, accessFlags := 1, code := some k7c1 }
def k7c2 : Code := { maxStack := 2, maxLocals := 1, code := jdk_42_method_54_code, exceptionTable := #[], attributes := #[] }
def k7m2 : Method := { name := "length", desc := "()I", sig := { parameters := [], returnType := some .int }, accessFlags := 1, code := some k7c2 }
def k7c3 : Code := { maxStack := 1, maxLocals := 1, code := jdk_42_method_55_code, exceptionTable := #[], attributes := #[] }
def k7m3 : Method := { name := "isEmpty", desc := "()Z", sig := { parameters := [], returnType := some .boolean }, accessFlags := 1, code := some k7c3 }
def k7c4 : Code := { maxStack := 3, maxLocals := 3, code := jdk_42_method_57_code, exceptionTable := #[], attributes := #[] }
def k7m4 : Method := { name := "codePointAt", desc := "(I)I", sig := { parameters := [.int], returnType := some .int }, accessFlags := 1, code := some k7c4 }
def k7c5 : Code := { maxStack := 4, maxLocals := 6, code := jdk_42_method_149_code, exceptionTable := #[], attributes := #[] }
def k7m5 : Method := { name := "<init>", desc := "([CIILjava/lang/Void;)V", sig := { parameters := [(.array .char), .int, .int, (.object "java/lang/Void")], returnType := none }, accessFlags := 2, code := some k7c5 }
def k7c6 : Code := { maxStack := 1, maxLocals := 1, code := jdk_42_method_152_code, exceptionTable := #[], attributes := #[] }
def k7m6 : Method := { name := "coder", desc := "()B", sig := { parameters := [], returnType := some .byte }, accessFlags := 0, code := some k7c6 }
def k7c7 : Code := { maxStack := 1, maxLocals := 1, code := jdk_42_method_154_code, exceptionTable := #[], attributes := #[] }
def k7m7 : Method := { name := "isLatin1", desc := "()Z", sig := { parameters := [], returnType := some .boolean }, accessFlags := 0, code := some k7c7 }
def k7c8 : Code := { maxStack := 3, maxLocals := 2, code := jdk_42_method_155_code, exceptionTable := #[], attributes := #[] }
def k7m8 : Method := { name := "checkIndex", desc := "(II)V", sig := { parameters := [.int, .int], returnType := none }, accessFlags := 8, code := some k7c8 }
/-- java/lang/String -/
def k7 : Class := { plain "java/lang/String" (some 0) with
  accessFlags := 49
  interfaces := #[2, 3, 4, 5, 6]
  cf := some (fileOf pool7 10 #[.nestMembers #[1103]] #[{ accessFlags := 1, nameIndex := 5, descriptorIndex := 6, attributes := #[] }, { accessFlags := 1, nameIndex := 5, descriptorIndex := 1010, attributes := #[] }, { accessFlags := 1, nameIndex := 507, descriptorIndex := 334, attributes := #[] }, { accessFlags := 1, nameIndex := 692, descriptorIndex := 142, attributes := #[] }, { accessFlags := 1, nameIndex := 504, descriptorIndex := 765, attributes := #[] }, { accessFlags := 2, nameIndex := 5, descriptorIndex := 29, attributes := #[] }, { accessFlags := 0, nameIndex := 17, descriptorIndex := 337, attributes := #[] }, { accessFlags := 0, nameIndex := 494, descriptorIndex := 142, attributes := #[] }, { accessFlags := 8, nameIndex := 501, descriptorIndex := 391, attributes := #[] }] 49 2 #[1106, 1108, 575, 1110, 1112] #[{ accessFlags := 18, nameIndex := 13, descriptorIndex := 14, attributes := #[] }, { accessFlags := 18, nameIndex := 17, descriptorIndex := 18, attributes := #[] }, { accessFlags := 2, nameIndex := 21, descriptorIndex := 22, attributes := #[] }, { accessFlags := 2, nameIndex := 25, descriptorIndex := 26, attributes := #[] }, { accessFlags := 26, nameIndex := 1116, descriptorIndex := 1117, attributes := #[] }, { accessFlags := 24, nameIndex := 40, descriptorIndex := 26, attributes := #[] }, { accessFlags := 26, nameIndex := 1101, descriptorIndex := 1102, attributes := #[] }, { accessFlags := 26, nameIndex := 1121, descriptorIndex := 1122, attributes := #[] }, { accessFlags := 25, nameIndex := 599, descriptorIndex := 600, attributes := #[] }, { accessFlags := 24, nameIndex := 1125, descriptorIndex := 18, attributes := #[] }, { accessFlags := 24, nameIndex := 1127, descriptorIndex := 18, attributes := #[] }])
  fields := #[{ name := "value", type := (.array .byte), accessFlags := 18, slot := 0, constantValue := 0 }, { name := "coder", type := .byte, accessFlags := 18, slot := 1, constantValue := 0 }, { name := "hash", type := .int, accessFlags := 2, slot := 2, constantValue := 0 }, { name := "hashIsZero", type := .boolean, accessFlags := 2, slot := 3, constantValue := 0 }, { name := "serialVersionUID", type := .long, accessFlags := 26, slot := 0, constantValue := 0 }, { name := "COMPACT_STRINGS", type := .boolean, accessFlags := 24, slot := 1, constantValue := 0 }, { name := "serialPersistentFields", type := (.array (.object "java/io/ObjectStreamField")), accessFlags := 26, slot := 2, constantValue := 0 }, { name := "REPL", type := .char, accessFlags := 26, slot := 3, constantValue := 0 }, { name := "CASE_INSENSITIVE_ORDER", type := (.object "java/util/Comparator"), accessFlags := 25, slot := 4, constantValue := 0 }, { name := "LATIN1", type := .byte, accessFlags := 24, slot := 5, constantValue := 0 }, { name := "UTF16", type := .byte, accessFlags := 24, slot := 6, constantValue := 0 }]
  methods := #[k7m0, k7m1, k7m2, k7m3, k7m4, k7m5, k7m6, k7m7, k7m8]
  instanceTypes := #[(.array .byte), .byte, .int, .boolean]
  staticTypes := #[.long, .boolean, (.array (.object "java/io/ObjectStreamField")), .char, (.object "java/util/Comparator"), .byte, .byte]
  resolved := Array.replicate 1451 none
  statics := some 0 }

def pool8 : Array CpInfo := pool [(6, .class_ 8), (1, u "java/lang/Object"), (0, u "<init>"), (0, u "()V"), (0, .methodref 12 13), (0, .class_ 14), (0, .nameAndType 15 16), (0, u "java/lang/StringUTF16"), (0, u "newBytesLength"), (0, u "(I)I"), (3, .integer 1073741823), (23, .fieldref 12 45), (0, .nameAndType 46 47), (0, u "$assertionsDisabled"), (0, u "Z"), (11, .fieldref 12 60), (0, .nameAndType 61 62), (0, u "HI_BYTE_SHIFT"), (0, u "I"), (0, .fieldref 12 64), (0, .nameAndType 65 62), (0, u "LO_BYTE_SHIFT"), (5, .methodref 12 72), (0, .nameAndType 73 74), (0, u "getChar"), (0, u "([BI)C"), (0, .methodref 76 77), (0, .class_ 78), (0, .nameAndType 79 80), (0, u "java/lang/Character"), (0, u "isHighSurrogate"), (0, u "(C)Z"), (0, .methodref 76 82), (0, .nameAndType 83 80), (0, u "isLowSurrogate"), (0, .methodref 76 85), (0, .nameAndType 86 87), (0, u "toCodePoint"), (0, u "(CC)I"), (0, .methodref 12 89), (0, .nameAndType 90 91), (0, u "codePointAt"), (0, u "([BIIZ)I"), (15, .methodref 12 108), (0, .nameAndType 109 110), (0, u "newBytesFor"), (0, u "(I)[B"), (0, .methodref 12 112), (0, .nameAndType 113 114), (0, u "putChar"), (0, u "([BII)V"), (0, .methodref 12 116), (0, .nameAndType 117 118), (0, u "compress"), (0, u "([CI[BII)I"), (0, .methodref 12 120), (0, .nameAndType 121 122), (0, u "toBytes"), (0, u "([CII)[B"), (127, u "([BII)I"), (10, u "coderFromArrayLen"), (0, u "([BI)B"), (106, .class_ 371), (1, u "java/lang/StringUTF16$LinesSpliterator"), (58, u "MAX_LENGTH"), (196, .class_ 628), (0, u "java/lang/StringUTF16$CodePointsSpliterator"), (0, .class_ 630), (0, u "java/lang/StringUTF16$CharsSpliterator")] 4

def k8m0 : Method := { name := "<init>", desc := "()V", sig := { parameters := [], returnType := none }, accessFlags := 0, code := none }
def k8c1 : Code := { maxStack := 1, maxLocals := 1, code := jdk_52_method_2_code, exceptionTable := #[], attributes := #[] }
def k8m1 : Method := { name := "newBytesFor", desc := "(I)[B", sig := { parameters := [.int], returnType := some (.array .byte) }, accessFlags := 9, code := some k8c1 }
def k8c2 : Code := { maxStack := 4, maxLocals := 1, code := jdk_52_method_3_code, exceptionTable := #[], attributes := #[] }
def k8m2 : Method := { name := "newBytesLength", desc := "(I)I", sig := { parameters := [.int], returnType := some .int }, accessFlags := 9, code := some k8c2 }
def k8c3 : Code := { maxStack := 4, maxLocals := 3, code := jdk_52_method_4_code, exceptionTable := #[], attributes := #[] }
def k8m3 : Method := { name := "putChar", desc := "([BII)V", sig := { parameters := [(.array .byte), .int, .int], returnType := none }, accessFlags := 8, code := some k8c3 }
def k8c4 : Code := { maxStack := 3, maxLocals := 2, code := jdk_52_method_5_code, exceptionTable := #[], attributes := #[] }
def k8m4 : Method := { name := "getChar", desc := "([BI)C", sig := { parameters := [(.array .byte), .int], returnType := some .char }, accessFlags := 8, code := some k8c4 }
def k8c5 : Code := { maxStack := 2, maxLocals := 6, code := jdk_52_method_7_code, exceptionTable := #[], attributes := #[] }
def k8m5 : Method := { name := "codePointAt", desc := "([BIIZ)I", sig := { parameters := [(.array .byte), .int, .int, .boolean], returnType := some .int }, accessFlags := 10, code := some k8c5 }
def k8c6 : Code := { maxStack := 4, maxLocals := 3, code := jdk_52_method_8_code, exceptionTable := #[], attributes := #[] }
def k8m6 : Method := { name := "codePointAt", desc := "([BII)I", sig := { parameters := [(.array .byte), .int, .int], returnType := some .int }, accessFlags := 9, code := some k8c6 }
def k8c7 : Code := { maxStack := 4, maxLocals := 5, code := jdk_52_method_14_code, exceptionTable := #[], attributes := #[] }
def k8m7 : Method := { name := "toBytes", desc := "([CII)[B", sig := { parameters := [(.array .char), .int, .int], returnType := some (.array .byte) }, accessFlags := 9, code := some k8c7 }
def k8c8 : Code := { maxStack := 2, maxLocals := 2, code := jdk_52_method_15_code, exceptionTable := #[], attributes := #[] }
def k8m8 : Method := { name := "coderFromArrayLen", desc := "([BI)B", sig := { parameters := [(.array .byte), .int], returnType := some .byte }, accessFlags := 8, code := some k8c8 }
def k8c9 : Code := { maxStack := 5, maxLocals := 6, code := jdk_52_method_16_code, exceptionTable := #[], attributes := #[] }
def k8m9 : Method := { name := "compress", desc := "([CII)[B", sig := { parameters := [(.array .char), .int, .int], returnType := some (.array .byte) }, accessFlags := 9, code := some k8c9 }
def k8c10 : Code := { maxStack := 3, maxLocals := 7, code := jdk_52_method_21_code, exceptionTable := #[], attributes := #[] }
def k8m10 : Method := { name := "compress", desc := "([CI[BII)I", sig := { parameters := [(.array .char), .int, (.array .byte), .int, .int], returnType := some .int }, accessFlags := 9, code := some k8c10 }
/-- java/lang/StringUTF16 -/
def k8 : Class := { plain "java/lang/StringUTF16" (some 0) with
  accessFlags := 48
  interfaces := #[]
  cf := some (fileOf pool8 12 #[.nestMembers #[627, 629, 369]] #[{ accessFlags := 0, nameIndex := 9, descriptorIndex := 10, attributes := #[] }, { accessFlags := 9, nameIndex := 109, descriptorIndex := 110, attributes := #[] }, { accessFlags := 9, nameIndex := 15, descriptorIndex := 16, attributes := #[] }, { accessFlags := 8, nameIndex := 113, descriptorIndex := 114, attributes := #[] }, { accessFlags := 8, nameIndex := 73, descriptorIndex := 74, attributes := #[] }, { accessFlags := 10, nameIndex := 90, descriptorIndex := 91, attributes := #[] }, { accessFlags := 9, nameIndex := 90, descriptorIndex := 250, attributes := #[] }, { accessFlags := 9, nameIndex := 121, descriptorIndex := 122, attributes := #[] }, { accessFlags := 8, nameIndex := 261, descriptorIndex := 262, attributes := #[] }, { accessFlags := 9, nameIndex := 117, descriptorIndex := 122, attributes := #[] }, { accessFlags := 9, nameIndex := 117, descriptorIndex := 118, attributes := #[] }] 48 6 #[] #[{ accessFlags := 26, nameIndex := 61, descriptorIndex := 62, attributes := #[] }, { accessFlags := 26, nameIndex := 65, descriptorIndex := 62, attributes := #[] }, { accessFlags := 24, nameIndex := 430, descriptorIndex := 62, attributes := #[] }, { accessFlags := 4120, nameIndex := 46, descriptorIndex := 47, attributes := #[] }])
  fields := #[{ name := "HI_BYTE_SHIFT", type := .int, accessFlags := 26, slot := 0, constantValue := 0 }, { name := "LO_BYTE_SHIFT", type := .int, accessFlags := 26, slot := 1, constantValue := 0 }, { name := "MAX_LENGTH", type := .int, accessFlags := 24, slot := 2, constantValue := 0 }, { name := "$assertionsDisabled", type := .boolean, accessFlags := 4120, slot := 3, constantValue := 0 }]
  methods := #[k8m0, k8m1, k8m2, k8m3, k8m4, k8m5, k8m6, k8m7, k8m8, k8m9, k8m10]
  instanceTypes := #[]
  staticTypes := #[.int, .int, .int, .boolean]
  resolved := Array.replicate 635 none
  statics := some 1 }

def pool9 : Array CpInfo := pool [(2, .class_ 4), (1, u "java/lang/Object"), (0, u "<init>"), (0, u "()V"), (0, .methodref 8 9), (0, .class_ 10), (0, .nameAndType 11 12), (0, u "java/util/Objects"), (0, u "requireNonNull"), (0, u "(Ljava/lang/Object;Ljava/lang/String;)Ljava/lang/Object;"), (0, .methodref 14 15), (0, .class_ 16), (0, .nameAndType 17 18), (0, u "java/lang/String"), (0, u "isEmpty"), (0, u "()Z"), (9, .methodref 14 29), (0, .nameAndType 30 31), (0, u "length"), (0, u "()I"), (0, .methodref 14 33), (0, .nameAndType 34 35), (0, u "codePointAt"), (0, u "(I)I"), (0, .class_ 37), (0, u "java/lang/Character"), (0, .integer 55296), (0, .integer 57343), (3, .methodref 36 44), (0, .nameAndType 45 35), (0, u "charCount"), (6, .class_ 54), (1, u "com/example/rightful_roles/rightfulroles/core/Names"), (0, u "CODE_POINT_ORDER"), (0, u "Ljava/util/Comparator;"), (68, u "requireName"), (0, u "(Ljava/lang/String;Ljava/lang/String;)Ljava/lang/String;")] 43

def k9m0 : Method := { name := "<init>", desc := "()V", sig := { parameters := [], returnType := none }, accessFlags := 2, code := none }
def k9c1 : Code := { maxStack := 4, maxLocals := 4, code := prog_11_method_2_code, exceptionTable := #[], attributes := #[] }
def k9m1 : Method := { name := "requireName", desc := "(Ljava/lang/String;Ljava/lang/String;)Ljava/lang/String;", sig := { parameters := [(.object "java/lang/String"), (.object "java/lang/String")], returnType := some (.object "java/lang/String") }, accessFlags := 8, code := some k9c1 }
/-- com/example/rightful_roles/rightfulroles/core/Names -/
def k9 : Class := { plain "com/example/rightful_roles/rightfulroles/core/Names" (some 0) with
  accessFlags := 49
  interfaces := #[]
  cf := some (fileOf pool9 52 #[] #[{ accessFlags := 2, nameIndex := 5, descriptorIndex := 6, attributes := #[] }, { accessFlags := 8, nameIndex := 125, descriptorIndex := 126, attributes := #[] }] 49 2 #[] #[{ accessFlags := 25, nameIndex := 55, descriptorIndex := 56, attributes := #[] }])
  fields := #[{ name := "CODE_POINT_ORDER", type := (.object "java/util/Comparator"), accessFlags := 25, slot := 0, constantValue := 0 }]
  methods := #[k9m0, k9m1]
  instanceTypes := #[]
  staticTypes := #[(.object "java/util/Comparator")]
  resolved := Array.replicate 170 none
  statics := none }

def pool10 : Array CpInfo := pool [(2, .class_ 4), (1, u "java/lang/Object"), (0, u "<init>"), (0, u "()V"), (35, .class_ 44), (1, u "java/util/Objects"), (0, u "requireNonNull"), (48, u "(Ljava/lang/Object;Ljava/lang/String;)Ljava/lang/Object;")] 89

def k10m0 : Method := { name := "<init>", desc := "()V", sig := { parameters := [], returnType := none }, accessFlags := 2, code := none }
def k10c1 : Code := { maxStack := 3, maxLocals := 2, code := jdk_31_method_11_code, exceptionTable := #[], attributes := #[] }
def k10m1 : Method := { name := "requireNonNull", desc := "(Ljava/lang/Object;Ljava/lang/String;)Ljava/lang/Object;", sig := { parameters := [(.object "java/lang/Object"), (.object "java/lang/String")], returnType := some (.object "java/lang/Object") }, accessFlags := 9, code := some k10c1 }
/-- java/util/Objects -/
def k10 : Class := { plain "java/util/Objects" (some 0) with
  accessFlags := 49
  interfaces := #[]
  cf := some (fileOf pool10 42 #[] #[{ accessFlags := 2, nameIndex := 5, descriptorIndex := 6, attributes := #[] }, { accessFlags := 9, nameIndex := 45, descriptorIndex := 94, attributes := #[] }] 49 2 #[] #[])
  fields := #[]
  methods := #[k10m0, k10m1]
  instanceTypes := #[]
  staticTypes := #[]
  resolved := Array.replicate 184 none
  statics := none }

def pool11 : Array CpInfo := pool [(2, .class_ 4), (1, u "java/lang/Object"), (0, u "<init>"), (0, u "()V"), (17, .class_ 26), (1, u "jdk/internal/util/Preconditions"), (6, u "checkIndex"), (21, .class_ 56), (0, u "jdk/internal/util/Preconditions$4"), (57, .class_ 115), (0, u "jdk/internal/util/Preconditions$1"), (7, u "SIOOBE_FORMATTER"), (0, u "Ljava/util/function/BiFunction;"), (0, .class_ 126), (0, u "jdk/internal/util/Preconditions$2"), (3, u "AIOOBE_FORMATTER"), (0, .class_ 132), (0, u "jdk/internal/util/Preconditions$3"), (3, u "IOOBE_FORMATTER"), (41, u "(IILjava/util/function/BiFunction;)I")] 15

def k11m0 : Method := { name := "<init>", desc := "()V", sig := { parameters := [], returnType := none }, accessFlags := 1, code := none }
def k11c1 : Code := { maxStack := 3, maxLocals := 3, code := jdk_41_method_11_code, exceptionTable := #[], attributes := #[] }
def k11m1 : Method := { name := "checkIndex", desc := "(IILjava/util/function/BiFunction;)I", sig := { parameters := [.int, .int, (.object "java/util/function/BiFunction")], returnType := some .int }, accessFlags := 9, code := some k11c1 }
/-- jdk/internal/util/Preconditions -/
def k11 : Class := { plain "jdk/internal/util/Preconditions" (some 0) with
  accessFlags := 33
  interfaces := #[]
  cf := some (fileOf pool11 24 #[.nestMembers #[55, 131, 125, 114]] #[{ accessFlags := 1, nameIndex := 5, descriptorIndex := 6, attributes := #[] }, { accessFlags := 9, nameIndex := 33, descriptorIndex := 178, attributes := #[] }] 33 2 #[] #[{ accessFlags := 25, nameIndex := 123, descriptorIndex := 124, attributes := #[] }, { accessFlags := 25, nameIndex := 130, descriptorIndex := 124, attributes := #[] }, { accessFlags := 25, nameIndex := 136, descriptorIndex := 124, attributes := #[] }])
  fields := #[{ name := "SIOOBE_FORMATTER", type := (.object "java/util/function/BiFunction"), accessFlags := 25, slot := 0, constantValue := 0 }, { name := "AIOOBE_FORMATTER", type := (.object "java/util/function/BiFunction"), accessFlags := 25, slot := 1, constantValue := 0 }, { name := "IOOBE_FORMATTER", type := (.object "java/util/function/BiFunction"), accessFlags := 25, slot := 2, constantValue := 0 }]
  methods := #[k11m0, k11m1]
  instanceTypes := #[]
  staticTypes := #[(.object "java/util/function/BiFunction"), (.object "java/util/function/BiFunction"), (.object "java/util/function/BiFunction")]
  resolved := Array.replicate 194 none
  statics := some 2 }

def pool12 : Array CpInfo := pool [(1, .class_ 2), (0, u "java/lang/Character"), (18, u "value"), (0, u "C"), (19, .class_ 44), (1, u "java/lang/Object"), (3, .class_ 50), (1, u "java/lang/Character$CharacterCache"), (22, .integer 65536), (1, .integer 55296), (0, .integer 56320), (0, .integer 57344), (2, u "isHighSurrogate"), (0, u "(C)Z"), (2, u "isLowSurrogate"), (0, .integer 4238353408), (12, u "toCodePoint"), (0, u "(CC)I"), (74, u "(I)I"), (109, u "$assertionsDisabled"), (0, u "Z"), (21, .class_ 309), (1, u "java/lang/Character$UnicodeBlock"), (73, u "TYPE"), (0, u "Ljava/lang/Class;"), (0, .class_ 386), (0, u "java/io/Serializable"), (0, .class_ 388), (0, u "java/lang/Comparable"), (0, .class_ 390), (0, u "java/lang/constant/Constable"), (0, u "MIN_RADIX"), (0, u "I"), (2, u "MAX_RADIX"), (1, u "MIN_VALUE"), (1, u "MAX_VALUE"), (3, u "UNASSIGNED"), (0, u "B"), (0, u "UPPERCASE_LETTER"), (1, u "LOWERCASE_LETTER"), (0, u "TITLECASE_LETTER"), (1, u "MODIFIER_LETTER"), (1, u "OTHER_LETTER"), (1, u "NON_SPACING_MARK"), (1, u "ENCLOSING_MARK"), (1, u "COMBINING_SPACING_MARK"), (1, u "DECIMAL_DIGIT_NUMBER"), (1, u "LETTER_NUMBER"), (1, u "OTHER_NUMBER"), (1, u "SPACE_SEPARATOR"), (1, u "LINE_SEPARATOR"), (1, u "PARAGRAPH_SEPARATOR"), (1, u "CONTROL"), (1, u "FORMAT"), (1, u "PRIVATE_USE"), (1, u "SURROGATE"), (1, u "DASH_PUNCTUATION"), (1, u "START_PUNCTUATION"), (1, u "END_PUNCTUATION"), (1, u "CONNECTOR_PUNCTUATION"), (1, u "OTHER_PUNCTUATION"), (1, u "MATH_SYMBOL"), (1, u "CURRENCY_SYMBOL"), (1, u "MODIFIER_SYMBOL"), (1, u "OTHER_SYMBOL"), (1, u "INITIAL_QUOTE_PUNCTUATION"), (1, u "FINAL_QUOTE_PUNCTUATION"), (1, u "ERROR"), (1, u "DIRECTIONALITY_UNDEFINED"), (0, u "DIRECTIONALITY_LEFT_TO_RIGHT"), (0, u "DIRECTIONALITY_RIGHT_TO_LEFT"), (0, u "DIRECTIONALITY_RIGHT_TO_LEFT_ARABIC"), (0, u "DIRECTIONALITY_EUROPEAN_NUMBER"), (0, u "DIRECTIONALITY_EUROPEAN_NUMBER_SEPARATOR"), (0, u "DIRECTIONALITY_EUROPEAN_NUMBER_TERMINATOR"), (0, u "DIRECTIONALITY_ARABIC_NUMBER"), (0, u "DIRECTIONALITY_COMMON_NUMBER_SEPARATOR"), (0, u "DIRECTIONALITY_NONSPACING_MARK"), (0, u "DIRECTIONALITY_BOUNDARY_NEUTRAL"), (0, u "DIRECTIONALITY_PARAGRAPH_SEPARATOR"), (0, u "DIRECTIONALITY_SEGMENT_SEPARATOR"), (0, u "DIRECTIONALITY_WHITESPACE"), (0, u "DIRECTIONALITY_OTHER_NEUTRALS"), (0, u "DIRECTIONALITY_LEFT_TO_RIGHT_EMBEDDING"), (0, u "DIRECTIONALITY_LEFT_TO_RIGHT_OVERRIDE"), (0, u "DIRECTIONALITY_RIGHT_TO_LEFT_EMBEDDING"), (0, u "DIRECTIONALITY_RIGHT_TO_LEFT_OVERRIDE"), (1, u "DIRECTIONALITY_POP_DIRECTIONAL_FORMAT"), (0, u "DIRECTIONALITY_LEFT_TO_RIGHT_ISOLATE"), (0, u "DIRECTIONALITY_RIGHT_TO_LEFT_ISOLATE"), (0, u "DIRECTIONALITY_FIRST_STRONG_ISOLATE"), (0, u "DIRECTIONALITY_POP_DIRECTIONAL_ISOLATE"), (0, u "MIN_HIGH_SURROGATE"), (0, u "MAX_HIGH_SURROGATE"), (1, u "MIN_LOW_SURROGATE"), (0, u "MAX_LOW_SURROGATE"), (1, u "MIN_SURROGATE"), (0, u "MAX_SURROGATE"), (0, u "MIN_SUPPLEMENTARY_CODE_POINT"), (0, u "MIN_CODE_POINT"), (0, u "MAX_CODE_POINT"), (1, u "serialVersionUID"), (0, u "J"), (2, u "SIZE"), (0, u "BYTES"), (29, u "charCount"), (58, .class_ 596), (0, u "java/lang/Character$UnicodeScript"), (0, .class_ 598), (0, u "java/lang/Character$Subset")] 5

def k12c0 : Code := { maxStack := 2, maxLocals := 1, code := jdk_89_method_14_code, exceptionTable := #[], attributes := #[] }
def k12m0 : Method := { name := "isHighSurrogate", desc := "(C)Z", sig := { parameters := [.char], returnType := some .boolean }, accessFlags := 9, code := some k12c0 }
def k12c1 : Code := { maxStack := 2, maxLocals := 1, code := jdk_89_method_15_code, exceptionTable := #[], attributes := #[] }
def k12m1 : Method := { name := "isLowSurrogate", desc := "(C)Z", sig := { parameters := [.char], returnType := some .boolean }, accessFlags := 9, code := some k12c1 }
def k12c2 : Code := { maxStack := 2, maxLocals := 1, code := jdk_89_method_18_code, exceptionTable := #[], attributes := #[] }
def k12m2 : Method := { name := "charCount", desc := "(I)I", sig := { parameters := [.int], returnType := some .int }, accessFlags := 9, code := some k12c2 }
def k12c3 : Code := { maxStack := 2, maxLocals := 2, code := jdk_89_method_19_code, exceptionTable := #[], attributes := #[] }
def k12m3 : Method := { name := "toCodePoint", desc := "(CC)I", sig := { parameters := [.char, .char], returnType := some .int }, accessFlags := 9, code := some k12c3 }
/-- java/lang/Character -/
def k12 : Class := { plain "java/lang/Character" (some 0) with
  accessFlags := 49
  interfaces := #[2, 3, 5]
  cf := some (fileOf pool12 1 #[.nestMembers #[48, 595, 307, 597]] #[{ accessFlags := 9, nameIndex := 80, descriptorIndex := 81, attributes := #[] }, { accessFlags := 9, nameIndex := 84, descriptorIndex := 81, attributes := #[] }, { accessFlags := 9, nameIndex := 536, descriptorIndex := 174, attributes := #[] }, { accessFlags := 9, nameIndex := 98, descriptorIndex := 99, attributes := #[] }] 49 42 #[385, 387, 389] #[{ accessFlags := 25, nameIndex := 391, descriptorIndex := 392, attributes := #[] }, { accessFlags := 25, nameIndex := 395, descriptorIndex := 392, attributes := #[] }, { accessFlags := 25, nameIndex := 397, descriptorIndex := 22, attributes := #[] }, { accessFlags := 25, nameIndex := 399, descriptorIndex := 22, attributes := #[] }, { accessFlags := 25, nameIndex := 383, descriptorIndex := 384, attributes := #[] }, { accessFlags := 25, nameIndex := 403, descriptorIndex := 404, attributes := #[] }, { accessFlags := 25, nameIndex := 405, descriptorIndex := 404, attributes := #[] }, { accessFlags := 25, nameIndex := 407, descriptorIndex := 404, attributes := #[] }, { accessFlags := 25, nameIndex := 408, descriptorIndex := 404, attributes := #[] }, { accessFlags := 25, nameIndex := 410, descriptorIndex := 404, attributes := #[] }, { accessFlags := 25, nameIndex := 412, descriptorIndex := 404, attributes := #[] }, { accessFlags := 25, nameIndex := 414, descriptorIndex := 404, attributes := #[] }, { accessFlags := 25, nameIndex := 416, descriptorIndex := 404, attributes := #[] }, { accessFlags := 25, nameIndex := 418, descriptorIndex := 404, attributes := #[] }, { accessFlags := 25, nameIndex := 420, descriptorIndex := 404, attributes := #[] }, { accessFlags := 25, nameIndex := 422, descriptorIndex := 404, attributes := #[] }, { accessFlags := 25, nameIndex := 424, descriptorIndex := 404, attributes := #[] }, { accessFlags := 25, nameIndex := 426, descriptorIndex := 404, attributes := #[] }, { accessFlags := 25, nameIndex := 428, descriptorIndex := 404, attributes := #[] }, { accessFlags := 25, nameIndex := 430, descriptorIndex := 404, attributes := #[] }, { accessFlags := 25, nameIndex := 432, descriptorIndex := 404, attributes := #[] }, { accessFlags := 25, nameIndex := 434, descriptorIndex := 404, attributes := #[] }, { accessFlags := 25, nameIndex := 436, descriptorIndex := 404, attributes := #[] }, { accessFlags := 25, nameIndex := 438, descriptorIndex := 404, attributes := #[] }, { accessFlags := 25, nameIndex := 440, descriptorIndex := 404, attributes := #[] }, { accessFlags := 25, nameIndex := 442, descriptorIndex := 404, attributes := #[] }, { accessFlags := 25, nameIndex := 444, descriptorIndex := 404, attributes := #[] }, { accessFlags := 25, nameIndex := 446, descriptorIndex := 404, attributes := #[] }, { accessFlags := 25, nameIndex := 448, descriptorIndex := 404, attributes := #[] }, { accessFlags := 25, nameIndex := 450, descriptorIndex := 404, attributes := #[] }, { accessFlags := 25, nameIndex := 452, descriptorIndex := 404, attributes := #[] }, { accessFlags := 25, nameIndex := 454, descriptorIndex := 404, attributes := #[] }, { accessFlags := 25, nameIndex := 456, descriptorIndex := 404, attributes := #[] }, { accessFlags := 25, nameIndex := 458, descriptorIndex := 404, attributes := #[] }, { accessFlags := 25, nameIndex := 460, descriptorIndex := 404, attributes := #[] }, { accessFlags := 24, nameIndex := 462, descriptorIndex := 392, attributes := #[] }, { accessFlags := 25, nameIndex := 464, descriptorIndex := 404, attributes := #[] }, { accessFlags := 25, nameIndex := 465, descriptorIndex := 404, attributes := #[] }, { accessFlags := 25, nameIndex := 466, descriptorIndex := 404, attributes := #[] }, { accessFlags := 25, nameIndex := 467, descriptorIndex := 404, attributes := #[] }, { accessFlags := 25, nameIndex := 468, descriptorIndex := 404, attributes := #[] }, { accessFlags := 25, nameIndex := 469, descriptorIndex := 404, attributes := #[] }, { accessFlags := 25, nameIndex := 470, descriptorIndex := 404, attributes := #[] }, { accessFlags := 25, nameIndex := 471, descriptorIndex := 404, attributes := #[] }, { accessFlags := 25, nameIndex := 472, descriptorIndex := 404, attributes := #[] }, { accessFlags := 25, nameIndex := 473, descriptorIndex := 404, attributes := #[] }, { accessFlags := 25, nameIndex := 474, descriptorIndex := 404, attributes := #[] }, { accessFlags := 25, nameIndex := 475, descriptorIndex := 404, attributes := #[] }, { accessFlags := 25, nameIndex := 476, descriptorIndex := 404, attributes := #[] }, { accessFlags := 25, nameIndex := 477, descriptorIndex := 404, attributes := #[] }, { accessFlags := 25, nameIndex := 478, descriptorIndex := 404, attributes := #[] }, { accessFlags := 25, nameIndex := 479, descriptorIndex := 404, attributes := #[] }, { accessFlags := 25, nameIndex := 480, descriptorIndex := 404, attributes := #[] }, { accessFlags := 25, nameIndex := 481, descriptorIndex := 404, attributes := #[] }, { accessFlags := 25, nameIndex := 482, descriptorIndex := 404, attributes := #[] }, { accessFlags := 25, nameIndex := 484, descriptorIndex := 404, attributes := #[] }, { accessFlags := 25, nameIndex := 485, descriptorIndex := 404, attributes := #[] }, { accessFlags := 25, nameIndex := 486, descriptorIndex := 404, attributes := #[] }, { accessFlags := 25, nameIndex := 487, descriptorIndex := 404, attributes := #[] }, { accessFlags := 25, nameIndex := 488, descriptorIndex := 404, attributes := #[] }, { accessFlags := 25, nameIndex := 489, descriptorIndex := 22, attributes := #[] }, { accessFlags := 25, nameIndex := 490, descriptorIndex := 22, attributes := #[] }, { accessFlags := 25, nameIndex := 492, descriptorIndex := 22, attributes := #[] }, { accessFlags := 25, nameIndex := 493, descriptorIndex := 22, attributes := #[] }, { accessFlags := 25, nameIndex := 495, descriptorIndex := 22, attributes := #[] }, { accessFlags := 25, nameIndex := 496, descriptorIndex := 22, attributes := #[] }, { accessFlags := 25, nameIndex := 497, descriptorIndex := 392, attributes := #[] }, { accessFlags := 25, nameIndex := 498, descriptorIndex := 392, attributes := #[] }, { accessFlags := 25, nameIndex := 499, descriptorIndex := 392, attributes := #[] }, { accessFlags := 18, nameIndex := 21, descriptorIndex := 22, attributes := #[] }, { accessFlags := 26, nameIndex := 501, descriptorIndex := 502, attributes := #[] }, { accessFlags := 25, nameIndex := 505, descriptorIndex := 392, attributes := #[] }, { accessFlags := 25, nameIndex := 506, descriptorIndex := 392, attributes := #[] }, { accessFlags := 4120, nameIndex := 284, descriptorIndex := 285, attributes := #[] }])
  fields := #[{ name := "MIN_RADIX", type := .int, accessFlags := 25, slot := 0, constantValue := 0 }, { name := "MAX_RADIX", type := .int, accessFlags := 25, slot := 1, constantValue := 0 }, { name := "MIN_VALUE", type := .char, accessFlags := 25, slot := 2, constantValue := 0 }, { name := "MAX_VALUE", type := .char, accessFlags := 25, slot := 3, constantValue := 0 }, { name := "TYPE", type := (.object "java/lang/Class"), accessFlags := 25, slot := 4, constantValue := 0 }, { name := "UNASSIGNED", type := .byte, accessFlags := 25, slot := 5, constantValue := 0 }, { name := "UPPERCASE_LETTER", type := .byte, accessFlags := 25, slot := 6, constantValue := 0 }, { name := "LOWERCASE_LETTER", type := .byte, accessFlags := 25, slot := 7, constantValue := 0 }, { name := "TITLECASE_LETTER", type := .byte, accessFlags := 25, slot := 8, constantValue := 0 }, { name := "MODIFIER_LETTER", type := .byte, accessFlags := 25, slot := 9, constantValue := 0 }, { name := "OTHER_LETTER", type := .byte, accessFlags := 25, slot := 10, constantValue := 0 }, { name := "NON_SPACING_MARK", type := .byte, accessFlags := 25, slot := 11, constantValue := 0 }, { name := "ENCLOSING_MARK", type := .byte, accessFlags := 25, slot := 12, constantValue := 0 }, { name := "COMBINING_SPACING_MARK", type := .byte, accessFlags := 25, slot := 13, constantValue := 0 }, { name := "DECIMAL_DIGIT_NUMBER", type := .byte, accessFlags := 25, slot := 14, constantValue := 0 }, { name := "LETTER_NUMBER", type := .byte, accessFlags := 25, slot := 15, constantValue := 0 }, { name := "OTHER_NUMBER", type := .byte, accessFlags := 25, slot := 16, constantValue := 0 }, { name := "SPACE_SEPARATOR", type := .byte, accessFlags := 25, slot := 17, constantValue := 0 }, { name := "LINE_SEPARATOR", type := .byte, accessFlags := 25, slot := 18, constantValue := 0 }, { name := "PARAGRAPH_SEPARATOR", type := .byte, accessFlags := 25, slot := 19, constantValue := 0 }, { name := "CONTROL", type := .byte, accessFlags := 25, slot := 20, constantValue := 0 }, { name := "FORMAT", type := .byte, accessFlags := 25, slot := 21, constantValue := 0 }, { name := "PRIVATE_USE", type := .byte, accessFlags := 25, slot := 22, constantValue := 0 }, { name := "SURROGATE", type := .byte, accessFlags := 25, slot := 23, constantValue := 0 }, { name := "DASH_PUNCTUATION", type := .byte, accessFlags := 25, slot := 24, constantValue := 0 }, { name := "START_PUNCTUATION", type := .byte, accessFlags := 25, slot := 25, constantValue := 0 }, { name := "END_PUNCTUATION", type := .byte, accessFlags := 25, slot := 26, constantValue := 0 }, { name := "CONNECTOR_PUNCTUATION", type := .byte, accessFlags := 25, slot := 27, constantValue := 0 }, { name := "OTHER_PUNCTUATION", type := .byte, accessFlags := 25, slot := 28, constantValue := 0 }, { name := "MATH_SYMBOL", type := .byte, accessFlags := 25, slot := 29, constantValue := 0 }, { name := "CURRENCY_SYMBOL", type := .byte, accessFlags := 25, slot := 30, constantValue := 0 }, { name := "MODIFIER_SYMBOL", type := .byte, accessFlags := 25, slot := 31, constantValue := 0 }, { name := "OTHER_SYMBOL", type := .byte, accessFlags := 25, slot := 32, constantValue := 0 }, { name := "INITIAL_QUOTE_PUNCTUATION", type := .byte, accessFlags := 25, slot := 33, constantValue := 0 }, { name := "FINAL_QUOTE_PUNCTUATION", type := .byte, accessFlags := 25, slot := 34, constantValue := 0 }, { name := "ERROR", type := .int, accessFlags := 24, slot := 35, constantValue := 0 }, { name := "DIRECTIONALITY_UNDEFINED", type := .byte, accessFlags := 25, slot := 36, constantValue := 0 }, { name := "DIRECTIONALITY_LEFT_TO_RIGHT", type := .byte, accessFlags := 25, slot := 37, constantValue := 0 }, { name := "DIRECTIONALITY_RIGHT_TO_LEFT", type := .byte, accessFlags := 25, slot := 38, constantValue := 0 }, { name := "DIRECTIONALITY_RIGHT_TO_LEFT_ARABIC", type := .byte, accessFlags := 25, slot := 39, constantValue := 0 }, { name := "DIRECTIONALITY_EUROPEAN_NUMBER", type := .byte, accessFlags := 25, slot := 40, constantValue := 0 }, { name := "DIRECTIONALITY_EUROPEAN_NUMBER_SEPARATOR", type := .byte, accessFlags := 25, slot := 41, constantValue := 0 }, { name := "DIRECTIONALITY_EUROPEAN_NUMBER_TERMINATOR", type := .byte, accessFlags := 25, slot := 42, constantValue := 0 }, { name := "DIRECTIONALITY_ARABIC_NUMBER", type := .byte, accessFlags := 25, slot := 43, constantValue := 0 }, { name := "DIRECTIONALITY_COMMON_NUMBER_SEPARATOR", type := .byte, accessFlags := 25, slot := 44, constantValue := 0 }, { name := "DIRECTIONALITY_NONSPACING_MARK", type := .byte, accessFlags := 25, slot := 45, constantValue := 0 }, { name := "DIRECTIONALITY_BOUNDARY_NEUTRAL", type := .byte, accessFlags := 25, slot := 46, constantValue := 0 }, { name := "DIRECTIONALITY_PARAGRAPH_SEPARATOR", type := .byte, accessFlags := 25, slot := 47, constantValue := 0 }, { name := "DIRECTIONALITY_SEGMENT_SEPARATOR", type := .byte, accessFlags := 25, slot := 48, constantValue := 0 }, { name := "DIRECTIONALITY_WHITESPACE", type := .byte, accessFlags := 25, slot := 49, constantValue := 0 }, { name := "DIRECTIONALITY_OTHER_NEUTRALS", type := .byte, accessFlags := 25, slot := 50, constantValue := 0 }, { name := "DIRECTIONALITY_LEFT_TO_RIGHT_EMBEDDING", type := .byte, accessFlags := 25, slot := 51, constantValue := 0 }, { name := "DIRECTIONALITY_LEFT_TO_RIGHT_OVERRIDE", type := .byte, accessFlags := 25, slot := 52, constantValue := 0 }, { name := "DIRECTIONALITY_RIGHT_TO_LEFT_EMBEDDING", type := .byte, accessFlags := 25, slot := 53, constantValue := 0 }, { name := "DIRECTIONALITY_RIGHT_TO_LEFT_OVERRIDE", type := .byte, accessFlags := 25, slot := 54, constantValue := 0 }, { name := "DIRECTIONALITY_POP_DIRECTIONAL_FORMAT", type := .byte, accessFlags := 25, slot := 55, constantValue := 0 }, { name := "DIRECTIONALITY_LEFT_TO_RIGHT_ISOLATE", type := .byte, accessFlags := 25, slot := 56, constantValue := 0 }, { name := "DIRECTIONALITY_RIGHT_TO_LEFT_ISOLATE", type := .byte, accessFlags := 25, slot := 57, constantValue := 0 }, { name := "DIRECTIONALITY_FIRST_STRONG_ISOLATE", type := .byte, accessFlags := 25, slot := 58, constantValue := 0 }, { name := "DIRECTIONALITY_POP_DIRECTIONAL_ISOLATE", type := .byte, accessFlags := 25, slot := 59, constantValue := 0 }, { name := "MIN_HIGH_SURROGATE", type := .char, accessFlags := 25, slot := 60, constantValue := 0 }, { name := "MAX_HIGH_SURROGATE", type := .char, accessFlags := 25, slot := 61, constantValue := 0 }, { name := "MIN_LOW_SURROGATE", type := .char, accessFlags := 25, slot := 62, constantValue := 0 }, { name := "MAX_LOW_SURROGATE", type := .char, accessFlags := 25, slot := 63, constantValue := 0 }, { name := "MIN_SURROGATE", type := .char, accessFlags := 25, slot := 64, constantValue := 0 }, { name := "MAX_SURROGATE", type := .char, accessFlags := 25, slot := 65, constantValue := 0 }, { name := "MIN_SUPPLEMENTARY_CODE_POINT", type := .int, accessFlags := 25, slot := 66, constantValue := 0 }, { name := "MIN_CODE_POINT", type := .int, accessFlags := 25, slot := 67, constantValue := 0 }, { name := "MAX_CODE_POINT", type := .int, accessFlags := 25, slot := 68, constantValue := 0 }, { name := "value", type := .char, accessFlags := 18, slot := 0, constantValue := 0 }, { name := "serialVersionUID", type := .long, accessFlags := 26, slot := 69, constantValue := 0 }, { name := "SIZE", type := .int, accessFlags := 25, slot := 70, constantValue := 0 }, { name := "BYTES", type := .int, accessFlags := 25, slot := 71, constantValue := 0 }, { name := "$assertionsDisabled", type := .boolean, accessFlags := 4120, slot := 72, constantValue := 0 }]
  methods := #[k12m0, k12m1, k12m2, k12m3]
  instanceTypes := #[.char]
  staticTypes := #[.int, .int, .char, .char, (.object "java/lang/Class"), .byte, .byte, .byte, .byte, .byte, .byte, .byte, .byte, .byte, .byte, .byte, .byte, .byte, .byte, .byte, .byte, .byte, .byte, .byte, .byte, .byte, .byte, .byte, .byte, .byte, .byte, .byte, .byte, .byte, .byte, .int, .byte, .byte, .byte, .byte, .byte, .byte, .byte, .byte, .byte, .byte, .byte, .byte, .byte, .byte, .byte, .byte, .byte, .byte, .byte, .byte, .byte, .byte, .byte, .byte, .char, .char, .char, .char, .char, .char, .int, .int, .int, .long, .int, .int, .boolean]
  resolved := Array.replicate 604 none
  statics := none }

def pool13 : Array CpInfo := pool [(4, .class_ 6), (1, u "java/lang/Object"), (0, u "<init>"), (0, u "()V"), (5, .class_ 16), (1, u "java/lang/StringLatin1"), (104, u "$assertionsDisabled"), (0, u "Z"), (98, .class_ 223), (1, u "java/lang/StringLatin1$LinesSpliterator"), (166, .class_ 391), (0, u "java/lang/StringLatin1$CharsSpliterator")] 3

def k13m0 : Method := { name := "<init>", desc := "()V", sig := { parameters := [], returnType := none }, accessFlags := 0, code := none }
/-- java/lang/StringLatin1 -/
def k13 : Class := { plain "java/lang/StringLatin1" (some 0) with
  accessFlags := 48
  interfaces := #[]
  cf := some (fileOf pool13 14 #[.nestMembers #[390, 221]] #[{ accessFlags := 0, nameIndex := 7, descriptorIndex := 8, attributes := #[] }] 48 4 #[] #[{ accessFlags := 4120, nameIndex := 121, descriptorIndex := 122, attributes := #[] }])
  fields := #[{ name := "$assertionsDisabled", type := .boolean, accessFlags := 4120, slot := 0, constantValue := 0 }]
  methods := #[k13m0]
  instanceTypes := #[]
  staticTypes := #[.boolean]
  resolved := Array.replicate 395 none
  statics := none }

def pool14 : Array CpInfo := pool [(9, u "<init>"), (6, .class_ 18), (1, u "java/lang/Object"), (0, u "()V"), (1, .class_ 23), (1, u "jdk/internal/util/ArraysSupport"), (0, u "LOG2_ARRAY_LONG_INDEX_SCALE"), (0, u "I"), (2, u "U"), (0, u "Ljdk/internal/misc/Unsafe;"), (8, u "BIG_ENDIAN"), (0, u "Z"), (8, u "LOG2_BYTE_BIT_SIZE"), (4, u "LOG2_ARRAY_INT_INDEX_SCALE"), (54, u "JLA"), (0, u "Ljdk/internal/access/JavaLangAccess;"), (11, u "LOG2_ARRAY_BOOLEAN_INDEX_SCALE"), (9, u "LOG2_ARRAY_BYTE_INDEX_SCALE"), (5, u "LOG2_ARRAY_CHAR_INDEX_SCALE"), (5, u "LOG2_ARRAY_SHORT_INDEX_SCALE"), (18, u "LOG2_ARRAY_FLOAT_INDEX_SCALE"), (24, u "LOG2_ARRAY_DOUBLE_INDEX_SCALE"), (89, u "T_BOOLEAN"), (2, u "T_CHAR"), (1, u "T_FLOAT"), (1, u "T_DOUBLE"), (1, u "T_BYTE"), (1, u "T_SHORT"), (1, u "T_INT"), (1, u "T_LONG"), (1, u "SOFT_MAX_ARRAY_LENGTH")] 83

def k14m0 : Method := { name := "<init>", desc := "()V", sig := { parameters := [], returnType := none }, accessFlags := 2, code := none }
/-- jdk/internal/util/ArraysSupport -/
def k14 : Class := { plain "jdk/internal/util/ArraysSupport" (some 0) with
  accessFlags := 33
  interfaces := #[]
  cf := some (fileOf pool14 21 #[] #[{ accessFlags := 2, nameIndex := 9, descriptorIndex := 19, attributes := #[] }] 33 16 #[] #[{ accessFlags := 24, nameIndex := 28, descriptorIndex := 29, attributes := #[] }, { accessFlags := 26, nameIndex := 38, descriptorIndex := 39, attributes := #[] }, { accessFlags := 25, nameIndex := 121, descriptorIndex := 25, attributes := #[] }, { accessFlags := 25, nameIndex := 131, descriptorIndex := 25, attributes := #[] }, { accessFlags := 25, nameIndex := 137, descriptorIndex := 25, attributes := #[] }, { accessFlags := 25, nameIndex := 143, descriptorIndex := 25, attributes := #[] }, { accessFlags := 25, nameIndex := 53, descriptorIndex := 25, attributes := #[] }, { accessFlags := 25, nameIndex := 24, descriptorIndex := 25, attributes := #[] }, { accessFlags := 25, nameIndex := 162, descriptorIndex := 25, attributes := #[] }, { accessFlags := 25, nameIndex := 187, descriptorIndex := 25, attributes := #[] }, { accessFlags := 26, nameIndex := 48, descriptorIndex := 25, attributes := #[] }, { accessFlags := 25, nameIndex := 277, descriptorIndex := 25, attributes := #[] }, { accessFlags := 25, nameIndex := 280, descriptorIndex := 25, attributes := #[] }, { accessFlags := 25, nameIndex := 282, descriptorIndex := 25, attributes := #[] }, { accessFlags := 25, nameIndex := 284, descriptorIndex := 25, attributes := #[] }, { accessFlags := 25, nameIndex := 286, descriptorIndex := 25, attributes := #[] }, { accessFlags := 25, nameIndex := 288, descriptorIndex := 25, attributes := #[] }, { accessFlags := 25, nameIndex := 290, descriptorIndex := 25, attributes := #[] }, { accessFlags := 25, nameIndex := 292, descriptorIndex := 25, attributes := #[] }, { accessFlags := 26, nameIndex := 108, descriptorIndex := 109, attributes := #[] }, { accessFlags := 25, nameIndex := 294, descriptorIndex := 25, attributes := #[] }])
  fields := #[{ name := "U", type := (.object "jdk/internal/misc/Unsafe"), accessFlags := 24, slot := 0, constantValue := 0 }, { name := "BIG_ENDIAN", type := .boolean, accessFlags := 26, slot := 1, constantValue := 0 }, { name := "LOG2_ARRAY_BOOLEAN_INDEX_SCALE", type := .int, accessFlags := 25, slot := 2, constantValue := 0 }, { name := "LOG2_ARRAY_BYTE_INDEX_SCALE", type := .int, accessFlags := 25, slot := 3, constantValue := 0 }, { name := "LOG2_ARRAY_CHAR_INDEX_SCALE", type := .int, accessFlags := 25, slot := 4, constantValue := 0 }, { name := "LOG2_ARRAY_SHORT_INDEX_SCALE", type := .int, accessFlags := 25, slot := 5, constantValue := 0 }, { name := "LOG2_ARRAY_INT_INDEX_SCALE", type := .int, accessFlags := 25, slot := 6, constantValue := 0 }, { name := "LOG2_ARRAY_LONG_INDEX_SCALE", type := .int, accessFlags := 25, slot := 7, constantValue := 0 }, { name := "LOG2_ARRAY_FLOAT_INDEX_SCALE", type := .int, accessFlags := 25, slot := 8, constantValue := 0 }, { name := "LOG2_ARRAY_DOUBLE_INDEX_SCALE", type := .int, accessFlags := 25, slot := 9, constantValue := 0 }, { name := "LOG2_BYTE_BIT_SIZE", type := .int, accessFlags := 26, slot := 10, constantValue := 0 }, { name := "T_BOOLEAN", type := .int, accessFlags := 25, slot := 11, constantValue := 0 }, { name := "T_CHAR", type := .int, accessFlags := 25, slot := 12, constantValue := 0 }, { name := "T_FLOAT", type := .int, accessFlags := 25, slot := 13, constantValue := 0 }, { name := "T_DOUBLE", type := .int, accessFlags := 25, slot := 14, constantValue := 0 }, { name := "T_BYTE", type := .int, accessFlags := 25, slot := 15, constantValue := 0 }, { name := "T_SHORT", type := .int, accessFlags := 25, slot := 16, constantValue := 0 }, { name := "T_INT", type := .int, accessFlags := 25, slot := 17, constantValue := 0 }, { name := "T_LONG", type := .int, accessFlags := 25, slot := 18, constantValue := 0 }, { name := "JLA", type := (.object "jdk/internal/access/JavaLangAccess"), accessFlags := 26, slot := 19, constantValue := 0 }, { name := "SOFT_MAX_ARRAY_LENGTH", type := .int, accessFlags := 25, slot := 20, constantValue := 0 }]
  methods := #[k14m0]
  instanceTypes := #[]
  staticTypes := #[(.object "jdk/internal/misc/Unsafe"), .boolean, .int, .int, .int, .int, .int, .int, .int, .int, .int, .int, .int, .int, .int, .int, .int, .int, .int, (.object "jdk/internal/access/JavaLangAccess"), .int]
  resolved := Array.replicate 378 none
  statics := none }

def pool15 : Array CpInfo := pool [(1, u "java/lang/Cloneable"), (0, .class_ 1), (0, u "java/lang/Object"), (0, .class_ 3)] 3

/-- java/lang/Cloneable -/
def k15 : Class := { plain "java/lang/Cloneable" (some 0) with
  accessFlags := 1537
  interfaces := #[]
  cf := some (fileOf pool15 2 #[] #[] 1537 4 #[] #[])
  fields := #[]
  methods := #[]
  instanceTypes := #[]
  staticTypes := #[]
  resolved := Array.replicate 8 none
  statics := none }

/-- the primitive byte -/
def k16 : Class := { plain "byte" none with kind := .primitive 'B', accessFlags := 0x411 }
/-- [B -/
def k17 : Class := { plain "[B" (some 0) with kind := .array 16 .byte, interfaces := #[15, 2], accessFlags := 1041 }

/-- the primitive char -/
def k18 : Class := { plain "char" none with kind := .primitive 'C', accessFlags := 0x411 }
/-- [C -/
def k19 : Class := { plain "[C" (some 0) with kind := .array 18 .char, interfaces := #[15, 2], accessFlags := 1041 }

/-- the primitive int -/
def k20 : Class := { plain "int" none with kind := .primitive 'I', accessFlags := 0x411 }
/-- [I -/
def k21 : Class := { plain "[I" (some 0) with kind := .array 20 .int, interfaces := #[15, 2], accessFlags := 1041 }

def heap : Heap := #[{ cls := 7, slots := #[.long 0, .int 1, .null, .int 0, .null, .int 0, .int 0], vm := .statics 7 },
  { cls := 8, slots := #[.int 0, .int 8, .int 0, .int 1], vm := .statics 8 },
  { cls := 11, slots := #[.null, .null, .null], vm := .statics 11 }]
def classes : Array Class := #[k0, k1, k2, k3, k4, k5, k6, k7, k8, k9, k10, k11, k12, k13, k14, k15, k16, k17, k18, k19, k20, k21]
def interned : List (Array UInt16 × Addr) := []
def slotsUsed : Nat := 14
def theMethod : MethodId := ⟨1, 6⟩
def args0 : Array Value := #[.int 5, .int 6, .int 7, .int 8]
def aboutOver (below : List Frame) : State where
  vm := { classes := classes, interned := interned.toArray }
  heap := heap
  slotsUsed := slotsUsed
  threads := #[{ frames := .invoking theMethod args0 :: below }]
def below0 : List Frame := [.native { method := ⟨0, 0⟩, args := #[] }]
def about1 : State := aboutOver below0
def p0 : Program := .bare "" "" ""
def e0 : Env := launch0.env 0 0 0
theorem w_frames : about1.frames = Frame.invoking theMethod args0 :: below0 := rfl
set_option maxRecDepth 65536 in
theorem w_args : argsFit about1.vm theMethod args0 = true := by decide +kernel
set_option maxRecDepth 65536 in
theorem w_heap : heapFits about1 = true := by decide +kernel
set_option maxRecDepth 65536 in
theorem w_runnable : about1.curStatus? = some .runnable := by decide +kernel
set_option maxRecDepth 65536 in
theorem w_alone : about1.alone = true := by decide +kernel
set_option maxRecDepth 65536 in
theorem w_named : about1.methodNamed? x = some theMethod := by decide +kernel
set_option maxRecDepth 65536 in
theorem w_hears : about1.hears theMethod below0 = true := by decide +kernel
set_option maxRecDepth 65536 in
theorem w_ripe : about1.ripe theMethod args0 below0 = true := by decide +kernel
theorem w_running : about1.status = .running := rfl
set_option maxRecDepth 65536 in
theorem w_room : about1.hasRoom e0.platform room_1 = true :=
  launch0.hasRoom_least _ room_1 (by decide +kernel) (by decide +kernel) (by decide +kernel) (by decide +kernel) (by decide +kernel) (by decide +kernel)
theorem allAtoms_all (ts : List Jvm.Cond) (a : Array Jvm.Value) (st : Jvm.State) : (allAtoms ts).before a st = ts.all (fun c => c.before a st) := by
  induction ts with
  | nil => rfl
  | cons c t ih =>
    show (Jvm.Cond.and c (allAtoms t)).before a st = _
    rw [Jvm.Cond.before_and, ih, List.all_cons]
def words1 : List Jvm.Cond := Jvm.Cond.code x code maxLocals ret :: tables_1
/-- a 'code' word, met by the world's own term for the bytes: nothing is compared byte by byte -/
theorem code_word {y : MethodName} {bytes : ByteArray} {mx : Nat} {rt : Option FieldType} {a : Array Value} {s : State} {m : MethodId} {meth : Method} {c : Code} (h1 : s.methodNamed? y = some m) (h2 : s.vm.method? m = some meth) (h3 : meth.code = some c) (h4 : c.code = bytes)
    (h5 : (c.maxLocals == mx && c.exceptionTable.isEmpty && decide (c.maxStack ≤ mostOperands) && decide (meth.sig.returnType = rt) && !meth.locks && decide (parseMethodDescriptor y.desc = some meth.sig)) = true) : (Jvm.Cond.code y bytes mx rt).before a s = true := by
  simp only [Bool.and_eq_true, beq_iff_eq, Bool.not_eq_true', decide_eq_true_eq] at h5
  obtain ⟨⟨⟨⟨⟨g1, g2⟩, g3⟩, g4⟩, g5⟩, g6⟩ := h5
  simp [Cond.before, Cond.holds, Cond.value, h1, h2, h3, h4, g1, g2, g3, g4, g5, g6]
def isCode : Jvm.Cond → Bool
  | .code _ _ _ _ => true
  | _ => false
theorem all_split {L : List Jvm.Cond} {P : Jvm.Cond → Bool} (h1 : L.all (fun c => isCode c || P c) = true) (h2 : ∀ c ∈ L.filter isCode, P c = true) : L.all P = true := by
  refine List.all_eq_true.mpr fun c hc => ?_
  have h := List.all_eq_true.mp h1 c hc
  rcases Bool.eq_false_or_eq_true (isCode c) with hi | hi
  · exact h2 c (List.mem_filter.mpr ⟨hc, hi⟩)
  · simpa [hi] using h
set_option maxRecDepth 65536 in
theorem w_c0 : (Jvm.Cond.code x code maxLocals ret).before args0 about1 = true := code_word (m := ⟨1, 6⟩) (meth := k1m6) (c := k1c6) (by decide +kernel) rfl rfl rfl (by decide +kernel)
set_option maxRecDepth 65536 in
theorem w_c1 : (Jvm.Cond.code ({ cls := "com/example/rightful_roles/rightfulroles/core/NamesRequireNamePinLaw", name := "draw", desc := "(I)C" } : Jvm.MethodName) method_2_code (1 : Nat) (Option.some Jvm.ClassFile.FieldType.char)).before args0 about1 = true := code_word (m := ⟨1, 1⟩) (meth := k1m1) (c := k1c1) (by decide +kernel) rfl rfl rfl (by decide +kernel)
set_option maxRecDepth 65536 in
theorem w_c2 : (Jvm.Cond.code ({ cls := "java/lang/String", name := "<init>", desc := "([C)V" } : Jvm.MethodName) jdk_42_method_3_code (2 : Nat) (Option.none : Option Jvm.ClassFile.FieldType)).before args0 about1 = true := code_word (m := ⟨7, 1⟩) (meth := k7m1) (c := k7c1) (by decide +kernel) rfl rfl rfl (by decide +kernel)
set_option maxRecDepth 65536 in
theorem w_c3 : (Jvm.Cond.code ({ cls := "java/lang/String", name := "<init>", desc := "([CIILjava/lang/Void;)V" } : Jvm.MethodName) jdk_42_method_149_code (6 : Nat) (Option.none : Option Jvm.ClassFile.FieldType)).before args0 about1 = true := code_word (m := ⟨7, 5⟩) (meth := k7m5) (c := k7c5) (by decide +kernel) rfl rfl rfl (by decide +kernel)
set_option maxRecDepth 65536 in
theorem w_c4 : (Jvm.Cond.code ({ cls := "java/lang/Object", name := "<init>", desc := "()V" } : Jvm.MethodName) object_method_1_code (1 : Nat) (Option.none : Option Jvm.ClassFile.FieldType)).before args0 about1 = true := code_word (m := ⟨0, 0⟩) (meth := k0m0) (c := k0c0) (by decide +kernel) rfl rfl rfl (by decide +kernel)
set_option maxRecDepth 65536 in
theorem w_c5 : (Jvm.Cond.code ({ cls := "java/lang/StringUTF16", name := "compress", desc := "([CII)[B" } : Jvm.MethodName) jdk_52_method_16_code (6 : Nat) (Option.some (Jvm.ClassFile.FieldType.array Jvm.ClassFile.FieldType.byte))).before args0 about1 = true := code_word (m := ⟨8, 9⟩) (meth := k8m9) (c := k8c9) (by decide +kernel) rfl rfl rfl (by decide +kernel)
set_option maxRecDepth 65536 in
theorem w_c6 : (Jvm.Cond.code ({ cls := "java/lang/StringUTF16", name := "compress", desc := "([CI[BII)I" } : Jvm.MethodName) jdk_52_method_21_code (7 : Nat) (Option.some Jvm.ClassFile.FieldType.int)).before args0 about1 = true := code_word (m := ⟨8, 10⟩) (meth := k8m10) (c := k8c10) (by decide +kernel) rfl rfl rfl (by decide +kernel)
set_option maxRecDepth 65536 in
theorem w_c7 : (Jvm.Cond.code ({ cls := "java/lang/StringUTF16", name := "coderFromArrayLen", desc := "([BI)B" } : Jvm.MethodName) jdk_52_method_15_code (2 : Nat) (Option.some Jvm.ClassFile.FieldType.byte)).before args0 about1 = true := code_word (m := ⟨8, 8⟩) (meth := k8m8) (c := k8c8) (by decide +kernel) rfl rfl rfl (by decide +kernel)
set_option maxRecDepth 65536 in
theorem w_c8 : (Jvm.Cond.code ({ cls := "com/example/rightful_roles/rightfulroles/core/NamesRequireNamePinLaw", name := "surr", desc := "(C)Z" } : Jvm.MethodName) method_5_code (1 : Nat) (Option.some Jvm.ClassFile.FieldType.boolean)).before args0 about1 = true := code_word (m := ⟨1, 4⟩) (meth := k1m4) (c := k1c4) (by decide +kernel) rfl rfl rfl (by decide +kernel)
set_option maxRecDepth 65536 in
theorem w_c9 : (Jvm.Cond.code ({ cls := "com/example/rightful_roles/rightfulroles/core/Names", name := "requireName", desc := "(Ljava/lang/String;Ljava/lang/String;)Ljava/lang/String;" } : Jvm.MethodName) prog_11_method_2_code (4 : Nat) (Option.some (Jvm.ClassFile.FieldType.object "java/lang/String"))).before args0 about1 = true := code_word (m := ⟨9, 1⟩) (meth := k9m1) (c := k9c1) (by decide +kernel) rfl rfl rfl (by decide +kernel)
set_option maxRecDepth 65536 in
theorem w_c10 : (Jvm.Cond.code ({ cls := "java/util/Objects", name := "requireNonNull", desc := "(Ljava/lang/Object;Ljava/lang/String;)Ljava/lang/Object;" } : Jvm.MethodName) jdk_31_method_11_code (2 : Nat) (Option.some (Jvm.ClassFile.FieldType.object "java/lang/Object"))).before args0 about1 = true := code_word (m := ⟨10, 1⟩) (meth := k10m1) (c := k10c1) (by decide +kernel) rfl rfl rfl (by decide +kernel)
set_option maxRecDepth 65536 in
theorem w_c11 : (Jvm.Cond.code ({ cls := "java/lang/String", name := "isEmpty", desc := "()Z" } : Jvm.MethodName) jdk_42_method_55_code (1 : Nat) (Option.some Jvm.ClassFile.FieldType.boolean)).before args0 about1 = true := code_word (m := ⟨7, 3⟩) (meth := k7m3) (c := k7c3) (by decide +kernel) rfl rfl rfl (by decide +kernel)
set_option maxRecDepth 65536 in
theorem w_c12 : (Jvm.Cond.code ({ cls := "java/lang/String", name := "length", desc := "()I" } : Jvm.MethodName) jdk_42_method_54_code (1 : Nat) (Option.some Jvm.ClassFile.FieldType.int)).before args0 about1 = true := code_word (m := ⟨7, 2⟩) (meth := k7m2) (c := k7c2) (by decide +kernel) rfl rfl rfl (by decide +kernel)
set_option maxRecDepth 65536 in
theorem w_c13 : (Jvm.Cond.code ({ cls := "java/lang/String", name := "coder", desc := "()B" } : Jvm.MethodName) jdk_42_method_152_code (1 : Nat) (Option.some Jvm.ClassFile.FieldType.byte)).before args0 about1 = true := code_word (m := ⟨7, 6⟩) (meth := k7m6) (c := k7c6) (by decide +kernel) rfl rfl rfl (by decide +kernel)
set_option maxRecDepth 65536 in
theorem w_c14 : (Jvm.Cond.code ({ cls := "java/lang/String", name := "codePointAt", desc := "(I)I" } : Jvm.MethodName) jdk_42_method_57_code (3 : Nat) (Option.some Jvm.ClassFile.FieldType.int)).before args0 about1 = true := code_word (m := ⟨7, 4⟩) (meth := k7m4) (c := k7c4) (by decide +kernel) rfl rfl rfl (by decide +kernel)
set_option maxRecDepth 65536 in
theorem w_c15 : (Jvm.Cond.code ({ cls := "java/lang/String", name := "isLatin1", desc := "()Z" } : Jvm.MethodName) jdk_42_method_154_code (1 : Nat) (Option.some Jvm.ClassFile.FieldType.boolean)).before args0 about1 = true := code_word (m := ⟨7, 7⟩) (meth := k7m7) (c := k7c7) (by decide +kernel) rfl rfl rfl (by decide +kernel)
set_option maxRecDepth 65536 in
theorem w_c16 : (Jvm.Cond.code ({ cls := "java/lang/String", name := "checkIndex", desc := "(II)V" } : Jvm.MethodName) jdk_42_method_155_code (2 : Nat) (Option.none : Option Jvm.ClassFile.FieldType)).before args0 about1 = true := code_word (m := ⟨7, 8⟩) (meth := k7m8) (c := k7c8) (by decide +kernel) rfl rfl rfl (by decide +kernel)
set_option maxRecDepth 65536 in
theorem w_c17 : (Jvm.Cond.code ({ cls := "jdk/internal/util/Preconditions", name := "checkIndex", desc := "(IILjava/util/function/BiFunction;)I" } : Jvm.MethodName) jdk_41_method_11_code (3 : Nat) (Option.some Jvm.ClassFile.FieldType.int)).before args0 about1 = true := code_word (m := ⟨11, 1⟩) (meth := k11m1) (c := k11c1) (by decide +kernel) rfl rfl rfl (by decide +kernel)
set_option maxRecDepth 65536 in
theorem w_c18 : (Jvm.Cond.code ({ cls := "java/lang/Character", name := "charCount", desc := "(I)I" } : Jvm.MethodName) jdk_89_method_18_code (1 : Nat) (Option.some Jvm.ClassFile.FieldType.int)).before args0 about1 = true := code_word (m := ⟨12, 2⟩) (meth := k12m2) (c := k12c2) (by decide +kernel) rfl rfl rfl (by decide +kernel)
set_option maxRecDepth 65536 in
theorem w_c19 : (Jvm.Cond.code ({ cls := "com/example/rightful_roles/rightfulroles/core/NamesRequireNamePinLaw", name := "valid2", desc := "(CC)Z" } : Jvm.MethodName) method_6_code (2 : Nat) (Option.some Jvm.ClassFile.FieldType.boolean)).before args0 about1 = true := code_word (m := ⟨1, 5⟩) (meth := k1m5) (c := k1c5) (by decide +kernel) rfl rfl rfl (by decide +kernel)
set_option maxRecDepth 65536 in
theorem w_c20 : (Jvm.Cond.code ({ cls := "java/lang/StringUTF16", name := "toBytes", desc := "([CII)[B" } : Jvm.MethodName) jdk_52_method_14_code (5 : Nat) (Option.some (Jvm.ClassFile.FieldType.array Jvm.ClassFile.FieldType.byte))).before args0 about1 = true := code_word (m := ⟨8, 7⟩) (meth := k8m7) (c := k8c7) (by decide +kernel) rfl rfl rfl (by decide +kernel)
set_option maxRecDepth 65536 in
theorem w_c21 : (Jvm.Cond.code ({ cls := "java/lang/StringUTF16", name := "newBytesFor", desc := "(I)[B" } : Jvm.MethodName) jdk_52_method_2_code (1 : Nat) (Option.some (Jvm.ClassFile.FieldType.array Jvm.ClassFile.FieldType.byte))).before args0 about1 = true := code_word (m := ⟨8, 1⟩) (meth := k8m1) (c := k8c1) (by decide +kernel) rfl rfl rfl (by decide +kernel)
set_option maxRecDepth 65536 in
theorem w_c22 : (Jvm.Cond.code ({ cls := "java/lang/StringUTF16", name := "newBytesLength", desc := "(I)I" } : Jvm.MethodName) jdk_52_method_3_code (1 : Nat) (Option.some Jvm.ClassFile.FieldType.int)).before args0 about1 = true := code_word (m := ⟨8, 2⟩) (meth := k8m2) (c := k8c2) (by decide +kernel) rfl rfl rfl (by decide +kernel)
set_option maxRecDepth 65536 in
theorem w_c23 : (Jvm.Cond.code ({ cls := "java/lang/StringUTF16", name := "putChar", desc := "([BII)V" } : Jvm.MethodName) jdk_52_method_4_code (3 : Nat) (Option.none : Option Jvm.ClassFile.FieldType)).before args0 about1 = true := code_word (m := ⟨8, 3⟩) (meth := k8m3) (c := k8c3) (by decide +kernel) rfl rfl rfl (by decide +kernel)
set_option maxRecDepth 65536 in
theorem w_c24 : (Jvm.Cond.code ({ cls := "java/lang/StringUTF16", name := "getChar", desc := "([BI)C" } : Jvm.MethodName) jdk_52_method_5_code (2 : Nat) (Option.some Jvm.ClassFile.FieldType.char)).before args0 about1 = true := code_word (m := ⟨8, 4⟩) (meth := k8m4) (c := k8c4) (by decide +kernel) rfl rfl rfl (by decide +kernel)
set_option maxRecDepth 65536 in
theorem w_c25 : (Jvm.Cond.code ({ cls := "com/example/rightful_roles/rightfulroles/core/NamesRequireNamePinLaw", name := "high", desc := "(C)Z" } : Jvm.MethodName) method_3_code (1 : Nat) (Option.some Jvm.ClassFile.FieldType.boolean)).before args0 about1 = true := code_word (m := ⟨1, 2⟩) (meth := k1m2) (c := k1c2) (by decide +kernel) rfl rfl rfl (by decide +kernel)
set_option maxRecDepth 65536 in
theorem w_c26 : (Jvm.Cond.code ({ cls := "java/lang/StringUTF16", name := "codePointAt", desc := "([BII)I" } : Jvm.MethodName) jdk_52_method_8_code (3 : Nat) (Option.some Jvm.ClassFile.FieldType.int)).before args0 about1 = true := code_word (m := ⟨8, 6⟩) (meth := k8m6) (c := k8c6) (by decide +kernel) rfl rfl rfl (by decide +kernel)
set_option maxRecDepth 65536 in
theorem w_c27 : (Jvm.Cond.code ({ cls := "java/lang/StringUTF16", name := "codePointAt", desc := "([BIIZ)I" } : Jvm.MethodName) jdk_52_method_7_code (6 : Nat) (Option.some Jvm.ClassFile.FieldType.int)).before args0 about1 = true := code_word (m := ⟨8, 5⟩) (meth := k8m5) (c := k8c5) (by decide +kernel) rfl rfl rfl (by decide +kernel)
set_option maxRecDepth 65536 in
theorem w_c28 : (Jvm.Cond.code ({ cls := "java/lang/Character", name := "isHighSurrogate", desc := "(C)Z" } : Jvm.MethodName) jdk_89_method_14_code (1 : Nat) (Option.some Jvm.ClassFile.FieldType.boolean)).before args0 about1 = true := code_word (m := ⟨12, 0⟩) (meth := k12m0) (c := k12c0) (by decide +kernel) rfl rfl rfl (by decide +kernel)
set_option maxRecDepth 65536 in
theorem w_c29 : (Jvm.Cond.code ({ cls := "com/example/rightful_roles/rightfulroles/core/NamesRequireNamePinLaw", name := "low", desc := "(C)Z" } : Jvm.MethodName) method_4_code (1 : Nat) (Option.some Jvm.ClassFile.FieldType.boolean)).before args0 about1 = true := code_word (m := ⟨1, 3⟩) (meth := k1m3) (c := k1c3) (by decide +kernel) rfl rfl rfl (by decide +kernel)
set_option maxRecDepth 65536 in
theorem w_c30 : (Jvm.Cond.code ({ cls := "java/lang/Character", name := "isLowSurrogate", desc := "(C)Z" } : Jvm.MethodName) jdk_89_method_15_code (1 : Nat) (Option.some Jvm.ClassFile.FieldType.boolean)).before args0 about1 = true := code_word (m := ⟨12, 1⟩) (meth := k12m1) (c := k12c1) (by decide +kernel) rfl rfl rfl (by decide +kernel)
set_option maxRecDepth 65536 in
theorem w_c31 : (Jvm.Cond.code ({ cls := "java/lang/Character", name := "toCodePoint", desc := "(CC)I" } : Jvm.MethodName) jdk_89_method_19_code (2 : Nat) (Option.some Jvm.ClassFile.FieldType.int)).before args0 about1 = true := code_word (m := ⟨12, 3⟩) (meth := k12m3) (c := k12c3) (by decide +kernel) rfl rfl rfl (by decide +kernel)
def codes1 : List Jvm.Cond := [Jvm.Cond.code x code maxLocals ret, Jvm.Cond.code ({ cls := "com/example/rightful_roles/rightfulroles/core/NamesRequireNamePinLaw", name := "draw", desc := "(I)C" } : Jvm.MethodName) method_2_code (1 : Nat) (Option.some Jvm.ClassFile.FieldType.char), Jvm.Cond.code ({ cls := "java/lang/String", name := "<init>", desc := "([C)V" } : Jvm.MethodName) jdk_42_method_3_code (2 : Nat) (Option.none : Option Jvm.ClassFile.FieldType), Jvm.Cond.code ({ cls := "java/lang/String", name := "<init>", desc := "([CIILjava/lang/Void;)V" } : Jvm.MethodName) jdk_42_method_149_code (6 : Nat) (Option.none : Option Jvm.ClassFile.FieldType), Jvm.Cond.code ({ cls := "java/lang/Object", name := "<init>", desc := "()V" } : Jvm.MethodName) object_method_1_code (1 : Nat) (Option.none : Option Jvm.ClassFile.FieldType), Jvm.Cond.code ({ cls := "java/lang/StringUTF16", name := "compress", desc := "([CII)[B" } : Jvm.MethodName) jdk_52_method_16_code (6 : Nat) (Option.some (Jvm.ClassFile.FieldType.array Jvm.ClassFile.FieldType.byte)), Jvm.Cond.code ({ cls := "java/lang/StringUTF16", name := "compress", desc := "([CI[BII)I" } : Jvm.MethodName) jdk_52_method_21_code (7 : Nat) (Option.some Jvm.ClassFile.FieldType.int), Jvm.Cond.code ({ cls := "java/lang/StringUTF16", name := "coderFromArrayLen", desc := "([BI)B" } : Jvm.MethodName) jdk_52_method_15_code (2 : Nat) (Option.some Jvm.ClassFile.FieldType.byte), Jvm.Cond.code ({ cls := "com/example/rightful_roles/rightfulroles/core/NamesRequireNamePinLaw", name := "surr", desc := "(C)Z" } : Jvm.MethodName) method_5_code (1 : Nat) (Option.some Jvm.ClassFile.FieldType.boolean), Jvm.Cond.code ({ cls := "com/example/rightful_roles/rightfulroles/core/Names", name := "requireName", desc := "(Ljava/lang/String;Ljava/lang/String;)Ljava/lang/String;" } : Jvm.MethodName) prog_11_method_2_code (4 : Nat) (Option.some (Jvm.ClassFile.FieldType.object "java/lang/String")), Jvm.Cond.code ({ cls := "java/util/Objects", name := "requireNonNull", desc := "(Ljava/lang/Object;Ljava/lang/String;)Ljava/lang/Object;" } : Jvm.MethodName) jdk_31_method_11_code (2 : Nat) (Option.some (Jvm.ClassFile.FieldType.object "java/lang/Object")), Jvm.Cond.code ({ cls := "java/lang/String", name := "isEmpty", desc := "()Z" } : Jvm.MethodName) jdk_42_method_55_code (1 : Nat) (Option.some Jvm.ClassFile.FieldType.boolean), Jvm.Cond.code ({ cls := "java/lang/String", name := "length", desc := "()I" } : Jvm.MethodName) jdk_42_method_54_code (1 : Nat) (Option.some Jvm.ClassFile.FieldType.int), Jvm.Cond.code ({ cls := "java/lang/String", name := "coder", desc := "()B" } : Jvm.MethodName) jdk_42_method_152_code (1 : Nat) (Option.some Jvm.ClassFile.FieldType.byte), Jvm.Cond.code ({ cls := "java/lang/String", name := "codePointAt", desc := "(I)I" } : Jvm.MethodName) jdk_42_method_57_code (3 : Nat) (Option.some Jvm.ClassFile.FieldType.int), Jvm.Cond.code ({ cls := "java/lang/String", name := "isLatin1", desc := "()Z" } : Jvm.MethodName) jdk_42_method_154_code (1 : Nat) (Option.some Jvm.ClassFile.FieldType.boolean), Jvm.Cond.code ({ cls := "java/lang/String", name := "checkIndex", desc := "(II)V" } : Jvm.MethodName) jdk_42_method_155_code (2 : Nat) (Option.none : Option Jvm.ClassFile.FieldType), Jvm.Cond.code ({ cls := "jdk/internal/util/Preconditions", name := "checkIndex", desc := "(IILjava/util/function/BiFunction;)I" } : Jvm.MethodName) jdk_41_method_11_code (3 : Nat) (Option.some Jvm.ClassFile.FieldType.int), Jvm.Cond.code ({ cls := "java/lang/Character", name := "charCount", desc := "(I)I" } : Jvm.MethodName) jdk_89_method_18_code (1 : Nat) (Option.some Jvm.ClassFile.FieldType.int), Jvm.Cond.code ({ cls := "com/example/rightful_roles/rightfulroles/core/NamesRequireNamePinLaw", name := "valid2", desc := "(CC)Z" } : Jvm.MethodName) method_6_code (2 : Nat) (Option.some Jvm.ClassFile.FieldType.boolean), Jvm.Cond.code ({ cls := "java/lang/StringUTF16", name := "toBytes", desc := "([CII)[B" } : Jvm.MethodName) jdk_52_method_14_code (5 : Nat) (Option.some (Jvm.ClassFile.FieldType.array Jvm.ClassFile.FieldType.byte)), Jvm.Cond.code ({ cls := "java/lang/StringUTF16", name := "newBytesFor", desc := "(I)[B" } : Jvm.MethodName) jdk_52_method_2_code (1 : Nat) (Option.some (Jvm.ClassFile.FieldType.array Jvm.ClassFile.FieldType.byte)), Jvm.Cond.code ({ cls := "java/lang/StringUTF16", name := "newBytesLength", desc := "(I)I" } : Jvm.MethodName) jdk_52_method_3_code (1 : Nat) (Option.some Jvm.ClassFile.FieldType.int), Jvm.Cond.code ({ cls := "java/lang/StringUTF16", name := "putChar", desc := "([BII)V" } : Jvm.MethodName) jdk_52_method_4_code (3 : Nat) (Option.none : Option Jvm.ClassFile.FieldType), Jvm.Cond.code ({ cls := "java/lang/StringUTF16", name := "getChar", desc := "([BI)C" } : Jvm.MethodName) jdk_52_method_5_code (2 : Nat) (Option.some Jvm.ClassFile.FieldType.char), Jvm.Cond.code ({ cls := "com/example/rightful_roles/rightfulroles/core/NamesRequireNamePinLaw", name := "high", desc := "(C)Z" } : Jvm.MethodName) method_3_code (1 : Nat) (Option.some Jvm.ClassFile.FieldType.boolean), Jvm.Cond.code ({ cls := "java/lang/StringUTF16", name := "codePointAt", desc := "([BII)I" } : Jvm.MethodName) jdk_52_method_8_code (3 : Nat) (Option.some Jvm.ClassFile.FieldType.int), Jvm.Cond.code ({ cls := "java/lang/StringUTF16", name := "codePointAt", desc := "([BIIZ)I" } : Jvm.MethodName) jdk_52_method_7_code (6 : Nat) (Option.some Jvm.ClassFile.FieldType.int), Jvm.Cond.code ({ cls := "java/lang/Character", name := "isHighSurrogate", desc := "(C)Z" } : Jvm.MethodName) jdk_89_method_14_code (1 : Nat) (Option.some Jvm.ClassFile.FieldType.boolean), Jvm.Cond.code ({ cls := "com/example/rightful_roles/rightfulroles/core/NamesRequireNamePinLaw", name := "low", desc := "(C)Z" } : Jvm.MethodName) method_4_code (1 : Nat) (Option.some Jvm.ClassFile.FieldType.boolean), Jvm.Cond.code ({ cls := "java/lang/Character", name := "isLowSurrogate", desc := "(C)Z" } : Jvm.MethodName) jdk_89_method_15_code (1 : Nat) (Option.some Jvm.ClassFile.FieldType.boolean), Jvm.Cond.code ({ cls := "java/lang/Character", name := "toCodePoint", desc := "(CC)I" } : Jvm.MethodName) jdk_89_method_19_code (2 : Nat) (Option.some Jvm.ClassFile.FieldType.int)]
set_option maxRecDepth 65536 in
theorem codes_eq : words1.filter isCode = codes1 := rfl
theorem w_codes : ∀ c ∈ words1.filter isCode, c.before args0 about1 = true := by
  rw [codes_eq]
  intro c hc
  simp only [codes1, List.mem_cons, List.not_mem_nil, or_false] at hc
  rcases hc with rfl | rfl | rfl | rfl | rfl | rfl | rfl | rfl | rfl | rfl | rfl | rfl | rfl | rfl | rfl | rfl | rfl | rfl | rfl | rfl | rfl | rfl | rfl | rfl | rfl | rfl | rfl | rfl | rfl | rfl | rfl | rfl
  · exact w_c0
  · exact w_c1
  · exact w_c2
  · exact w_c3
  · exact w_c4
  · exact w_c5
  · exact w_c6
  · exact w_c7
  · exact w_c8
  · exact w_c9
  · exact w_c10
  · exact w_c11
  · exact w_c12
  · exact w_c13
  · exact w_c14
  · exact w_c15
  · exact w_c16
  · exact w_c17
  · exact w_c18
  · exact w_c19
  · exact w_c20
  · exact w_c21
  · exact w_c22
  · exact w_c23
  · exact w_c24
  · exact w_c25
  · exact w_c26
  · exact w_c27
  · exact w_c28
  · exact w_c29
  · exact w_c30
  · exact w_c31
set_option maxRecDepth 65536 in
theorem w_t1 : (words1.take 24).all (fun c => isCode c || c.before args0 about1) = true := by decide +kernel
set_option maxRecDepth 65536 in
theorem w_t2 : ((words1.drop 24).take 24).all (fun c => isCode c || c.before args0 about1) = true := by decide +kernel
set_option maxRecDepth 65536 in
theorem w_t3 : (((words1.drop 24).drop 24).take 24).all (fun c => isCode c || c.before args0 about1) = true := by decide +kernel
set_option maxRecDepth 65536 in
theorem w_t4 : ((((words1.drop 24).drop 24).drop 24).take 24).all (fun c => isCode c || c.before args0 about1) = true := by decide +kernel
set_option maxRecDepth 65536 in
theorem w_t5 : (((((words1.drop 24).drop 24).drop 24).drop 24).take 24).all (fun c => isCode c || c.before args0 about1) = true := by decide +kernel
set_option maxRecDepth 65536 in
theorem w_t6 : (((((words1.drop 24).drop 24).drop 24).drop 24).drop 24).all (fun c => isCode c || c.before args0 about1) = true := by decide +kernel
theorem w_tables : (allAtoms (Jvm.Cond.code x code maxLocals ret :: tables_1)).before args0 about1 = true := by
  rw [allAtoms_all]
  show words1.all (fun c => c.before args0 about1) = true
  refine all_split ?_ w_codes
  rw [← List.take_append_drop 24 words1, List.all_append, w_t1, ← List.take_append_drop 24 (words1.drop 24), List.all_append, w_t2, ← List.take_append_drop 24 ((words1.drop 24).drop 24), List.all_append, w_t3, ← List.take_append_drop 24 (((words1.drop 24).drop 24).drop 24), List.all_append, w_t4, ← List.take_append_drop 24 ((((words1.drop 24).drop 24).drop 24).drop 24), List.all_append, w_t5, w_t6]
  rfl
set_option maxRecDepth 65536 in
theorem w_rest : rest_1_c.before args0 about1 = true := by decide +kernel
set_option maxRecDepth 65536 in
theorem w_case : (Jvm.Cond.and given_1 narrow_1).before args0 about1 = true := by decide +kernel
theorem w_applies : (headSpec (Jvm.Cond.code x code maxLocals ret :: tables_1) room_1).applies x e0.platform about1 = true :=
  (Spec.applies_iff w_frames).mpr ⟨w_running, w_runnable, w_alone, w_named, w_hears, w_ripe, w_room, w_tables⟩
theorem atStart : AtStart classFile x code maxLocals ret World_1 tables_1 room_1 Calls_1 rest_1 Pre_1 launch0 p0 e0 about1 theMethod args0 below0 :=
  ⟨lists_1, trivial, launch0.admits_env _ _ _, launch0.least_env, fairChoices_fair.cas, fairChoices_fair.clock, w_frames, w_args, w_heap, w_applies, trivial, w_rest, w_case⟩
end start1
theorem witness_1 : WitnessClaimed_1 := ⟨start1.p0, start1.e0, start1.about1, start1.theMethod, start1.args0, start1.below0, start1.atStart⟩
end Jvm.Pilot.@@N@@
