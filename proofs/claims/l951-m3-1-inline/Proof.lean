import JvmDerived
import JvmDerived.Pilot.@@N@@Statement
import JvmDerived.Pilot.@@N@@Code
set_option linter.unusedVariables false
set_option linter.unusedSimpArgs false
namespace Jvm.Pilot.@@N@@
open Jvm Jvm.ClassFile Sem Op Lib Jvm.Free Jvm.Stand Jvm.LawKit Jvm.RoadKit Bundle Jvm.Pilot.@@N@@.Jvm.D

/-! a segment of plain instructions, run by evaluation -/
abbrev PI := Nat × Instr × Nat × Int32
def getK {ρ : Type} : List Slot → Nat → (Slot → Option ρ) → Option ρ
  | [], _, _ => none
  | a :: _, 0, κ => κ a
  | _ :: l, i + 1, κ => getK l i κ
def setK {ρ : Type} : List Slot → Nat → Slot → (List Slot → Option ρ) → Option ρ
  | [], _, _, _ => none
  | _ :: l, 0, x, κ => κ (x :: l)
  | a :: l, i + 1, x, κ => setK l i x (fun l' => κ (a :: l'))
def stK {ρ : Type} (l : List Slot) (i : Nat) (v : Value) (κ : List Slot → Option ρ) : Option ρ :=
  getK l i fun
    | .unset => setK l i (.val v) κ
    | .val (.int _) => setK l i (.val v) κ
    | .val .null => setK l i (.val v) κ
    | .val (.ref _) => setK l i (.val v) κ
    | .val (.long _) => setK l (i + 1) .unset fun l' => setK l' i (.val v) κ
    | _ => none
def stKL {ρ : Type} (l : List Slot) (i : Nat) (v : Int64) (κ : List Slot → Option ρ) : Option ρ :=
  getK l i fun
    | .unset => getK l (i + 1) fun
      | .unset => setK l i (.val (.long v)) fun l' => setK l' (i + 1) .second κ
      | .val (.int _) => setK l i (.val (.long v)) fun l' => setK l' (i + 1) .second κ
      | .val .null => setK l i (.val (.long v)) fun l' => setK l' (i + 1) .second κ
      | .val (.ref _) => setK l i (.val (.long v)) fun l' => setK l' (i + 1) .second κ
      | _ => none
    | .val (.int _) => getK l (i + 1) fun
      | .unset => setK l i (.val (.long v)) fun l' => setK l' (i + 1) .second κ
      | .val (.int _) => setK l i (.val (.long v)) fun l' => setK l' (i + 1) .second κ
      | .val .null => setK l i (.val (.long v)) fun l' => setK l' (i + 1) .second κ
      | .val (.ref _) => setK l i (.val (.long v)) fun l' => setK l' (i + 1) .second κ
      | _ => none
    | .val (.ref _) => getK l (i + 1) fun
      | .unset => setK l i (.val (.long v)) fun l' => setK l' (i + 1) .second κ
      | .val (.int _) => setK l i (.val (.long v)) fun l' => setK l' (i + 1) .second κ
      | .val .null => setK l i (.val (.long v)) fun l' => setK l' (i + 1) .second κ
      | .val (.ref _) => setK l i (.val (.long v)) fun l' => setK l' (i + 1) .second κ
      | _ => none
    | .val (.long _) => getK l (i + 1) fun
      | .second => setK l i (.val (.long v)) κ
      | _ => none
    | _ => none
def pst {ρ : Type} (i : Instr) (v : Int32) (ls : List Slot) (st : List Value) (κ : List Slot → List Value → Option ρ) : Option ρ :=
  match i with
  | .aload_n k => getK ls k.val fun
    | .val (.ref a) => κ ls (.ref a :: st)
    | .val .null => κ ls (.null :: st)
    | _ => none
  | .aload k => getK ls k fun
    | .val (.ref a) => κ ls (.ref a :: st)
    | .val .null => κ ls (.null :: st)
    | _ => none
  | .iload_n k => getK ls k.val fun
    | .val (.int x) => κ ls (.int x :: st)
    | _ => none
  | .iload k => getK ls k fun
    | .val (.int x) => κ ls (.int x :: st)
    | _ => none
  | .lload_n k => getK ls k.val fun
    | .val (.long x) => κ ls (.long x :: st)
    | _ => none
  | .lload k => getK ls k fun
    | .val (.long x) => κ ls (.long x :: st)
    | _ => none
  | .iconst c => κ ls (.int v :: st)
  | .bipush c => κ ls (.int v :: st)
  | .sipush c => κ ls (.int v :: st)
  | .lconst c => κ ls (.long (Int64.ofNat c.val) :: st)
  | .aconst_null => κ ls (.null :: st)
  | .iadd => match st with
    | .int y :: .int x :: r => κ ls (.int (x + y) :: r)
    | _ => none
  | .isub => match st with
    | .int y :: .int x :: r => κ ls (.int (x - y) :: r)
    | _ => none
  | .imul => match st with
    | .int y :: .int x :: r => κ ls (.int (x * y) :: r)
    | _ => none
  | .iand => match st with
    | .int y :: .int x :: r => κ ls (.int (x &&& y) :: r)
    | _ => none
  | .ior => match st with
    | .int y :: .int x :: r => κ ls (.int (x ||| y) :: r)
    | _ => none
  | .ixor => match st with
    | .int y :: .int x :: r => κ ls (.int (x ^^^ y) :: r)
    | _ => none
  | .ishl => match st with
    | .int y :: .int x :: r => κ ls (.int (x <<< (y &&& 31)) :: r)
    | _ => none
  | .ishr => match st with
    | .int y :: .int x :: r => κ ls (.int (x >>> (y &&& 31)) :: r)
    | _ => none
  | .iushr => match st with
    | .int y :: .int x :: r => κ ls (.int (XT.ushr x y) :: r)
    | _ => none
  | .ladd => match st with
    | .long y :: .long x :: r => κ ls (.long (x + y) :: r)
    | _ => none
  | .lsub => match st with
    | .long y :: .long x :: r => κ ls (.long (x - y) :: r)
    | _ => none
  | .lmul => match st with
    | .long y :: .long x :: r => κ ls (.long (x * y) :: r)
    | _ => none
  | .land => match st with
    | .long y :: .long x :: r => κ ls (.long (x &&& y) :: r)
    | _ => none
  | .lor => match st with
    | .long y :: .long x :: r => κ ls (.long (x ||| y) :: r)
    | _ => none
  | .lxor => match st with
    | .long y :: .long x :: r => κ ls (.long (x ^^^ y) :: r)
    | _ => none
  | .lshl => match st with
    | .int y :: .long x :: r => κ ls (.long (x <<< (y.toInt64 &&& 63)) :: r)
    | _ => none
  | .lshr => match st with
    | .int y :: .long x :: r => κ ls (.long (x >>> (y.toInt64 &&& 63)) :: r)
    | _ => none
  | .lushr => match st with
    | .int y :: .long x :: r => κ ls (.long (XT.ushrL x y) :: r)
    | _ => none
  | .ineg => match st with
    | .int x :: r => κ ls (.int (-x) :: r)
    | _ => none
  | .lneg => match st with
    | .long x :: r => κ ls (.long (-x) :: r)
    | _ => none
  | .i2l => match st with
    | .int x :: r => κ ls (.long (x.toInt64) :: r)
    | _ => none
  | .l2i => match st with
    | .long x :: r => κ ls (.int (x.toInt32) :: r)
    | _ => none
  | .i2b => match st with
    | .int x :: r => κ ls (.int (x.toInt8.toInt32) :: r)
    | _ => none
  | .i2c => match st with
    | .int x :: r => κ ls (.int (x.toUInt32.toUInt16.toUInt32.toInt32) :: r)
    | _ => none
  | .i2s => match st with
    | .int x :: r => κ ls (.int (x.toInt16.toInt32) :: r)
    | _ => none
  | .lcmp => match st with
    | .long y :: .long x :: r => κ ls (.int (XT.cmpL x y) :: r)
    | _ => none
  | .pop => match st with
    | .int x :: r => κ ls (r)
    | .ref x :: r => κ ls (r)
    | .null :: r => κ ls (r)
    | _ => none
  | .dup => match st with
    | .int x :: r => κ ls (.int x :: .int x :: r)
    | .ref x :: r => κ ls (.ref x :: .ref x :: r)
    | .null :: r => κ ls (.null :: .null :: r)
    | _ => none
  | .dup_x1 => match st with
    | .int x :: .int y :: r => κ ls (.int x :: .int y :: .int x :: r)
    | .int x :: .ref y :: r => κ ls (.int x :: .ref y :: .int x :: r)
    | .int x :: .null :: r => κ ls (.int x :: .null :: .int x :: r)
    | .ref x :: .int y :: r => κ ls (.ref x :: .int y :: .ref x :: r)
    | .ref x :: .ref y :: r => κ ls (.ref x :: .ref y :: .ref x :: r)
    | .ref x :: .null :: r => κ ls (.ref x :: .null :: .ref x :: r)
    | .null :: .int y :: r => κ ls (.null :: .int y :: .null :: r)
    | .null :: .ref y :: r => κ ls (.null :: .ref y :: .null :: r)
    | .null :: .null :: r => κ ls (.null :: .null :: .null :: r)
    | _ => none
  | .dup2 => match st with
    | .long x :: r => κ ls (.long x :: .long x :: r)
    | .int x :: .int y :: r => κ ls (.int x :: .int y :: .int x :: .int y :: r)
    | .int x :: .ref y :: r => κ ls (.int x :: .ref y :: .int x :: .ref y :: r)
    | .ref x :: .int y :: r => κ ls (.ref x :: .int y :: .ref x :: .int y :: r)
    | .ref x :: .ref y :: r => κ ls (.ref x :: .ref y :: .ref x :: .ref y :: r)
    | _ => none
  | .istore_n k => match st with
    | .int x :: r => stK ls k.val (.int x) fun ls' => κ ls' r
    | _ => none
  | .istore k => match st with
    | .int x :: r => stK ls k (.int x) fun ls' => κ ls' r
    | _ => none
  | .astore_n k => match st with
    | .ref x :: r => stK ls k.val (.ref x) fun ls' => κ ls' r
    | .null :: r => stK ls k.val .null fun ls' => κ ls' r
    | _ => none
  | .astore k => match st with
    | .ref x :: r => stK ls k (.ref x) fun ls' => κ ls' r
    | .null :: r => stK ls k .null fun ls' => κ ls' r
    | _ => none
  | .lstore_n k => match st with
    | .long x :: r => stKL ls k.val x fun ls' => κ ls' r
    | _ => none
  | .lstore k => match st with
    | .long x :: r => stKL ls k x fun ls' => κ ls' r
    | _ => none
  | .iinc k c => getK ls k fun
    | .val (.int x) => stK ls k (.int (x + v)) fun ls' => κ ls' st
    | _ => none
  | .goto _ => κ ls st
  | _ => none
def ilen : Instr → Nat
  | .aload _ => 2
  | .iload _ => 2
  | .lload _ => 2
  | .astore _ => 2
  | .istore _ => 2
  | .lstore _ => 2
  | .bipush _ => 2
  | .iinc _ _ => 3
  | .sipush _ => 3
  | .goto _ => 3
  | _ => 1
def ival (v : Int32) : Instr → Prop
  | .iconst c => Int32.ofInt c = v
  | .bipush c => (Int8.ofInt c).toInt32 = v
  | .sipush c => (Int16.ofInt c).toInt32 = v
  | .iinc _ c => Int32.ofInt c = v
  | _ => True
instance {v : Int32} {i : Instr} : Decidable (ival v i) := by unfold ival; split <;> infer_instance
def inxt (pc nx : Nat) : Instr → Prop
  | .goto o => 0 ≤ (pc : Int) + o ∧ ((pc : Int) + o).toNat = nx
  | i => pc + ilen i = nx
instance {pc nx : Nat} {i : Instr} : Decidable (inxt pc nx i) := by unfold inxt; split <;> infer_instance
def segOk (code : ByteArray) : Nat → List PI → Nat → Bool
  | pc, [], pe => decide (pc = pe)
  | pc, (q, i, nx, v) :: r, pe => decide (q = pc) && decide (decode code pc = .ok (i, ilen i)) && decide (ival v i) && decide (inxt pc nx i) && segOk code nx r pe
def prun : List PI → List Slot → List Value → Option (List Slot × List Value)
  | [], ls, st => some (ls, st)
  | (_, i, _, v) :: r, ls, st => pst i v ls st fun ls' st' => prun r ls' st'
theorem getK_some {ρ : Type} {κ : Slot → Option ρ} {r : ρ} : ∀ {l : List Slot} {i : Nat}, getK l i κ = some r → ∃ a, l[i]? = some a ∧ κ a = some r
  | [], _, h => by cases h
  | a :: _, 0, h => ⟨a, rfl, h⟩
  | _ :: l, i + 1, h => by obtain ⟨a, h1, h2⟩ := getK_some (l := l) h; exact ⟨a, by simpa using h1, h2⟩
theorem setK_some {ρ : Type} {x : Slot} {r : ρ} : ∀ {l : List Slot} {i : Nat} {κ : List Slot → Option ρ}, setK l i x κ = some r → i < l.length ∧ κ (l.set i x) = some r
  | [], _, _, h => by cases h
  | a :: _, 0, _, h => ⟨by simp, h⟩
  | _ :: l, i + 1, _, h => by obtain ⟨h1, h2⟩ := setK_some (l := l) h; exact ⟨by simpa using h1, by simpa using h2⟩
theorem setAt_list {l : List Slot} {i : Nat} {x : Slot} (h : i < l.length) : setAt l.toArray i x = some (l.set i x).toArray := by simp [setAt, h]
theorem cat_i (x : Int32) : (Value.int x).category = 1 := rfl
theorem cat_l (x : Int64) : (Value.long x).category = 2 := rfl
theorem cat_r (x : Addr) : (Value.ref x).category = 1 := rfl
theorem cat_n : Value.null.category = 1 := rfl
theorem stK_some {ρ : Type} {r : ρ} {v : Value} (hv : v.category = 1) {l : List Slot} {i : Nat} {κ : List Slot → Option ρ} (h : stK l i v κ = some r) : ∃ l', storeLocals l.toArray i v = some l'.toArray ∧ l'.length = l.length ∧ κ l' = some r := by
  obtain ⟨a, h1, h2⟩ := getK_some h
  have e : l.toArray[i]? = some a := by simpa using h1
  split at h2
  all_goals first
    | (cases h2; done)
    | (obtain ⟨h3, h4⟩ := setK_some h2; exact ⟨l.set i (.val v), by simp [storeLocals, storeSelf, e, h1, setAt_list h3, hv, cat_i, cat_l, cat_r, cat_n], by simp, h4⟩)
    | (obtain ⟨h3, h4⟩ := setK_some h2; obtain ⟨h5, h6⟩ := setK_some h4; exact ⟨(l.set (i + 1) .unset).set i (.val v), by simp [storeLocals, storeSelf, e, h1, setAt_list h3, setAt_list h5, hv, cat_i, cat_l, cat_r, cat_n], by simp, h6⟩)
theorem stKL_one {ρ : Type} {r : ρ} {v : Int64} {l : List Slot} {i : Nat} {κ : List Slot → Option ρ} {a : Slot} (h1 : l[i]? = some a) (ha : a = .unset ∨ ∃ w, a = .val w ∧ w.category = 1)
    (h2 : (getK l (i + 1) fun
      | .unset => setK l i (.val (.long v)) fun l' => setK l' (i + 1) .second κ
      | .val (.int _) => setK l i (.val (.long v)) fun l' => setK l' (i + 1) .second κ
      | .val .null => setK l i (.val (.long v)) fun l' => setK l' (i + 1) .second κ
      | .val (.ref _) => setK l i (.val (.long v)) fun l' => setK l' (i + 1) .second κ
      | _ => none) = some r) : ∃ l', storeLocals l.toArray i (.long v) = some l'.toArray ∧ l'.length = l.length ∧ κ l' = some r := by
  obtain ⟨b, h3, h4⟩ := getK_some h2
  have e : l.toArray[i]? = some a := by simpa using h1
  have e' : (l.set i (.val (.long v))).toArray[i + 1]? = some b := by simpa [List.getElem?_set] using h3
  have hs : storeSelf l.toArray i (.long v) = storeLocals l.toArray i (.long v) := by
    rcases ha with rfl | ⟨w, rfl, hw⟩ <;> simp [storeLocals, h1, *]
  rw [← hs]
  split at h4
  all_goals first
    | (cases h4; done)
    | (obtain ⟨h5, h6⟩ := setK_some h4; obtain ⟨h7, h8⟩ := setK_some h6
       refine ⟨(l.set i (.val (.long v))).set (i + 1) .second, ?_, by simp, h8⟩
       simp only [storeSelf, setAt_list h5, setAt_list h7, e', cat_i, cat_l, cat_r, cat_n, Option.bind_eq_bind, Option.bind_some, if_true, if_false, reduceIte, Nat.reduceEqDiff])
theorem stKL_some {ρ : Type} {r : ρ} {v : Int64} {l : List Slot} {i : Nat} {κ : List Slot → Option ρ} (h : stKL l i v κ = some r) : ∃ l', storeLocals l.toArray i (.long v) = some l'.toArray ∧ l'.length = l.length ∧ κ l' = some r := by
  obtain ⟨a, h1, h2⟩ := getK_some h
  have e : l.toArray[i]? = some a := by simpa using h1
  split at h2
  · exact stKL_one h1 (Or.inl rfl) h2
  · exact stKL_one h1 (Or.inr ⟨_, rfl, rfl⟩) h2
  · exact stKL_one h1 (Or.inr ⟨_, rfl, rfl⟩) h2
  · obtain ⟨b, h3, h4⟩ := getK_some h2
    split at h4
    · obtain ⟨h5, h6⟩ := setK_some h4
      have h7 : i + 1 < l.length := (List.getElem?_eq_some_iff.mp h3).1
      have q : ((l.set (i + 1) .unset).set i (.val (.long v))).set (i + 1) .second = l.set i (.val (.long v)) := by
        apply List.ext_getElem?; intro j
        simp only [List.getElem?_set, List.length_set]
        by_cases e1 : i + 1 = j
        · subst e1; obtain ⟨_, h8⟩ := List.getElem?_eq_some_iff.mp h3; simp [h7, h8]
        · simp [e1]
      refine ⟨l.set i (.val (.long v)), ?_, by simp, h6⟩
      rw [← q]
      have a1 : setAt l.toArray (i + 1) .unset = some (l.set (i + 1) .unset).toArray := setAt_list h7
      have a2 : setAt (l.set (i + 1) .unset).toArray i (.val (.long v)) = some ((l.set (i + 1) .unset).set i (.val (.long v))).toArray := setAt_list (by simpa using h5)
      have a3 : setAt ((l.set (i + 1) .unset).set i (.val (.long v))).toArray (i + 1) .second = some (((l.set (i + 1) .unset).set i (.val (.long v))).set (i + 1) .second).toArray := setAt_list (by simpa using h7)
      have a4 : ((l.set (i + 1) .unset).set i (.val (.long v))).toArray[i + 1]? = some .unset := by simp [List.getElem?_set, h7]
      simp only [storeLocals, storeSelf, e, a1, a2, a3, a4, cat_l, Option.bind_eq_bind, Option.bind_some, if_true]
    · cases h4
  · cases h2

theorem pst_sound {ρ : Type} {r : ρ} {tb : Tables} [Ours tb] {e : Env} {below : List Frame} {T : State} {m : MethodId} {c : Code} {code : ByteArray} (hA : At T m c below) (hx : tb.exec = Jvm.exec) (hc : c.code = code) {i : Instr} {v : Int32} {pc nx : Nat} {ls : List Slot} {st : List Value} {κ : List Slot → List Value → Option ρ}
    (hd : decode code pc = .ok (i, ilen i)) (hv : ival v i) (hn : inxt pc nx i) (h : pst i v ls st κ = some r) :
    ∃ ls' st', ls'.length = ls.length ∧ κ ls' st' = some r ∧ ∀ t, Steps tb e below (T.setTop (mkF m nx ls'.toArray st')) t → Steps tb e below (T.setTop (mkF m pc ls.toArray st)) t := by
  cases i
  case goto o => exact ⟨_, _, rfl, h, fun t hr => XS.goto hA hx rfl rfl (hb hc hd) hn.1 hn.2 hr⟩
  all_goals first
    | exact nomatch (show none = some _ from h)
    | (change _ = nx at hn; subst hn)
  case aload_n k => 
    obtain ⟨a, h1, h2⟩ := getK_some h
    split at h2
    · exact ⟨_, _, rfl, h2, fun t hr => XS.aloadN hA hx rfl (hb hc hd) (by simpa using h1) rfl hr⟩
    · exact ⟨_, _, rfl, h2, fun t hr => XS.aloadN hA hx rfl (hb hc hd) (by simpa using h1) rfl hr⟩
    · cases h2
  case aload k => 
    obtain ⟨a, h1, h2⟩ := getK_some h
    split at h2
    · exact ⟨_, _, rfl, h2, fun t hr => XS.aload hA hx rfl (hb hc hd) (by simpa using h1) rfl hr⟩
    · exact ⟨_, _, rfl, h2, fun t hr => XS.aload hA hx rfl (hb hc hd) (by simpa using h1) rfl hr⟩
    · cases h2
  case iload_n k => 
    obtain ⟨a, h1, h2⟩ := getK_some h
    split at h2
    · exact ⟨_, _, rfl, h2, fun t hr => XS.iloadN hA hx rfl (hb hc hd) (by simpa using h1) hr⟩
    · cases h2
  case iload k => 
    obtain ⟨a, h1, h2⟩ := getK_some h
    split at h2
    · exact ⟨_, _, rfl, h2, fun t hr => XS.iload hA hx rfl (hb hc hd) (by simpa using h1) hr⟩
    · cases h2
  case lload_n k => 
    obtain ⟨a, h1, h2⟩ := getK_some h
    split at h2
    · exact ⟨_, _, rfl, h2, fun t hr => XT.lloadN hA hx rfl (hb hc hd) (by simpa using h1) hr⟩
    · cases h2
  case lload k => 
    obtain ⟨a, h1, h2⟩ := getK_some h
    split at h2
    · exact ⟨_, _, rfl, h2, fun t hr => XT.lload hA hx rfl (hb hc hd) (by simpa using h1) hr⟩
    · cases h2
  case iconst c => exact ⟨_, _, rfl, h, fun t hr => XS.iconst hA hx rfl (hb hc hd) (by rw [hv]; exact hr)⟩
  case bipush c => exact ⟨_, _, rfl, h, fun t hr => XS.bipush hA hx rfl (hb hc hd) (by rw [hv]; exact hr)⟩
  case sipush c => exact ⟨_, _, rfl, h, fun t hr => XS.sipush hA hx rfl (hb hc hd) (by rw [hv]; exact hr)⟩
  case lconst c => exact ⟨_, _, rfl, h, fun t hr => XT.lconst hA hx rfl (hb hc hd) hr⟩
  case aconst_null => exact ⟨_, _, rfl, h, fun t hr => XS.aconstNull hA hx rfl (hb hc hd) hr⟩
  case iadd => 
    simp only [pst] at h
    split at h
    · exact ⟨_, _, rfl, h, fun t hr => XS.iadd hA hx rfl (hb hc hd) rfl hr⟩
    · cases h
  case isub => 
    simp only [pst] at h
    split at h
    · exact ⟨_, _, rfl, h, fun t hr => XS.isub hA hx rfl (hb hc hd) rfl hr⟩
    · cases h
  case imul => 
    simp only [pst] at h
    split at h
    · exact ⟨_, _, rfl, h, fun t hr => XS.imul hA hx rfl (hb hc hd) rfl hr⟩
    · cases h
  case iand => 
    simp only [pst] at h
    split at h
    · exact ⟨_, _, rfl, h, fun t hr => XS.iand hA hx rfl (hb hc hd) rfl hr⟩
    · cases h
  case ior => 
    simp only [pst] at h
    split at h
    · exact ⟨_, _, rfl, h, fun t hr => XT.ior hA hx rfl (hb hc hd) rfl hr⟩
    · cases h
  case ixor => 
    simp only [pst] at h
    split at h
    · exact ⟨_, _, rfl, h, fun t hr => XT.ixor hA hx rfl (hb hc hd) rfl hr⟩
    · cases h
  case ishl => 
    simp only [pst] at h
    split at h
    · exact ⟨_, _, rfl, h, fun t hr => XT.ishl hA hx rfl (hb hc hd) rfl hr⟩
    · cases h
  case ishr => 
    simp only [pst] at h
    split at h
    · exact ⟨_, _, rfl, h, fun t hr => XT.ishr hA hx rfl (hb hc hd) rfl hr⟩
    · cases h
  case iushr => 
    simp only [pst] at h
    split at h
    · exact ⟨_, _, rfl, h, fun t hr => XT.iushr hA hx rfl (hb hc hd) rfl hr⟩
    · cases h
  case ladd => 
    simp only [pst] at h
    split at h
    · exact ⟨_, _, rfl, h, fun t hr => XT.ladd hA hx rfl (hb hc hd) rfl hr⟩
    · cases h
  case lsub => 
    simp only [pst] at h
    split at h
    · exact ⟨_, _, rfl, h, fun t hr => XT.lsub hA hx rfl (hb hc hd) rfl hr⟩
    · cases h
  case lmul => 
    simp only [pst] at h
    split at h
    · exact ⟨_, _, rfl, h, fun t hr => XT.lmul hA hx rfl (hb hc hd) rfl hr⟩
    · cases h
  case land => 
    simp only [pst] at h
    split at h
    · exact ⟨_, _, rfl, h, fun t hr => XT.land hA hx rfl (hb hc hd) rfl hr⟩
    · cases h
  case lor => 
    simp only [pst] at h
    split at h
    · exact ⟨_, _, rfl, h, fun t hr => XT.lor hA hx rfl (hb hc hd) rfl hr⟩
    · cases h
  case lxor => 
    simp only [pst] at h
    split at h
    · exact ⟨_, _, rfl, h, fun t hr => XT.lxor hA hx rfl (hb hc hd) rfl hr⟩
    · cases h
  case lshl => 
    simp only [pst] at h
    split at h
    · exact ⟨_, _, rfl, h, fun t hr => XT.lshl hA hx rfl (hb hc hd) rfl hr⟩
    · cases h
  case lshr => 
    simp only [pst] at h
    split at h
    · exact ⟨_, _, rfl, h, fun t hr => XT.lshr hA hx rfl (hb hc hd) rfl hr⟩
    · cases h
  case lushr => 
    simp only [pst] at h
    split at h
    · exact ⟨_, _, rfl, h, fun t hr => XT.lushr hA hx rfl (hb hc hd) rfl hr⟩
    · cases h
  case ineg => 
    simp only [pst] at h
    split at h
    · exact ⟨_, _, rfl, h, fun t hr => XS.ineg hA hx rfl (hb hc hd) rfl hr⟩
    · cases h
  case lneg => 
    simp only [pst] at h
    split at h
    · exact ⟨_, _, rfl, h, fun t hr => XT.lneg hA hx rfl (hb hc hd) rfl hr⟩
    · cases h
  case i2l => 
    simp only [pst] at h
    split at h
    · exact ⟨_, _, rfl, h, fun t hr => XT.i2l hA hx rfl (hb hc hd) rfl hr⟩
    · cases h
  case l2i => 
    simp only [pst] at h
    split at h
    · exact ⟨_, _, rfl, h, fun t hr => XT.l2i hA hx rfl (hb hc hd) rfl hr⟩
    · cases h
  case i2b => 
    simp only [pst] at h
    split at h
    · exact ⟨_, _, rfl, h, fun t hr => XT.i2b hA hx rfl (hb hc hd) rfl hr⟩
    · cases h
  case i2c => 
    simp only [pst] at h
    split at h
    · exact ⟨_, _, rfl, h, fun t hr => XT.i2c hA hx rfl (hb hc hd) rfl hr⟩
    · cases h
  case i2s => 
    simp only [pst] at h
    split at h
    · exact ⟨_, _, rfl, h, fun t hr => XT.i2s hA hx rfl (hb hc hd) rfl hr⟩
    · cases h
  case lcmp => 
    simp only [pst] at h
    split at h
    · exact ⟨_, _, rfl, h, fun t hr => XT.lcmp hA hx rfl (hb hc hd) rfl hr⟩
    · cases h
  case pop => 
    simp only [pst] at h
    split at h
    · exact ⟨_, _, rfl, h, fun t hr => XT.pop hA hx rfl (hb hc hd) rfl rfl hr⟩
    · exact ⟨_, _, rfl, h, fun t hr => XT.pop hA hx rfl (hb hc hd) rfl rfl hr⟩
    · exact ⟨_, _, rfl, h, fun t hr => XT.pop hA hx rfl (hb hc hd) rfl rfl hr⟩
    · cases h
  case dup => 
    simp only [pst] at h
    split at h
    · exact ⟨_, _, rfl, h, fun t hr => XS.dup hA hx rfl (hb hc hd) rfl rfl hr⟩
    · exact ⟨_, _, rfl, h, fun t hr => XS.dup hA hx rfl (hb hc hd) rfl rfl hr⟩
    · exact ⟨_, _, rfl, h, fun t hr => XS.dup hA hx rfl (hb hc hd) rfl rfl hr⟩
    · cases h
  case dup_x1 => 
    simp only [pst] at h
    split at h
    · exact ⟨_, _, rfl, h, fun t hr => XT.dupX1 hA hx rfl (hb hc hd) rfl rfl rfl hr⟩
    · exact ⟨_, _, rfl, h, fun t hr => XT.dupX1 hA hx rfl (hb hc hd) rfl rfl rfl hr⟩
    · exact ⟨_, _, rfl, h, fun t hr => XT.dupX1 hA hx rfl (hb hc hd) rfl rfl rfl hr⟩
    · exact ⟨_, _, rfl, h, fun t hr => XT.dupX1 hA hx rfl (hb hc hd) rfl rfl rfl hr⟩
    · exact ⟨_, _, rfl, h, fun t hr => XT.dupX1 hA hx rfl (hb hc hd) rfl rfl rfl hr⟩
    · exact ⟨_, _, rfl, h, fun t hr => XT.dupX1 hA hx rfl (hb hc hd) rfl rfl rfl hr⟩
    · exact ⟨_, _, rfl, h, fun t hr => XT.dupX1 hA hx rfl (hb hc hd) rfl rfl rfl hr⟩
    · exact ⟨_, _, rfl, h, fun t hr => XT.dupX1 hA hx rfl (hb hc hd) rfl rfl rfl hr⟩
    · exact ⟨_, _, rfl, h, fun t hr => XT.dupX1 hA hx rfl (hb hc hd) rfl rfl rfl hr⟩
    · cases h
  case dup2 => 
    simp only [pst] at h
    split at h
    · exact ⟨_, _, rfl, h, fun t hr => XT.dup2L hA hx rfl (hb hc hd) rfl hr⟩
    · exact ⟨_, _, rfl, h, fun t hr => XT.dup2 hA hx rfl (hb hc hd) rfl rfl rfl hr⟩
    · exact ⟨_, _, rfl, h, fun t hr => XT.dup2 hA hx rfl (hb hc hd) rfl rfl rfl hr⟩
    · exact ⟨_, _, rfl, h, fun t hr => XT.dup2 hA hx rfl (hb hc hd) rfl rfl rfl hr⟩
    · exact ⟨_, _, rfl, h, fun t hr => XT.dup2 hA hx rfl (hb hc hd) rfl rfl rfl hr⟩
    · cases h
  case istore_n k => 
    simp only [pst] at h
    split at h
    · obtain ⟨l', h1, h2, h3⟩ := stK_some rfl h
      exact ⟨_, _, h2, h3, fun t hr => XS.istoreN hA hx rfl (hb hc hd) rfl h1 hr⟩
    · cases h
  case istore k => 
    simp only [pst] at h
    split at h
    · obtain ⟨l', h1, h2, h3⟩ := stK_some rfl h
      exact ⟨_, _, h2, h3, fun t hr => XS.istore hA hx rfl (hb hc hd) rfl h1 hr⟩
    · cases h
  case astore_n k => 
    simp only [pst] at h
    split at h
    · obtain ⟨l', h1, h2, h3⟩ := stK_some rfl h
      exact ⟨_, _, h2, h3, fun t hr => XS.astoreN hA hx rfl (hb hc hd) rfl rfl h1 hr⟩
    · obtain ⟨l', h1, h2, h3⟩ := stK_some rfl h
      exact ⟨_, _, h2, h3, fun t hr => XS.astoreN hA hx rfl (hb hc hd) rfl rfl h1 hr⟩
    · cases h
  case astore k => 
    simp only [pst] at h
    split at h
    · obtain ⟨l', h1, h2, h3⟩ := stK_some rfl h
      exact ⟨_, _, h2, h3, fun t hr => XS.astore hA hx rfl (hb hc hd) rfl rfl h1 hr⟩
    · obtain ⟨l', h1, h2, h3⟩ := stK_some rfl h
      exact ⟨_, _, h2, h3, fun t hr => XS.astore hA hx rfl (hb hc hd) rfl rfl h1 hr⟩
    · cases h
  case lstore_n k => 
    simp only [pst] at h
    split at h
    · obtain ⟨l', h1, h2, h3⟩ := stKL_some h
      exact ⟨_, _, h2, h3, fun t hr => XT.lstoreN hA hx rfl (hb hc hd) rfl h1 hr⟩
    · cases h
  case lstore k => 
    simp only [pst] at h
    split at h
    · obtain ⟨l', h1, h2, h3⟩ := stKL_some h
      exact ⟨_, _, h2, h3, fun t hr => XT.lstore hA hx rfl (hb hc hd) rfl h1 hr⟩
    · cases h
  case iinc k c => 
    obtain ⟨a, h1, h2⟩ := getK_some h
    split at h2
    · obtain ⟨l', h3, h4, h5⟩ := stK_some rfl h2
      exact ⟨_, _, h4, h5, fun t hr => XS.iinc hA hx rfl (hb hc hd) (by simpa using h1) (by rw [hv]; exact h3) hr⟩
    · cases h2
theorem prun_sound {tb : Tables} [Ours tb] {e : Env} {below : List Frame} {T : State} {m : MethodId} {c : Code} {code : ByteArray} (hA : At T m c below) (hx : tb.exec = Jvm.exec) (hc : c.code = code) : ∀ (seg : List PI) {pc pe : Nat} {ls ls' : List Slot} {st st' : List Value}, segOk code pc seg pe = true → prun seg ls st = some (ls', st') →
    ls'.length = ls.length ∧ ∀ t, Steps tb e below (T.setTop (mkF m pe ls'.toArray st')) t → Steps tb e below (T.setTop (mkF m pc ls.toArray st)) t
  | [], pc, pe, ls, ls', st, st', h1, h2 => by
    have e1 : pc = pe := by simpa [segOk] using h1
    have e2 : (ls, st) = (ls', st') := Option.some.inj h2
    cases e1; cases e2
    exact ⟨rfl, fun t hr => hr⟩
  | (q, i, nx, v) :: r, pc, pe, ls, ls', st, st', h1, h2 => by
    simp only [segOk, Bool.and_eq_true, decide_eq_true_eq] at h1
    obtain ⟨⟨⟨⟨rfl, hd⟩, hv⟩, hn⟩, hr⟩ := h1
    obtain ⟨l1, s1, e1, h3, k1⟩ := pst_sound (κ := fun ls' st' => prun r ls' st') hA hx hc hd hv hn h2
    obtain ⟨e2, k2⟩ := prun_sound hA hx hc r hr h3
    exact ⟨e2.trans e1, fun t ht => k1 _ (k2 _ ht)⟩

abbrev HP := Heap × (Addr → Prop)
abbrev Dyn := Program × Env × State × MethodId × Array Value × List Frame × Method × Code × State × HP
def GI (Z : State) (EL : List (String × Nat)) (vm : Vm) (H : HP) : Prop :=
  Ext Z.heap H.1 ∧ (∀ y, H.2 y → Z.heap.size ≤ y ∧ y < H.1.size) ∧ CHv Z EL vm H.1 ∧ ∀ y, Bk Z EL vm H.1 y → ¬ H.2 y
def Kp (H H' : HP) (ws : List Addr) : Prop := Keep H.1 H'.1 ws ∧ ∀ x, H.2 x → H'.2 x
def Wk (l : Launch) (Z : State) (a0 : Array Value) (EL : List (String × Nat)) (own : String) (code : ByteArray) (ml : Nat) (nm : String) (rt : Option FieldType) (R : Room) (D : Dyn) (pc : Nat) (ls : List Slot) (st : List Value) (H : HP) (k n : Nat) : Prop :=
  D.1.tables.exec = Jvm.exec ∧ D.2.2.1.vm.findClass own = some D.2.2.2.1.cls ∧ D.2.2.2.2.2.2.2.1.code = code ∧ D.2.2.2.2.2.2.2.1.maxLocals = ml ∧ D.2.2.2.2.2.2.1.name = nm ∧ D.2.2.2.2.2.2.1.sig.returnType = rt ∧ D.2.2.2.2.2.2.1.locks = false ∧ EW Z a0 EL ∧ (∀ a ∈ Bundle.stringAtoms, a.before a0 Z = true) ∧ ls.length = ml ∧
  ∃ T L vm0 k0, Stand D.1 l D.2.1 R (D.2.2.1.setVm vm0) D.2.2.2.1 D.2.2.2.2.1 D.2.2.2.2.2.1 D.2.2.2.2.2.2.1 D.2.2.2.2.2.2.2.1 T L k n ∧ T.heap = H.1 ∧ D.2.2.1.Since vm0 k0 ∧ k0 ≤ H.1.size ∧ Z.Warmed39 vm0 ∧ GI Z EL vm0 H ∧ Fr Z.heap.size L ∧
    ((∀ x, D.2.2.2.2.2.2.2.2.2.2 x → H.2 x) ∧ D.2.2.2.2.2.2.2.2.2.1.size ≤ H.1.size) ∧ Steps D.1.tables D.2.1 D.2.2.2.2.2.1 D.2.2.2.2.2.2.2.2.1 (T.setTop (mkF D.2.2.2.1 pc ls.toArray st))
/-- the method has returned v -/
def Rt (Z : State) (EL : List (String × Nat)) (D : Dyn) (v : Option Value) (H : HP) (k n : Nat) : Prop :=
  ∃ s₂ L, Steps D.1.tables D.2.1 D.2.2.2.2.2.1 D.2.2.2.2.2.2.2.2.1 s₂ ∧ s₂.status = .running ∧ Ended s₂ D.2.2.2.2.2.1 (.returned v) ∧ s₂.heap = H.1 ∧ ((∀ x, D.2.2.2.2.2.2.2.2.2.2 x → H.2 x) ∧ D.2.2.2.2.2.2.2.2.2.1.size ≤ H.1.size) ∧ GI Z EL s₂.vm H ∧ Fr Z.heap.size L ∧ ReturnedEndW D.2.2.1 (.returned v) s₂ L k n
/-- a contract: y, called with as in the heap H, comes back with Q -/
def Ct (l : Launch) (Z : State) (EL : List (String × Nat)) (y : MethodName) (bytes : ByteArray) (ml : Nat) (ret : Option FieldType) (rm : Room) (ws : List Jvm.Cond) (as : List Value) (H : HP) (Q : Option Value → HP → Prop) : Prop :=
  MetFree l y (head1 (Jvm.Cond.code y bytes ml ret :: ws) rm) (fun a U => a = as.toArray ∧ Z.Warmed39 U.vm ∧ U.heap = H.1 ∧ GI Z EL U.vm H) (fun _ _ _ _ _ => True)
    (fun _ U o U' => ∃ v L O, o = .returned v ∧ Q v (U'.heap, O) ∧ ((∀ x, H.2 x → O x) ∧ H.1.size ≤ U'.heap.size) ∧ GI Z EL U'.vm (U'.heap, O) ∧ Fr Z.heap.size L ∧ ReturnedEndW U o U' L rm.cells rm.slots)
def locsOf : List Value → Nat → List Slot
  | [], n => List.replicate n .unset
  | v :: r, n => match v with
    | .long x => .val (.long x) :: .second :: locsOf r (n - 2)
    | .double x => .val (.double x) :: .second :: locsOf r (n - 2)
    | .int x => .val (.int x) :: locsOf r (n - 1)
    | .float x => .val (.float x) :: locsOf r (n - 1)
    | .null => .val .null :: locsOf r (n - 1)
    | .ref x => .val (.ref x) :: locsOf r (n - 1)
    | .retAddr x => .val (.retAddr x) :: locsOf r (n - 1)
def slotsOf : List Value → List Slot
  | [] => []
  | v :: r => if v.category = 2 then .val v :: .second :: slotsOf r else .val v :: slotsOf r
theorem locsOf_eq : ∀ (as : List Value) (n : Nat), locsOf as n = slotsOf as ++ List.replicate (n - (slotsOf as).length) .unset
  | [], n => by simp [locsOf, slotsOf]
  | v :: r, n => by
    have e1 : n - 1 - (slotsOf r).length = n - ((slotsOf r).length + 1) := by omega
    have e2 : n - 2 - (slotsOf r).length = n - ((slotsOf r).length + 1 + 1) := by omega
    cases v <;> simp [locsOf, slotsOf, Value.category, locsOf_eq r, e1, e2]
theorem fold_slots : ∀ (as : List Value) (acc : Array Slot), as.foldl (fun acc v => if v.category = 2 then (acc.push (.val v)).push .second else acc.push (.val v)) acc = acc ++ (slotsOf as).toArray
  | [], acc => by simp [slotsOf]
  | v :: r, acc => by
    rw [List.foldl_cons, fold_slots r]
    by_cases h : v.category = 2
    · simp only [h, if_true, slotsOf]; apply Array.ext'; simp
    · simp only [h, if_false, slotsOf]; apply Array.ext'; simp
theorem entry_locs (m : MethodId) (as : List Value) (ml : Nat) : entryFrame m as.toArray ml = mkF m 0 (locsOf as ml).toArray [] := by
  have q : argsToLocals as.toArray ml = (locsOf as ml).toArray := by
    unfold argsToLocals
    simp only [List.foldl_toArray, fold_slots]
    rw [locsOf_eq]
    apply Array.ext'; simp
  simp only [entryFrame, q]
theorem retV {p : Program} {l : Launch} {e : Env} {R : Room} {s : State} {m : MethodId} {args : Array Value} {below : List Frame} {meth : Method} {c : Code} {T : State} {locs : List Loc} {cells slots : Nat} (X : Stand p l e R s m args below meth c T locs cells slots) (hx : p.tables.exec = Jvm.exec) {pc : Nat} {Ls : Array Slot} {st : List Value} (hret : meth.sig.returnType = none) (hd : decode c.code pc = .ok (.return_, 1)) {fs : List Frame}
    (hl : ∀ (f : JFrame) (acts : List Action), f.method = m → f.locked = none → f.entered = [] → (doReturn e (T.setTop f) acts none).1 = T.setFrames fs) : Steps p.tables e below (T.setTop (mkF m pc Ls st)) (T.setFrames fs) := by
  have hm' : T.vm.method? m = some meth := X.method'
  show Steps p.tables e below (T.setTop { method := m, pc := pc, locals := Ls, stack := st, locked := none }) _
  jvm_step X.here [X.here.top, hx, hd, hm', hret]
  first | (intro acts; rw [hl _ acts rfl rfl rfl]) | rw [hl _ _ rfl rfl rfl]
  exact Steps.refl _
section Laws
variable {l : Launch} {Z : State} {a0 : Array Value} {EL : List (String × Nat)} {own : String} {code : ByteArray} {ml : Nat} {nm : String} {rt : Option FieldType} {R : Room} {D : Dyn} {pc : Nat} {ls : List Slot} {st : List Value} {H H' : HP} {k n : Nat} {vm vm0 : Vm} {ws ws' : List Addr} {a b : Addr} {C nn d : String} {v w : Value} {sl : Nat} {ty : FieldType} {vs : List Value}
theorem Kp.refl (H : HP) : Kp H H [] := ⟨Keep.refl _ _, fun _ h => h⟩
theorem Kp.size (K : Kp H H' ws) : H.1.size ≤ H'.1.size := K.1.1
theorem Kp.trans {H2 : HP} (K : Kp H H' ws) (K' : Kp H' H2 ws') (q : ∀ x ∈ ws', x ∈ ws ∨ H.1.size ≤ x) : Kp H H2 ws := ⟨K.1.trans K'.1 q, fun x h => K'.2 x (K.2 x h)⟩
theorem Kp.tr {H2 : HP} (K : Kp H H' []) (K' : Kp H' H2 []) : Kp H H2 [] := K.trans K' (fun x h => nomatch h)
theorem Kp.wide (K : Kp H H' ws) (q : ∀ x ∈ ws, x ∈ ws' ∨ H.1.size ≤ x) : Kp H H' ws' := Kp.trans (H' := H) ⟨Keep.refl _ _, fun _ h => h⟩ K q
/-- all that was written is new since H: so H stands whole -/
theorem Kp.new (K : Kp H H' ws) (q : ∀ x ∈ ws, H.1.size ≤ x) : Kp H H' [] := K.wide fun x h => Or.inr (q x h)
end Laws
end Jvm.Pilot.@@N@@
namespace Jvm.RoadKit
open Jvm.Pilot.@@N@@
theorem Fld.ky {Z : State} {H H' : HP} {ws : List Addr} {a : Addr} {C nn d : String} {v : Value} (F : Fld Z H.1 a C nn d v) (K : Jvm.Pilot.@@N@@.Kp H H' ws) (q : a ∉ ws := by exact List.not_mem_nil) : Fld Z H'.1 a C nn d v := F.keep K.1 q
theorem Exa.ky {Z : State} {H H' : HP} {ws : List Addr} {a : Addr} {C : String} (F : Exa Z H.1 a C) (K : Jvm.Pilot.@@N@@.Kp H H' ws) : Exa Z H'.1 a C := F.keep K.1
end Jvm.RoadKit
namespace Jvm.Pilot.@@N@@
open Jvm Jvm.ClassFile Sem Op Lib Jvm.Free Jvm.Stand Jvm.LawKit Jvm.RoadKit Bundle Jvm.Pilot.@@N@@.Jvm.D
section Laws
variable {l : Launch} {Z : State} {a0 : Array Value} {EL : List (String × Nat)} {own : String} {code : ByteArray} {ml : Nat} {nm : String} {rt : Option FieldType} {R : Room} {D : Dyn} {pc : Nat} {ls : List Slot} {st : List Value} {H H' : HP} {k n : Nat} {vm vm0 : Vm} {ws ws' : List Addr} {a b : Addr} {C nn d : String} {v w : Value} {sl : Nat} {ty : FieldType} {vs : List Value}
def Ar (Z : State) (H : HP) (a : Addr) (ty : FieldType) (vs : List Value) : Prop := ∃ c : Cell, Arr Z H.1 a c ty ∧ c.slots = vs.toArray ∧ vs.length < 2 ^ 31 ∧ ∀ v ∈ vs, fits ty v = true
theorem Ar.ky (F : Ar Z H a ty vs) (K : Kp H H' ws) (q : a ∉ ws := by exact List.not_mem_nil) : Ar Z H' a ty vs := by
  obtain ⟨c, A, r⟩ := F; exact ⟨c, ⟨K.1.2.1 a c A.1 q, A.2⟩, r⟩
theorem Ar.lt (F : Ar Z H a ty vs) : a < H.1.size := by obtain ⟨c, A, -⟩ := F; exact A.lt
theorem Ar.len (F : Ar Z H a ty vs) : vs.length < 2 ^ 31 := by obtain ⟨c, A, -, h, -⟩ := F; exact h
theorem Ar.fits (F : Ar Z H a ty vs) : ∀ v ∈ vs, fits ty v = true := by obtain ⟨c, A, -, -, h⟩ := F; exact h
theorem clamp_nat {i : Nat} (h : i < 2 ^ 31) : i.toInt32.toNatClampNeg = i := by
  have h1 : (i.toInt32).toInt = i := by simp [Nat.toInt32, Int32.toInt_ofNat_of_lt h]
  simp [Int32.toNatClampNeg, h1]
theorem nonneg_nat {i : Nat} (h : i < 2 ^ 31) : ¬ i.toInt32 < 0 := by
  have h1 : (i.toInt32).toInt = i := by simp [Nat.toInt32, Int32.toInt_ofNat_of_lt h]
  rw [Int32.lt_iff_toInt_lt, h1]; simp
theorem Ar.arv (F : Ar Z H a ty vs) (dv : Value) : ∃ kc, Arv Z H.1 a kc ty vs.length.toInt32 vs dv := by
  obtain ⟨c, A, e, h, g⟩ := F
  have hs : c.slots.size = vs.length := by rw [e]; simp
  refine ⟨c.cls, c, A, rfl, by rw [hs, clamp_nat h], nonneg_nat h, fun k hk => ?_, fun i hi => ?_⟩
  · rw [hs] at hk; rw [e]; simp [hk]
  · rw [hs] at hi
    have : vs.getD i dv = vs[i] := by simp [hi]
    rw [this]; exact g _ (List.getElem_mem hi)
theorem Ar.of_arv {kc : ClassId} {z : Int32} {dv : Value} (F : Arv Z H.1 a kc ty z vs dv) (hl : z.toNatClampNeg = vs.length) : Ar Z H a ty vs := by
  obtain ⟨c, A, -, S, M, Hs, G⟩ := F
  have hs : c.slots.size = vs.length := by rw [S, hl]
  have hb : vs.length < 2 ^ 31 := by rw [← hl]; exact (back32 M).2
  refine ⟨c, A, ?_, hb, fun v hv => ?_⟩
  · apply Array.ext_getElem?; intro i
    by_cases hi : i < c.slots.size
    · rw [Hs i hi]; have hi' := hi; rw [hs] at hi'; simp [hi']
    · rw [Array.getElem?_eq_none (Nat.le_of_not_lt hi)]; rw [hs] at hi; simp; omega
  · obtain ⟨i, hi, rfl⟩ := List.getElem_of_mem hv
    have := G i (by rw [hs]; exact hi)
    rw [show vs.getD i dv = vs[i] by simp [hi]] at this
    exact this
theorem GI.wr (G : GI Z EL vm H) {h' : Heap} (W : Wr H.1 h' a sl v) (o : H.2 a) : GI Z EL vm (h', H.2) := by
  obtain ⟨g1, g2, g3, g4⟩ := G
  have S : Safe Z EL vm H.1 a := fun B => g4 a B o
  refine ⟨?_, fun y hy => ?_, g3.wr W S, fun y B => g4 y ((g3.wrStep W S).2 y B)⟩
  · obtain ⟨cell, h1, h2, h3, e⟩ := W
    refine ⟨by rw [show (h', H.2).1 = h' from rfl, e]; simpa using g1.1, fun x cx q => ?_⟩
    have hx := (Array.getElem?_eq_some_iff.mp q).1
    have hne : a ≠ x := fun e1 => by subst e1; have := (g2 a o).1; omega
    show h'[x]? = _
    rw [e, Array.getElem?_setIfInBounds_ne hne]; exact g1.2 x cx q
  · have := g2 y hy; exact ⟨this.1, by rw [show (h', H.2).1 = h' from rfl, W.size]; exact this.2⟩
theorem GI.ext (G : GI Z EL vm H) {h' : Heap} (E : Ext H.1 h') (hlt : H.1.size < h'.size) : GI Z EL vm (h', fun y => H.2 y ∨ y = H.1.size) := by
  obtain ⟨g1, g2, g3, g4⟩ := G
  refine ⟨⟨Nat.le_trans g1.1 E.1, fun x cx q => E.2 x cx (g1.2 x cx q)⟩, fun y hy => ?_, g3.ext E, fun y B hy => ?_⟩
  · rcases hy with hy | rfl
    · have := g2 y hy; exact ⟨this.1, Nat.lt_of_lt_of_le this.2 E.1⟩
    · exact ⟨g1.1, hlt⟩
  · have B' := (g3.step fun _ _ _ q => E.2 _ _ q).2 y B
    rcases hy with hy | rfl
    · exact g4 y B' hy
    · obtain ⟨cell, q⟩ := B'.there
      exact absurd (Array.getElem?_eq_some_iff.mp q).1 (Nat.lt_irrefl _)
theorem GI.keep (G : GI Z EL vm H) {h' : Heap} (K : Keep H.1 h' ws) (o : ∀ x ∈ ws, H.2 x) : GI Z EL vm (h', H.2) := by
  obtain ⟨g1, g2, g3, g4⟩ := G
  have S : ∀ x ∈ ws, Safe Z EL vm H.1 x := fun x hx B => g4 x B (o x hx)
  refine ⟨⟨Nat.le_trans g1.1 K.1, fun x cx q => K.2.1 x cx (g1.2 x cx q) fun hx => ?_⟩, fun y hy => ?_, g3.keep K S, fun y B => g4 y ((g3.keepStep K S).2 y B)⟩
  · have := (g2 x (o x hx)).1; have := (Array.getElem?_eq_some_iff.mp q).1; omega
  · have := g2 y hy; exact ⟨this.1, Nat.lt_of_lt_of_le this.2 K.1⟩
theorem GI.go {vm1 : Vm} {h' : Heap} (G : GI Z EL vm H) (A : CHr Z EL vm H.1 vm1 h') (E : Ext H.1 h') : GI Z EL vm1 (h', H.2) := by
  obtain ⟨g1, g2, g3, g4⟩ := G
  refine ⟨⟨Nat.le_trans g1.1 E.1, fun x cx q => E.2 x cx (g1.2 x cx q)⟩, fun y hy => ?_, A.1, fun y B hy => ?_⟩
  · have := g2 y hy; exact ⟨this.1, Nat.lt_of_lt_of_le this.2 E.1⟩
  · rcases A.2.2 y B with q | q
    · exact g4 y q hy
    · exact absurd (g2 y hy).2 (Nat.not_lt.mpr q)
theorem ext_refl (h : Heap) : Ext h h := ⟨Nat.le_refl _, fun _ _ q => q⟩
theorem GI.at {p : Program} {e : Env} {s : State} {m : MethodId} {args : Array Value} {below : List Frame} {meth : Method} {c : Code} {T : State} {L : List Loc} (G : GI Z EL vm0 H) (X : Stand p l e R (s.setVm vm0) m args below meth c T L k n) (hZ : Z.Warmed39 vm0) (hEL : EW Z a0 EL) : GI Z EL T.vm H :=
  G.go (CHv.at X hZ hEL G.2.2.1) (ext_refl _)
theorem notFace_cls {args : Array Value} {s : State} {C : String} {y y2 : MethodName} (h : (Jvm.Cond.selects C y2 y2).before args s = true) (e : y2.cls = y.cls) : NotFace s y := fun r0 h0 => by
  obtain ⟨c2, r2, m2, -, -, q3, -, kP, hkP, hkPi⟩ := Cond.selects_spec h
  have a := findClass_of_methodNamed h0
  have b := findClass_of_methodNamed q3
  rw [e, a] at b
  exact ⟨kP, by rw [Option.some.inj b]; exact hkP, hkPi⟩
theorem decl_of {y : MethodName} {bytes : ByteArray} {cml : Nat} {ret : Option FieldType} (w : (Jvm.Cond.instanceMethod y).before a0 Z = true) (wc : (Jvm.Cond.code y bytes cml ret).before a0 Z = true) : (Jvm.Cond.declares y).before a0 Z = true := by
  obtain ⟨m, meth, h1, h2, h3, h4⟩ := Cond.instanceMethod_spec w
  obtain ⟨m2, c, q1, -, -, -, -, -, -, q8⟩ := Cond.code_spec h1 wc
  cases h2.symm.trans q1
  simp [Cond.before, Cond.holds, Cond.value, h1, h2, h3, q8]
theorem same_of {C : String} {y y2 : MethodName} (w : (Jvm.Cond.declares y).before a0 Z = true) (h : (Jvm.Cond.selects C y2 y2).before a0 Z = true) (e : y2.cls = y.cls) (hy : y.cls ≠ "java/lang/invoke/MethodHandle" ∧ y.cls ≠ "java/lang/invoke/VarHandle") : (Jvm.Cond.sameMethod y.cls y.cls y.name y.desc).before a0 Z = true := by
  obtain ⟨m, meth, h1, h2, h3, h4⟩ := Cond.declares_spec w
  obtain ⟨c2, r2, m2, -, -, q3, -, kP, hkP, hkPi⟩ := Cond.selects_spec h
  have f1 := findClass_of_methodNamed h1
  have f2 := findClass_of_methodNamed q3
  rw [e, f1] at f2
  have hm := Option.some.inj f2
  simp only [Cond.before, Cond.holds, Cond.value, f1, State.methodFound?_of_named h1 hy]
  rw [show ({ cls := y.cls, name := y.name, desc := y.desc } : MethodName) = y from rfl, h1]
  simp [hm, hkP, hkPi]
theorem range_take {vs : List Value} {i q : Nat} {d : Value} (h : i + q ≤ vs.length) : ((List.range q).map fun t => vs.getD (i + t) d) = (vs.drop i).take q := by
  apply List.ext_getElem
  · simp; omega
  · intro t h1 h2
    simp at h1
    simp [List.getD_eq_getElem?_getD, show i + t < vs.length by omega]
theorem Wk.run (A : Wk l Z a0 EL own code ml nm rt R D pc ls st H k n) (seg : List PI) {pe : Nat} (hok : segOk code pc seg pe = true) {ls' : List Slot} {st' : List Value} (hr : prun seg ls st = some (ls', st')) :
    Wk l Z a0 EL own code ml nm rt R D pe ls' st' H k n := by
  obtain ⟨p, e, s, m, args, below, meth, c, s0, H0⟩ := D
  obtain ⟨hx, hown, hc, hml, hnm, hrt, hlk, hEL, hSA, hls, T, L, vm0, k0, X, eT, hS, hk, hZ, hG, hF, hMo, hst⟩ := A
  dsimp only at hx hown hc hml hnm hrt hlk X hS hMo hst
  have hown' : (s.setVm vm0).vm.findClass own = some m.cls := (hS.1.alike.findClass _ _).trans hown
  have hZ' : Z.Warmed39 (s.setVm vm0).vm := hZ
  obtain ⟨h1, h2⟩ := prun_sound (e := e) X.here hx hc seg hok hr
  exact ⟨hx, hown, hc, hml, hnm, hrt, hlk, hEL, hSA, (h1.trans hls), T, L, vm0, k0, X, eT, hS, hk, hZ, hG, hF, hMo, hst.trans (h2 _ (Steps.refl _))⟩
theorem Wk.idiv {x y : Int32} (A : Wk l Z a0 EL own code ml nm rt R D pc ls (.int y :: .int x :: st) H k n) (hd : decode code pc = .ok (.idiv, 1)) (hy : y ≠ 0) :
    Wk l Z a0 EL own code ml nm rt R D (pc + 1) ls (.int (x / y) :: st) H k n := by
  obtain ⟨p, e, s, m, args, below, meth, c, s0, H0⟩ := D
  obtain ⟨hx, hown, hc, hml, hnm, hrt, hlk, hEL, hSA, hls, T, L, vm0, k0, X, eT, hS, hk, hZ, hG, hF, hMo, hst⟩ := A
  dsimp only at hx hown hc hml hnm hrt hlk X hS hMo hst
  have hown' : (s.setVm vm0).vm.findClass own = some m.cls := (hS.1.alike.findClass _ _).trans hown
  have hZ' : Z.Warmed39 (s.setVm vm0).vm := hZ
  exact ⟨hx, hown, hc, hml, hnm, hrt, hlk, hEL, hSA, hls, T, L, vm0, k0, X, eT, hS, hk, hZ, hG, hF, hMo, hst.trans (XS.idiv X.here hx rfl (hb hc hd) rfl hy (Steps.refl _))⟩
theorem Wk.irem {x y : Int32} (A : Wk l Z a0 EL own code ml nm rt R D pc ls (.int y :: .int x :: st) H k n) (hd : decode code pc = .ok (.irem, 1)) (hy : y ≠ 0) :
    Wk l Z a0 EL own code ml nm rt R D (pc + 1) ls (.int (x % y) :: st) H k n := by
  obtain ⟨p, e, s, m, args, below, meth, c, s0, H0⟩ := D
  obtain ⟨hx, hown, hc, hml, hnm, hrt, hlk, hEL, hSA, hls, T, L, vm0, k0, X, eT, hS, hk, hZ, hG, hF, hMo, hst⟩ := A
  dsimp only at hx hown hc hml hnm hrt hlk X hS hMo hst
  have hown' : (s.setVm vm0).vm.findClass own = some m.cls := (hS.1.alike.findClass _ _).trans hown
  have hZ' : Z.Warmed39 (s.setVm vm0).vm := hZ
  exact ⟨hx, hown, hc, hml, hnm, hrt, hlk, hEL, hSA, hls, T, L, vm0, k0, X, eT, hS, hk, hZ, hG, hF, hMo, hst.trans (iremM X hx rfl (hb hc hd) rfl hy (Steps.refl _))⟩
theorem Wk.ldiv {x y : Int64} (A : Wk l Z a0 EL own code ml nm rt R D pc ls (.long y :: .long x :: st) H k n) (hd : decode code pc = .ok (.ldiv, 1)) (hy : y ≠ 0) :
    Wk l Z a0 EL own code ml nm rt R D (pc + 1) ls (.long (x / y) :: st) H k n := by
  obtain ⟨p, e, s, m, args, below, meth, c, s0, H0⟩ := D
  obtain ⟨hx, hown, hc, hml, hnm, hrt, hlk, hEL, hSA, hls, T, L, vm0, k0, X, eT, hS, hk, hZ, hG, hF, hMo, hst⟩ := A
  dsimp only at hx hown hc hml hnm hrt hlk X hS hMo hst
  have hown' : (s.setVm vm0).vm.findClass own = some m.cls := (hS.1.alike.findClass _ _).trans hown
  have hZ' : Z.Warmed39 (s.setVm vm0).vm := hZ
  exact ⟨hx, hown, hc, hml, hnm, hrt, hlk, hEL, hSA, hls, T, L, vm0, k0, X, eT, hS, hk, hZ, hG, hF, hMo, hst.trans (XT.ldiv X.here hx rfl (hb hc hd) rfl hy (Steps.refl _))⟩
theorem Wk.lrem {x y : Int64} (A : Wk l Z a0 EL own code ml nm rt R D pc ls (.long y :: .long x :: st) H k n) (hd : decode code pc = .ok (.lrem, 1)) (hy : y ≠ 0) :
    Wk l Z a0 EL own code ml nm rt R D (pc + 1) ls (.long (x % y) :: st) H k n := by
  obtain ⟨p, e, s, m, args, below, meth, c, s0, H0⟩ := D
  obtain ⟨hx, hown, hc, hml, hnm, hrt, hlk, hEL, hSA, hls, T, L, vm0, k0, X, eT, hS, hk, hZ, hG, hF, hMo, hst⟩ := A
  dsimp only at hx hown hc hml hnm hrt hlk X hS hMo hst
  have hown' : (s.setVm vm0).vm.findClass own = some m.cls := (hS.1.alike.findClass _ _).trans hown
  have hZ' : Z.Warmed39 (s.setVm vm0).vm := hZ
  exact ⟨hx, hown, hc, hml, hnm, hrt, hlk, hEL, hSA, hls, T, L, vm0, k0, X, eT, hS, hk, hZ, hG, hF, hMo, hst.trans (XT.lrem X.here hx rfl (hb hc hd) rfl hy (by rw [lrem_mod]; exact Steps.refl _))⟩
/-- the condition of a comparison -/
def cP : ClassFile.Cond → Int32 → Int32 → Prop
  | .eq, x, y => x = y
  | .ne, x, y => ¬ x = y
  | .lt, x, y => x < y
  | .ge, x, y => ¬ x < y
  | .gt, x, y => y < x
  | .le, x, y => ¬ y < x
theorem cP_t {cd : ClassFile.Cond} {x y : Int32} (h : cP cd x y) : if_icmp.holds cd x y = true := by
  cases cd
  · exact (teq h).1
  · exact (feq h).2
  · exact (tlt h).1
  · exact (flt h).2.1
  · exact (tlt h).2.2.1
  · exact (flt h).2.2.2
theorem cP_f {cd : ClassFile.Cond} {x y : Int32} (h : ¬ cP cd x y) : if_icmp.holds cd x y = false := by
  cases cd
  · exact (feq h).1
  · exact (teq (Decidable.not_not.mp h)).2
  · exact (flt h).1
  · exact (tlt (Decidable.not_not.mp h)).2.1
  · exact (flt h).2.2.1
  · exact (tlt (Decidable.not_not.mp h)).2.2.2
theorem Wk.ifT {cd : ClassFile.Cond} {x : Int32} {o : Int} (A : Wk l Z a0 EL own code ml nm rt R D pc ls (.int x :: st) H k n) (hd : decode code pc = .ok (.ifCond cd o, 3)) (h : cP cd x 0) {pe : Nat} (hp : 0 ≤ (pc : Int) + o ∧ ((pc : Int) + o).toNat = pe) :
    Wk l Z a0 EL own code ml nm rt R D pe ls st H k n := by
  obtain ⟨p, e, s, m, args, below, meth, c, s0, H0⟩ := D
  obtain ⟨hx, hown, hc, hml, hnm, hrt, hlk, hEL, hSA, hls, T, L, vm0, k0, X, eT, hS, hk, hZ, hG, hF, hMo, hst⟩ := A
  dsimp only at hx hown hc hml hnm hrt hlk X hS hMo hst
  have hown' : (s.setVm vm0).vm.findClass own = some m.cls := (hS.1.alike.findClass _ _).trans hown
  have hZ' : Z.Warmed39 (s.setVm vm0).vm := hZ
  exact ⟨hx, hown, hc, hml, hnm, hrt, hlk, hEL, hSA, hls, T, L, vm0, k0, X, eT, hS, hk, hZ, hG, hF, hMo, hst.trans (XS.ifYes X.here hx rfl rfl (hb hc hd) rfl (by rw [if0]; exact cP_t h) hp.1 hp.2 (Steps.refl _))⟩
theorem Wk.ifF {cd : ClassFile.Cond} {x : Int32} {o : Int} (A : Wk l Z a0 EL own code ml nm rt R D pc ls (.int x :: st) H k n) (hd : decode code pc = .ok (.ifCond cd o, 3)) (h : ¬ cP cd x 0) :
    Wk l Z a0 EL own code ml nm rt R D (pc + 3) ls st H k n := by
  obtain ⟨p, e, s, m, args, below, meth, c, s0, H0⟩ := D
  obtain ⟨hx, hown, hc, hml, hnm, hrt, hlk, hEL, hSA, hls, T, L, vm0, k0, X, eT, hS, hk, hZ, hG, hF, hMo, hst⟩ := A
  dsimp only at hx hown hc hml hnm hrt hlk X hS hMo hst
  have hown' : (s.setVm vm0).vm.findClass own = some m.cls := (hS.1.alike.findClass _ _).trans hown
  have hZ' : Z.Warmed39 (s.setVm vm0).vm := hZ
  exact ⟨hx, hown, hc, hml, hnm, hrt, hlk, hEL, hSA, hls, T, L, vm0, k0, X, eT, hS, hk, hZ, hG, hF, hMo, hst.trans (XS.ifNo X.here hx rfl (hb hc hd) rfl (by rw [if0]; exact cP_f h) (Steps.refl _))⟩
theorem Wk.icT {cd : ClassFile.Cond} {x y : Int32} {o : Int} (A : Wk l Z a0 EL own code ml nm rt R D pc ls (.int y :: .int x :: st) H k n) (hd : decode code pc = .ok (.if_icmp cd o, 3)) (h : cP cd x y) {pe : Nat} (hp : 0 ≤ (pc : Int) + o ∧ ((pc : Int) + o).toNat = pe) :
    Wk l Z a0 EL own code ml nm rt R D pe ls st H k n := by
  obtain ⟨p, e, s, m, args, below, meth, c, s0, H0⟩ := D
  obtain ⟨hx, hown, hc, hml, hnm, hrt, hlk, hEL, hSA, hls, T, L, vm0, k0, X, eT, hS, hk, hZ, hG, hF, hMo, hst⟩ := A
  dsimp only at hx hown hc hml hnm hrt hlk X hS hMo hst
  have hown' : (s.setVm vm0).vm.findClass own = some m.cls := (hS.1.alike.findClass _ _).trans hown
  have hZ' : Z.Warmed39 (s.setVm vm0).vm := hZ
  exact ⟨hx, hown, hc, hml, hnm, hrt, hlk, hEL, hSA, hls, T, L, vm0, k0, X, eT, hS, hk, hZ, hG, hF, hMo, hst.trans (XS.icmpYes X.here hx rfl rfl (hb hc hd) rfl (cP_t h) hp.1 hp.2 (Steps.refl _))⟩
theorem Wk.icF {cd : ClassFile.Cond} {x y : Int32} {o : Int} (A : Wk l Z a0 EL own code ml nm rt R D pc ls (.int y :: .int x :: st) H k n) (hd : decode code pc = .ok (.if_icmp cd o, 3)) (h : ¬ cP cd x y) :
    Wk l Z a0 EL own code ml nm rt R D (pc + 3) ls st H k n := by
  obtain ⟨p, e, s, m, args, below, meth, c, s0, H0⟩ := D
  obtain ⟨hx, hown, hc, hml, hnm, hrt, hlk, hEL, hSA, hls, T, L, vm0, k0, X, eT, hS, hk, hZ, hG, hF, hMo, hst⟩ := A
  dsimp only at hx hown hc hml hnm hrt hlk X hS hMo hst
  have hown' : (s.setVm vm0).vm.findClass own = some m.cls := (hS.1.alike.findClass _ _).trans hown
  have hZ' : Z.Warmed39 (s.setVm vm0).vm := hZ
  exact ⟨hx, hown, hc, hml, hnm, hrt, hlk, hEL, hSA, hls, T, L, vm0, k0, X, eT, hS, hk, hZ, hG, hF, hMo, hst.trans (XS.icmpNo X.here hx rfl (hb hc hd) rfl (cP_f h) (Steps.refl _))⟩
theorem Wk.nullT {o : Int} (A : Wk l Z a0 EL own code ml nm rt R D pc ls (.null :: st) H k n) (hd : decode code pc = .ok (.ifnull o, 3)) {pe : Nat} (hp : 0 ≤ (pc : Int) + o ∧ ((pc : Int) + o).toNat = pe) :
    Wk l Z a0 EL own code ml nm rt R D pe ls st H k n := by
  obtain ⟨p, e, s, m, args, below, meth, c, s0, H0⟩ := D
  obtain ⟨hx, hown, hc, hml, hnm, hrt, hlk, hEL, hSA, hls, T, L, vm0, k0, X, eT, hS, hk, hZ, hG, hF, hMo, hst⟩ := A
  dsimp only at hx hown hc hml hnm hrt hlk X hS hMo hst
  have hown' : (s.setVm vm0).vm.findClass own = some m.cls := (hS.1.alike.findClass _ _).trans hown
  have hZ' : Z.Warmed39 (s.setVm vm0).vm := hZ
  exact ⟨hx, hown, hc, hml, hnm, hrt, hlk, hEL, hSA, hls, T, L, vm0, k0, X, eT, hS, hk, hZ, hG, hF, hMo, hst.trans (XS.ifnullYes X.here hx rfl rfl (hb hc hd) rfl hp.1 hp.2 (Steps.refl _))⟩
theorem Wk.nullF {o : Int} (A : Wk l Z a0 EL own code ml nm rt R D pc ls (.ref a :: st) H k n) (hd : decode code pc = .ok (.ifnull o, 3)) :
    Wk l Z a0 EL own code ml nm rt R D (pc + 3) ls st H k n := by
  obtain ⟨p, e, s, m, args, below, meth, c, s0, H0⟩ := D
  obtain ⟨hx, hown, hc, hml, hnm, hrt, hlk, hEL, hSA, hls, T, L, vm0, k0, X, eT, hS, hk, hZ, hG, hF, hMo, hst⟩ := A
  dsimp only at hx hown hc hml hnm hrt hlk X hS hMo hst
  have hown' : (s.setVm vm0).vm.findClass own = some m.cls := (hS.1.alike.findClass _ _).trans hown
  have hZ' : Z.Warmed39 (s.setVm vm0).vm := hZ
  exact ⟨hx, hown, hc, hml, hnm, hrt, hlk, hEL, hSA, hls, T, L, vm0, k0, X, eT, hS, hk, hZ, hG, hF, hMo, hst.trans (XS.ifnullNo X.here hx rfl (hb hc hd) rfl (Steps.refl _))⟩
theorem Wk.nnullT {o : Int} (A : Wk l Z a0 EL own code ml nm rt R D pc ls (.ref a :: st) H k n) (hd : decode code pc = .ok (.ifnonnull o, 3)) {pe : Nat} (hp : 0 ≤ (pc : Int) + o ∧ ((pc : Int) + o).toNat = pe) :
    Wk l Z a0 EL own code ml nm rt R D pe ls st H k n := by
  obtain ⟨p, e, s, m, args, below, meth, c, s0, H0⟩ := D
  obtain ⟨hx, hown, hc, hml, hnm, hrt, hlk, hEL, hSA, hls, T, L, vm0, k0, X, eT, hS, hk, hZ, hG, hF, hMo, hst⟩ := A
  dsimp only at hx hown hc hml hnm hrt hlk X hS hMo hst
  have hown' : (s.setVm vm0).vm.findClass own = some m.cls := (hS.1.alike.findClass _ _).trans hown
  have hZ' : Z.Warmed39 (s.setVm vm0).vm := hZ
  exact ⟨hx, hown, hc, hml, hnm, hrt, hlk, hEL, hSA, hls, T, L, vm0, k0, X, eT, hS, hk, hZ, hG, hF, hMo, hst.trans (XT.ifnonnullYes X.here hx rfl rfl (hb hc hd) rfl hp.1 hp.2 (Steps.refl _))⟩
theorem Wk.nnullF {o : Int} (A : Wk l Z a0 EL own code ml nm rt R D pc ls (.null :: st) H k n) (hd : decode code pc = .ok (.ifnonnull o, 3)) :
    Wk l Z a0 EL own code ml nm rt R D (pc + 3) ls st H k n := by
  obtain ⟨p, e, s, m, args, below, meth, c, s0, H0⟩ := D
  obtain ⟨hx, hown, hc, hml, hnm, hrt, hlk, hEL, hSA, hls, T, L, vm0, k0, X, eT, hS, hk, hZ, hG, hF, hMo, hst⟩ := A
  dsimp only at hx hown hc hml hnm hrt hlk X hS hMo hst
  have hown' : (s.setVm vm0).vm.findClass own = some m.cls := (hS.1.alike.findClass _ _).trans hown
  have hZ' : Z.Warmed39 (s.setVm vm0).vm := hZ
  exact ⟨hx, hown, hc, hml, hnm, hrt, hlk, hEL, hSA, hls, T, L, vm0, k0, X, eT, hS, hk, hZ, hG, hF, hMo, hst.trans (XT.ifnonnullNo X.here hx rfl (hb hc hd) rfl (Steps.refl _))⟩
theorem Wk.acmp (A : Wk l Z a0 EL own code ml nm rt R D pc ls (w :: v :: st) H k n) {cd : ClassFile.ACond} {o : Int} (hd : decode code pc = .ok (.if_acmp cd o, 3)) (h1 : v.isRef = true) (h2 : w.isRef = true) {same : Bool} (hq : decide (v = w) = same) {pe : Nat} (ho : 0 ≤ (pc : Int) + o) (hp : pe = if acV cd same = true then ((pc : Int) + o).toNat else pc + 3) :
    Wk l Z a0 EL own code ml nm rt R D pe ls st H k n := by
  obtain ⟨p, e, s, m, args, below, meth, c, s0, H0⟩ := D
  obtain ⟨hx, hown, hc, hml, hnm, hrt, hlk, hEL, hSA, hls, T, L, vm0, k0, X, eT, hS, hk, hZ, hG, hF, hMo, hst⟩ := A
  dsimp only at hx hown hc hml hnm hrt hlk X hS hMo hst
  have hown' : (s.setVm vm0).vm.findClass own = some m.cls := (hS.1.alike.findClass _ _).trans hown
  have hZ' : Z.Warmed39 (s.setVm vm0).vm := hZ
  exact ⟨hx, hown, hc, hml, hnm, hrt, hlk, hEL, hSA, hls, T, L, vm0, k0, X, eT, hS, hk, hZ, hG, hF, hMo, hst.trans (acmp X hx rfl h1 h2 rfl (hb hc hd) rfl hq ho hp (Steps.refl _))⟩
theorem Wk.tsw {x : Int32} (A : Wk l Z a0 EL own code ml nm rt R D pc ls (.int x :: st) H k n) :
    Wk l Z a0 EL own code ml nm rt R D pc ls (.int x :: st) H k n := by
  obtain ⟨p, e, s, m, args, below, meth, c, s0, H0⟩ := D
  obtain ⟨hx, hown, hc, hml, hnm, hrt, hlk, hEL, hSA, hls, T, L, vm0, k0, X, eT, hS, hk, hZ, hG, hF, hMo, hst⟩ := A
  dsimp only at hx hown hc hml hnm hrt hlk X hS hMo hst
  have hown' : (s.setVm vm0).vm.findClass own = some m.cls := (hS.1.alike.findClass _ _).trans hown
  have hZ' : Z.Warmed39 (s.setVm vm0).vm := hZ
  exact ⟨hx, hown, hc, hml, hnm, hrt, hlk, hEL, hSA, hls, T, L, vm0, k0, X, eT, hS, hk, hZ, hG, hF, hMo, hst⟩
theorem Wk.getF {R0 O : String} {index : Nat} (A : Wk l Z a0 EL own code ml nm rt R D pc ls (.ref a :: st) H k n) (w : (Jvm.Cond.fieldLink own index R0 nn d).before a0 Z = true) (F : Fld Z H.1 a O nn d v) (hd : decode code pc = .ok (.getfield index, 3)) (via : Via Z R0 O nn d := by exact Via.refl) :
    Wk l Z a0 EL own code ml nm rt R D (pc + 3) ls (v :: st) H k n := by
  obtain ⟨p, e, s, m, args, below, meth, c, s0, H0⟩ := D
  obtain ⟨hx, hown, hc, hml, hnm, hrt, hlk, hEL, hSA, hls, T, L, vm0, k0, X, eT, hS, hk, hZ, hG, hF, hMo, hst⟩ := A
  dsimp only at hx hown hc hml hnm hrt hlk X hS hMo hst
  have hown' : (s.setVm vm0).vm.findClass own = some m.cls := (hS.1.alike.findClass _ _).trans hown
  have hZ' : Z.Warmed39 (s.setVm vm0).vm := hZ
  obtain ⟨T', X', e', st'⟩ := RoadKit.getF (host := "") X hx hZ' hown' (Or.inl w) via eT F (g := mkF m pc ls.toArray (.ref a :: st)) rfl rfl (hb hc hd)
  exact ⟨hx, hown, hc, hml, hnm, hrt, hlk, hEL, hSA, hls, T', L, vm0, k0, X', e', hS, hk, hZ, hG, hF, hMo, hst.trans (st' _ (Steps.refl _))⟩
theorem Wk.getFN {R0 O host : String} {index : Nat} (A : Wk l Z a0 EL own code ml nm rt R D pc ls (.ref a :: st) H k n) (w : (Jvm.Cond.fieldLinkNest own index R0 nn d host).before a0 Z = true) (F : Fld Z H.1 a O nn d v) (hd : decode code pc = .ok (.getfield index, 3)) (via : Via Z R0 O nn d := by exact Via.refl) :
    Wk l Z a0 EL own code ml nm rt R D (pc + 3) ls (v :: st) H k n := by
  obtain ⟨p, e, s, m, args, below, meth, c, s0, H0⟩ := D
  obtain ⟨hx, hown, hc, hml, hnm, hrt, hlk, hEL, hSA, hls, T, L, vm0, k0, X, eT, hS, hk, hZ, hG, hF, hMo, hst⟩ := A
  dsimp only at hx hown hc hml hnm hrt hlk X hS hMo hst
  have hown' : (s.setVm vm0).vm.findClass own = some m.cls := (hS.1.alike.findClass _ _).trans hown
  have hZ' : Z.Warmed39 (s.setVm vm0).vm := hZ
  obtain ⟨T', X', e', st'⟩ := RoadKit.getF X hx hZ' hown' (Or.inr w) via eT F (g := mkF m pc ls.toArray (.ref a :: st)) rfl rfl (hb hc hd)
  exact ⟨hx, hown, hc, hml, hnm, hrt, hlk, hEL, hSA, hls, T', L, vm0, k0, X', e', hS, hk, hZ, hG, hF, hMo, hst.trans (st' _ (Steps.refl _))⟩
theorem Wk.getS {R0 O : String} {index : Nat} (A : Wk l Z a0 EL own code ml nm rt R D pc ls st H k n) (w : (Jvm.Cond.fieldLink own index R0 nn d).before a0 Z = true) (F : Sta Z Z.heap O nn d v) (hd : decode code pc = .ok (.getstatic index, 3)) (via : Via Z R0 O nn d := by exact Via.refl) :
    Wk l Z a0 EL own code ml nm rt R D (pc + 3) ls (v :: st) H k n := by
  obtain ⟨p, e, s, m, args, below, meth, c, s0, H0⟩ := D
  obtain ⟨hx, hown, hc, hml, hnm, hrt, hlk, hEL, hSA, hls, T, L, vm0, k0, X, eT, hS, hk, hZ, hG, hF, hMo, hst⟩ := A
  dsimp only at hx hown hc hml hnm hrt hlk X hS hMo hst
  have hown' : (s.setVm vm0).vm.findClass own = some m.cls := (hS.1.alike.findClass _ _).trans hown
  have hZ' : Z.Warmed39 (s.setVm vm0).vm := hZ
  obtain ⟨T', X', e', st'⟩ := RoadKit.getS (host := "") X hx hZ' hown' w via eT (F.ext hG.1) (g := mkF m pc ls.toArray st) rfl (hb hc hd)
  exact ⟨hx, hown, hc, hml, hnm, hrt, hlk, hEL, hSA, hls, T', L, vm0, k0, X', e', hS, hk, hZ, hG, hF, hMo, hst.trans (st' _ (Steps.refl _))⟩
theorem Wk.putF {R0 O : String} {index kk : Nat} {old : Value} (A : Wk l Z a0 EL own code ml nm rt R D pc ls (v :: .ref a :: st) H k n) (w : (Jvm.Cond.fieldLink own index R0 nn d).before a0 Z = true) (F : Fld Z H.1 a O nn d old) (E : Exa Z H.1 a C) (wl : (Jvm.Cond.lays C O nn d).before a0 Z = true) (wi : (Jvm.Cond.instantiable C kk).before a0 Z = true) (o : H.2 a) (hd : decode code pc = .ok (.putfield index, 3)) (hty : parseFieldDescriptor d = some ty) (hn : narrow ty v = v) (hf : fits ty v = true) (via : Via Z R0 O nn d := by exact Via.refl) :
    ∃ H' : HP, Wk l Z a0 EL own code ml nm rt R D (pc + 3) ls st H' k n ∧ Kp H H' [a] ∧ Wr H.1 H'.1 a (Jvm.RoadKit.slotOf Z O nn d) v := by
  obtain ⟨p, e, s, m, args, below, meth, c, s0, H0⟩ := D
  obtain ⟨hx, hown, hc, hml, hnm, hrt, hlk, hEL, hSA, hls, T, L, vm0, k0, X, eT, hS, hk, hZ, hG, hF, hMo, hst⟩ := A
  dsimp only at hx hown hc hml hnm hrt hlk X hS hMo hst
  have hown' : (s.setVm vm0).vm.findClass own = some m.cls := (hS.1.alike.findClass _ _).trans hown
  have hZ' : Z.Warmed39 (s.setVm vm0).vm := hZ
  obtain ⟨T', h', X', e', Wr1, st'⟩ := RoadKit.putF (host := "") X hx hZ' hown' (Or.inl w) via eT F E (Or.inl wl) wi hty hn hf (g := mkF m pc ls.toArray (v :: .ref a :: st)) rfl rfl (hb hc hd)
  have o2 := hG.2.1 a o
  refine ⟨(h', H.2), ⟨hx, hown, hc, hml, hnm, hrt, hlk, hEL, hSA, hls, T', (L ++ [_]), vm0, k0, X', e', hS, (by show _ ≤ h'.size; rw [Wr1.size]; exact hk), hZ, (hG.wr Wr1 o), (hF.app fun y hy => by cases List.mem_singleton.mp hy; exact o2.1), ⟨hMo.1, by show _ ≤ h'.size; rw [Wr1.size]; exact hMo.2⟩, hst.trans (st' _ (Steps.refl _))⟩, ⟨Keep.of_wr Wr1, fun _ q => q⟩, Wr1⟩
theorem Wk.putFin {R0 O : String} {index kk : Nat} {old : Value} (A : Wk l Z a0 EL own code ml nm rt R D pc ls (v :: .ref a :: st) H k n) (w : (Jvm.Cond.fieldLink own index R0 nn d).before a0 Z = true) (F : Fld Z H.1 a O nn d old) (E : Exa Z H.1 a C) (wl : (Jvm.Cond.laysFinal C O nn d).before a0 Z = true) (ho : own = O) (hi : nm = "<init>") (wi : (Jvm.Cond.instantiable C kk).before a0 Z = true) (o : H.2 a) (hd : decode code pc = .ok (.putfield index, 3)) (hty : parseFieldDescriptor d = some ty) (hn : narrow ty v = v) (hf : fits ty v = true) (via : Via Z R0 O nn d := by exact Via.refl) :
    ∃ H' : HP, Wk l Z a0 EL own code ml nm rt R D (pc + 3) ls st H' k n ∧ Kp H H' [a] ∧ Wr H.1 H'.1 a (Jvm.RoadKit.slotOf Z O nn d) v := by
  obtain ⟨p, e, s, m, args, below, meth, c, s0, H0⟩ := D
  obtain ⟨hx, hown, hc, hml, hnm, hrt, hlk, hEL, hSA, hls, T, L, vm0, k0, X, eT, hS, hk, hZ, hG, hF, hMo, hst⟩ := A
  dsimp only at hx hown hc hml hnm hrt hlk X hS hMo hst
  have hown' : (s.setVm vm0).vm.findClass own = some m.cls := (hS.1.alike.findClass _ _).trans hown
  have hZ' : Z.Warmed39 (s.setVm vm0).vm := hZ
  obtain ⟨T', h', X', e', Wr1, st'⟩ := RoadKit.putF (host := "") X hx hZ' hown' (Or.inl w) via eT F E (Or.inr ⟨wl, ho, hnm.trans hi⟩) wi hty hn hf (g := mkF m pc ls.toArray (v :: .ref a :: st)) rfl rfl (hb hc hd)
  have o2 := hG.2.1 a o
  refine ⟨(h', H.2), ⟨hx, hown, hc, hml, hnm, hrt, hlk, hEL, hSA, hls, T', (L ++ [_]), vm0, k0, X', e', hS, (by show _ ≤ h'.size; rw [Wr1.size]; exact hk), hZ, (hG.wr Wr1 o), (hF.app fun y hy => by cases List.mem_singleton.mp hy; exact o2.1), ⟨hMo.1, by show _ ≤ h'.size; rw [Wr1.size]; exact hMo.2⟩, hst.trans (st' _ (Steps.refl _))⟩, ⟨Keep.of_wr Wr1, fun _ q => q⟩, Wr1⟩
theorem Wk.newO {index q : Nat} (A : Wk l Z a0 EL own code ml nm rt R D pc ls st H k n) (w : (Jvm.Cond.classLink own index C).before a0 Z = true) (wi : (Jvm.Cond.instantiable C q).before a0 Z = true) (wz : (Jvm.Cond.initialized C).before a0 Z = true) (hd : decode code pc = .ok (.new index, 3)) (hcl : k + 1 ≤ R.cells) (hsl : n + q ≤ R.slots) :
    ∃ (a : Addr) (H' : HP), Wk l Z a0 EL own code ml nm rt R D (pc + 3) ls (.ref a :: st) H' (k + 1) (n + q) ∧ H.1.size ≤ a ∧ Kp H H' [] ∧ Exa Z H'.1 a C ∧ H'.2 a ∧ ∀ {O fn fd : String} {t : FieldType}, Laid Z a0 C O fn fd → parseFieldDescriptor fd = some t → Fld Z H'.1 a O fn fd (defaultValue t) := by
  obtain ⟨p, e, s, m, args, below, meth, c, s0, H0⟩ := D
  obtain ⟨hx, hown, hc, hml, hnm, hrt, hlk, hEL, hSA, hls, T, L, vm0, k0, X, eT, hS, hk, hZ, hG, hF, hMo, hst⟩ := A
  dsimp only at hx hown hc hml hnm hrt hlk X hS hMo hst
  have hown' : (s.setVm vm0).vm.findClass own = some m.cls := (hS.1.alike.findClass _ _).trans hown
  have hZ' : Z.Warmed39 (s.setVm vm0).vm := hZ
  obtain ⟨T', h', X', e', E, Ex, Fl, -, st'⟩ := RoadKit.newO X hx hZ' hown' w wi wz eT (g := mkF m pc ls.toArray st) rfl (hb hc hd) hcl hsl
  exact ⟨H.1.size, (h', fun y => H.2 y ∨ y = H.1.size), ⟨hx, hown, hc, hml, hnm, hrt, hlk, hEL, hSA, hls, T', L, vm0, k0, X', e', hS, (Nat.le_trans hk E.1), hZ, (hG.ext E Ex.lt), hF, ⟨fun x q => Or.inl (hMo.1 x q), Nat.le_trans hMo.2 E.1⟩, hst.trans (st' _ (Steps.refl _))⟩, Nat.le_refl _, ⟨(Keep.refl _ _).ext E, fun _ q => Or.inl q⟩, Ex, Or.inr rfl, Fl⟩
theorem Wk.newA {aty : ArrayType} {z : Int32} (A : Wk l Z a0 EL own code ml nm rt R D pc ls (.int z :: st) H k n) (w : (Jvm.Cond.arrayClass (newarray.typeOf aty)).before a0 Z = true) (hd : decode code pc = .ok (.newarray aty, 2)) {N : Nat} (hN : N.toInt32 = z) {cap : Nat} (hcap : N ≤ cap) (hbg : cap * 8 ≤ 536870912) (hcl : k + 1 ≤ R.cells) (hsl : n + cap ≤ R.slots) :
    ∃ (a : Addr) (H' : HP), Wk l Z a0 EL own code ml nm rt R D (pc + 2) ls (.ref a :: st) H' (k + 1) (n + cap) ∧ H.1.size ≤ a ∧ Kp H H' [] ∧ Ar Z H' a (newarray.typeOf aty) (List.replicate N (defaultValue (newarray.typeOf aty))) ∧ H'.2 a := by
  obtain ⟨p, e, s, m, args, below, meth, c, s0, H0⟩ := D
  obtain ⟨hx, hown, hc, hml, hnm, hrt, hlk, hEL, hSA, hls, T, L, vm0, k0, X, eT, hS, hk, hZ, hG, hF, hMo, hst⟩ := A
  dsimp only at hx hown hc hml hnm hrt hlk X hS hMo hst
  have hown' : (s.setVm vm0).vm.findClass own = some m.cls := (hS.1.alike.findClass _ _).trans hown
  have hZ' : Z.Warmed39 (s.setVm vm0).vm := hZ
  subst hN
  have hN2 : N < 2 ^ 31 := by omega
  obtain ⟨T', h', cA, X', e', E, Ex, st'⟩ := RoadKit.newP X hx hZ' w eT (g := mkF m pc ls.toArray (.int N.toInt32 :: st)) rfl (hb hc hd) rfl (nonneg_nat hN2) (cap := cap) (by rw [clamp_nat hN2]; exact hcap) hbg hcl hsl
  refine ⟨H.1.size, (h', fun y => H.2 y ∨ y = H.1.size), ⟨hx, hown, hc, hml, hnm, hrt, hlk, hEL, hSA, hls, T', L, vm0, k0, X', e', hS, (Nat.le_trans hk E.1), hZ, (hG.ext E Ex.lt), hF, ⟨fun x q => Or.inl (hMo.1 x q), Nat.le_trans hMo.2 E.1⟩, hst.trans (st' _ (Steps.refl _))⟩, Nat.le_refl _, ⟨(Keep.refl _ _).ext E, fun _ q => Or.inl q⟩, ⟨_, Ex, by simp [newA, clamp_nat hN2], by simpa using hN2, fun v hv => ?_⟩, Or.inr rfl⟩
  obtain ⟨-, rfl⟩ := List.mem_replicate.mp hv
  cases aty <;> rfl
theorem Wk.alen (A : Wk l Z a0 EL own code ml nm rt R D pc ls (.ref a :: st) H k n) (F : Ar Z H a ty vs) (hd : decode code pc = .ok (.arraylength, 1)) {z : Int32} (hz : vs.length.toInt32 = z) :
    Wk l Z a0 EL own code ml nm rt R D (pc + 1) ls (.int z :: st) H k n := by
  obtain ⟨p, e, s, m, args, below, meth, c, s0, H0⟩ := D
  obtain ⟨hx, hown, hc, hml, hnm, hrt, hlk, hEL, hSA, hls, T, L, vm0, k0, X, eT, hS, hk, hZ, hG, hF, hMo, hst⟩ := A
  dsimp only at hx hown hc hml hnm hrt hlk X hS hMo hst
  have hown' : (s.setVm vm0).vm.findClass own = some m.cls := (hS.1.alike.findClass _ _).trans hown
  have hZ' : Z.Warmed39 (s.setVm vm0).vm := hZ
  obtain ⟨cl, Aq, hsl, -, -⟩ := F
  have hsz : cl.slots.size = vs.length := by rw [hsl]; simp
  exact ⟨hx, hown, hc, hml, hnm, hrt, hlk, hEL, hSA, hls, T, L, vm0, k0, X, eT, hS, hk, hZ, hG, hF, hMo, hst.trans (X.arraylength hx (by rw [eT]; exact Aq.1) (State.isArrayOf_alike hZ'.alike Aq.2.1) (g := mkF m pc ls.toArray (.ref a :: st)) rfl rfl (hb hc hd) _ (by rw [hsz, hz]; exact Steps.refl _))⟩
theorem Wk.caload {i : Nat} {j : Int32} (A : Wk l Z a0 EL own code ml nm rt R D pc ls (.int j :: .ref a :: st) H k n) (F : Ar Z H a .char vs) (hd : decode code pc = .ok (.caload, 1)) (hj : i.toInt32 = j) (hv : vs[i]? = some v) :
    Wk l Z a0 EL own code ml nm rt R D (pc + 1) ls (v :: st) H k n := by
  obtain ⟨p, e, s, m, args, below, meth, c, s0, H0⟩ := D
  obtain ⟨hx, hown, hc, hml, hnm, hrt, hlk, hEL, hSA, hls, T, L, vm0, k0, X, eT, hS, hk, hZ, hG, hF, hMo, hst⟩ := A
  dsimp only at hx hown hc hml hnm hrt hlk X hS hMo hst
  have hown' : (s.setVm vm0).vm.findClass own = some m.cls := (hS.1.alike.findClass _ _).trans hown
  have hZ' : Z.Warmed39 (s.setVm vm0).vm := hZ
  subst hj
  obtain ⟨cl, Aq, hsl, hlen, -⟩ := F
  have hi : i < vs.length := (List.getElem?_eq_some_iff.mp hv).1
  have hsz : cl.slots.size = vs.length := by rw [hsl]; simp
  exact ⟨hx, hown, hc, hml, hnm, hrt, hlk, hEL, hSA, hls, T, L, vm0, k0, X, eT, hS, hk, hZ, hG, hF, hMo, hst.trans (X.caload hx (by rw [eT]; exact Aq.1) (State.isArrayOf_alike hZ'.alike Aq.2.1) Aq.2.2 (by rw [hsz]; exact idx_in hi hlen) (by rw [clamp_nat (Nat.lt_trans hi hlen), hsl]; simpa using hv) (g := mkF m pc ls.toArray (.int i.toInt32 :: .ref a :: st)) rfl rfl (hb hc hd) _ (Steps.refl _))⟩
theorem Wk.baload {i : Nat} {j : Int32} (A : Wk l Z a0 EL own code ml nm rt R D pc ls (.int j :: .ref a :: st) H k n) (F : Ar Z H a .byte vs) (hd : decode code pc = .ok (.baload, 1)) (hj : i.toInt32 = j) (hv : vs[i]? = some v) :
    Wk l Z a0 EL own code ml nm rt R D (pc + 1) ls (v :: st) H k n := by
  obtain ⟨p, e, s, m, args, below, meth, c, s0, H0⟩ := D
  obtain ⟨hx, hown, hc, hml, hnm, hrt, hlk, hEL, hSA, hls, T, L, vm0, k0, X, eT, hS, hk, hZ, hG, hF, hMo, hst⟩ := A
  dsimp only at hx hown hc hml hnm hrt hlk X hS hMo hst
  have hown' : (s.setVm vm0).vm.findClass own = some m.cls := (hS.1.alike.findClass _ _).trans hown
  have hZ' : Z.Warmed39 (s.setVm vm0).vm := hZ
  subst hj
  obtain ⟨cl, Aq, hsl, hlen, -⟩ := F
  have hi : i < vs.length := (List.getElem?_eq_some_iff.mp hv).1
  have hsz : cl.slots.size = vs.length := by rw [hsl]; simp
  exact ⟨hx, hown, hc, hml, hnm, hrt, hlk, hEL, hSA, hls, T, L, vm0, k0, X, eT, hS, hk, hZ, hG, hF, hMo, hst.trans (X.baloadBytes hx (by rw [eT]; exact Aq.1) (State.isArrayOf_alike hZ'.alike Aq.2.1) Aq.2.2 (by rw [hsz]; exact idx_in hi hlen) (by rw [clamp_nat (Nat.lt_trans hi hlen), hsl]; simpa using hv) (g := mkF m pc ls.toArray (.int i.toInt32 :: .ref a :: st)) rfl rfl (hb hc hd) _ (Steps.refl _))⟩
theorem Wk.zaload {i : Nat} {j : Int32} (A : Wk l Z a0 EL own code ml nm rt R D pc ls (.int j :: .ref a :: st) H k n) (F : Ar Z H a .boolean vs) (hd : decode code pc = .ok (.baload, 1)) (hj : i.toInt32 = j) (hv : vs[i]? = some v) :
    Wk l Z a0 EL own code ml nm rt R D (pc + 1) ls (v :: st) H k n := by
  obtain ⟨p, e, s, m, args, below, meth, c, s0, H0⟩ := D
  obtain ⟨hx, hown, hc, hml, hnm, hrt, hlk, hEL, hSA, hls, T, L, vm0, k0, X, eT, hS, hk, hZ, hG, hF, hMo, hst⟩ := A
  dsimp only at hx hown hc hml hnm hrt hlk X hS hMo hst
  have hown' : (s.setVm vm0).vm.findClass own = some m.cls := (hS.1.alike.findClass _ _).trans hown
  have hZ' : Z.Warmed39 (s.setVm vm0).vm := hZ
  subst hj
  obtain ⟨cl, Aq, hsl, hlen, -⟩ := F
  have hi : i < vs.length := (List.getElem?_eq_some_iff.mp hv).1
  have hsz : cl.slots.size = vs.length := by rw [hsl]; simp
  exact ⟨hx, hown, hc, hml, hnm, hrt, hlk, hEL, hSA, hls, T, L, vm0, k0, X, eT, hS, hk, hZ, hG, hF, hMo, hst.trans (X.baloadBooleans hx (by rw [eT]; exact Aq.1) (State.isArrayOf_alike hZ'.alike Aq.2.1) Aq.2.2 (by rw [hsz]; exact idx_in hi hlen) (by rw [clamp_nat (Nat.lt_trans hi hlen), hsl]; simpa using hv) (g := mkF m pc ls.toArray (.int i.toInt32 :: .ref a :: st)) rfl rfl (hb hc hd) _ (Steps.refl _))⟩
theorem Wk.iaload {i : Nat} {j : Int32} (A : Wk l Z a0 EL own code ml nm rt R D pc ls (.int j :: .ref a :: st) H k n) (F : Ar Z H a .int vs) (hd : decode code pc = .ok (.iaload, 1)) (hj : i.toInt32 = j) (hv : vs[i]? = some v) :
    Wk l Z a0 EL own code ml nm rt R D (pc + 1) ls (v :: st) H k n := by
  obtain ⟨p, e, s, m, args, below, meth, c, s0, H0⟩ := D
  obtain ⟨hx, hown, hc, hml, hnm, hrt, hlk, hEL, hSA, hls, T, L, vm0, k0, X, eT, hS, hk, hZ, hG, hF, hMo, hst⟩ := A
  dsimp only at hx hown hc hml hnm hrt hlk X hS hMo hst
  have hown' : (s.setVm vm0).vm.findClass own = some m.cls := (hS.1.alike.findClass _ _).trans hown
  have hZ' : Z.Warmed39 (s.setVm vm0).vm := hZ
  subst hj
  obtain ⟨cl, Aq, hsl, hlen, -⟩ := F
  have hi : i < vs.length := (List.getElem?_eq_some_iff.mp hv).1
  have hsz : cl.slots.size = vs.length := by rw [hsl]; simp
  exact ⟨hx, hown, hc, hml, hnm, hrt, hlk, hEL, hSA, hls, T, L, vm0, k0, X, eT, hS, hk, hZ, hG, hF, hMo, hst.trans (X.iaload hx (by rw [eT]; exact Aq.1) (State.isArrayOf_alike hZ'.alike Aq.2.1) Aq.2.2 (by rw [hsz]; exact idx_in hi hlen) (by rw [clamp_nat (Nat.lt_trans hi hlen), hsl]; simpa using hv) (g := mkF m pc ls.toArray (.int i.toInt32 :: .ref a :: st)) rfl rfl (hb hc hd) _ (Steps.refl _))⟩
theorem Wk.laload {i : Nat} {j : Int32} (A : Wk l Z a0 EL own code ml nm rt R D pc ls (.int j :: .ref a :: st) H k n) (F : Ar Z H a .long vs) (hd : decode code pc = .ok (.laload, 1)) (hj : i.toInt32 = j) (hv : vs[i]? = some v) :
    Wk l Z a0 EL own code ml nm rt R D (pc + 1) ls (v :: st) H k n := by
  obtain ⟨p, e, s, m, args, below, meth, c, s0, H0⟩ := D
  obtain ⟨hx, hown, hc, hml, hnm, hrt, hlk, hEL, hSA, hls, T, L, vm0, k0, X, eT, hS, hk, hZ, hG, hF, hMo, hst⟩ := A
  dsimp only at hx hown hc hml hnm hrt hlk X hS hMo hst
  have hown' : (s.setVm vm0).vm.findClass own = some m.cls := (hS.1.alike.findClass _ _).trans hown
  have hZ' : Z.Warmed39 (s.setVm vm0).vm := hZ
  subst hj
  obtain ⟨cl, Aq, hsl, hlen, -⟩ := F
  have hi : i < vs.length := (List.getElem?_eq_some_iff.mp hv).1
  have hsz : cl.slots.size = vs.length := by rw [hsl]; simp
  exact ⟨hx, hown, hc, hml, hnm, hrt, hlk, hEL, hSA, hls, T, L, vm0, k0, X, eT, hS, hk, hZ, hG, hF, hMo, hst.trans (X.laload hx (by rw [eT]; exact Aq.1) (State.isArrayOf_alike hZ'.alike Aq.2.1) Aq.2.2 (by rw [hsz]; exact idx_in hi hlen) (by rw [clamp_nat (Nat.lt_trans hi hlen), hsl]; simpa using hv) (g := mkF m pc ls.toArray (.int i.toInt32 :: .ref a :: st)) rfl rfl (hb hc hd) _ (Steps.refl _))⟩
theorem Wk.aaload {i : Nat} {j : Int32} (A : Wk l Z a0 EL own code ml nm rt R D pc ls (.int j :: .ref a :: st) H k n) (F : Ar Z H a ty vs) (hd : decode code pc = .ok (.aaload, 1)) (hj : i.toInt32 = j) (hv : vs[i]? = some v) (hty : ty.isReference = true) :
    Wk l Z a0 EL own code ml nm rt R D (pc + 1) ls (v :: st) H k n := by
  obtain ⟨p, e, s, m, args, below, meth, c, s0, H0⟩ := D
  obtain ⟨hx, hown, hc, hml, hnm, hrt, hlk, hEL, hSA, hls, T, L, vm0, k0, X, eT, hS, hk, hZ, hG, hF, hMo, hst⟩ := A
  dsimp only at hx hown hc hml hnm hrt hlk X hS hMo hst
  have hown' : (s.setVm vm0).vm.findClass own = some m.cls := (hS.1.alike.findClass _ _).trans hown
  have hZ' : Z.Warmed39 (s.setVm vm0).vm := hZ
  subst hj
  obtain ⟨cl, Aq, hsl, hlen, -⟩ := F
  have hi : i < vs.length := (List.getElem?_eq_some_iff.mp hv).1
  have hsz : cl.slots.size = vs.length := by rw [hsl]; simp
  exact ⟨hx, hown, hc, hml, hnm, hrt, hlk, hEL, hSA, hls, T, L, vm0, k0, X, eT, hS, hk, hZ, hG, hF, hMo, hst.trans (X.aaload hx (by rw [eT]; exact Aq.1) (State.isArrayOf_alike hZ'.alike Aq.2.1) hty Aq.2.2 (by rw [hsz]; exact idx_in hi hlen) (by rw [clamp_nat (Nat.lt_trans hi hlen), hsl]; simpa using hv) (g := mkF m pc ls.toArray (.int i.toInt32 :: .ref a :: st)) rfl rfl (hb hc hd) _ (Steps.refl _))⟩
theorem Wk.castore {i : Nat} {j : Int32} {x x2 : Int32} (A : Wk l Z a0 EL own code ml nm rt R D pc ls (.int x :: .int j :: .ref a :: st) H k n) (F : Ar Z H a .char vs) (o : H.2 a) (hd : decode code pc = .ok (.castore, 1)) (hj : i.toInt32 = j) (hi : i < vs.length) (hx2 : nar .char x = x2) :
    ∃ H' : HP, Wk l Z a0 EL own code ml nm rt R D (pc + 1) ls st H' k n ∧ Kp H H' [a] ∧ Ar Z H' a .char (vs.set i (.int x2)) := by
  obtain ⟨p, e, s, m, args, below, meth, c, s0, H0⟩ := D
  obtain ⟨hx, hown, hc, hml, hnm, hrt, hlk, hEL, hSA, hls, T, L, vm0, k0, X, eT, hS, hk, hZ, hG, hF, hMo, hst⟩ := A
  dsimp only at hx hown hc hml hnm hrt hlk X hS hMo hst
  have hown' : (s.setVm vm0).vm.findClass own = some m.cls := (hS.1.alike.findClass _ _).trans hown
  have hZ' : Z.Warmed39 (s.setVm vm0).vm := hZ
  subst hj
  obtain ⟨cl, Aq, hsl, hlen, hft⟩ := F
  have hsz : cl.slots.size = vs.length := by rw [hsl]; simp
  have hi2 : i < 2 ^ 31 := Nat.lt_trans hi hlen
  obtain ⟨T', h', X', e', Wr1, st'⟩ := stC X hx hZ' eT Aq (by rw [hsz]; exact idx_in hi hlen) (g := mkF m pc ls.toArray (.int x :: .int i.toInt32 :: .ref a :: st)) rfl rfl (hb hc hd)
  have o2 := hG.2.1 a o
  refine ⟨(h', H.2), ⟨hx, hown, hc, hml, hnm, hrt, hlk, hEL, hSA, hls, T', (L ++ [_]), vm0, k0, X', e', hS, (by show _ ≤ h'.size; rw [Wr1.size]; exact hk), hZ, (hG.wr Wr1 o), (hF.app fun y hy => by cases List.mem_singleton.mp hy; exact o2.1), ⟨hMo.1, by show _ ≤ h'.size; rw [Wr1.size]; exact hMo.2⟩, hst.trans (st' _ (Steps.refl _))⟩, ⟨Keep.of_wr Wr1, fun _ q => q⟩, ⟨_, Aq.same Wr1, ?_, by simpa using hlen, fun v hv => ?_⟩⟩
  · rw [clamp_nat hi2]; show cl.slots.setIfInBounds i _ = _; rw [hsl]; subst hx2; simp
  · rcases List.mem_or_eq_of_mem_set hv with q | rfl
    · exact hft v q
    · rw [← hx2]; exact fits_nar_char x
theorem Wk.bastore {i : Nat} {j : Int32} {x x2 : Int32} (A : Wk l Z a0 EL own code ml nm rt R D pc ls (.int x :: .int j :: .ref a :: st) H k n) (F : Ar Z H a .byte vs) (o : H.2 a) (hd : decode code pc = .ok (.bastore, 1)) (hj : i.toInt32 = j) (hi : i < vs.length) (hx2 : nar .byte x = x2) :
    ∃ H' : HP, Wk l Z a0 EL own code ml nm rt R D (pc + 1) ls st H' k n ∧ Kp H H' [a] ∧ Ar Z H' a .byte (vs.set i (.int x2)) := by
  obtain ⟨p, e, s, m, args, below, meth, c, s0, H0⟩ := D
  obtain ⟨hx, hown, hc, hml, hnm, hrt, hlk, hEL, hSA, hls, T, L, vm0, k0, X, eT, hS, hk, hZ, hG, hF, hMo, hst⟩ := A
  dsimp only at hx hown hc hml hnm hrt hlk X hS hMo hst
  have hown' : (s.setVm vm0).vm.findClass own = some m.cls := (hS.1.alike.findClass _ _).trans hown
  have hZ' : Z.Warmed39 (s.setVm vm0).vm := hZ
  subst hj
  obtain ⟨cl, Aq, hsl, hlen, hft⟩ := F
  have hsz : cl.slots.size = vs.length := by rw [hsl]; simp
  have hi2 : i < 2 ^ 31 := Nat.lt_trans hi hlen
  obtain ⟨T', h', X', e', Wr1, st'⟩ := stB X hx hZ' eT Aq (by rw [hsz]; exact idx_in hi hlen) (g := mkF m pc ls.toArray (.int x :: .int i.toInt32 :: .ref a :: st)) rfl rfl (hb hc hd)
  have o2 := hG.2.1 a o
  refine ⟨(h', H.2), ⟨hx, hown, hc, hml, hnm, hrt, hlk, hEL, hSA, hls, T', (L ++ [_]), vm0, k0, X', e', hS, (by show _ ≤ h'.size; rw [Wr1.size]; exact hk), hZ, (hG.wr Wr1 o), (hF.app fun y hy => by cases List.mem_singleton.mp hy; exact o2.1), ⟨hMo.1, by show _ ≤ h'.size; rw [Wr1.size]; exact hMo.2⟩, hst.trans (st' _ (Steps.refl _))⟩, ⟨Keep.of_wr Wr1, fun _ q => q⟩, ⟨_, Aq.same Wr1, ?_, by simpa using hlen, fun v hv => ?_⟩⟩
  · rw [clamp_nat hi2]; show cl.slots.setIfInBounds i _ = _; rw [hsl]; subst hx2; simp
  · rcases List.mem_or_eq_of_mem_set hv with q | rfl
    · exact hft v q
    · rw [← hx2]; exact fits_nar_byte x
theorem Wk.zastore {i : Nat} {j : Int32} {x x2 : Int32} (A : Wk l Z a0 EL own code ml nm rt R D pc ls (.int x :: .int j :: .ref a :: st) H k n) (F : Ar Z H a .boolean vs) (o : H.2 a) (hd : decode code pc = .ok (.bastore, 1)) (hj : i.toInt32 = j) (hi : i < vs.length) (hx2 : nar .boolean x = x2) :
    ∃ H' : HP, Wk l Z a0 EL own code ml nm rt R D (pc + 1) ls st H' k n ∧ Kp H H' [a] ∧ Ar Z H' a .boolean (vs.set i (.int x2)) := by
  obtain ⟨p, e, s, m, args, below, meth, c, s0, H0⟩ := D
  obtain ⟨hx, hown, hc, hml, hnm, hrt, hlk, hEL, hSA, hls, T, L, vm0, k0, X, eT, hS, hk, hZ, hG, hF, hMo, hst⟩ := A
  dsimp only at hx hown hc hml hnm hrt hlk X hS hMo hst
  have hown' : (s.setVm vm0).vm.findClass own = some m.cls := (hS.1.alike.findClass _ _).trans hown
  have hZ' : Z.Warmed39 (s.setVm vm0).vm := hZ
  subst hj
  obtain ⟨cl, Aq, hsl, hlen, hft⟩ := F
  have hsz : cl.slots.size = vs.length := by rw [hsl]; simp
  have hi2 : i < 2 ^ 31 := Nat.lt_trans hi hlen
  obtain ⟨T', h', X', e', Wr1, st'⟩ := stZ X hx hZ' eT Aq (by rw [hsz]; exact idx_in hi hlen) (g := mkF m pc ls.toArray (.int x :: .int i.toInt32 :: .ref a :: st)) rfl rfl (hb hc hd)
  have o2 := hG.2.1 a o
  refine ⟨(h', H.2), ⟨hx, hown, hc, hml, hnm, hrt, hlk, hEL, hSA, hls, T', (L ++ [_]), vm0, k0, X', e', hS, (by show _ ≤ h'.size; rw [Wr1.size]; exact hk), hZ, (hG.wr Wr1 o), (hF.app fun y hy => by cases List.mem_singleton.mp hy; exact o2.1), ⟨hMo.1, by show _ ≤ h'.size; rw [Wr1.size]; exact hMo.2⟩, hst.trans (st' _ (Steps.refl _))⟩, ⟨Keep.of_wr Wr1, fun _ q => q⟩, ⟨_, Aq.same Wr1, ?_, by simpa using hlen, fun v hv => ?_⟩⟩
  · rw [clamp_nat hi2]; show cl.slots.setIfInBounds i _ = _; rw [hsl]; subst hx2; simp
  · rcases List.mem_or_eq_of_mem_set hv with q | rfl
    · exact hft v q
    · rw [← hx2]; exact fits_nar_bool x
theorem Wk.iastore {i : Nat} {j : Int32} {x : Int32} (A : Wk l Z a0 EL own code ml nm rt R D pc ls (.int x :: .int j :: .ref a :: st) H k n) (F : Ar Z H a .int vs) (o : H.2 a) (hd : decode code pc = .ok (.iastore, 1)) (hj : i.toInt32 = j) (hi : i < vs.length) :
    ∃ H' : HP, Wk l Z a0 EL own code ml nm rt R D (pc + 1) ls st H' k n ∧ Kp H H' [a] ∧ Ar Z H' a .int (vs.set i (.int x)) := by
  obtain ⟨p, e, s, m, args, below, meth, c, s0, H0⟩ := D
  obtain ⟨hx, hown, hc, hml, hnm, hrt, hlk, hEL, hSA, hls, T, L, vm0, k0, X, eT, hS, hk, hZ, hG, hF, hMo, hst⟩ := A
  dsimp only at hx hown hc hml hnm hrt hlk X hS hMo hst
  have hown' : (s.setVm vm0).vm.findClass own = some m.cls := (hS.1.alike.findClass _ _).trans hown
  have hZ' : Z.Warmed39 (s.setVm vm0).vm := hZ
  subst hj
  obtain ⟨cl, Aq, hsl, hlen, hft⟩ := F
  have hsz : cl.slots.size = vs.length := by rw [hsl]; simp
  have hi2 : i < 2 ^ 31 := Nat.lt_trans hi hlen
  obtain ⟨T', h', X', e', Wr1, st'⟩ := stI X hx hZ' eT Aq (by rw [hsz]; exact idx_in hi hlen) (g := mkF m pc ls.toArray (.int x :: .int i.toInt32 :: .ref a :: st)) rfl rfl (hb hc hd)
  have o2 := hG.2.1 a o
  refine ⟨(h', H.2), ⟨hx, hown, hc, hml, hnm, hrt, hlk, hEL, hSA, hls, T', (L ++ [_]), vm0, k0, X', e', hS, (by show _ ≤ h'.size; rw [Wr1.size]; exact hk), hZ, (hG.wr Wr1 o), (hF.app fun y hy => by cases List.mem_singleton.mp hy; exact o2.1), ⟨hMo.1, by show _ ≤ h'.size; rw [Wr1.size]; exact hMo.2⟩, hst.trans (st' _ (Steps.refl _))⟩, ⟨Keep.of_wr Wr1, fun _ q => q⟩, ⟨_, Aq.same Wr1, ?_, by simpa using hlen, fun v hv => ?_⟩⟩
  · rw [clamp_nat hi2]; show cl.slots.setIfInBounds i _ = _; rw [hsl]; simp
  · rcases List.mem_or_eq_of_mem_set hv with q | rfl
    · exact hft v q
    · rfl
theorem Wk.lastore {i : Nat} {j : Int32} {x : Int64} (A : Wk l Z a0 EL own code ml nm rt R D pc ls (.long x :: .int j :: .ref a :: st) H k n) (F : Ar Z H a .long vs) (o : H.2 a) (hd : decode code pc = .ok (.lastore, 1)) (hj : i.toInt32 = j) (hi : i < vs.length) :
    ∃ H' : HP, Wk l Z a0 EL own code ml nm rt R D (pc + 1) ls st H' k n ∧ Kp H H' [a] ∧ Ar Z H' a .long (vs.set i (.long x)) := by
  obtain ⟨p, e, s, m, args, below, meth, c, s0, H0⟩ := D
  obtain ⟨hx, hown, hc, hml, hnm, hrt, hlk, hEL, hSA, hls, T, L, vm0, k0, X, eT, hS, hk, hZ, hG, hF, hMo, hst⟩ := A
  dsimp only at hx hown hc hml hnm hrt hlk X hS hMo hst
  have hown' : (s.setVm vm0).vm.findClass own = some m.cls := (hS.1.alike.findClass _ _).trans hown
  have hZ' : Z.Warmed39 (s.setVm vm0).vm := hZ
  subst hj
  obtain ⟨cl, Aq, hsl, hlen, hft⟩ := F
  have hsz : cl.slots.size = vs.length := by rw [hsl]; simp
  have hi2 : i < 2 ^ 31 := Nat.lt_trans hi hlen
  obtain ⟨T', h', X', e', Wr1, st'⟩ := stJ X hx hZ' eT Aq (by rw [hsz]; exact idx_in hi hlen) (g := mkF m pc ls.toArray (.long x :: .int i.toInt32 :: .ref a :: st)) rfl rfl (hb hc hd)
  have o2 := hG.2.1 a o
  refine ⟨(h', H.2), ⟨hx, hown, hc, hml, hnm, hrt, hlk, hEL, hSA, hls, T', (L ++ [_]), vm0, k0, X', e', hS, (by show _ ≤ h'.size; rw [Wr1.size]; exact hk), hZ, (hG.wr Wr1 o), (hF.app fun y hy => by cases List.mem_singleton.mp hy; exact o2.1), ⟨hMo.1, by show _ ≤ h'.size; rw [Wr1.size]; exact hMo.2⟩, hst.trans (st' _ (Steps.refl _))⟩, ⟨Keep.of_wr Wr1, fun _ q => q⟩, ⟨_, Aq.same Wr1, ?_, by simpa using hlen, fun v hv => ?_⟩⟩
  · rw [clamp_nat hi2]; show cl.slots.setIfInBounds i _ = _; rw [hsl]; simp
  · rcases List.mem_or_eq_of_mem_set hv with q | rfl
    · exact hft v q
    · rfl
theorem Wk.initO {idx Wd : Nat} (A : Wk l Z a0 EL own code ml nm rt R D pc ls (.ref a :: st) H k n) (w1 : (Jvm.Cond.methodLink own idx Lib.objectInit).before a0 Z = true) (w2 : (Jvm.Cond.instanceMethod Lib.objectInit).before a0 Z = true) (w3 : (Jvm.Cond.code Lib.objectInit ⟨#[0xb1]⟩ 1 none).before a0 Z = true) (hd : decode code pc = .ok (.invokespecial idx, 3)) (hf : 1 ≤ R.frames) (hW : (st.map fun v => v.category).sum ≤ Wd) (hlo : Wd + 12 ≤ R.locals) :
    Wk l Z a0 EL own code ml nm rt R D (pc + 3) ls st H k n := by
  obtain ⟨p, e, s, m, args, below, meth, c, s0, H0⟩ := D
  obtain ⟨hx, hown, hc, hml, hnm, hrt, hlk, hEL, hSA, hls, T, L, vm0, k0, X, eT, hS, hk, hZ, hG, hF, hMo, hst⟩ := A
  dsimp only at hx hown hc hml hnm hrt hlk X hS hMo hst
  have hown' : (s.setVm vm0).vm.findClass own = some m.cls := (hS.1.alike.findClass _ _).trans hown
  have hZ' : Z.Warmed39 (s.setVm vm0).vm := hZ
  obtain ⟨T', X', e', st'⟩ := RoadKit.initO X hx hZ' hown' w1 w2 w3 eT (g := mkF m pc ls.toArray (.ref a :: st)) rfl (by simp [hls, hml]) rfl (hb hc hd) hf (W := Wd) (by simpa using hW) hlo
  exact ⟨hx, hown, hc, hml, hnm, hrt, hlk, hEL, hSA, hls, T', L, vm0, k0, X', e', hS, hk, hZ, hG, hF, hMo, hst.trans (st' _ (Steps.refl _))⟩
theorem Wk.instY {K : String} {index : Nat} (A : Wk l Z a0 EL own code ml nm rt R D pc ls (.ref a :: st) H k n) (w : (Jvm.Cond.classLink own index K).before a0 Z = true) (F : Ins Z H.1 a K true) (hd : decode code pc = .ok (.instanceof index, 3)) :
    Wk l Z a0 EL own code ml nm rt R D (pc + 3) ls (.int 1 :: st) H k n := by
  obtain ⟨p, e, s, m, args, below, meth, c, s0, H0⟩ := D
  obtain ⟨hx, hown, hc, hml, hnm, hrt, hlk, hEL, hSA, hls, T, L, vm0, k0, X, eT, hS, hk, hZ, hG, hF, hMo, hst⟩ := A
  dsimp only at hx hown hc hml hnm hrt hlk X hS hMo hst
  have hown' : (s.setVm vm0).vm.findClass own = some m.cls := (hS.1.alike.findClass _ _).trans hown
  have hZ' : Z.Warmed39 (s.setVm vm0).vm := hZ
  obtain ⟨T', X', e', st'⟩ := RoadKit.instY X hx hZ' hown' w eT F (g := mkF m pc ls.toArray (.ref a :: st)) rfl rfl (hb hc hd)
  exact ⟨hx, hown, hc, hml, hnm, hrt, hlk, hEL, hSA, hls, T', L, vm0, k0, X', e', hS, hk, hZ, hG, hF, hMo, hst.trans (st' _ (Steps.refl _))⟩
theorem Wk.instN {K : String} {index : Nat} (A : Wk l Z a0 EL own code ml nm rt R D pc ls (.ref a :: st) H k n) (w : (Jvm.Cond.classLink own index K).before a0 Z = true) (E : Exa Z H.1 a C) (F : ∃ c t, Z.vm.findClass C = some c ∧ Z.vm.findClass K = some t ∧ Z.vm.assignable c t = false) (hd : decode code pc = .ok (.instanceof index, 3)) :
    Wk l Z a0 EL own code ml nm rt R D (pc + 3) ls (.int 0 :: st) H k n := by
  obtain ⟨p, e, s, m, args, below, meth, c, s0, H0⟩ := D
  obtain ⟨hx, hown, hc, hml, hnm, hrt, hlk, hEL, hSA, hls, T, L, vm0, k0, X, eT, hS, hk, hZ, hG, hF, hMo, hst⟩ := A
  dsimp only at hx hown hc hml hnm hrt hlk X hS hMo hst
  have hown' : (s.setVm vm0).vm.findClass own = some m.cls := (hS.1.alike.findClass _ _).trans hown
  have hZ' : Z.Warmed39 (s.setVm vm0).vm := hZ
  obtain ⟨T', X', e', st'⟩ := RoadKit.instNo X hx hZ' hown' w eT E F (g := mkF m pc ls.toArray (.ref a :: st)) rfl rfl (hb hc hd)
  exact ⟨hx, hown, hc, hml, hnm, hrt, hlk, hEL, hSA, hls, T', L, vm0, k0, X', e', hS, hk, hZ, hG, hF, hMo, hst.trans (st' _ (Steps.refl _))⟩
theorem Wk.castY {K : String} {index : Nat} (A : Wk l Z a0 EL own code ml nm rt R D pc ls (.ref a :: st) H k n) (w : (Jvm.Cond.classLink own index K).before a0 Z = true) (F : Ins Z H.1 a K true) (hd : decode code pc = .ok (.checkcast index, 3)) :
    Wk l Z a0 EL own code ml nm rt R D (pc + 3) ls (.ref a :: st) H k n := by
  obtain ⟨p, e, s, m, args, below, meth, c, s0, H0⟩ := D
  obtain ⟨hx, hown, hc, hml, hnm, hrt, hlk, hEL, hSA, hls, T, L, vm0, k0, X, eT, hS, hk, hZ, hG, hF, hMo, hst⟩ := A
  dsimp only at hx hown hc hml hnm hrt hlk X hS hMo hst
  have hown' : (s.setVm vm0).vm.findClass own = some m.cls := (hS.1.alike.findClass _ _).trans hown
  have hZ' : Z.Warmed39 (s.setVm vm0).vm := hZ
  obtain ⟨T', X', e', st'⟩ := RoadKit.castY X hx hZ' hown' w eT F (g := mkF m pc ls.toArray (.ref a :: st)) rfl rfl (hb hc hd)
  exact ⟨hx, hown, hc, hml, hnm, hrt, hlk, hEL, hSA, hls, T', L, vm0, k0, X', e', hS, hk, hZ, hG, hF, hMo, hst.trans (st' _ (Steps.refl _))⟩
theorem Wk.instNull {index : Nat} (A : Wk l Z a0 EL own code ml nm rt R D pc ls (.null :: st) H k n) (hd : decode code pc = .ok (.instanceof index, 3)) :
    Wk l Z a0 EL own code ml nm rt R D (pc + 3) ls (.int 0 :: st) H k n := by
  obtain ⟨p, e, s, m, args, below, meth, c, s0, H0⟩ := D
  obtain ⟨hx, hown, hc, hml, hnm, hrt, hlk, hEL, hSA, hls, T, L, vm0, k0, X, eT, hS, hk, hZ, hG, hF, hMo, hst⟩ := A
  dsimp only at hx hown hc hml hnm hrt hlk X hS hMo hst
  have hown' : (s.setVm vm0).vm.findClass own = some m.cls := (hS.1.alike.findClass _ _).trans hown
  have hZ' : Z.Warmed39 (s.setVm vm0).vm := hZ
  exact ⟨hx, hown, hc, hml, hnm, hrt, hlk, hEL, hSA, hls, T, L, vm0, k0, X, eT, hS, hk, hZ, hG, hF, hMo, hst.trans (X.instanceofNull hx (g := mkF m pc ls.toArray (.null :: st)) rfl rfl (hb hc hd) _ (Steps.refl _))⟩
theorem Wk.castNull {index : Nat} (A : Wk l Z a0 EL own code ml nm rt R D pc ls (.null :: st) H k n) (hd : decode code pc = .ok (.checkcast index, 3)) :
    Wk l Z a0 EL own code ml nm rt R D (pc + 3) ls (.null :: st) H k n := by
  obtain ⟨p, e, s, m, args, below, meth, c, s0, H0⟩ := D
  obtain ⟨hx, hown, hc, hml, hnm, hrt, hlk, hEL, hSA, hls, T, L, vm0, k0, X, eT, hS, hk, hZ, hG, hF, hMo, hst⟩ := A
  dsimp only at hx hown hc hml hnm hrt hlk X hS hMo hst
  have hown' : (s.setVm vm0).vm.findClass own = some m.cls := (hS.1.alike.findClass _ _).trans hown
  have hZ' : Z.Warmed39 (s.setVm vm0).vm := hZ
  exact ⟨hx, hown, hc, hml, hnm, hrt, hlk, hEL, hSA, hls, T, L, vm0, k0, X, eT, hS, hk, hZ, hG, hF, hMo, hst.trans (X.checkcastNull hx (g := mkF m pc ls.toArray (.null :: st)) rfl rfl (hb hc hd) _ (Steps.refl _))⟩
theorem no_asg {K : String} {q : Nat} (w : (Jvm.Cond.superclass C "java/lang/Object").before a0 Z = true) (w2 : (Jvm.Cond.noSuperclass "java/lang/Object").before a0 Z = true) (wi : (Jvm.Cond.instantiable K q).before a0 Z = true) (h1 : C ≠ K) (h2 : "java/lang/Object" ≠ K) : ∃ c t, Z.vm.findClass C = some c ∧ Z.vm.findClass K = some t ∧ Z.vm.assignable c t = false := by
  obtain ⟨co, ko, o1, o2, o3, -, -⟩ := Cond.noSuperclass_spec w2
  obtain ⟨t, kt, g0, g2, g5, g7, -⟩ := Cond.instantiable_spec wi
  obtain ⟨c, h0⟩ := found_sup w
  obtain ⟨p, k, kp, p1, p2, p3, p4, p5, -, -⟩ := Cond.superclass_spec h0 w
  cases o1.symm.trans p1
  have ne := ids_ne h0 g0 h1
  have ne2 := ids_ne o1 g0 h2
  have g8 : kt.isInterface = false := by cases hq : kt.isInterface <;> simp [hq] at g7 ⊢
  have n3 : ∀ fuel, Z.vm.isSubclassAux fuel co t = false := fun fuel => by
    cases fuel with
    | zero => rfl
    | succ f => simp [Vm.isSubclassAux, ne2, o2, o3]
  have n4 : ∀ fuel, Z.vm.isSubclassAux fuel c t = false := fun fuel => by
    cases fuel with
    | zero => rfl
    | succ f => simp [Vm.isSubclassAux, ne, p2, p4, n3]
  refine ⟨c, t, h0, g0, ?_⟩
  show Z.vm.assignableAux (255 + 1) c t = false
  simp [Vm.assignableAux, ne, p2, g2, p5, g5, g8, Vm.isSubclass, n4]
theorem Wk.ldcI {index : Nat} {x : Int32} (A : Wk l Z a0 EL own code ml nm rt R D pc ls st H k n) (w : (Jvm.Cond.constant own index x).before a0 Z = true) (hd : decode code pc = .ok (.ldc index, 2)) :
    Wk l Z a0 EL own code ml nm rt R D (pc + 2) ls (.int x :: st) H k n := by
  obtain ⟨p, e, s, m, args, below, meth, c, s0, H0⟩ := D
  obtain ⟨hx, hown, hc, hml, hnm, hrt, hlk, hEL, hSA, hls, T, L, vm0, k0, X, eT, hS, hk, hZ, hG, hF, hMo, hst⟩ := A
  dsimp only at hx hown hc hml hnm hrt hlk X hS hMo hst
  have hown' : (s.setVm vm0).vm.findClass own = some m.cls := (hS.1.alike.findClass _ _).trans hown
  have hZ' : Z.Warmed39 (s.setVm vm0).vm := hZ
  exact ⟨hx, hown, hc, hml, hnm, hrt, hlk, hEL, hSA, hls, T, L, vm0, k0, X, eT, hS, hk, hZ, hG, hF, hMo, hst.trans (X.ldcI hx hown' (mvT hZ' w) (g := mkF m pc ls.toArray st) rfl (hb hc hd) (Steps.refl _))⟩
theorem Wk.ldcJ {index : Nat} {x : Int64} (A : Wk l Z a0 EL own code ml nm rt R D pc ls st H k n) (w : (Jvm.Cond.constantLong own index x).before a0 Z = true) (hd : decode code pc = .ok (.ldc2_w index, 3)) :
    Wk l Z a0 EL own code ml nm rt R D (pc + 3) ls (.long x :: st) H k n := by
  obtain ⟨p, e, s, m, args, below, meth, c, s0, H0⟩ := D
  obtain ⟨hx, hown, hc, hml, hnm, hrt, hlk, hEL, hSA, hls, T, L, vm0, k0, X, eT, hS, hk, hZ, hG, hF, hMo, hst⟩ := A
  dsimp only at hx hown hc hml hnm hrt hlk X hS hMo hst
  have hown' : (s.setVm vm0).vm.findClass own = some m.cls := (hS.1.alike.findClass _ _).trans hown
  have hZ' : Z.Warmed39 (s.setVm vm0).vm := hZ
  exact ⟨hx, hown, hc, hml, hnm, hrt, hlk, hEL, hSA, hls, T, L, vm0, k0, X, eT, hS, hk, hZ, hG, hF, hMo, hst.trans (X.ldc2J hx hown' (mvT hZ' w) (g := mkF m pc ls.toArray st) rfl (hb hc hd) (Steps.refl _))⟩
theorem Wk.ldcS {index : Nat} {text : String} (A : Wk l Z a0 EL own code ml nm rt R D pc ls st H k n) (w : (Jvm.Cond.stringLink own index text).before a0 Z = true) (hmem : (own, index) ∈ EL) (ht : (∀ c ∈ text.toList, c.toNat < 256) ∧ text.toList.map (fun c => Value.int (Jvm.Lit.byteI c.toNat.toUInt16)) = vs) (hd : decode code pc = .ok (.ldc index, 2)) {z : Int32} (hz : ¬ z < 0) (hl : z.toNatClampNeg = vs.length) {q : Nat} (hq : 4 * text.toList.length ≤ q) (hbg : q ≤ 536870912) (hcl : k + 2 ≤ R.cells) (hsl : n + (q + 4) ≤ R.slots) :
    ∃ (a b : Addr) (H' : HP), Wk l Z a0 EL own code ml nm rt R D (pc + 2) ls (.ref a :: st) H' (k + 2) (n + (q + 4)) ∧ Kp H H' [] ∧ Exa Z H'.1 a "java/lang/String" ∧ Fld Z H'.1 a "java/lang/String" "coder" "B" (.int 0) ∧ Fld Z H'.1 a "java/lang/String" "value" "[B" (.ref b) ∧ Ar Z H' b .byte vs ∧ ∀ x, H'.2 x → x ≠ a ∧ x ≠ b := by
  obtain ⟨p, e, s, m, args, below, meth, c, s0, H0⟩ := D
  obtain ⟨hx, hown, hc, hml, hnm, hrt, hlk, hEL, hSA, hls, T, L, vm0, k0, X, eT, hS, hk, hZ, hG, hF, hMo, hst⟩ := A
  dsimp only at hx hown hc hml hnm hrt hlk X hS hMo hst
  have hown' : (s.setVm vm0).vm.findClass own = some m.cls := (hS.1.alike.findClass _ _).trans hown
  have hZ' : Z.Warmed39 (s.setVm vm0).vm := hZ
  obtain ⟨a, T', h', k1, b, kb, X', e', E, hS', hk', hZ2, hown2, F1, F2, F3, F4, -, -, hC, -, hne, st'⟩ := ldcCH X hx hZ hown' w hSA eT hS hk hEL hmem hG.2.2.1 ht hz hl (g := mkF m pc ls.toArray st) rfl (hb hc hd) hq hbg hcl hsl
  have hG' := hG.go hC E
  exact ⟨a, b, (h', H.2), ⟨hx, hown, hc, hml, hnm, hrt, hlk, hEL, hSA, hls, T', L, T'.vm, k1, X', e', hS', hk', hZ2, hG', hF, ⟨hMo.1, Nat.le_trans hMo.2 E.1⟩, hst.trans (st' _ (Steps.refl _))⟩, ⟨(Keep.refl _ _).ext E, fun _ q => q⟩, F1, F2, F3, Ar.of_arv (H := (h', H.2)) F4 hl, fun x hx' => hne x fun B => hG'.2.2.2 x B hx'⟩
theorem Wk.ldcSo {index : Nat} {text : String} (A : Wk l Z a0 EL own code ml nm rt R D pc ls st H k n) (w : (Jvm.Cond.stringLink own index text).before a0 Z = true) (hd : decode code pc = .ok (.ldc index, 2)) {q : Nat} (hq : 4 * text.toList.length ≤ q) (hbg : q ≤ 536870912) (hcl : k + 2 ≤ R.cells) (hsl : n + (q + 4) ≤ R.slots) :
    ∃ (a : Addr) (H' : HP), Wk l Z a0 EL own code ml nm rt R D (pc + 2) ls (.ref a :: st) H' (k + 2) (n + (q + 4)) ∧ Kp H H' [] := by
  obtain ⟨p, e, s, m, args, below, meth, c, s0, H0⟩ := D
  obtain ⟨hx, hown, hc, hml, hnm, hrt, hlk, hEL, hSA, hls, T, L, vm0, k0, X, eT, hS, hk, hZ, hG, hF, hMo, hst⟩ := A
  dsimp only at hx hown hc hml hnm hrt hlk X hS hMo hst
  have hown' : (s.setVm vm0).vm.findClass own = some m.cls := (hS.1.alike.findClass _ _).trans hown
  have hZ' : Z.Warmed39 (s.setVm vm0).vm := hZ
  obtain ⟨a, T', h', k1, X', e', E, hS', hk', hZ2, hown2, hC, -, st'⟩ := ldcOH X hx hZ hown' w hSA eT hS hk hEL hG.2.2.1 (g := mkF m pc ls.toArray st) rfl (hb hc hd) hq hbg hcl hsl
  exact ⟨a, (h', H.2), ⟨hx, hown, hc, hml, hnm, hrt, hlk, hEL, hSA, hls, T', L, T'.vm, k1, X', e', hS', hk', hZ2, (hG.go hC E), hF, ⟨hMo.1, Nat.le_trans hMo.2 E.1⟩, hst.trans (st' _ (Steps.refl _))⟩, ⟨(Keep.refl _ _).ext E, fun _ q => q⟩⟩
theorem Wk.more (A : Wk l Z a0 EL own code ml nm rt R D pc ls st H k n) {k' n' : Nat} (h1 : k ≤ k') (h2 : n ≤ n') :
    Wk l Z a0 EL own code ml nm rt R D pc ls st H k' n' := by
  obtain ⟨p, e, s, m, args, below, meth, c, s0, H0⟩ := D
  obtain ⟨hx, hown, hc, hml, hnm, hrt, hlk, hEL, hSA, hls, T, L, vm0, k0, X, eT, hS, hk, hZ, hG, hF, hMo, hst⟩ := A
  dsimp only at hx hown hc hml hnm hrt hlk X hS hMo hst
  have hown' : (s.setVm vm0).vm.findClass own = some m.cls := (hS.1.alike.findClass _ _).trans hown
  have hZ' : Z.Warmed39 (s.setVm vm0).vm := hZ
  exact ⟨hx, hown, hc, hml, hnm, hrt, hlk, hEL, hSA, hls, T, L, vm0, k0, (X.more h1 h2), eT, hS, hk, hZ, hG, hF, hMo, hst⟩
theorem Wk.ret  (A : Wk l Z a0 EL own code ml nm none R D pc ls st H k n) (hd : decode code pc = .ok (.return_, 1)) :
    Rt Z EL D none H k n := by
  obtain ⟨p, e, s, m, args, below, meth, c, s0, H0⟩ := D
  obtain ⟨hx, hown, hc, hml, hnm, hrt, hlk, hEL, hSA, hls, T, L, vm0, k0, X, eT, hS, hk, hZ, hG, hF, hMo, hst⟩ := A
  dsimp only at hx hown hc hml hnm hrt hlk X hS hMo hst
  have hown' : (s.setVm vm0).vm.findClass own = some m.cls := (hS.1.alike.findClass _ _).trans hown
  have hZ' : Z.Warmed39 (s.setVm vm0).vm := hZ
  obtain ⟨fs, hr, hrun, hended, hE⟩ := X.leaveW hS (by rw [eT]; exact hk) (v := none) (fun _ => rfl) hlk
  exact ⟨_, L, hst.trans (retV X hx hrt (hb hc hd) hr), hrun, hended, eT, hMo, (show GI Z EL T.vm H from hG.at X hZ hEL), hF, hE⟩
theorem Wk.retZ {x x2 : Int32} (A : Wk l Z a0 EL own code ml nm (some .boolean) R D pc ls (.int x :: st) H k n) (hd : decode code pc = .ok (.ireturn, 1)) (hx2 : nar .boolean x = x2) :
    Rt Z EL D (some (.int x2)) H k n := by
  obtain ⟨p, e, s, m, args, below, meth, c, s0, H0⟩ := D
  obtain ⟨hx, hown, hc, hml, hnm, hrt, hlk, hEL, hSA, hls, T, L, vm0, k0, X, eT, hS, hk, hZ, hG, hF, hMo, hst⟩ := A
  dsimp only at hx hown hc hml hnm hrt hlk X hS hMo hst
  have hown' : (s.setVm vm0).vm.findClass own = some m.cls := (hS.1.alike.findClass _ _).trans hown
  have hZ' : Z.Warmed39 (s.setVm vm0).vm := hZ
  subst hx2
  obtain ⟨fs, hr, hrun, hended, hE⟩ := X.leaveW hS (by rw [eT]; exact hk) (v := some (.int (nar .boolean x))) (fun h => by rw [hrt] at h; cases h) hlk
  exact ⟨_, L, hst.trans (retN X hx (t := .boolean) hrt (by simp) (hb hc hd) hr), hrun, hended, eT, hMo, (show GI Z EL T.vm H from hG.at X hZ hEL), hF, hE⟩
theorem Wk.retB {x x2 : Int32} (A : Wk l Z a0 EL own code ml nm (some .byte) R D pc ls (.int x :: st) H k n) (hd : decode code pc = .ok (.ireturn, 1)) (hx2 : nar .byte x = x2) :
    Rt Z EL D (some (.int x2)) H k n := by
  obtain ⟨p, e, s, m, args, below, meth, c, s0, H0⟩ := D
  obtain ⟨hx, hown, hc, hml, hnm, hrt, hlk, hEL, hSA, hls, T, L, vm0, k0, X, eT, hS, hk, hZ, hG, hF, hMo, hst⟩ := A
  dsimp only at hx hown hc hml hnm hrt hlk X hS hMo hst
  have hown' : (s.setVm vm0).vm.findClass own = some m.cls := (hS.1.alike.findClass _ _).trans hown
  have hZ' : Z.Warmed39 (s.setVm vm0).vm := hZ
  subst hx2
  obtain ⟨fs, hr, hrun, hended, hE⟩ := X.leaveW hS (by rw [eT]; exact hk) (v := some (.int (nar .byte x))) (fun h => by rw [hrt] at h; cases h) hlk
  exact ⟨_, L, hst.trans (retN X hx (t := .byte) hrt (by simp) (hb hc hd) hr), hrun, hended, eT, hMo, (show GI Z EL T.vm H from hG.at X hZ hEL), hF, hE⟩
theorem Wk.retC {x x2 : Int32} (A : Wk l Z a0 EL own code ml nm (some .char) R D pc ls (.int x :: st) H k n) (hd : decode code pc = .ok (.ireturn, 1)) (hx2 : nar .char x = x2) :
    Rt Z EL D (some (.int x2)) H k n := by
  obtain ⟨p, e, s, m, args, below, meth, c, s0, H0⟩ := D
  obtain ⟨hx, hown, hc, hml, hnm, hrt, hlk, hEL, hSA, hls, T, L, vm0, k0, X, eT, hS, hk, hZ, hG, hF, hMo, hst⟩ := A
  dsimp only at hx hown hc hml hnm hrt hlk X hS hMo hst
  have hown' : (s.setVm vm0).vm.findClass own = some m.cls := (hS.1.alike.findClass _ _).trans hown
  have hZ' : Z.Warmed39 (s.setVm vm0).vm := hZ
  subst hx2
  obtain ⟨fs, hr, hrun, hended, hE⟩ := X.leaveW hS (by rw [eT]; exact hk) (v := some (.int (nar .char x))) (fun h => by rw [hrt] at h; cases h) hlk
  exact ⟨_, L, hst.trans (retN X hx (t := .char) hrt (by simp) (hb hc hd) hr), hrun, hended, eT, hMo, (show GI Z EL T.vm H from hG.at X hZ hEL), hF, hE⟩
theorem Wk.retS {x x2 : Int32} (A : Wk l Z a0 EL own code ml nm (some .short) R D pc ls (.int x :: st) H k n) (hd : decode code pc = .ok (.ireturn, 1)) (hx2 : nar .short x = x2) :
    Rt Z EL D (some (.int x2)) H k n := by
  obtain ⟨p, e, s, m, args, below, meth, c, s0, H0⟩ := D
  obtain ⟨hx, hown, hc, hml, hnm, hrt, hlk, hEL, hSA, hls, T, L, vm0, k0, X, eT, hS, hk, hZ, hG, hF, hMo, hst⟩ := A
  dsimp only at hx hown hc hml hnm hrt hlk X hS hMo hst
  have hown' : (s.setVm vm0).vm.findClass own = some m.cls := (hS.1.alike.findClass _ _).trans hown
  have hZ' : Z.Warmed39 (s.setVm vm0).vm := hZ
  subst hx2
  obtain ⟨fs, hr, hrun, hended, hE⟩ := X.leaveW hS (by rw [eT]; exact hk) (v := some (.int (nar .short x))) (fun h => by rw [hrt] at h; cases h) hlk
  exact ⟨_, L, hst.trans (retN X hx (t := .short) hrt (by simp) (hb hc hd) hr), hrun, hended, eT, hMo, (show GI Z EL T.vm H from hG.at X hZ hEL), hF, hE⟩
theorem Wk.retI {x : Int32} (A : Wk l Z a0 EL own code ml nm (some .int) R D pc ls (.int x :: st) H k n) (hd : decode code pc = .ok (.ireturn, 1)) :
    Rt Z EL D (some (.int x)) H k n := by
  obtain ⟨p, e, s, m, args, below, meth, c, s0, H0⟩ := D
  obtain ⟨hx, hown, hc, hml, hnm, hrt, hlk, hEL, hSA, hls, T, L, vm0, k0, X, eT, hS, hk, hZ, hG, hF, hMo, hst⟩ := A
  dsimp only at hx hown hc hml hnm hrt hlk X hS hMo hst
  have hown' : (s.setVm vm0).vm.findClass own = some m.cls := (hS.1.alike.findClass _ _).trans hown
  have hZ' : Z.Warmed39 (s.setVm vm0).vm := hZ
  obtain ⟨fs, hr, hrun, hended, hE⟩ := X.leaveW hS (by rw [eT]; exact hk) (v := (some (.int x))) (fun h => by rw [hrt] at h; cases h) hlk
  exact ⟨_, L, hst.trans (retOut X hx hrt rfl (Or.inl ⟨rfl, Or.inl rfl, x, rfl⟩) (hb hc hd) hr), hrun, hended, eT, hMo, (show GI Z EL T.vm H from hG.at X hZ hEL), hF, hE⟩
theorem Wk.retJ {x : Int64} (A : Wk l Z a0 EL own code ml nm (some .long) R D pc ls (.long x :: st) H k n) (hd : decode code pc = .ok (.lreturn, 1)) :
    Rt Z EL D (some (.long x)) H k n := by
  obtain ⟨p, e, s, m, args, below, meth, c, s0, H0⟩ := D
  obtain ⟨hx, hown, hc, hml, hnm, hrt, hlk, hEL, hSA, hls, T, L, vm0, k0, X, eT, hS, hk, hZ, hG, hF, hMo, hst⟩ := A
  dsimp only at hx hown hc hml hnm hrt hlk X hS hMo hst
  have hown' : (s.setVm vm0).vm.findClass own = some m.cls := (hS.1.alike.findClass _ _).trans hown
  have hZ' : Z.Warmed39 (s.setVm vm0).vm := hZ
  obtain ⟨fs, hr, hrun, hended, hE⟩ := X.leaveW hS (by rw [eT]; exact hk) (v := (some (.long x))) (fun h => by rw [hrt] at h; cases h) hlk
  exact ⟨_, L, hst.trans (retOut X hx hrt rfl (Or.inr (Or.inl ⟨rfl, rfl, x, rfl⟩)) (hb hc hd) hr), hrun, hended, eT, hMo, (show GI Z EL T.vm H from hG.at X hZ hEL), hF, hE⟩
theorem Wk.retA {t : FieldType} (A : Wk l Z a0 EL own code ml nm (some t) R D pc ls (v :: st) H k n) (hd : decode code pc = .ok (.areturn, 1)) (ht : t.isReference = true) (hv : v.isRef = true) :
    Rt Z EL D (some v) H k n := by
  obtain ⟨p, e, s, m, args, below, meth, c, s0, H0⟩ := D
  obtain ⟨hx, hown, hc, hml, hnm, hrt, hlk, hEL, hSA, hls, T, L, vm0, k0, X, eT, hS, hk, hZ, hG, hF, hMo, hst⟩ := A
  dsimp only at hx hown hc hml hnm hrt hlk X hS hMo hst
  have hown' : (s.setVm vm0).vm.findClass own = some m.cls := (hS.1.alike.findClass _ _).trans hown
  have hZ' : Z.Warmed39 (s.setVm vm0).vm := hZ
  obtain ⟨fs, hr, hrun, hended, hE⟩ := X.leaveW hS (by rw [eT]; exact hk) (v := some v) (fun h => by rw [hrt] at h; cases h) hlk
  have hn : narrow t v = v := by rcases ref_cases hv with rfl | ⟨z, rfl⟩ <;> cases t <;> first | rfl | cases ht
  exact ⟨_, L, hst.trans (retOut X hx hrt hn (Or.inr (Or.inr (Or.inr (Or.inr ⟨rfl, ht, hv⟩)))) (hb hc hd) hr), hrun, hended, eT, hMo, (show GI Z EL T.vm H from hG.at X hZ hEL), hF, hE⟩
theorem Ct.intro {y : MethodName} {bytes : ByteArray} {ret : Option FieldType} {rm : Room} {wz : List Jvm.Cond} {as : List Value} {Q : Option Value → HP → Prop} (hpl : plainFor y = true) (hEL : EW Z a0 EL) (hSA : ∀ a ∈ Bundle.stringAtoms, a.before a0 Z = true) (hls : locsOf as ml = ls) (hlen : ls.length = ml)
    (body : ∀ D, Wk l Z a0 EL y.cls bytes ml y.name ret rm D 0 ls [] H 0 0 → ∃ v H' k n, Rt Z EL D v H' k n ∧ Q v H' ∧ k ≤ rm.cells ∧ n ≤ rm.slots) : Ct l Z EL y bytes ml ret rm wz as H Q := by
  refine MetFree.of_bodySF hpl hisR ?_
  intro p e s m args below meth c s₁ Bd hml0 hP hK
  obtain ⟨rfl, hZ, hh, hG⟩ := hP
  have hx := Bd.exec
  have hown : s.vm.findClass y.cls = some m.cls := findClass_of_methodNamed Bd.named
  have hnm := (name_of_methodNamed Bd.named Bd.method).1
  have X0 : Stand p l e rm s m as.toArray below meth c s₁ [] 0 0 := Stand.of_body Bd
  have e0 : s₁.heap = H.1 := by rw [← hh, Bd.state]; rfl
  have hst : Steps p.tables e below (s₁.setTop (entryFrame m as.toArray ml)) (s₁.setTop (mkF m 0 ls.toArray [])) := by rw [entry_locs, hls]; exact Steps.refl _
  obtain ⟨v, H', k, n, ⟨s₂, L, h1, h2, h3, h4, h5, h6, h7, h8⟩, hQ, hk, hn⟩ := body (p, e, s, m, as.toArray, below, meth, c, s₁.setTop (entryFrame m as.toArray ml), H) ⟨hx, hown, Bd.bytes, hml0, hnm, Bd.returns, Bd.notSynchronized, hEL, hSA, hlen, s₁, [], s.vm, H.1.size, X0, e0, (State.WarmedH.refl s).since _, Nat.le_refl _, hZ, hG, Fr.nil _, ⟨fun _ q => q, Nat.le_refl _⟩, hst⟩
  obtain ⟨hp, O⟩ := H'
  have h4 : s₂.heap = hp := h4
  subst h4
  obtain ⟨g1, g2, g3, g4⟩ := h8
  exact ⟨s₂, _, h1, h2, h3, v, L, O, rfl, hQ, h5, h6, h7, g1, g2, g3, g4.mono hk hn⟩
theorem Ct.mono {y : MethodName} {bytes : ByteArray} {ret : Option FieldType} {rm : Room} {wz : List Jvm.Cond} {as : List Value} {Q Q' : Option Value → HP → Prop} (h : Ct l Z EL y bytes ml ret rm wz as H Q) (q : ∀ v H', Q v H' → Q' v H') : Ct l Z EL y bytes ml ret rm wz as H Q' :=
  MetFree.mono h (fun _ _ h => h) (fun _ _ _ _ _ h => h) fun _ _ _ _ _ ⟨v, L, O, h1, h2, h3⟩ => ⟨v, L, O, h1, q _ _ h2, h3⟩
theorem ctBack {p : Program} {e : Env} {s : State} {args : Array Value} {below : List Frame} {y : MethodName} {bytes : ByteArray} {ret : Option FieldType} {rm : Room} {as : List Value} {Q : Option Value → HP → Prop} {len Wd : Nat}
    (hM : Ct l Z EL y bytes ml ret rm [] as H Q) (hZ : Z.Warmed39 vm0) (wc : (Jvm.Cond.code y bytes ml ret).before a0 Z = true) (wz : (Jvm.Cond.initialized y.cls).before a0 Z = true) (hf : rm.frames + 1 ≤ R.frames) (hl : Wd + (ml + 11) + rm.locals ≤ R.locals) (hEL : EW Z a0 EL) (hG : GI Z EL vm0 H) :
    BackS l R p e below (s.setVm vm0) args y len Wd (fun A a => a = as.toArray ∧ A.U.heap = H.1 ∧ A.cells + rm.cells ≤ R.cells ∧ A.slots + rm.slots ≤ R.slots)
      (fun A _ v B => ∃ L O, Q v (B.U.heap, O) ∧ ((∀ x, H.2 x → O x) ∧ H.1.size ≤ B.U.heap.size) ∧ GI Z EL B.U.vm (B.U.heap, O) ∧ Fr Z.heap.size L ∧ B.locs = A.locs ++ L ∧ B.cells = A.cells + rm.cells ∧ B.slots = A.slots + rm.slots) :=
  BackS.of_freeW (bytes := bytes) (maxL := ml) (ret := ret) (E := fun _ first o t L k n => k = rm.cells ∧ n = rm.slots ∧ ∃ v O, o = .returned v ∧ Q v (t.heap, O) ∧ ((∀ x, H.2 x → O x) ∧ H.1.size ≤ t.heap.size) ∧ GI Z EL t.vm (t.heap, O) ∧ Fr Z.heap.size L) hM hf hl
    (fun m meth c A a Y hp => have hU : Z.Warmed39 A.U.vm := wtrans (s := (s.setVm vm0)) hZ Y.warmed
      ⟨by show (Jvm.Cond.and _ .tt).before a A.U = true; rw [Cond.before_and, mv hU wc]; rfl, mv hU wc, mv hU wz, hp.2.2.1, hp.2.2.2⟩)
    (fun m meth c A a g mk Y hp => ⟨hp.1, wtrans (s := (s.setVm vm0)) hZ Y.warmed, hp.2.1, (show GI Z EL A.U.vm H from hG.at Y hZ hEL)⟩) (fun _ _ _ _ _ _ _ _ _ => trivial)
    (fun _ _ _ _ ⟨v, L, O, h1, h2, h3, h4, h5, h6⟩ => ⟨L, _, _, h6, rfl, rfl, v, O, h1, h2, h3, h4, h5⟩)
    (fun m meth c A a g mk v t L k n Y hp _ _ ⟨e1, e2, v', O, e3, e4, e5, e6, e7⟩ => by cases e3; subst e1 e2; exact ⟨L, O, e4, e5, e6, e7, rfl, rfl, rfl⟩)
theorem Wk.callS {y : MethodName} {bytes : ByteArray} {ret : Option FieldType} {cml : Nat} {rm : Room} {Q : Option Value → HP → Prop} {argsL : List Value} {index Wd : Nat} (A : Wk l Z a0 EL own code ml nm rt R D pc ls (argsL.reverse ++ st) H k n) (w1 : (Jvm.Cond.methodLink own index y).before a0 Z = true) (w2 : (Jvm.Cond.static y).before a0 Z = true) (wz : (Jvm.Cond.initialized y.cls).before a0 Z = true) (wc : (Jvm.Cond.code y bytes cml ret).before a0 Z = true) (hM : Ct l Z EL y bytes cml ret rm [] argsL H Q) (hy : y.cls ≠ "java/lang/invoke/MethodHandle" ∧ y.cls ≠ "java/lang/invoke/VarHandle") (hlen : ∃ ps r, parseMethodDescriptor y.desc = some ⟨ps, r⟩ ∧ argsL.length = ps.length) (hd : decode code pc = .ok (.invokestatic index, 3)) (hf : rm.frames + 1 ≤ R.frames) (hW : (st.map fun v => v.category).sum ≤ Wd) (hlo : Wd + (cml + 11) + rm.locals ≤ R.locals) (hcl : k + rm.cells ≤ R.cells) (hsl : n + rm.slots ≤ R.slots) :
    ∃ (v : Option Value) (H' : HP), Q v H' ∧ Wk l Z a0 EL own code ml nm rt R D (pc + 3) ls (v.toList ++ st) H' (k + rm.cells) (n + rm.slots) ∧ (∀ x, H.2 x → H'.2 x) ∧ H.1.size ≤ H'.1.size := by
  obtain ⟨p, e, s, m, args, below, meth, c, s0, H0⟩ := D
  obtain ⟨hx, hown, hc, hml, hnm, hrt, hlk, hEL, hSA, hls, T, L, vm0, k0, X, eT, hS, hk, hZ, hG, hF, hMo, hst⟩ := A
  dsimp only at hx hown hc hml hnm hrt hlk X hS hMo hst
  have hown' : (s.setVm vm0).vm.findClass own = some m.cls := (hS.1.alike.findClass _ _).trans hown
  have hZ' : Z.Warmed39 (s.setVm vm0).vm := hZ
  obtain ⟨v, vm1, ⟨T', L', c', n'⟩, -, X', hS2, hgr, ⟨Lc, O, hQ, hmo, hG', hFc, l1, l2, l3⟩, st'⟩ := RoadKit.callSS X hx hown' (mvT hZ' w1) (mvT hZ' w2) (mvT hZ' wz) (mvT hZ' wc) hy (ctBack hM hZ wc wz hf hlo hEL hG) (g := mkF m pc ls.toArray (argsL.reverse ++ st)) rfl (by simp [hls, hml]) (by obtain ⟨ps, r, q1, q2⟩ := hlen; exact lenOf q1 q2) rfl (by simpa using hW) (hb hc hd) (fun _ _ => ⟨rfl, eT, hcl, hsl⟩)
  dsimp only [Pt.U, Pt.locs, Pt.cells, Pt.slots] at X' hS2 hgr hQ hmo hG' l1 l2 l3 st'
  subst l1 l2 l3
  have hS' := hS.trans hS2 (by rw [eT] at hgr; exact Nat.le_trans hk hgr)
  exact ⟨v, (T'.heap, O), hQ, ⟨hx, hown, hc, hml, hnm, hrt, hlk, hEL, hSA, hls, T', _, T'.vm, T'.heap.size, X', rfl, hS', (Nat.le_refl _), (State.Warmed39.trans (t := s.setVm vm0) hZ hS2.1), hG', (hF.app hFc), ⟨fun x q => hmo.1 x (hMo.1 x q), Nat.le_trans hMo.2 hmo.2⟩, hst.trans st'⟩, hmo.1, hmo.2⟩
theorem Wk.callI {y : MethodName} {bytes : ByteArray} {cml : Nat} {rm : Room} {Q : Option Value → HP → Prop} {argsL : List Value} {index Wd : Nat} (A : Wk l Z a0 EL own code ml nm rt R D pc ls (argsL.reverse ++ .ref a :: st) H k n) (hy1 : y.name = "<init>") (w1 : (Jvm.Cond.methodLink own index y).before a0 Z = true) (w2 : (Jvm.Cond.instanceMethod y).before a0 Z = true) (wz : (Jvm.Cond.initialized y.cls).before a0 Z = true) (wc : (Jvm.Cond.code y bytes cml none).before a0 Z = true) (hM : Ct l Z EL y bytes cml none rm [] (.ref a :: argsL) H Q) (hy : y.cls ≠ "java/lang/invoke/MethodHandle" ∧ y.cls ≠ "java/lang/invoke/VarHandle") (hlen : ∃ ps r, parseMethodDescriptor y.desc = some ⟨ps, r⟩ ∧ argsL.length = ps.length) (hd : decode code pc = .ok (.invokespecial index, 3)) (hf : rm.frames + 1 ≤ R.frames) (hW : (st.map fun v => v.category).sum ≤ Wd) (hlo : Wd + (cml + 11) + rm.locals ≤ R.locals) (hcl : k + rm.cells ≤ R.cells) (hsl : n + rm.slots ≤ R.slots) :
    ∃ (v : Option Value) (H' : HP), Q v H' ∧ Wk l Z a0 EL own code ml nm rt R D (pc + 3) ls (v.toList ++ st) H' (k + rm.cells) (n + rm.slots) ∧ (∀ x, H.2 x → H'.2 x) ∧ H.1.size ≤ H'.1.size := by
  obtain ⟨p, e, s, m, args, below, meth, c, s0, H0⟩ := D
  obtain ⟨hx, hown, hc, hml, hnm, hrt, hlk, hEL, hSA, hls, T, L, vm0, k0, X, eT, hS, hk, hZ, hG, hF, hMo, hst⟩ := A
  dsimp only at hx hown hc hml hnm hrt hlk X hS hMo hst
  have hown' : (s.setVm vm0).vm.findClass own = some m.cls := (hS.1.alike.findClass _ _).trans hown
  have hZ' : Z.Warmed39 (s.setVm vm0).vm := hZ
  obtain ⟨v, vm1, ⟨T', L', c', n'⟩, -, X', hS2, hgr, ⟨Lc, O, hQ, hmo, hG', hFc, l1, l2, l3⟩, st'⟩ := X.specialBackS hx hy1 hown' (mvT hZ' w1) (mvT hZ' w2) (mvT hZ' wc) hy (ctBack hM hZ wc wz hf hlo hEL hG) (g := mkF m pc ls.toArray (argsL.reverse ++ .ref a :: st)) rfl (by simp [hls, hml]) (Steps.refl _) (by obtain ⟨ps, r, q1, q2⟩ := hlen; exact lenOf q1 q2) rfl (by simpa using hW) (hb hc hd) (fun _ _ => ⟨rfl, eT, hcl, hsl⟩)
  dsimp only [Pt.U, Pt.locs, Pt.cells, Pt.slots] at X' hS2 hgr hQ hmo hG' l1 l2 l3 st'
  subst l1 l2 l3
  have hS' := hS.trans hS2 (by rw [eT] at hgr; exact Nat.le_trans hk hgr)
  exact ⟨v, (T'.heap, O), hQ, ⟨hx, hown, hc, hml, hnm, hrt, hlk, hEL, hSA, hls, T', _, T'.vm, T'.heap.size, X', rfl, hS', (Nat.le_refl _), (State.Warmed39.trans (t := s.setVm vm0) hZ hS2.1), hG', (hF.app hFc), ⟨fun x q => hmo.1 x (hMo.1 x q), Nat.le_trans hMo.2 hmo.2⟩, hst.trans st'⟩, hmo.1, hmo.2⟩
theorem Wk.callV {y z : MethodName} {bytes : ByteArray} {ret : Option FieldType} {cml : Nat} {rm : Room} {Q : Option Value → HP → Prop} {argsL : List Value} {index Wd : Nat} (A : Wk l Z a0 EL own code ml nm rt R D pc ls (argsL.reverse ++ .ref a :: st) H k n) (w1 : (Jvm.Cond.methodLink own index y).before a0 Z = true) (w2 : (Jvm.Cond.declares y).before a0 Z = true) {C' : String} {y2 : MethodName} (w3 : (Jvm.Cond.selects C' y2 y2).before a0 Z = true) (hc2 : y2.cls = y.cls) (w4 : (Jvm.Cond.selects C y z).before a0 Z = true) (w5 : (Jvm.Cond.instanceMethod z).before a0 Z = true) (wz : (Jvm.Cond.initialized z.cls).before a0 Z = true) (wc : (Jvm.Cond.code z bytes cml ret).before a0 Z = true) (E : Exa Z H.1 a C) (hM : Ct l Z EL z bytes cml ret rm [] (.ref a :: argsL) H Q) (hy : y.cls ≠ "java/lang/invoke/MethodHandle" ∧ y.cls ≠ "java/lang/invoke/VarHandle") (hlen : ∃ ps r, parseMethodDescriptor y.desc = some ⟨ps, r⟩ ∧ argsL.length = ps.length) (hd : decode code pc = .ok (.invokevirtual index, 3)) (hf : rm.frames + 1 ≤ R.frames) (hW : (st.map fun v => v.category).sum ≤ Wd) (hlo : Wd + (cml + 11) + rm.locals ≤ R.locals) (hcl : k + rm.cells ≤ R.cells) (hsl : n + rm.slots ≤ R.slots) :
    ∃ (v : Option Value) (H' : HP), Q v H' ∧ Wk l Z a0 EL own code ml nm rt R D (pc + 3) ls (v.toList ++ st) H' (k + rm.cells) (n + rm.slots) ∧ (∀ x, H.2 x → H'.2 x) ∧ H.1.size ≤ H'.1.size := by
  obtain ⟨p, e, s, m, args, below, meth, c, s0, H0⟩ := D
  obtain ⟨hx, hown, hc, hml, hnm, hrt, hlk, hEL, hSA, hls, T, L, vm0, k0, X, eT, hS, hk, hZ, hG, hF, hMo, hst⟩ := A
  dsimp only at hx hown hc hml hnm hrt hlk X hS hMo hst
  have hown' : (s.setVm vm0).vm.findClass own = some m.cls := (hS.1.alike.findClass _ _).trans hown
  have hZ' : Z.Warmed39 (s.setVm vm0).vm := hZ
  obtain ⟨cB, kB, i1, i2, i3⟩ := isOf (s := (s.setVm vm0)) hZ' eT E
  obtain ⟨v, vm1, ⟨T', L', c', n'⟩, -, X', hS2, hgr, ⟨Lc, O, hQ, hmo, hG', hFc, l1, l2, l3⟩, st'⟩ := X.virtualBackS hx hown' (mvT hZ' w1) (mvT hZ' w2) (notFace_cls (mvT hZ' (args := #[]) w3) hc2) (mvT hZ' w4) (mvT hZ' w5) hy (ctBack hM hZ wc wz hf hlo hEL hG) i1 i3 (g := mkF m pc ls.toArray (argsL.reverse ++ .ref a :: st)) rfl (by simp [hls, hml]) (Steps.refl _) (by obtain ⟨ps, r, q1, q2⟩ := hlen; exact lenOf q1 q2) rfl (by simpa using hW) (hb hc hd) (fun _ _ => ⟨rfl, eT, hcl, hsl⟩)
  dsimp only [Pt.U, Pt.locs, Pt.cells, Pt.slots] at X' hS2 hgr hQ hmo hG' l1 l2 l3 st'
  subst l1 l2 l3
  have hS' := hS.trans hS2 (by rw [eT] at hgr; exact Nat.le_trans hk hgr)
  exact ⟨v, (T'.heap, O), hQ, ⟨hx, hown, hc, hml, hnm, hrt, hlk, hEL, hSA, hls, T', _, T'.vm, T'.heap.size, X', rfl, hS', (Nat.le_refl _), (State.Warmed39.trans (t := s.setVm vm0) hZ hS2.1), hG', (hF.app hFc), ⟨fun x q => hmo.1 x (hMo.1 x q), Nat.le_trans hMo.2 hmo.2⟩, hst.trans st'⟩, hmo.1, hmo.2⟩
theorem Wk.callF {xi y : MethodName} {bytes : ByteArray} {ret : Option FieldType} {cml : Nat} {rm : Room} {Q : Option Value → HP → Prop} {argsL : List Value} {index Wd : Nat} {count : Nat} (A : Wk l Z a0 EL own code ml nm rt R D pc ls (argsL.reverse ++ .ref a :: st) H k n) (w1 : (Jvm.Cond.methodLink own index xi).before a0 Z = true) (w2 : (Jvm.Cond.declares xi).before a0 Z = true) (w3 : (Jvm.Cond.interfaceMethod xi.cls xi.cls xi.name xi.desc).before a0 Z = true) (w4 : (Jvm.Cond.selects C xi y).before a0 Z = true) (w5 : (Jvm.Cond.instanceMethod y).before a0 Z = true) (w6 : (Jvm.Cond.publicMethod y).before a0 Z = true) (w7 : (Jvm.Cond.unhidden C xi.name xi.desc).before a0 Z = true) (w8 : (Jvm.Cond.castable C xi.cls).before a0 Z = true) (wz : (Jvm.Cond.initialized y.cls).before a0 Z = true) (wc : (Jvm.Cond.code y bytes cml ret).before a0 Z = true) (E : Exa Z H.1 a C) (hM : Ct l Z EL y bytes cml ret rm [] (.ref a :: argsL) H Q) (hy : xi.cls ≠ "java/lang/invoke/MethodHandle" ∧ xi.cls ≠ "java/lang/invoke/VarHandle") (hlen : ∃ ps r, parseMethodDescriptor xi.desc = some ⟨ps, r⟩ ∧ argsL.length = ps.length) (hd : decode code pc = .ok (.invokeinterface index count, 5)) (hf : rm.frames + 1 ≤ R.frames) (hW : (st.map fun v => v.category).sum ≤ Wd) (hlo : Wd + (cml + 11) + rm.locals ≤ R.locals) (hcl : k + rm.cells ≤ R.cells) (hsl : n + rm.slots ≤ R.slots) :
    ∃ (v : Option Value) (H' : HP), Q v H' ∧ Wk l Z a0 EL own code ml nm rt R D (pc + 5) ls (v.toList ++ st) H' (k + rm.cells) (n + rm.slots) ∧ (∀ x, H.2 x → H'.2 x) ∧ H.1.size ≤ H'.1.size := by
  obtain ⟨p, e, s, m, args, below, meth, c, s0, H0⟩ := D
  obtain ⟨hx, hown, hc, hml, hnm, hrt, hlk, hEL, hSA, hls, T, L, vm0, k0, X, eT, hS, hk, hZ, hG, hF, hMo, hst⟩ := A
  dsimp only at hx hown hc hml hnm hrt hlk X hS hMo hst
  have hown' : (s.setVm vm0).vm.findClass own = some m.cls := (hS.1.alike.findClass _ _).trans hown
  have hZ' : Z.Warmed39 (s.setVm vm0).vm := hZ
  obtain ⟨cB, kB, i1, i2, i3⟩ := isOf (s := (s.setVm vm0)) hZ' eT E
  obtain ⟨v, vm1, ⟨T', L', c', n'⟩, -, X', hS2, hgr, ⟨Lc, O, hQ, hmo, hG', hFc, l1, l2, l3⟩, st'⟩ := X.interfaceBackS hx hown' (mvT hZ' w1) (mvT hZ' w2) (mvT hZ' w3 (by simp [Cond.onTables, Cond.keepsFace, Cond.keeps, Cond.steady, Cond.faceAtom, hy.1, hy.2])) (mvT hZ' w4) (mvT hZ' w5) (mvT hZ' w6) (mvT hZ' w7) (mvT hZ' w8) hy (ctBack hM hZ wc wz hf hlo hEL hG) i1 i2 i3 (g := mkF m pc ls.toArray (argsL.reverse ++ .ref a :: st)) rfl (by simp [hls, hml]) (Steps.refl _) (by obtain ⟨ps, r, q1, q2⟩ := hlen; exact lenOf q1 q2) rfl (by simpa using hW) (hb hc hd) (fun _ _ => ⟨rfl, eT, hcl, hsl⟩)
  dsimp only [Pt.U, Pt.locs, Pt.cells, Pt.slots] at X' hS2 hgr hQ hmo hG' l1 l2 l3 st'
  subst l1 l2 l3
  have hS' := hS.trans hS2 (by rw [eT] at hgr; exact Nat.le_trans hk hgr)
  exact ⟨v, (T'.heap, O), hQ, ⟨hx, hown, hc, hml, hnm, hrt, hlk, hEL, hSA, hls, T', _, T'.vm, T'.heap.size, X', rfl, hS', (Nat.le_refl _), (State.Warmed39.trans (t := s.setVm vm0) hZ hS2.1), hG', (hF.app hFc), ⟨fun x q => hmo.1 x (hMo.1 x q), Nat.le_trans hMo.2 hmo.2⟩, hst.trans st'⟩, hmo.1, hmo.2⟩
theorem Wk.copy {sp dp z : Int32} {i j q index Wd : Nat} {vd : List Value} (A : Wk l Z a0 EL own code ml nm rt R D pc ls (.int z :: .int dp :: .ref b :: .int sp :: .ref a :: st) H k n) (w1 : (Jvm.Cond.methodLink own index Jvm.Stand.acN).before a0 Z = true) (w2 : (Jvm.Cond.native Jvm.Stand.acN).before a0 Z = true) (w3 : (Jvm.Cond.static Jvm.Stand.acN).before a0 Z = true) (w4 : (Jvm.Cond.initialized "java/lang/System").before a0 Z = true) (Fa : Ar Z H a ty vs) (Fb : Ar Z H b ty vd) (hty : refKind ty = false) (o : H.2 b) (hi : i.toInt32 = sp) (hj : j.toInt32 = dp) (hq : q.toInt32 = z) (h4 : i + q ≤ vs.length) (h5 : j + q ≤ vd.length) (hd : decode code pc = .ok (.invokestatic index, 3)) (hf : 1 ≤ R.frames) (hW : (st.map fun v => v.category).sum ≤ Wd) (hlo : Wd + 18 ≤ R.locals) :
    ∃ H' : HP, Wk l Z a0 EL own code ml nm rt R D (pc + 3) ls st H' k n ∧ Kp H H' [b] ∧ Ar Z H' b ty (vd.take j ++ (vs.drop i).take q ++ vd.drop (j + q)) := by
  obtain ⟨p, e, s, m, args, below, meth, c, s0, H0⟩ := D
  obtain ⟨hx, hown, hc, hml, hnm, hrt, hlk, hEL, hSA, hls, T, L, vm0, k0, X, eT, hS, hk, hZ, hG, hF, hMo, hst⟩ := A
  dsimp only at hx hown hc hml hnm hrt hlk X hS hMo hst
  have hown' : (s.setVm vm0).vm.findClass own = some m.cls := (hS.1.alike.findClass _ _).trans hown
  have hZ' : Z.Warmed39 (s.setVm vm0).vm := hZ
  subst hi hj hq
  have la := Fa.len
  have lb := Fb.len
  obtain ⟨ka, Aa⟩ := Fa.arv (.int 0)
  obtain ⟨kb, Ab⟩ := Fb.arv (.int 0)
  have o2 := hG.2.1 b o
  have ci := clamp_nat (i := i) (by omega)
  have cj := clamp_nat (i := j) (by omega)
  have cq := clamp_nat (i := q) (by omega)
  obtain ⟨T', h', L', X', e', F', K', A', st'⟩ := RoadKit.cpA X hx hZ' hown' w1 w2 w3 w4 eT Aa Ab (us := (List.range q).map fun t => vs.getD (i + t) (.int 0)) (Or.inl ⟨rfl, hty⟩) (nonneg_nat (by omega)) (nonneg_nat (by omega)) (nonneg_nat (by omega)) (by rw [ci, cq, clamp_nat la]; exact h4) (by rw [cj, cq, clamp_nat lb]; exact h5) (by rw [ci, cq]) (by rw [cj, cq]; exact h5) hF o2.1 (g := mkF m pc ls.toArray (.int q.toInt32 :: .int j.toInt32 :: .ref b :: .int i.toInt32 :: .ref a :: st)) rfl (by simp [hls, hml]) rfl (hb hc hd) hf (by simpa using hW) hlo
  rw [cj, cq, range_take h4] at A'
  exact ⟨(h', H.2), ⟨hx, hown, hc, hml, hnm, hrt, hlk, hEL, hSA, hls, T', L', vm0, k0, X', e', hS, (Nat.le_trans hk K'.1), hZ, (hG.keep K' (fun x hx => by cases List.mem_singleton.mp hx; exact o)), F', ⟨hMo.1, Nat.le_trans hMo.2 K'.1⟩, hst.trans (st' _ (Steps.refl _))⟩, ⟨K', fun _ q => q⟩, Ar.of_arv (H := (h', H.2)) A' (by rw [clamp_nat lb]; simp; omega)⟩
theorem Wk.callU {y : MethodName} {bytes : ByteArray} {ret : Option FieldType} {cml : Nat} {rm : Room} {Q : Option Value → HP → Prop} {argsL : List Value} {index Wd : Nat} (A : Wk l Z a0 EL own code ml nm rt R D pc ls (argsL.reverse ++ .ref a :: st) H k n) (w1 : (Jvm.Cond.methodLink own index y).before a0 Z = true) (w2 : (Jvm.Cond.declares y).before a0 Z = true) {C' : String} {y2 : MethodName} (w3 : (Jvm.Cond.selects C' y2 y2).before a0 Z = true) (hc2 : y2.cls = y.cls) (w4 : (Jvm.Cond.superclass own y.cls).before a0 Z = true) (w5 : (Jvm.Cond.instanceMethod y).before a0 Z = true) (hni : y.name ≠ "<init>") (wz : (Jvm.Cond.initialized y.cls).before a0 Z = true) (wc : (Jvm.Cond.code y bytes cml ret).before a0 Z = true) (E : Exa Z H.1 a C) (hM : Ct l Z EL y bytes cml ret rm [] (.ref a :: argsL) H Q) (hy : y.cls ≠ "java/lang/invoke/MethodHandle" ∧ y.cls ≠ "java/lang/invoke/VarHandle") (hlen : ∃ ps r, parseMethodDescriptor y.desc = some ⟨ps, r⟩ ∧ argsL.length = ps.length) (hd : decode code pc = .ok (.invokespecial index, 3)) (hf : rm.frames + 1 ≤ R.frames) (hW : (st.map fun v => v.category).sum ≤ Wd) (hlo : Wd + (cml + 11) + rm.locals ≤ R.locals) (hcl : k + rm.cells ≤ R.cells) (hsl : n + rm.slots ≤ R.slots) :
    ∃ (v : Option Value) (H' : HP), Q v H' ∧ Wk l Z a0 EL own code ml nm rt R D (pc + 3) ls (v.toList ++ st) H' (k + rm.cells) (n + rm.slots) ∧ (∀ x, H.2 x → H'.2 x) ∧ H.1.size ≤ H'.1.size := by
  obtain ⟨p, e, s, m, args, below, meth, c, s0, H0⟩ := D
  obtain ⟨hx, hown, hc, hml, hnm, hrt, hlk, hEL, hSA, hls, T, L, vm0, k0, X, eT, hS, hk, hZ, hG, hF, hMo, hst⟩ := A
  dsimp only at hx hown hc hml hnm hrt hlk X hS hMo hst
  have hown' : (s.setVm vm0).vm.findClass own = some m.cls := (hS.1.alike.findClass _ _).trans hown
  have hZ' : Z.Warmed39 (s.setVm vm0).vm := hZ
  obtain ⟨v, vm1, ⟨T', L', c', n'⟩, -, X', hS2, hgr, ⟨Lc, O, hQ, hmo, hG', hFc, l1, l2, l3⟩, st'⟩ := RoadKit.superBackS X hx hZ' hown' w1 (same_of w2 w3 hc2 hy) w5 w4 hni (ctBack hM hZ wc wz hf hlo hEL hG) eT (Ins.self E) (g := mkF m pc ls.toArray (argsL.reverse ++ .ref a :: st)) rfl (by simp [hls, hml]) wc (by obtain ⟨ps, r, q1, q2⟩ := hlen; exact lenOf q1 q2) rfl (by simpa using hW) (hb hc hd) (fun _ _ => ⟨rfl, eT, hcl, hsl⟩)
  dsimp only [Pt.U, Pt.locs, Pt.cells, Pt.slots] at X' hS2 hgr hQ hmo hG' l1 l2 l3 st'
  subst l1 l2 l3
  have hS' := hS.trans hS2 (by rw [eT] at hgr; exact Nat.le_trans hk hgr)
  exact ⟨v, (T'.heap, O), hQ, ⟨hx, hown, hc, hml, hnm, hrt, hlk, hEL, hSA, hls, T', _, T'.vm, T'.heap.size, X', rfl, hS', (Nat.le_refl _), (State.Warmed39.trans (t := s.setVm vm0) hZ hS2.1), hG', (hF.app hFc), ⟨fun x q => hmo.1 x (hMo.1 x q), Nat.le_trans hMo.2 hmo.2⟩, hst.trans st'⟩, hmo.1, hmo.2⟩
theorem Wk.getSN {R0 O host : String} {index : Nat} (A : Wk l Z a0 EL own code ml nm rt R D pc ls st H k n) (w : (Jvm.Cond.fieldLinkNest own index R0 nn d host).before a0 Z = true) (F : Sta Z Z.heap O nn d v) (hd : decode code pc = .ok (.getstatic index, 3)) (via : Via Z R0 O nn d := by exact Via.refl) :
    Wk l Z a0 EL own code ml nm rt R D (pc + 3) ls (v :: st) H k n := by
  obtain ⟨p, e, s, m, args, below, meth, c, s0, H0⟩ := D
  obtain ⟨hx, hown, hc, hml, hnm, hrt, hlk, hEL, hSA, hls, T, L, vm0, k0, X, eT, hS, hk, hZ, hG, hF, hMo, hst⟩ := A
  dsimp only at hx hown hc hml hnm hrt hlk X hS hMo hst
  have hown' : (s.setVm vm0).vm.findClass own = some m.cls := (hS.1.alike.findClass _ _).trans hown
  have hZ' : Z.Warmed39 (s.setVm vm0).vm := hZ
  obtain ⟨T', X', e', st'⟩ := RoadKit.getS2 X hx hZ' hown' (Or.inr w) via eT (F.ext hG.1) (g := mkF m pc ls.toArray st) rfl (hb hc hd)
  exact ⟨hx, hown, hc, hml, hnm, hrt, hlk, hEL, hSA, hls, T', L, vm0, k0, X', e', hS, hk, hZ, hG, hF, hMo, hst.trans (st' _ (Steps.refl _))⟩
theorem privS {p : Program} {e : Env} {R : Room} {s : State} {m : MethodId} {args : Array Value} {below : List Frame} {meth : Method} {c : Code} {T : State} {locs : List Loc} {cells slots : Nat} (X : Stand p l e R s m args below meth c T locs cells slots) (hexec : p.tables.exec = Jvm.exec) {own : String} {index : Nat} {y : MethodName} {bytes : ByteArray} {maxL : Nat} {ret : Option FieldType}
    (hown : s.vm.findClass own = some m.cls) (hlink : (Jvm.Cond.methodLink own index y).before args s = true) (hinst : (Jvm.Cond.instanceMethod y).before args s = true) (hnf : NotFace s y) (hpriv : s.PrivateAt y) (hcode : (Jvm.Cond.code y bytes maxL ret).before args s = true) (hy : y.cls ≠ "java/lang/invoke/MethodHandle" ∧ y.cls ≠ "java/lang/invoke/VarHandle")
    {W : Nat} {Pre : Pt → Array Value → Prop} {Post : Pt → Array Value → Option Value → Pt → Prop} (hK : BackS l R p e below s args y 3 W Pre Post) {b : Addr} {cB : ClassId} (hrecv : IsOf cB T b)
    {g : JFrame} (hg : g.method = m) (hsize : g.locals.size = c.maxLocals) {argsL rest : List Value} (hlen : ∀ sig, parseMethodDescriptor y.desc = some sig → argsL.length = sig.parameters.length) (hstack : g.stack = argsL.reverse ++ .ref b :: rest) (hW : 2 * g.monitorRoom + (rest.map fun v => v.category).sum ≤ W) (hdg : decode c.code g.pc = .ok (.invokevirtual index, 3))
    (hpre : ∀ vm₁, s.WarmedH vm₁ → Pre ⟨T.setVm vm₁, locs, cells, slots⟩ (.ref b :: argsL).toArray) :
    ∃ (v : Option Value) (vm₁ : Vm) (B : Pt), s.WarmedH vm₁ ∧ Stand p l e R (s.setVm B.U.vm) m args below meth c B.U B.locs B.cells B.slots ∧ s.Since B.U.vm B.U.heap.size ∧ T.heap.size ≤ B.U.heap.size ∧ Post ⟨T.setVm vm₁, locs, cells, slots⟩ (.ref b :: argsL).toArray v B ∧ Steps p.tables e below (T.setTop g) (B.U.setTop { g with pc := g.pc + 3, stack := v.toList ++ rest }) := by
  obtain ⟨cl, h1, h2, h3⟩ := hrecv
  obtain ⟨mk, mm, n1, n2, n3, n4⟩ := Cond.instanceMethod_spec hinst
  obtain ⟨mm', cM, q1, -, -, -, -, -, -, hsig⟩ := Cond.code_spec n1 hcode
  cases n2.symm.trans q1
  obtain ⟨kr, k1, k2⟩ := hnf mk n1
  obtain ⟨vm₁, X₁, go⟩ := X.invokevirtual hexec hown hlink n1 n2 n3 k1 k2 hy (a := b) (cell := cl) h1 (fun z h => by rw [h] at h3; cases h3) (selectMethod_private n2 (hpriv mk mm n1 n2)) n2 n4 k1 k2 (g := g) hg (argsL := argsL) (rest := rest) (hlen _ hsig) hstack hdg
  obtain ⟨v, B, X', hS, hgr, hpost, hst⟩ := hK m meth c ⟨T.setVm vm₁, locs, cells, slots⟩ { g with stack := rest } (.invokevirtual index) mk (.ref b :: argsL).toArray X₁ hg hsize hdg hW (X₁.named n1) (hpre vm₁ X₁.warmed)
  exact ⟨v, vm₁, B, X₁.warmed, X', hS, hgr, hpost, (go _ fun acts => by rw [doInvoke_state]; exact Steps.refl _).trans hst⟩
theorem Wk.callP {y : MethodName} {bytes : ByteArray} {ret : Option FieldType} {cml : Nat} {rm : Room} {Q : Option Value → HP → Prop} {argsL : List Value} {index Wd : Nat} (A : Wk l Z a0 EL own code ml nm rt R D pc ls (argsL.reverse ++ .ref a :: st) H k n) (w1 : (Jvm.Cond.methodLink own index y).before a0 Z = true) {C' : String} {y2 : MethodName} (w3 : (Jvm.Cond.selects C' y2 y2).before a0 Z = true) (hc2 : y2.cls = y.cls) (w4 : (Jvm.Cond.privateMethod y).before a0 Z = true) (w5 : (Jvm.Cond.instanceMethod y).before a0 Z = true) (wz : (Jvm.Cond.initialized y.cls).before a0 Z = true) (wc : (Jvm.Cond.code y bytes cml ret).before a0 Z = true) (E : Exa Z H.1 a C) (hM : Ct l Z EL y bytes cml ret rm [] (.ref a :: argsL) H Q) (hy : y.cls ≠ "java/lang/invoke/MethodHandle" ∧ y.cls ≠ "java/lang/invoke/VarHandle") (hlen : ∃ ps r, parseMethodDescriptor y.desc = some ⟨ps, r⟩ ∧ argsL.length = ps.length) (hd : decode code pc = .ok (.invokevirtual index, 3)) (hf : rm.frames + 1 ≤ R.frames) (hW : (st.map fun v => v.category).sum ≤ Wd) (hlo : Wd + (cml + 11) + rm.locals ≤ R.locals) (hcl : k + rm.cells ≤ R.cells) (hsl : n + rm.slots ≤ R.slots) :
    ∃ (v : Option Value) (H' : HP), Q v H' ∧ Wk l Z a0 EL own code ml nm rt R D (pc + 3) ls (v.toList ++ st) H' (k + rm.cells) (n + rm.slots) ∧ (∀ x, H.2 x → H'.2 x) ∧ H.1.size ≤ H'.1.size := by
  obtain ⟨p, e, s, m, args, below, meth, c, s0, H0⟩ := D
  obtain ⟨hx, hown, hc, hml, hnm, hrt, hlk, hEL, hSA, hls, T, L, vm0, k0, X, eT, hS, hk, hZ, hG, hF, hMo, hst⟩ := A
  dsimp only at hx hown hc hml hnm hrt hlk X hS hMo hst
  have hown' : (s.setVm vm0).vm.findClass own = some m.cls := (hS.1.alike.findClass _ _).trans hown
  have hZ' : Z.Warmed39 (s.setVm vm0).vm := hZ
  obtain ⟨cB, kB, i1, i2, i3⟩ := isOf (s := (s.setVm vm0)) hZ' eT E
  obtain ⟨v, vm1, ⟨T', L', c', n'⟩, -, X', hS2, hgr, ⟨Lc, O, hQ, hmo, hG', hFc, l1, l2, l3⟩, st'⟩ := privS X hx hown' (mvT hZ' w1) (mvT hZ' w5) (notFace_cls (mvT hZ' (args := #[]) w3) hc2) (Cond.privateMethod_at (mvT hZ' (args := #[]) w4)) (mvT hZ' wc) hy (ctBack hM hZ wc wz hf hlo hEL hG) i3 (g := mkF m pc ls.toArray (argsL.reverse ++ .ref a :: st)) rfl (by simp [hls, hml]) (by obtain ⟨ps, r, q1, q2⟩ := hlen; exact lenOf q1 q2) rfl (by simpa using hW) (hb hc hd) (fun _ _ => ⟨rfl, eT, hcl, hsl⟩)
  dsimp only [Pt.U, Pt.locs, Pt.cells, Pt.slots] at X' hS2 hgr hQ hmo hG' l1 l2 l3 st'
  subst l1 l2 l3
  have hS' := hS.trans hS2 (by rw [eT] at hgr; exact Nat.le_trans hk hgr)
  exact ⟨v, (T'.heap, O), hQ, ⟨hx, hown, hc, hml, hnm, hrt, hlk, hEL, hSA, hls, T', _, T'.vm, T'.heap.size, X', rfl, hS', (Nat.le_refl _), (State.Warmed39.trans (t := s.setVm vm0) hZ hS2.1), hG', (hF.app hFc), ⟨fun x q => hmo.1 x (hMo.1 x q), Nat.le_trans hMo.2 hmo.2⟩, hst.trans st'⟩, hmo.1, hmo.2⟩
theorem Wk.newAE {aty : ArrayType} {z : Int32} (A : Wk l Z a0 EL own code ml nm rt R D pc ls (.int z :: st) H k n) (w : (Jvm.Cond.arrayClass (newarray.typeOf aty)).before a0 Z = true) (hd : decode code pc = .ok (.newarray aty, 2)) {N : Nat} (hN : N.toInt32 = z) {cap : Nat} (hcap : N ≤ cap) (hbg : cap * 8 ≤ 536870912) (hcl : k + 1 ≤ R.cells) (hsl : n + cap ≤ R.slots) {ad : String} (had : "[" ++ (newarray.typeOf aty).toString = ad) :
    ∃ (a : Addr) (H' : HP), Wk l Z a0 EL own code ml nm rt R D (pc + 2) ls (.ref a :: st) H' (k + 1) (n + cap) ∧ H.1.size ≤ a ∧ Kp H H' [] ∧ Ar Z H' a (newarray.typeOf aty) (List.replicate N (defaultValue (newarray.typeOf aty))) ∧ H'.2 a ∧ Exa Z H'.1 a ad := by
  obtain ⟨p, e, s, m, args, below, meth, c, s0, H0⟩ := D
  obtain ⟨hx, hown, hc, hml, hnm, hrt, hlk, hEL, hSA, hls, T, L, vm0, k0, X, eT, hS, hk, hZ, hG, hF, hMo, hst⟩ := A
  dsimp only at hx hown hc hml hnm hrt hlk X hS hMo hst
  have hown' : (s.setVm vm0).vm.findClass own = some m.cls := (hS.1.alike.findClass _ _).trans hown
  have hZ' : Z.Warmed39 (s.setVm vm0).vm := hZ
  subst hN
  have hN2 : N < 2 ^ 31 := by omega
  obtain ⟨T', h', cA, X', e', E, Ex, Ea, st'⟩ := RoadKit.newPE X hx hZ' w eT (g := mkF m pc ls.toArray (.int N.toInt32 :: st)) rfl (hb hc hd) rfl (nonneg_nat hN2) (cap := cap) (by rw [clamp_nat hN2]; exact hcap) hbg hcl hsl had
  refine ⟨H.1.size, (h', fun y => H.2 y ∨ y = H.1.size), ⟨hx, hown, hc, hml, hnm, hrt, hlk, hEL, hSA, hls, T', L, vm0, k0, X', e', hS, (Nat.le_trans hk E.1), hZ, (hG.ext E Ex.lt), hF, ⟨fun x q => Or.inl (hMo.1 x q), Nat.le_trans hMo.2 E.1⟩, hst.trans (st' _ (Steps.refl _))⟩, Nat.le_refl _, ⟨(Keep.refl _ _).ext E, fun _ q => Or.inl q⟩, ⟨_, Ex, by simp [Jvm.RoadKit.newA, clamp_nat hN2], by simpa using hN2, fun v hv => ?_⟩, Or.inr rfl, Ea⟩
  obtain ⟨-, rfl⟩ := List.mem_replicate.mp hv
  cases aty <;> rfl
theorem Wk.clone {ad : String} {index Wd : Nat} (A : Wk l Z a0 EL own code ml nm rt R D pc ls (.ref a :: st) H k n) (w1 : (Jvm.Cond.methodLink own index ⟨ad, "clone", "()Ljava/lang/Object;"⟩).before a0 Z = true) (w2 : (Jvm.Cond.sameMethod ad "java/lang/Object" "clone" "()Ljava/lang/Object;").before a0 Z = true) (w3 : (Jvm.Cond.native ⟨"java/lang/Object", "clone", "()Ljava/lang/Object;"⟩).before a0 Z = true) (w4 : (Jvm.Cond.instanceMethod ⟨"java/lang/Object", "clone", "()Ljava/lang/Object;"⟩).before a0 Z = true) (w5 : (Jvm.Cond.selects ad ⟨ad, "clone", "()Ljava/lang/Object;"⟩ ⟨"java/lang/Object", "clone", "()Ljava/lang/Object;"⟩).before a0 Z = true) (w6 : (Jvm.Cond.castable ad "java/lang/Cloneable").before a0 Z = true) (F : Ar Z H a ty vs) (E : Exa Z H.1 a ad) (hd : decode code pc = .ok (.invokevirtual index, 3)) (hf : 1 ≤ R.frames) (hW : (st.map fun v => v.category).sum ≤ Wd) (hlo : Wd + 14 ≤ R.locals) {cap : Nat} (hcap : vs.length ≤ cap) (hcl : k + 1 ≤ R.cells) (hsl : n + cap ≤ R.slots) :
    ∃ (b : Addr) (H' : HP), Wk l Z a0 EL own code ml nm rt R D (pc + 3) ls (.ref b :: st) H' (k + 1) (n + cap) ∧ H.1.size ≤ b ∧ Kp H H' [] ∧ Ar Z H' b ty vs ∧ H'.2 b ∧ Exa Z H'.1 b ad := by
  obtain ⟨p, e, s, m, args, below, meth, c, s0, H0⟩ := D
  obtain ⟨hx, hown, hc, hml, hnm, hrt, hlk, hEL, hSA, hls, T, L, vm0, k0, X, eT, hS, hk, hZ, hG, hF, hMo, hst⟩ := A
  dsimp only at hx hown hc hml hnm hrt hlk X hS hMo hst
  have hown' : (s.setVm vm0).vm.findClass own = some m.cls := (hS.1.alike.findClass _ _).trans hown
  have hZ' : Z.Warmed39 (s.setVm vm0).vm := hZ
  obtain ⟨cl, A0, q1, q2, q3⟩ := F
  obtain ⟨T', h', X', e', Ex, A', E', st'⟩ := RoadKit.cloneA X hx hZ' hown' w1 w2 w3 w4 w5 w6 eT A0 E (RoadKit.fitC_of A0 fun i hi v hv => q3 v (by rw [q1] at hv; simp at hv; exact List.mem_of_getElem? hv)) (g := mkF m pc ls.toArray (.ref a :: st)) rfl (by simp [hls, hml]) rfl (hb hc hd) hf (by simpa using hW) hlo (cap := cap) (by rw [q1]; simpa using hcap) hcl hsl
  exact ⟨H.1.size, (h', fun y => H.2 y ∨ y = H.1.size), ⟨hx, hown, hc, hml, hnm, hrt, hlk, hEL, hSA, hls, T', L, vm0, k0, X', e', hS, (Nat.le_trans hk Ex.1), hZ, (hG.ext Ex A'.lt), hF, ⟨fun x q => Or.inl (hMo.1 x q), Nat.le_trans hMo.2 Ex.1⟩, hst.trans (st' _ (Steps.refl _))⟩, Nat.le_refl _, ⟨(Keep.refl _ _).ext Ex, fun _ q => Or.inl q⟩, ⟨_, A', q1, q2, q3⟩, Or.inr rfl, E'⟩
end Laws

abbrev EL0 : List (String × Nat) := consts_1
def Glb (Z : State) (a0 : Array Value) : Prop := (∀ d ∈ tables_1, d.before a0 Z = true) ∧ (∀ d ∈ jdkStatics_1, d.before a0 Z = true) ∧ Fit Z ∧ narrow_1.value a0 Z none Z [] = some true
def txtAt (k : Nat) : String := match tables_1[k]? with
  | some (.stringLink _ _ t) => t
  | _ => ""
theorem wd_0 {Z : State} {a0 : Array Value} (G : Glb Z a0) : (Jvm.Cond.methodLink "com/example/rightful_roles/rightfulroles/core/PermissionToStringPinLaw" (11 : Nat) ({ cls := "com/example/rightful_roles/rightfulroles/core/PermissionToStringPinLaw", name := "ch", desc := "(I)C" } : Jvm.MethodName)).before a0 Z = true := G.1 _ (List.mem_of_getElem? (i := 0) rfl)
theorem wd_1 {Z : State} {a0 : Array Value} (G : Glb Z a0) : (Jvm.Cond.static ({ cls := "com/example/rightful_roles/rightfulroles/core/PermissionToStringPinLaw", name := "ch", desc := "(I)C" } : Jvm.MethodName)).before a0 Z = true := G.1 _ (List.mem_of_getElem? (i := 1) rfl)
theorem wd_2 {Z : State} {a0 : Array Value} (G : Glb Z a0) : (Jvm.Cond.initialized "com/example/rightful_roles/rightfulroles/core/PermissionToStringPinLaw").before a0 Z = true := G.1 _ (List.mem_of_getElem? (i := 2) rfl)
theorem wd_3 {Z : State} {a0 : Array Value} (G : Glb Z a0) : (Jvm.Cond.code ({ cls := "com/example/rightful_roles/rightfulroles/core/PermissionToStringPinLaw", name := "ch", desc := "(I)C" } : Jvm.MethodName) method_2_code (2 : Nat) (Option.some Jvm.ClassFile.FieldType.char)).before a0 Z = true := G.1 _ (List.mem_of_getElem? (i := 3) rfl)
theorem wd_4 {Z : State} {a0 : Array Value} (G : Glb Z a0) : (Jvm.Cond.constant "com/example/rightful_roles/rightfulroles/core/PermissionToStringPinLaw" (7 : Nat) (65535 : Int32)).before a0 Z = true := G.1 _ (List.mem_of_getElem? (i := 4) rfl)
theorem wd_5 {Z : State} {a0 : Array Value} (G : Glb Z a0) : (Jvm.Cond.constant "com/example/rightful_roles/rightfulroles/core/PermissionToStringPinLaw" (8 : Nat) (55296 : Int32)).before a0 Z = true := G.1 _ (List.mem_of_getElem? (i := 5) rfl)
theorem wd_6 {Z : State} {a0 : Array Value} (G : Glb Z a0) : (Jvm.Cond.methodLink "com/example/rightful_roles/rightfulroles/core/PermissionToStringPinLaw" (22 : Nat) ({ cls := "java/lang/String", name := "valueOf", desc := "(C)Ljava/lang/String;" } : Jvm.MethodName)).before a0 Z = true := G.1 _ (List.mem_of_getElem? (i := 6) rfl)
theorem wd_7 {Z : State} {a0 : Array Value} (G : Glb Z a0) : (Jvm.Cond.static ({ cls := "java/lang/String", name := "valueOf", desc := "(C)Ljava/lang/String;" } : Jvm.MethodName)).before a0 Z = true := G.1 _ (List.mem_of_getElem? (i := 7) rfl)
theorem wd_8 {Z : State} {a0 : Array Value} (G : Glb Z a0) : (Jvm.Cond.initialized "java/lang/String").before a0 Z = true := G.1 _ (List.mem_of_getElem? (i := 8) rfl)
theorem wd_9 {Z : State} {a0 : Array Value} (G : Glb Z a0) : (Jvm.Cond.code ({ cls := "java/lang/String", name := "valueOf", desc := "(C)Ljava/lang/String;" } : Jvm.MethodName) jdk_42_method_139_code (1 : Nat) (Option.some (Jvm.ClassFile.FieldType.object "java/lang/String"))).before a0 Z = true := G.1 _ (List.mem_of_getElem? (i := 9) rfl)
theorem wd_10 {Z : State} {a0 : Array Value} (G : Glb Z a0) : (Jvm.Cond.fieldLink "java/lang/String" (38 : Nat) "java/lang/String" "COMPACT_STRINGS" "Z").before a0 Z = true := G.1 _ (List.mem_of_getElem? (i := 10) rfl)
theorem wd_11 {Z : State} {a0 : Array Value} (G : Glb Z a0) : (Jvm.Cond.methodLink "java/lang/String" (1015 : Nat) ({ cls := "java/lang/StringLatin1", name := "canEncode", desc := "(C)Z" } : Jvm.MethodName)).before a0 Z = true := G.1 _ (List.mem_of_getElem? (i := 11) rfl)
theorem wd_12 {Z : State} {a0 : Array Value} (G : Glb Z a0) : (Jvm.Cond.static ({ cls := "java/lang/StringLatin1", name := "canEncode", desc := "(C)Z" } : Jvm.MethodName)).before a0 Z = true := G.1 _ (List.mem_of_getElem? (i := 12) rfl)
theorem wd_13 {Z : State} {a0 : Array Value} (G : Glb Z a0) : (Jvm.Cond.initialized "java/lang/StringLatin1").before a0 Z = true := G.1 _ (List.mem_of_getElem? (i := 13) rfl)
theorem wd_14 {Z : State} {a0 : Array Value} (G : Glb Z a0) : (Jvm.Cond.code ({ cls := "java/lang/StringLatin1", name := "canEncode", desc := "(C)Z" } : Jvm.MethodName) jdk_43_method_3_code (1 : Nat) (Option.some Jvm.ClassFile.FieldType.boolean)).before a0 Z = true := G.1 _ (List.mem_of_getElem? (i := 14) rfl)
theorem wd_15 {Z : State} {a0 : Array Value} (G : Glb Z a0) : (Jvm.Cond.classLink "java/lang/String" (10 : Nat) "java/lang/String").before a0 Z = true := G.1 _ (List.mem_of_getElem? (i := 15) rfl)
theorem wd_16 {Z : State} {a0 : Array Value} (G : Glb Z a0) : (Jvm.Cond.instantiable "java/lang/String" (4 : Nat)).before a0 Z = true := G.1 _ (List.mem_of_getElem? (i := 16) rfl)
theorem wd_17 {Z : State} {a0 : Array Value} (G : Glb Z a0) : (Jvm.Cond.methodLink "java/lang/String" (1018 : Nat) ({ cls := "java/lang/StringLatin1", name := "toBytes", desc := "(C)[B" } : Jvm.MethodName)).before a0 Z = true := G.1 _ (List.mem_of_getElem? (i := 17) rfl)
theorem wd_18 {Z : State} {a0 : Array Value} (G : Glb Z a0) : (Jvm.Cond.static ({ cls := "java/lang/StringLatin1", name := "toBytes", desc := "(C)[B" } : Jvm.MethodName)).before a0 Z = true := G.1 _ (List.mem_of_getElem? (i := 18) rfl)
theorem wd_19 {Z : State} {a0 : Array Value} (G : Glb Z a0) : (Jvm.Cond.code ({ cls := "java/lang/StringLatin1", name := "toBytes", desc := "(C)[B" } : Jvm.MethodName) jdk_43_method_46_code (1 : Nat) (Option.some (Jvm.ClassFile.FieldType.array Jvm.ClassFile.FieldType.byte))).before a0 Z = true := G.1 _ (List.mem_of_getElem? (i := 19) rfl)
theorem wd_20 {Z : State} {a0 : Array Value} (G : Glb Z a0) : (Jvm.Cond.arrayClass Jvm.ClassFile.FieldType.byte).before a0 Z = true := G.1 _ (List.mem_of_getElem? (i := 20) rfl)
theorem wd_21 {Z : State} {a0 : Array Value} (G : Glb Z a0) : (Jvm.Cond.methodLink "java/lang/String" (209 : Nat) ({ cls := "java/lang/String", name := "<init>", desc := "([BB)V" } : Jvm.MethodName)).before a0 Z = true := G.1 _ (List.mem_of_getElem? (i := 21) rfl)
theorem wd_22 {Z : State} {a0 : Array Value} (G : Glb Z a0) : (Jvm.Cond.instanceMethod ({ cls := "java/lang/String", name := "<init>", desc := "([BB)V" } : Jvm.MethodName)).before a0 Z = true := G.1 _ (List.mem_of_getElem? (i := 22) rfl)
theorem wd_24 {Z : State} {a0 : Array Value} (G : Glb Z a0) : (Jvm.Cond.code ({ cls := "java/lang/String", name := "<init>", desc := "([BB)V" } : Jvm.MethodName) jdk_42_method_151_code (3 : Nat) (Option.none : Option Jvm.ClassFile.FieldType)).before a0 Z = true := G.1 _ (List.mem_of_getElem? (i := 24) rfl)
theorem wd_25 {Z : State} {a0 : Array Value} (G : Glb Z a0) : (Jvm.Cond.methodLink "java/lang/String" (1 : Nat) ({ cls := "java/lang/Object", name := "<init>", desc := "()V" } : Jvm.MethodName)).before a0 Z = true := G.1 _ (List.mem_of_getElem? (i := 25) rfl)
theorem wd_26 {Z : State} {a0 : Array Value} (G : Glb Z a0) : (Jvm.Cond.instanceMethod ({ cls := "java/lang/Object", name := "<init>", desc := "()V" } : Jvm.MethodName)).before a0 Z = true := G.1 _ (List.mem_of_getElem? (i := 26) rfl)
theorem wd_27 {Z : State} {a0 : Array Value} (G : Glb Z a0) : (Jvm.Cond.code ({ cls := "java/lang/Object", name := "<init>", desc := "()V" } : Jvm.MethodName) object_method_1_code (1 : Nat) (Option.none : Option Jvm.ClassFile.FieldType)).before a0 Z = true := G.1 _ (List.mem_of_getElem? (i := 27) rfl)
theorem wd_28 {Z : State} {a0 : Array Value} (G : Glb Z a0) : (Jvm.Cond.fieldLink "java/lang/String" (9 : Nat) "java/lang/String" "value" "[B").before a0 Z = true := G.1 _ (List.mem_of_getElem? (i := 28) rfl)
theorem wd_29 {Z : State} {a0 : Array Value} (G : Glb Z a0) : (Jvm.Cond.laysFinal "java/lang/String" "java/lang/String" "value" "[B").before a0 Z = true := G.1 _ (List.mem_of_getElem? (i := 29) rfl)
theorem wd_30 {Z : State} {a0 : Array Value} (G : Glb Z a0) : (Jvm.Cond.fieldLink "java/lang/String" (15 : Nat) "java/lang/String" "coder" "B").before a0 Z = true := G.1 _ (List.mem_of_getElem? (i := 30) rfl)
theorem wd_31 {Z : State} {a0 : Array Value} (G : Glb Z a0) : (Jvm.Cond.laysFinal "java/lang/String" "java/lang/String" "coder" "B").before a0 Z = true := G.1 _ (List.mem_of_getElem? (i := 31) rfl)
theorem wd_32 {Z : State} {a0 : Array Value} (G : Glb Z a0) : (Jvm.Cond.classLink "com/example/rightful_roles/rightfulroles/core/PermissionToStringPinLaw" (17 : Nat) "java/lang/String").before a0 Z = true := G.1 _ (List.mem_of_getElem? (i := 32) rfl)
theorem wd_33 {Z : State} {a0 : Array Value} (G : Glb Z a0) : (Jvm.Cond.arrayClass Jvm.ClassFile.FieldType.char).before a0 Z = true := G.1 _ (List.mem_of_getElem? (i := 33) rfl)
theorem wd_34 {Z : State} {a0 : Array Value} (G : Glb Z a0) : (Jvm.Cond.methodLink "com/example/rightful_roles/rightfulroles/core/PermissionToStringPinLaw" (19 : Nat) ({ cls := "java/lang/String", name := "<init>", desc := "([C)V" } : Jvm.MethodName)).before a0 Z = true := G.1 _ (List.mem_of_getElem? (i := 34) rfl)
theorem wd_35 {Z : State} {a0 : Array Value} (G : Glb Z a0) : (Jvm.Cond.instanceMethod ({ cls := "java/lang/String", name := "<init>", desc := "([C)V" } : Jvm.MethodName)).before a0 Z = true := G.1 _ (List.mem_of_getElem? (i := 35) rfl)
theorem wd_36 {Z : State} {a0 : Array Value} (G : Glb Z a0) : (Jvm.Cond.code ({ cls := "java/lang/String", name := "<init>", desc := "([C)V" } : Jvm.MethodName) jdk_42_method_3_code (2 : Nat) (Option.none : Option Jvm.ClassFile.FieldType)).before a0 Z = true := G.1 _ (List.mem_of_getElem? (i := 36) rfl)
theorem wd_37 {Z : State} {a0 : Array Value} (G : Glb Z a0) : (Jvm.Cond.methodLink "java/lang/String" (27 : Nat) ({ cls := "java/lang/String", name := "<init>", desc := "([CIILjava/lang/Void;)V" } : Jvm.MethodName)).before a0 Z = true := G.1 _ (List.mem_of_getElem? (i := 37) rfl)
theorem wd_38 {Z : State} {a0 : Array Value} (G : Glb Z a0) : (Jvm.Cond.instanceMethod ({ cls := "java/lang/String", name := "<init>", desc := "([CIILjava/lang/Void;)V" } : Jvm.MethodName)).before a0 Z = true := G.1 _ (List.mem_of_getElem? (i := 38) rfl)
theorem wd_39 {Z : State} {a0 : Array Value} (G : Glb Z a0) : (Jvm.Cond.code ({ cls := "java/lang/String", name := "<init>", desc := "([CIILjava/lang/Void;)V" } : Jvm.MethodName) jdk_42_method_149_code (6 : Nat) (Option.none : Option Jvm.ClassFile.FieldType)).before a0 Z = true := G.1 _ (List.mem_of_getElem? (i := 39) rfl)
theorem wd_40 {Z : State} {a0 : Array Value} (G : Glb Z a0) : (Jvm.Cond.methodLink "java/lang/String" (177 : Nat) ({ cls := "java/lang/StringUTF16", name := "compress", desc := "([CII)[B" } : Jvm.MethodName)).before a0 Z = true := G.1 _ (List.mem_of_getElem? (i := 40) rfl)
theorem wd_41 {Z : State} {a0 : Array Value} (G : Glb Z a0) : (Jvm.Cond.static ({ cls := "java/lang/StringUTF16", name := "compress", desc := "([CII)[B" } : Jvm.MethodName)).before a0 Z = true := G.1 _ (List.mem_of_getElem? (i := 41) rfl)
theorem wd_42 {Z : State} {a0 : Array Value} (G : Glb Z a0) : (Jvm.Cond.initialized "java/lang/StringUTF16").before a0 Z = true := G.1 _ (List.mem_of_getElem? (i := 42) rfl)
theorem wd_43 {Z : State} {a0 : Array Value} (G : Glb Z a0) : (Jvm.Cond.code ({ cls := "java/lang/StringUTF16", name := "compress", desc := "([CII)[B" } : Jvm.MethodName) jdk_52_method_16_code (6 : Nat) (Option.some (Jvm.ClassFile.FieldType.array Jvm.ClassFile.FieldType.byte))).before a0 Z = true := G.1 _ (List.mem_of_getElem? (i := 43) rfl)
theorem wd_44 {Z : State} {a0 : Array Value} (G : Glb Z a0) : (Jvm.Cond.methodLink "java/lang/StringUTF16" (115 : Nat) ({ cls := "java/lang/StringUTF16", name := "compress", desc := "([CI[BII)I" } : Jvm.MethodName)).before a0 Z = true := G.1 _ (List.mem_of_getElem? (i := 44) rfl)
theorem wd_45 {Z : State} {a0 : Array Value} (G : Glb Z a0) : (Jvm.Cond.static ({ cls := "java/lang/StringUTF16", name := "compress", desc := "([CI[BII)I" } : Jvm.MethodName)).before a0 Z = true := G.1 _ (List.mem_of_getElem? (i := 45) rfl)
theorem wd_46 {Z : State} {a0 : Array Value} (G : Glb Z a0) : (Jvm.Cond.code ({ cls := "java/lang/StringUTF16", name := "compress", desc := "([CI[BII)I" } : Jvm.MethodName) jdk_52_method_21_code (7 : Nat) (Option.some Jvm.ClassFile.FieldType.int)).before a0 Z = true := G.1 _ (List.mem_of_getElem? (i := 46) rfl)
theorem wd_47 {Z : State} {a0 : Array Value} (G : Glb Z a0) : (Jvm.Cond.methodLink "java/lang/String" (47 : Nat) ({ cls := "java/lang/StringUTF16", name := "coderFromArrayLen", desc := "([BI)B" } : Jvm.MethodName)).before a0 Z = true := G.1 _ (List.mem_of_getElem? (i := 47) rfl)
theorem wd_48 {Z : State} {a0 : Array Value} (G : Glb Z a0) : (Jvm.Cond.static ({ cls := "java/lang/StringUTF16", name := "coderFromArrayLen", desc := "([BI)B" } : Jvm.MethodName)).before a0 Z = true := G.1 _ (List.mem_of_getElem? (i := 48) rfl)
theorem wd_49 {Z : State} {a0 : Array Value} (G : Glb Z a0) : (Jvm.Cond.code ({ cls := "java/lang/StringUTF16", name := "coderFromArrayLen", desc := "([BI)B" } : Jvm.MethodName) jdk_52_method_15_code (2 : Nat) (Option.some Jvm.ClassFile.FieldType.byte)).before a0 Z = true := G.1 _ (List.mem_of_getElem? (i := 49) rfl)
theorem wd_50 {Z : State} {a0 : Array Value} (G : Glb Z a0) : (Jvm.Cond.classLink "com/example/rightful_roles/rightfulroles/core/PermissionToStringPinLaw" (26 : Nat) "com/example/rightful_roles/rightfulroles/core/Permission").before a0 Z = true := G.1 _ (List.mem_of_getElem? (i := 50) rfl)
theorem wd_51 {Z : State} {a0 : Array Value} (G : Glb Z a0) : (Jvm.Cond.instantiable "com/example/rightful_roles/rightfulroles/core/Permission" (2 : Nat)).before a0 Z = true := G.1 _ (List.mem_of_getElem? (i := 51) rfl)
theorem wd_52 {Z : State} {a0 : Array Value} (G : Glb Z a0) : (Jvm.Cond.initialized "com/example/rightful_roles/rightfulroles/core/Permission").before a0 Z = true := G.1 _ (List.mem_of_getElem? (i := 52) rfl)
theorem wd_53 {Z : State} {a0 : Array Value} (G : Glb Z a0) : (Jvm.Cond.methodLink "com/example/rightful_roles/rightfulroles/core/PermissionToStringPinLaw" (28 : Nat) ({ cls := "com/example/rightful_roles/rightfulroles/core/Permission", name := "<init>", desc := "(Ljava/lang/String;Ljava/lang/String;)V" } : Jvm.MethodName)).before a0 Z = true := G.1 _ (List.mem_of_getElem? (i := 53) rfl)
theorem wd_54 {Z : State} {a0 : Array Value} (G : Glb Z a0) : (Jvm.Cond.instanceMethod ({ cls := "com/example/rightful_roles/rightfulroles/core/Permission", name := "<init>", desc := "(Ljava/lang/String;Ljava/lang/String;)V" } : Jvm.MethodName)).before a0 Z = true := G.1 _ (List.mem_of_getElem? (i := 54) rfl)
theorem wd_55 {Z : State} {a0 : Array Value} (G : Glb Z a0) : (Jvm.Cond.code ({ cls := "com/example/rightful_roles/rightfulroles/core/Permission", name := "<init>", desc := "(Ljava/lang/String;Ljava/lang/String;)V" } : Jvm.MethodName) prog_12_method_1_code (3 : Nat) (Option.none : Option Jvm.ClassFile.FieldType)).before a0 Z = true := G.1 _ (List.mem_of_getElem? (i := 55) rfl)
theorem wd_56 {Z : State} {a0 : Array Value} (G : Glb Z a0) : (Jvm.Cond.methodLink "com/example/rightful_roles/rightfulroles/core/Permission" (1 : Nat) ({ cls := "java/lang/Object", name := "<init>", desc := "()V" } : Jvm.MethodName)).before a0 Z = true := G.1 _ (List.mem_of_getElem? (i := 56) rfl)
theorem wd_57 {Z : State} {a0 : Array Value} (G : Glb Z a0) : (Jvm.Cond.stringLink "com/example/rightful_roles/rightfulroles/core/Permission" (7 : Nat) (txtAt 57)).before a0 Z = true := G.1 _ (List.mem_of_getElem? (i := 57) rfl)
theorem wd_60 {Z : State} {a0 : Array Value} (G : Glb Z a0) : (Jvm.Cond.methodLink "com/example/rightful_roles/rightfulroles/core/Permission" (9 : Nat) ({ cls := "com/example/rightful_roles/rightfulroles/core/Names", name := "requireName", desc := "(Ljava/lang/String;Ljava/lang/String;)Ljava/lang/String;" } : Jvm.MethodName)).before a0 Z = true := G.1 _ (List.mem_of_getElem? (i := 60) rfl)
theorem wd_61 {Z : State} {a0 : Array Value} (G : Glb Z a0) : (Jvm.Cond.static ({ cls := "com/example/rightful_roles/rightfulroles/core/Names", name := "requireName", desc := "(Ljava/lang/String;Ljava/lang/String;)Ljava/lang/String;" } : Jvm.MethodName)).before a0 Z = true := G.1 _ (List.mem_of_getElem? (i := 61) rfl)
theorem wd_62 {Z : State} {a0 : Array Value} (G : Glb Z a0) : (Jvm.Cond.initialized "com/example/rightful_roles/rightfulroles/core/Names").before a0 Z = true := G.1 _ (List.mem_of_getElem? (i := 62) rfl)
theorem wd_63 {Z : State} {a0 : Array Value} (G : Glb Z a0) : (Jvm.Cond.code ({ cls := "com/example/rightful_roles/rightfulroles/core/Names", name := "requireName", desc := "(Ljava/lang/String;Ljava/lang/String;)Ljava/lang/String;" } : Jvm.MethodName) prog_11_method_2_code (4 : Nat) (Option.some (Jvm.ClassFile.FieldType.object "java/lang/String"))).before a0 Z = true := G.1 _ (List.mem_of_getElem? (i := 63) rfl)
theorem wd_64 {Z : State} {a0 : Array Value} (G : Glb Z a0) : (Jvm.Cond.methodLink "com/example/rightful_roles/rightfulroles/core/Names" (7 : Nat) ({ cls := "java/util/Objects", name := "requireNonNull", desc := "(Ljava/lang/Object;Ljava/lang/String;)Ljava/lang/Object;" } : Jvm.MethodName)).before a0 Z = true := G.1 _ (List.mem_of_getElem? (i := 64) rfl)
theorem wd_65 {Z : State} {a0 : Array Value} (G : Glb Z a0) : (Jvm.Cond.static ({ cls := "java/util/Objects", name := "requireNonNull", desc := "(Ljava/lang/Object;Ljava/lang/String;)Ljava/lang/Object;" } : Jvm.MethodName)).before a0 Z = true := G.1 _ (List.mem_of_getElem? (i := 65) rfl)
theorem wd_66 {Z : State} {a0 : Array Value} (G : Glb Z a0) : (Jvm.Cond.initialized "java/util/Objects").before a0 Z = true := G.1 _ (List.mem_of_getElem? (i := 66) rfl)
theorem wd_67 {Z : State} {a0 : Array Value} (G : Glb Z a0) : (Jvm.Cond.code ({ cls := "java/util/Objects", name := "requireNonNull", desc := "(Ljava/lang/Object;Ljava/lang/String;)Ljava/lang/Object;" } : Jvm.MethodName) jdk_31_method_11_code (2 : Nat) (Option.some (Jvm.ClassFile.FieldType.object "java/lang/Object"))).before a0 Z = true := G.1 _ (List.mem_of_getElem? (i := 67) rfl)
theorem wd_68 {Z : State} {a0 : Array Value} (G : Glb Z a0) : (Jvm.Cond.methodLink "com/example/rightful_roles/rightfulroles/core/Names" (13 : Nat) ({ cls := "java/lang/String", name := "isEmpty", desc := "()Z" } : Jvm.MethodName)).before a0 Z = true := G.1 _ (List.mem_of_getElem? (i := 68) rfl)
theorem wd_69 {Z : State} {a0 : Array Value} (G : Glb Z a0) : (Jvm.Cond.declares ({ cls := "java/lang/String", name := "isEmpty", desc := "()Z" } : Jvm.MethodName)).before a0 Z = true := G.1 _ (List.mem_of_getElem? (i := 69) rfl)
theorem wd_70 {Z : State} {a0 : Array Value} (G : Glb Z a0) : (Jvm.Cond.instanceMethod ({ cls := "java/lang/String", name := "isEmpty", desc := "()Z" } : Jvm.MethodName)).before a0 Z = true := G.1 _ (List.mem_of_getElem? (i := 70) rfl)
theorem wd_71 {Z : State} {a0 : Array Value} (G : Glb Z a0) : (Jvm.Cond.selects "java/lang/String" ({ cls := "java/lang/String", name := "isEmpty", desc := "()Z" } : Jvm.MethodName) ({ cls := "java/lang/String", name := "isEmpty", desc := "()Z" } : Jvm.MethodName)).before a0 Z = true := G.1 _ (List.mem_of_getElem? (i := 71) rfl)
theorem wd_72 {Z : State} {a0 : Array Value} (G : Glb Z a0) : (Jvm.Cond.code ({ cls := "java/lang/String", name := "isEmpty", desc := "()Z" } : Jvm.MethodName) jdk_42_method_55_code (1 : Nat) (Option.some Jvm.ClassFile.FieldType.boolean)).before a0 Z = true := G.1 _ (List.mem_of_getElem? (i := 72) rfl)
theorem wd_73 {Z : State} {a0 : Array Value} (G : Glb Z a0) : (Jvm.Cond.methodLink "com/example/rightful_roles/rightfulroles/core/Names" (39 : Nat) ({ cls := "java/lang/String", name := "length", desc := "()I" } : Jvm.MethodName)).before a0 Z = true := G.1 _ (List.mem_of_getElem? (i := 73) rfl)
theorem wd_74 {Z : State} {a0 : Array Value} (G : Glb Z a0) : (Jvm.Cond.declares ({ cls := "java/lang/String", name := "length", desc := "()I" } : Jvm.MethodName)).before a0 Z = true := G.1 _ (List.mem_of_getElem? (i := 74) rfl)
theorem wd_75 {Z : State} {a0 : Array Value} (G : Glb Z a0) : (Jvm.Cond.instanceMethod ({ cls := "java/lang/String", name := "length", desc := "()I" } : Jvm.MethodName)).before a0 Z = true := G.1 _ (List.mem_of_getElem? (i := 75) rfl)
theorem wd_76 {Z : State} {a0 : Array Value} (G : Glb Z a0) : (Jvm.Cond.selects "java/lang/String" ({ cls := "java/lang/String", name := "length", desc := "()I" } : Jvm.MethodName) ({ cls := "java/lang/String", name := "length", desc := "()I" } : Jvm.MethodName)).before a0 Z = true := G.1 _ (List.mem_of_getElem? (i := 76) rfl)
theorem wd_77 {Z : State} {a0 : Array Value} (G : Glb Z a0) : (Jvm.Cond.code ({ cls := "java/lang/String", name := "length", desc := "()I" } : Jvm.MethodName) jdk_42_method_54_code (1 : Nat) (Option.some Jvm.ClassFile.FieldType.int)).before a0 Z = true := G.1 _ (List.mem_of_getElem? (i := 77) rfl)
theorem wd_78 {Z : State} {a0 : Array Value} (G : Glb Z a0) : (Jvm.Cond.methodLink "java/lang/String" (335 : Nat) ({ cls := "java/lang/String", name := "coder", desc := "()B" } : Jvm.MethodName)).before a0 Z = true := G.1 _ (List.mem_of_getElem? (i := 78) rfl)
theorem wd_79 {Z : State} {a0 : Array Value} (G : Glb Z a0) : (Jvm.Cond.declares ({ cls := "java/lang/String", name := "coder", desc := "()B" } : Jvm.MethodName)).before a0 Z = true := G.1 _ (List.mem_of_getElem? (i := 79) rfl)
theorem wd_80 {Z : State} {a0 : Array Value} (G : Glb Z a0) : (Jvm.Cond.instanceMethod ({ cls := "java/lang/String", name := "coder", desc := "()B" } : Jvm.MethodName)).before a0 Z = true := G.1 _ (List.mem_of_getElem? (i := 80) rfl)
theorem wd_81 {Z : State} {a0 : Array Value} (G : Glb Z a0) : (Jvm.Cond.selects "java/lang/String" ({ cls := "java/lang/String", name := "coder", desc := "()B" } : Jvm.MethodName) ({ cls := "java/lang/String", name := "coder", desc := "()B" } : Jvm.MethodName)).before a0 Z = true := G.1 _ (List.mem_of_getElem? (i := 81) rfl)
theorem wd_82 {Z : State} {a0 : Array Value} (G : Glb Z a0) : (Jvm.Cond.code ({ cls := "java/lang/String", name := "coder", desc := "()B" } : Jvm.MethodName) jdk_42_method_152_code (1 : Nat) (Option.some Jvm.ClassFile.FieldType.byte)).before a0 Z = true := G.1 _ (List.mem_of_getElem? (i := 82) rfl)
theorem wd_83 {Z : State} {a0 : Array Value} (G : Glb Z a0) : (Jvm.Cond.methodLink "com/example/rightful_roles/rightfulroles/core/Names" (43 : Nat) ({ cls := "java/lang/String", name := "codePointAt", desc := "(I)I" } : Jvm.MethodName)).before a0 Z = true := G.1 _ (List.mem_of_getElem? (i := 83) rfl)
theorem wd_84 {Z : State} {a0 : Array Value} (G : Glb Z a0) : (Jvm.Cond.declares ({ cls := "java/lang/String", name := "codePointAt", desc := "(I)I" } : Jvm.MethodName)).before a0 Z = true := G.1 _ (List.mem_of_getElem? (i := 84) rfl)
theorem wd_85 {Z : State} {a0 : Array Value} (G : Glb Z a0) : (Jvm.Cond.instanceMethod ({ cls := "java/lang/String", name := "codePointAt", desc := "(I)I" } : Jvm.MethodName)).before a0 Z = true := G.1 _ (List.mem_of_getElem? (i := 85) rfl)
theorem wd_86 {Z : State} {a0 : Array Value} (G : Glb Z a0) : (Jvm.Cond.selects "java/lang/String" ({ cls := "java/lang/String", name := "codePointAt", desc := "(I)I" } : Jvm.MethodName) ({ cls := "java/lang/String", name := "codePointAt", desc := "(I)I" } : Jvm.MethodName)).before a0 Z = true := G.1 _ (List.mem_of_getElem? (i := 86) rfl)
theorem wd_87 {Z : State} {a0 : Array Value} (G : Glb Z a0) : (Jvm.Cond.code ({ cls := "java/lang/String", name := "codePointAt", desc := "(I)I" } : Jvm.MethodName) jdk_42_method_57_code (3 : Nat) (Option.some Jvm.ClassFile.FieldType.int)).before a0 Z = true := G.1 _ (List.mem_of_getElem? (i := 87) rfl)
theorem wd_88 {Z : State} {a0 : Array Value} (G : Glb Z a0) : (Jvm.Cond.methodLink "java/lang/String" (492 : Nat) ({ cls := "java/lang/String", name := "isLatin1", desc := "()Z" } : Jvm.MethodName)).before a0 Z = true := G.1 _ (List.mem_of_getElem? (i := 88) rfl)
theorem wd_89 {Z : State} {a0 : Array Value} (G : Glb Z a0) : (Jvm.Cond.declares ({ cls := "java/lang/String", name := "isLatin1", desc := "()Z" } : Jvm.MethodName)).before a0 Z = true := G.1 _ (List.mem_of_getElem? (i := 89) rfl)
theorem wd_90 {Z : State} {a0 : Array Value} (G : Glb Z a0) : (Jvm.Cond.instanceMethod ({ cls := "java/lang/String", name := "isLatin1", desc := "()Z" } : Jvm.MethodName)).before a0 Z = true := G.1 _ (List.mem_of_getElem? (i := 90) rfl)
theorem wd_91 {Z : State} {a0 : Array Value} (G : Glb Z a0) : (Jvm.Cond.selects "java/lang/String" ({ cls := "java/lang/String", name := "isLatin1", desc := "()Z" } : Jvm.MethodName) ({ cls := "java/lang/String", name := "isLatin1", desc := "()Z" } : Jvm.MethodName)).before a0 Z = true := G.1 _ (List.mem_of_getElem? (i := 91) rfl)
theorem wd_92 {Z : State} {a0 : Array Value} (G : Glb Z a0) : (Jvm.Cond.code ({ cls := "java/lang/String", name := "isLatin1", desc := "()Z" } : Jvm.MethodName) jdk_42_method_154_code (1 : Nat) (Option.some Jvm.ClassFile.FieldType.boolean)).before a0 Z = true := G.1 _ (List.mem_of_getElem? (i := 92) rfl)
theorem wd_93 {Z : State} {a0 : Array Value} (G : Glb Z a0) : (Jvm.Cond.methodLink "java/lang/String" (499 : Nat) ({ cls := "java/lang/String", name := "checkIndex", desc := "(II)V" } : Jvm.MethodName)).before a0 Z = true := G.1 _ (List.mem_of_getElem? (i := 93) rfl)
theorem wd_94 {Z : State} {a0 : Array Value} (G : Glb Z a0) : (Jvm.Cond.static ({ cls := "java/lang/String", name := "checkIndex", desc := "(II)V" } : Jvm.MethodName)).before a0 Z = true := G.1 _ (List.mem_of_getElem? (i := 94) rfl)
theorem wd_95 {Z : State} {a0 : Array Value} (G : Glb Z a0) : (Jvm.Cond.code ({ cls := "java/lang/String", name := "checkIndex", desc := "(II)V" } : Jvm.MethodName) jdk_42_method_155_code (2 : Nat) (Option.none : Option Jvm.ClassFile.FieldType)).before a0 Z = true := G.1 _ (List.mem_of_getElem? (i := 95) rfl)
theorem wd_96 {Z : State} {a0 : Array Value} (G : Glb Z a0) : (Jvm.Cond.fieldLink "java/lang/String" (1053 : Nat) "jdk/internal/util/Preconditions" "SIOOBE_FORMATTER" "Ljava/util/function/BiFunction;").before a0 Z = true := G.1 _ (List.mem_of_getElem? (i := 96) rfl)
theorem wd_97 {Z : State} {a0 : Array Value} (G : Glb Z a0) : (Jvm.Cond.initialized "jdk/internal/util/Preconditions").before a0 Z = true := G.1 _ (List.mem_of_getElem? (i := 97) rfl)
theorem wd_98 {Z : State} {a0 : Array Value} (G : Glb Z a0) : (Jvm.Cond.methodLink "java/lang/String" (1059 : Nat) ({ cls := "jdk/internal/util/Preconditions", name := "checkIndex", desc := "(IILjava/util/function/BiFunction;)I" } : Jvm.MethodName)).before a0 Z = true := G.1 _ (List.mem_of_getElem? (i := 98) rfl)
theorem wd_99 {Z : State} {a0 : Array Value} (G : Glb Z a0) : (Jvm.Cond.static ({ cls := "jdk/internal/util/Preconditions", name := "checkIndex", desc := "(IILjava/util/function/BiFunction;)I" } : Jvm.MethodName)).before a0 Z = true := G.1 _ (List.mem_of_getElem? (i := 99) rfl)
theorem wd_100 {Z : State} {a0 : Array Value} (G : Glb Z a0) : (Jvm.Cond.code ({ cls := "jdk/internal/util/Preconditions", name := "checkIndex", desc := "(IILjava/util/function/BiFunction;)I" } : Jvm.MethodName) jdk_41_method_11_code (3 : Nat) (Option.some Jvm.ClassFile.FieldType.int)).before a0 Z = true := G.1 _ (List.mem_of_getElem? (i := 100) rfl)
theorem wd_101 {Z : State} {a0 : Array Value} (G : Glb Z a0) : (Jvm.Cond.constant "com/example/rightful_roles/rightfulroles/core/Names" (49 : Nat) (55296 : Int32)).before a0 Z = true := G.1 _ (List.mem_of_getElem? (i := 101) rfl)
theorem wd_102 {Z : State} {a0 : Array Value} (G : Glb Z a0) : (Jvm.Cond.methodLink "com/example/rightful_roles/rightfulroles/core/Names" (56 : Nat) ({ cls := "java/lang/Character", name := "charCount", desc := "(I)I" } : Jvm.MethodName)).before a0 Z = true := G.1 _ (List.mem_of_getElem? (i := 102) rfl)
theorem wd_103 {Z : State} {a0 : Array Value} (G : Glb Z a0) : (Jvm.Cond.static ({ cls := "java/lang/Character", name := "charCount", desc := "(I)I" } : Jvm.MethodName)).before a0 Z = true := G.1 _ (List.mem_of_getElem? (i := 103) rfl)
theorem wd_104 {Z : State} {a0 : Array Value} (G : Glb Z a0) : (Jvm.Cond.initialized "java/lang/Character").before a0 Z = true := G.1 _ (List.mem_of_getElem? (i := 104) rfl)
theorem wd_105 {Z : State} {a0 : Array Value} (G : Glb Z a0) : (Jvm.Cond.code ({ cls := "java/lang/Character", name := "charCount", desc := "(I)I" } : Jvm.MethodName) jdk_89_method_18_code (1 : Nat) (Option.some Jvm.ClassFile.FieldType.int)).before a0 Z = true := G.1 _ (List.mem_of_getElem? (i := 105) rfl)
theorem wd_106 {Z : State} {a0 : Array Value} (G : Glb Z a0) : (Jvm.Cond.constant "java/lang/Character" (73 : Nat) (65536 : Int32)).before a0 Z = true := G.1 _ (List.mem_of_getElem? (i := 106) rfl)
theorem wd_107 {Z : State} {a0 : Array Value} (G : Glb Z a0) : (Jvm.Cond.fieldLink "com/example/rightful_roles/rightfulroles/core/Permission" (15 : Nat) "com/example/rightful_roles/rightfulroles/core/Permission" "operation" "Ljava/lang/String;").before a0 Z = true := G.1 _ (List.mem_of_getElem? (i := 107) rfl)
theorem wd_108 {Z : State} {a0 : Array Value} (G : Glb Z a0) : (Jvm.Cond.laysFinal "com/example/rightful_roles/rightfulroles/core/Permission" "com/example/rightful_roles/rightfulroles/core/Permission" "operation" "Ljava/lang/String;").before a0 Z = true := G.1 _ (List.mem_of_getElem? (i := 108) rfl)
theorem wd_109 {Z : State} {a0 : Array Value} (G : Glb Z a0) : (Jvm.Cond.stringLink "com/example/rightful_roles/rightfulroles/core/Permission" (20 : Nat) (txtAt 109)).before a0 Z = true := G.1 _ (List.mem_of_getElem? (i := 109) rfl)
theorem wd_110 {Z : State} {a0 : Array Value} (G : Glb Z a0) : (Jvm.Cond.fieldLink "com/example/rightful_roles/rightfulroles/core/Permission" (22 : Nat) "com/example/rightful_roles/rightfulroles/core/Permission" "object" "Ljava/lang/String;").before a0 Z = true := G.1 _ (List.mem_of_getElem? (i := 110) rfl)
theorem wd_111 {Z : State} {a0 : Array Value} (G : Glb Z a0) : (Jvm.Cond.laysFinal "com/example/rightful_roles/rightfulroles/core/Permission" "com/example/rightful_roles/rightfulroles/core/Permission" "object" "Ljava/lang/String;").before a0 Z = true := G.1 _ (List.mem_of_getElem? (i := 111) rfl)
theorem wd_112 {Z : State} {a0 : Array Value} (G : Glb Z a0) : (Jvm.Cond.methodLink "com/example/rightful_roles/rightfulroles/core/PermissionToStringPinLaw" (31 : Nat) ({ cls := "com/example/rightful_roles/rightfulroles/core/Permission", name := "toString", desc := "()Ljava/lang/String;" } : Jvm.MethodName)).before a0 Z = true := G.1 _ (List.mem_of_getElem? (i := 112) rfl)
theorem wd_113 {Z : State} {a0 : Array Value} (G : Glb Z a0) : (Jvm.Cond.declares ({ cls := "com/example/rightful_roles/rightfulroles/core/Permission", name := "toString", desc := "()Ljava/lang/String;" } : Jvm.MethodName)).before a0 Z = true := G.1 _ (List.mem_of_getElem? (i := 113) rfl)
theorem wd_114 {Z : State} {a0 : Array Value} (G : Glb Z a0) : (Jvm.Cond.instanceMethod ({ cls := "com/example/rightful_roles/rightfulroles/core/Permission", name := "toString", desc := "()Ljava/lang/String;" } : Jvm.MethodName)).before a0 Z = true := G.1 _ (List.mem_of_getElem? (i := 114) rfl)
theorem wd_115 {Z : State} {a0 : Array Value} (G : Glb Z a0) : (Jvm.Cond.selects "com/example/rightful_roles/rightfulroles/core/Permission" ({ cls := "com/example/rightful_roles/rightfulroles/core/Permission", name := "toString", desc := "()Ljava/lang/String;" } : Jvm.MethodName) ({ cls := "com/example/rightful_roles/rightfulroles/core/Permission", name := "toString", desc := "()Ljava/lang/String;" } : Jvm.MethodName)).before a0 Z = true := G.1 _ (List.mem_of_getElem? (i := 115) rfl)
theorem wd_116 {Z : State} {a0 : Array Value} (G : Glb Z a0) : (Jvm.Cond.code ({ cls := "com/example/rightful_roles/rightfulroles/core/Permission", name := "toString", desc := "()Ljava/lang/String;" } : Jvm.MethodName) prog_12_method_7_code (1 : Nat) (Option.some (Jvm.ClassFile.FieldType.object "java/lang/String"))).before a0 Z = true := G.1 _ (List.mem_of_getElem? (i := 116) rfl)
theorem wd_117 {Z : State} {a0 : Array Value} (G : Glb Z a0) : (Jvm.Cond.classLink "com/example/rightful_roles/rightfulroles/core/Permission" (36 : Nat) "java/lang/StringBuilder").before a0 Z = true := G.1 _ (List.mem_of_getElem? (i := 117) rfl)
theorem wd_118 {Z : State} {a0 : Array Value} (G : Glb Z a0) : (Jvm.Cond.instantiable "java/lang/StringBuilder" (4 : Nat)).before a0 Z = true := G.1 _ (List.mem_of_getElem? (i := 118) rfl)
theorem wd_119 {Z : State} {a0 : Array Value} (G : Glb Z a0) : (Jvm.Cond.initialized "java/lang/StringBuilder").before a0 Z = true := G.1 _ (List.mem_of_getElem? (i := 119) rfl)
theorem wd_120 {Z : State} {a0 : Array Value} (G : Glb Z a0) : (Jvm.Cond.methodLink "com/example/rightful_roles/rightfulroles/core/Permission" (38 : Nat) ({ cls := "java/lang/StringBuilder", name := "<init>", desc := "()V" } : Jvm.MethodName)).before a0 Z = true := G.1 _ (List.mem_of_getElem? (i := 120) rfl)
theorem wd_121 {Z : State} {a0 : Array Value} (G : Glb Z a0) : (Jvm.Cond.instanceMethod ({ cls := "java/lang/StringBuilder", name := "<init>", desc := "()V" } : Jvm.MethodName)).before a0 Z = true := G.1 _ (List.mem_of_getElem? (i := 121) rfl)
theorem wd_122 {Z : State} {a0 : Array Value} (G : Glb Z a0) : (Jvm.Cond.code ({ cls := "java/lang/StringBuilder", name := "<init>", desc := "()V" } : Jvm.MethodName) jdk_67_method_1_code (1 : Nat) (Option.none : Option Jvm.ClassFile.FieldType)).before a0 Z = true := G.1 _ (List.mem_of_getElem? (i := 122) rfl)
theorem wd_123 {Z : State} {a0 : Array Value} (G : Glb Z a0) : (Jvm.Cond.methodLink "java/lang/StringBuilder" (1 : Nat) ({ cls := "java/lang/AbstractStringBuilder", name := "<init>", desc := "(I)V" } : Jvm.MethodName)).before a0 Z = true := G.1 _ (List.mem_of_getElem? (i := 123) rfl)
theorem wd_124 {Z : State} {a0 : Array Value} (G : Glb Z a0) : (Jvm.Cond.instanceMethod ({ cls := "java/lang/AbstractStringBuilder", name := "<init>", desc := "(I)V" } : Jvm.MethodName)).before a0 Z = true := G.1 _ (List.mem_of_getElem? (i := 124) rfl)
theorem wd_127 {Z : State} {a0 : Array Value} (G : Glb Z a0) : (Jvm.Cond.initialized "java/lang/AbstractStringBuilder").before a0 Z = true := G.1 _ (List.mem_of_getElem? (i := 127) rfl)
theorem wd_128 {Z : State} {a0 : Array Value} (G : Glb Z a0) : (Jvm.Cond.code ({ cls := "java/lang/AbstractStringBuilder", name := "<init>", desc := "(I)V" } : Jvm.MethodName) jdk_68_method_2_code (2 : Nat) (Option.none : Option Jvm.ClassFile.FieldType)).before a0 Z = true := G.1 _ (List.mem_of_getElem? (i := 128) rfl)
theorem wd_129 {Z : State} {a0 : Array Value} (G : Glb Z a0) : (Jvm.Cond.methodLink "java/lang/AbstractStringBuilder" (3 : Nat) ({ cls := "java/lang/Object", name := "<init>", desc := "()V" } : Jvm.MethodName)).before a0 Z = true := G.1 _ (List.mem_of_getElem? (i := 129) rfl)
theorem wd_130 {Z : State} {a0 : Array Value} (G : Glb Z a0) : (Jvm.Cond.fieldLink "java/lang/AbstractStringBuilder" (18 : Nat) "java/lang/String" "COMPACT_STRINGS" "Z").before a0 Z = true := G.1 _ (List.mem_of_getElem? (i := 130) rfl)
theorem wd_131 {Z : State} {a0 : Array Value} (G : Glb Z a0) : (Jvm.Cond.fieldLink "java/lang/AbstractStringBuilder" (15 : Nat) "java/lang/AbstractStringBuilder" "value" "[B").before a0 Z = true := G.1 _ (List.mem_of_getElem? (i := 131) rfl)
theorem wd_132 {Z : State} {a0 : Array Value} (G : Glb Z a0) : (Jvm.Cond.lays "java/lang/StringBuilder" "java/lang/AbstractStringBuilder" "value" "[B").before a0 Z = true := G.1 _ (List.mem_of_getElem? (i := 132) rfl)
theorem wd_133 {Z : State} {a0 : Array Value} (G : Glb Z a0) : (Jvm.Cond.fieldLink "java/lang/AbstractStringBuilder" (22 : Nat) "java/lang/AbstractStringBuilder" "coder" "B").before a0 Z = true := G.1 _ (List.mem_of_getElem? (i := 133) rfl)
theorem wd_134 {Z : State} {a0 : Array Value} (G : Glb Z a0) : (Jvm.Cond.lays "java/lang/StringBuilder" "java/lang/AbstractStringBuilder" "coder" "B").before a0 Z = true := G.1 _ (List.mem_of_getElem? (i := 134) rfl)
theorem wd_135 {Z : State} {a0 : Array Value} (G : Glb Z a0) : (Jvm.Cond.stringLink "com/example/rightful_roles/rightfulroles/core/Permission" (53 : Nat) (txtAt 135)).before a0 Z = true := G.1 _ (List.mem_of_getElem? (i := 135) rfl)
theorem wd_136 {Z : State} {a0 : Array Value} (G : Glb Z a0) : (Jvm.Cond.methodLink "com/example/rightful_roles/rightfulroles/core/Permission" (43 : Nat) ({ cls := "java/lang/StringBuilder", name := "append", desc := "(Ljava/lang/String;)Ljava/lang/StringBuilder;" } : Jvm.MethodName)).before a0 Z = true := G.1 _ (List.mem_of_getElem? (i := 136) rfl)
theorem wd_137 {Z : State} {a0 : Array Value} (G : Glb Z a0) : (Jvm.Cond.declares ({ cls := "java/lang/StringBuilder", name := "append", desc := "(Ljava/lang/String;)Ljava/lang/StringBuilder;" } : Jvm.MethodName)).before a0 Z = true := G.1 _ (List.mem_of_getElem? (i := 137) rfl)
theorem wd_138 {Z : State} {a0 : Array Value} (G : Glb Z a0) : (Jvm.Cond.instanceMethod ({ cls := "java/lang/StringBuilder", name := "append", desc := "(Ljava/lang/String;)Ljava/lang/StringBuilder;" } : Jvm.MethodName)).before a0 Z = true := G.1 _ (List.mem_of_getElem? (i := 138) rfl)
theorem wd_139 {Z : State} {a0 : Array Value} (G : Glb Z a0) : (Jvm.Cond.selects "java/lang/StringBuilder" ({ cls := "java/lang/StringBuilder", name := "append", desc := "(Ljava/lang/String;)Ljava/lang/StringBuilder;" } : Jvm.MethodName) ({ cls := "java/lang/StringBuilder", name := "append", desc := "(Ljava/lang/String;)Ljava/lang/StringBuilder;" } : Jvm.MethodName)).before a0 Z = true := G.1 _ (List.mem_of_getElem? (i := 139) rfl)
theorem wd_140 {Z : State} {a0 : Array Value} (G : Glb Z a0) : (Jvm.Cond.code ({ cls := "java/lang/StringBuilder", name := "append", desc := "(Ljava/lang/String;)Ljava/lang/StringBuilder;" } : Jvm.MethodName) jdk_67_method_7_code (2 : Nat) (Option.some (Jvm.ClassFile.FieldType.object "java/lang/StringBuilder"))).before a0 Z = true := G.1 _ (List.mem_of_getElem? (i := 140) rfl)
theorem wd_141 {Z : State} {a0 : Array Value} (G : Glb Z a0) : (Jvm.Cond.methodLink "java/lang/StringBuilder" (29 : Nat) ({ cls := "java/lang/AbstractStringBuilder", name := "append", desc := "(Ljava/lang/String;)Ljava/lang/AbstractStringBuilder;" } : Jvm.MethodName)).before a0 Z = true := G.1 _ (List.mem_of_getElem? (i := 141) rfl)
theorem wd_142 {Z : State} {a0 : Array Value} (G : Glb Z a0) : (Jvm.Cond.instanceMethod ({ cls := "java/lang/AbstractStringBuilder", name := "append", desc := "(Ljava/lang/String;)Ljava/lang/AbstractStringBuilder;" } : Jvm.MethodName)).before a0 Z = true := G.1 _ (List.mem_of_getElem? (i := 142) rfl)
theorem wd_143 {Z : State} {a0 : Array Value} (G : Glb Z a0) : (Jvm.Cond.superclass "java/lang/StringBuilder" "java/lang/AbstractStringBuilder").before a0 Z = true := G.1 _ (List.mem_of_getElem? (i := 143) rfl)
theorem wd_144 {Z : State} {a0 : Array Value} (G : Glb Z a0) : (Jvm.Cond.declares ({ cls := "java/lang/AbstractStringBuilder", name := "append", desc := "(Ljava/lang/String;)Ljava/lang/AbstractStringBuilder;" } : Jvm.MethodName)).before a0 Z = true := G.1 _ (List.mem_of_getElem? (i := 144) rfl)
theorem wd_145 {Z : State} {a0 : Array Value} (G : Glb Z a0) : (Jvm.Cond.code ({ cls := "java/lang/AbstractStringBuilder", name := "append", desc := "(Ljava/lang/String;)Ljava/lang/AbstractStringBuilder;" } : Jvm.MethodName) jdk_68_method_22_code (3 : Nat) (Option.some (Jvm.ClassFile.FieldType.object "java/lang/AbstractStringBuilder"))).before a0 Z = true := G.1 _ (List.mem_of_getElem? (i := 145) rfl)
theorem wd_146 {Z : State} {a0 : Array Value} (G : Glb Z a0) : (Jvm.Cond.methodLink "java/lang/AbstractStringBuilder" (32 : Nat) ({ cls := "java/lang/String", name := "length", desc := "()I" } : Jvm.MethodName)).before a0 Z = true := G.1 _ (List.mem_of_getElem? (i := 146) rfl)
theorem wd_147 {Z : State} {a0 : Array Value} (G : Glb Z a0) : (Jvm.Cond.fieldLink "java/lang/AbstractStringBuilder" (79 : Nat) "java/lang/AbstractStringBuilder" "count" "I").before a0 Z = true := G.1 _ (List.mem_of_getElem? (i := 147) rfl)
theorem wd_148 {Z : State} {a0 : Array Value} (G : Glb Z a0) : (Jvm.Cond.lays "java/lang/StringBuilder" "java/lang/AbstractStringBuilder" "count" "I").before a0 Z = true := G.1 _ (List.mem_of_getElem? (i := 148) rfl)
theorem wd_149 {Z : State} {a0 : Array Value} (G : Glb Z a0) : (Jvm.Cond.methodLink "java/lang/AbstractStringBuilder" (100 : Nat) ({ cls := "java/lang/AbstractStringBuilder", name := "ensureCapacityInternal", desc := "(I)V" } : Jvm.MethodName)).before a0 Z = true := G.1 _ (List.mem_of_getElem? (i := 149) rfl)
theorem wd_150 {Z : State} {a0 : Array Value} (G : Glb Z a0) : (Jvm.Cond.instanceMethod ({ cls := "java/lang/AbstractStringBuilder", name := "ensureCapacityInternal", desc := "(I)V" } : Jvm.MethodName)).before a0 Z = true := G.1 _ (List.mem_of_getElem? (i := 150) rfl)
theorem wd_152 {Z : State} {a0 : Array Value} (G : Glb Z a0) : (Jvm.Cond.selects "java/lang/StringBuilder" ({ cls := "java/lang/AbstractStringBuilder", name := "ensureCapacityInternal", desc := "(I)V" } : Jvm.MethodName) ({ cls := "java/lang/AbstractStringBuilder", name := "ensureCapacityInternal", desc := "(I)V" } : Jvm.MethodName)).before a0 Z = true := G.1 _ (List.mem_of_getElem? (i := 152) rfl)
theorem wd_153 {Z : State} {a0 : Array Value} (G : Glb Z a0) : (Jvm.Cond.code ({ cls := "java/lang/AbstractStringBuilder", name := "ensureCapacityInternal", desc := "(I)V" } : Jvm.MethodName) jdk_68_method_9_code (3 : Nat) (Option.none : Option Jvm.ClassFile.FieldType)).before a0 Z = true := G.1 _ (List.mem_of_getElem? (i := 153) rfl)
theorem wd_154 {Z : State} {a0 : Array Value} (G : Glb Z a0) : (Jvm.Cond.methodLink "java/lang/AbstractStringBuilder" (208 : Nat) ({ cls := "java/lang/AbstractStringBuilder", name := "putStringAt", desc := "(ILjava/lang/String;)V" } : Jvm.MethodName)).before a0 Z = true := G.1 _ (List.mem_of_getElem? (i := 154) rfl)
theorem wd_155 {Z : State} {a0 : Array Value} (G : Glb Z a0) : (Jvm.Cond.instanceMethod ({ cls := "java/lang/AbstractStringBuilder", name := "putStringAt", desc := "(ILjava/lang/String;)V" } : Jvm.MethodName)).before a0 Z = true := G.1 _ (List.mem_of_getElem? (i := 155) rfl)
theorem wd_157 {Z : State} {a0 : Array Value} (G : Glb Z a0) : (Jvm.Cond.selects "java/lang/StringBuilder" ({ cls := "java/lang/AbstractStringBuilder", name := "putStringAt", desc := "(ILjava/lang/String;)V" } : Jvm.MethodName) ({ cls := "java/lang/AbstractStringBuilder", name := "putStringAt", desc := "(ILjava/lang/String;)V" } : Jvm.MethodName)).before a0 Z = true := G.1 _ (List.mem_of_getElem? (i := 157) rfl)
theorem wd_158 {Z : State} {a0 : Array Value} (G : Glb Z a0) : (Jvm.Cond.code ({ cls := "java/lang/AbstractStringBuilder", name := "putStringAt", desc := "(ILjava/lang/String;)V" } : Jvm.MethodName) jdk_68_method_73_code (3 : Nat) (Option.none : Option Jvm.ClassFile.FieldType)).before a0 Z = true := G.1 _ (List.mem_of_getElem? (i := 158) rfl)
theorem wd_159 {Z : State} {a0 : Array Value} (G : Glb Z a0) : (Jvm.Cond.methodLink "java/lang/AbstractStringBuilder" (397 : Nat) ({ cls := "java/lang/AbstractStringBuilder", name := "inflateIfNeededFor", desc := "(Ljava/lang/String;)V" } : Jvm.MethodName)).before a0 Z = true := G.1 _ (List.mem_of_getElem? (i := 159) rfl)
theorem wd_160 {Z : State} {a0 : Array Value} (G : Glb Z a0) : (Jvm.Cond.instanceMethod ({ cls := "java/lang/AbstractStringBuilder", name := "inflateIfNeededFor", desc := "(Ljava/lang/String;)V" } : Jvm.MethodName)).before a0 Z = true := G.1 _ (List.mem_of_getElem? (i := 160) rfl)
theorem wd_162 {Z : State} {a0 : Array Value} (G : Glb Z a0) : (Jvm.Cond.selects "java/lang/StringBuilder" ({ cls := "java/lang/AbstractStringBuilder", name := "inflateIfNeededFor", desc := "(Ljava/lang/String;)V" } : Jvm.MethodName) ({ cls := "java/lang/AbstractStringBuilder", name := "inflateIfNeededFor", desc := "(Ljava/lang/String;)V" } : Jvm.MethodName)).before a0 Z = true := G.1 _ (List.mem_of_getElem? (i := 162) rfl)
theorem wd_163 {Z : State} {a0 : Array Value} (G : Glb Z a0) : (Jvm.Cond.code ({ cls := "java/lang/AbstractStringBuilder", name := "inflateIfNeededFor", desc := "(Ljava/lang/String;)V" } : Jvm.MethodName) jdk_68_method_71_code (2 : Nat) (Option.none : Option Jvm.ClassFile.FieldType)).before a0 Z = true := G.1 _ (List.mem_of_getElem? (i := 163) rfl)
theorem wd_164 {Z : State} {a0 : Array Value} (G : Glb Z a0) : (Jvm.Cond.methodLink "java/lang/AbstractStringBuilder" (40 : Nat) ({ cls := "java/lang/String", name := "coder", desc := "()B" } : Jvm.MethodName)).before a0 Z = true := G.1 _ (List.mem_of_getElem? (i := 164) rfl)
theorem wd_165 {Z : State} {a0 : Array Value} (G : Glb Z a0) : (Jvm.Cond.methodLink "java/lang/AbstractStringBuilder" (399 : Nat) ({ cls := "java/lang/String", name := "getBytes", desc := "([BIB)V" } : Jvm.MethodName)).before a0 Z = true := G.1 _ (List.mem_of_getElem? (i := 165) rfl)
theorem wd_166 {Z : State} {a0 : Array Value} (G : Glb Z a0) : (Jvm.Cond.declares ({ cls := "java/lang/String", name := "getBytes", desc := "([BIB)V" } : Jvm.MethodName)).before a0 Z = true := G.1 _ (List.mem_of_getElem? (i := 166) rfl)
theorem wd_167 {Z : State} {a0 : Array Value} (G : Glb Z a0) : (Jvm.Cond.instanceMethod ({ cls := "java/lang/String", name := "getBytes", desc := "([BIB)V" } : Jvm.MethodName)).before a0 Z = true := G.1 _ (List.mem_of_getElem? (i := 167) rfl)
theorem wd_168 {Z : State} {a0 : Array Value} (G : Glb Z a0) : (Jvm.Cond.selects "java/lang/String" ({ cls := "java/lang/String", name := "getBytes", desc := "([BIB)V" } : Jvm.MethodName) ({ cls := "java/lang/String", name := "getBytes", desc := "([BIB)V" } : Jvm.MethodName)).before a0 Z = true := G.1 _ (List.mem_of_getElem? (i := 168) rfl)
theorem wd_169 {Z : State} {a0 : Array Value} (G : Glb Z a0) : (Jvm.Cond.code ({ cls := "java/lang/String", name := "getBytes", desc := "([BIB)V" } : Jvm.MethodName) jdk_42_method_147_code (4 : Nat) (Option.none : Option Jvm.ClassFile.FieldType)).before a0 Z = true := G.1 _ (List.mem_of_getElem? (i := 169) rfl)
theorem wd_170 {Z : State} {a0 : Array Value} (G : Glb Z a0) : (Jvm.Cond.methodLink "java/lang/String" (212 : Nat) ({ cls := "java/lang/System", name := "arraycopy", desc := "(Ljava/lang/Object;ILjava/lang/Object;II)V" } : Jvm.MethodName)).before a0 Z = true := G.1 _ (List.mem_of_getElem? (i := 170) rfl)
theorem wd_171 {Z : State} {a0 : Array Value} (G : Glb Z a0) : (Jvm.Cond.static ({ cls := "java/lang/System", name := "arraycopy", desc := "(Ljava/lang/Object;ILjava/lang/Object;II)V" } : Jvm.MethodName)).before a0 Z = true := G.1 _ (List.mem_of_getElem? (i := 171) rfl)
theorem wd_172 {Z : State} {a0 : Array Value} (G : Glb Z a0) : (Jvm.Cond.initialized "java/lang/System").before a0 Z = true := G.1 _ (List.mem_of_getElem? (i := 172) rfl)
theorem wd_173 {Z : State} {a0 : Array Value} (G : Glb Z a0) : (Jvm.Cond.native ({ cls := "java/lang/System", name := "arraycopy", desc := "(Ljava/lang/Object;ILjava/lang/Object;II)V" } : Jvm.MethodName)).before a0 Z = true := G.1 _ (List.mem_of_getElem? (i := 173) rfl)
theorem wd_174 {Z : State} {a0 : Array Value} (G : Glb Z a0) : (Jvm.Cond.stringLink "com/example/rightful_roles/rightfulroles/core/Permission" (55 : Nat) (txtAt 174)).before a0 Z = true := G.1 _ (List.mem_of_getElem? (i := 174) rfl)
theorem wd_175 {Z : State} {a0 : Array Value} (G : Glb Z a0) : (Jvm.Cond.stringLink "com/example/rightful_roles/rightfulroles/core/Permission" (57 : Nat) (txtAt 175)).before a0 Z = true := G.1 _ (List.mem_of_getElem? (i := 175) rfl)
theorem wd_176 {Z : State} {a0 : Array Value} (G : Glb Z a0) : (Jvm.Cond.methodLink "com/example/rightful_roles/rightfulroles/core/Permission" (49 : Nat) ({ cls := "java/lang/StringBuilder", name := "toString", desc := "()Ljava/lang/String;" } : Jvm.MethodName)).before a0 Z = true := G.1 _ (List.mem_of_getElem? (i := 176) rfl)
theorem wd_177 {Z : State} {a0 : Array Value} (G : Glb Z a0) : (Jvm.Cond.declares ({ cls := "java/lang/StringBuilder", name := "toString", desc := "()Ljava/lang/String;" } : Jvm.MethodName)).before a0 Z = true := G.1 _ (List.mem_of_getElem? (i := 177) rfl)
theorem wd_178 {Z : State} {a0 : Array Value} (G : Glb Z a0) : (Jvm.Cond.instanceMethod ({ cls := "java/lang/StringBuilder", name := "toString", desc := "()Ljava/lang/String;" } : Jvm.MethodName)).before a0 Z = true := G.1 _ (List.mem_of_getElem? (i := 178) rfl)
theorem wd_179 {Z : State} {a0 : Array Value} (G : Glb Z a0) : (Jvm.Cond.selects "java/lang/StringBuilder" ({ cls := "java/lang/StringBuilder", name := "toString", desc := "()Ljava/lang/String;" } : Jvm.MethodName) ({ cls := "java/lang/StringBuilder", name := "toString", desc := "()Ljava/lang/String;" } : Jvm.MethodName)).before a0 Z = true := G.1 _ (List.mem_of_getElem? (i := 179) rfl)
theorem wd_180 {Z : State} {a0 : Array Value} (G : Glb Z a0) : (Jvm.Cond.code ({ cls := "java/lang/StringBuilder", name := "toString", desc := "()Ljava/lang/String;" } : Jvm.MethodName) jdk_67_method_42_code (1 : Nat) (Option.some (Jvm.ClassFile.FieldType.object "java/lang/String"))).before a0 Z = true := G.1 _ (List.mem_of_getElem? (i := 180) rfl)
theorem wd_181 {Z : State} {a0 : Array Value} (G : Glb Z a0) : (Jvm.Cond.classLink "java/lang/StringBuilder" (18 : Nat) "java/lang/String").before a0 Z = true := G.1 _ (List.mem_of_getElem? (i := 181) rfl)
theorem wd_182 {Z : State} {a0 : Array Value} (G : Glb Z a0) : (Jvm.Cond.methodLink "java/lang/StringBuilder" (137 : Nat) ({ cls := "java/lang/String", name := "<init>", desc := "(Ljava/lang/StringBuilder;)V" } : Jvm.MethodName)).before a0 Z = true := G.1 _ (List.mem_of_getElem? (i := 182) rfl)
theorem wd_183 {Z : State} {a0 : Array Value} (G : Glb Z a0) : (Jvm.Cond.instanceMethod ({ cls := "java/lang/String", name := "<init>", desc := "(Ljava/lang/StringBuilder;)V" } : Jvm.MethodName)).before a0 Z = true := G.1 _ (List.mem_of_getElem? (i := 183) rfl)
theorem wd_184 {Z : State} {a0 : Array Value} (G : Glb Z a0) : (Jvm.Cond.code ({ cls := "java/lang/String", name := "<init>", desc := "(Ljava/lang/StringBuilder;)V" } : Jvm.MethodName) jdk_42_method_53_code (2 : Nat) (Option.none : Option Jvm.ClassFile.FieldType)).before a0 Z = true := G.1 _ (List.mem_of_getElem? (i := 184) rfl)
theorem wd_185 {Z : State} {a0 : Array Value} (G : Glb Z a0) : (Jvm.Cond.methodLink "java/lang/String" (489 : Nat) ({ cls := "java/lang/String", name := "<init>", desc := "(Ljava/lang/AbstractStringBuilder;Ljava/lang/Void;)V" } : Jvm.MethodName)).before a0 Z = true := G.1 _ (List.mem_of_getElem? (i := 185) rfl)
theorem wd_186 {Z : State} {a0 : Array Value} (G : Glb Z a0) : (Jvm.Cond.instanceMethod ({ cls := "java/lang/String", name := "<init>", desc := "(Ljava/lang/AbstractStringBuilder;Ljava/lang/Void;)V" } : Jvm.MethodName)).before a0 Z = true := G.1 _ (List.mem_of_getElem? (i := 186) rfl)
theorem wd_187 {Z : State} {a0 : Array Value} (G : Glb Z a0) : (Jvm.Cond.code ({ cls := "java/lang/String", name := "<init>", desc := "(Ljava/lang/AbstractStringBuilder;Ljava/lang/Void;)V" } : Jvm.MethodName) jdk_42_method_150_code (5 : Nat) (Option.none : Option Jvm.ClassFile.FieldType)).before a0 Z = true := G.1 _ (List.mem_of_getElem? (i := 187) rfl)
theorem wd_188 {Z : State} {a0 : Array Value} (G : Glb Z a0) : (Jvm.Cond.methodLink "java/lang/String" (552 : Nat) ({ cls := "java/lang/AbstractStringBuilder", name := "getValue", desc := "()[B" } : Jvm.MethodName)).before a0 Z = true := G.1 _ (List.mem_of_getElem? (i := 188) rfl)
theorem wd_189 {Z : State} {a0 : Array Value} (G : Glb Z a0) : (Jvm.Cond.declares ({ cls := "java/lang/AbstractStringBuilder", name := "getValue", desc := "()[B" } : Jvm.MethodName)).before a0 Z = true := G.1 _ (List.mem_of_getElem? (i := 189) rfl)
theorem wd_190 {Z : State} {a0 : Array Value} (G : Glb Z a0) : (Jvm.Cond.instanceMethod ({ cls := "java/lang/AbstractStringBuilder", name := "getValue", desc := "()[B" } : Jvm.MethodName)).before a0 Z = true := G.1 _ (List.mem_of_getElem? (i := 190) rfl)
theorem wd_191 {Z : State} {a0 : Array Value} (G : Glb Z a0) : (Jvm.Cond.selects "java/lang/StringBuilder" ({ cls := "java/lang/AbstractStringBuilder", name := "getValue", desc := "()[B" } : Jvm.MethodName) ({ cls := "java/lang/AbstractStringBuilder", name := "getValue", desc := "()[B" } : Jvm.MethodName)).before a0 Z = true := G.1 _ (List.mem_of_getElem? (i := 191) rfl)
theorem wd_192 {Z : State} {a0 : Array Value} (G : Glb Z a0) : (Jvm.Cond.code ({ cls := "java/lang/AbstractStringBuilder", name := "getValue", desc := "()[B" } : Jvm.MethodName) jdk_68_method_64_code (1 : Nat) (Option.some (Jvm.ClassFile.FieldType.array Jvm.ClassFile.FieldType.byte))).before a0 Z = true := G.1 _ (List.mem_of_getElem? (i := 192) rfl)
theorem wd_193 {Z : State} {a0 : Array Value} (G : Glb Z a0) : (Jvm.Cond.methodLink "java/lang/String" (549 : Nat) ({ cls := "java/lang/AbstractStringBuilder", name := "length", desc := "()I" } : Jvm.MethodName)).before a0 Z = true := G.1 _ (List.mem_of_getElem? (i := 193) rfl)
theorem wd_194 {Z : State} {a0 : Array Value} (G : Glb Z a0) : (Jvm.Cond.declares ({ cls := "java/lang/AbstractStringBuilder", name := "length", desc := "()I" } : Jvm.MethodName)).before a0 Z = true := G.1 _ (List.mem_of_getElem? (i := 194) rfl)
theorem wd_195 {Z : State} {a0 : Array Value} (G : Glb Z a0) : (Jvm.Cond.instanceMethod ({ cls := "java/lang/AbstractStringBuilder", name := "length", desc := "()I" } : Jvm.MethodName)).before a0 Z = true := G.1 _ (List.mem_of_getElem? (i := 195) rfl)
theorem wd_196 {Z : State} {a0 : Array Value} (G : Glb Z a0) : (Jvm.Cond.selects "java/lang/StringBuilder" ({ cls := "java/lang/AbstractStringBuilder", name := "length", desc := "()I" } : Jvm.MethodName) ({ cls := "java/lang/StringBuilder", name := "length", desc := "()I" } : Jvm.MethodName)).before a0 Z = true := G.1 _ (List.mem_of_getElem? (i := 196) rfl)
theorem wd_197 {Z : State} {a0 : Array Value} (G : Glb Z a0) : (Jvm.Cond.instanceMethod ({ cls := "java/lang/StringBuilder", name := "length", desc := "()I" } : Jvm.MethodName)).before a0 Z = true := G.1 _ (List.mem_of_getElem? (i := 197) rfl)
theorem wd_198 {Z : State} {a0 : Array Value} (G : Glb Z a0) : (Jvm.Cond.code ({ cls := "java/lang/StringBuilder", name := "length", desc := "()I" } : Jvm.MethodName) jdk_67_method_93_code (1 : Nat) (Option.some Jvm.ClassFile.FieldType.int)).before a0 Z = true := G.1 _ (List.mem_of_getElem? (i := 198) rfl)
theorem wd_199 {Z : State} {a0 : Array Value} (G : Glb Z a0) : (Jvm.Cond.methodLink "java/lang/StringBuilder" (343 : Nat) ({ cls := "java/lang/AbstractStringBuilder", name := "length", desc := "()I" } : Jvm.MethodName)).before a0 Z = true := G.1 _ (List.mem_of_getElem? (i := 199) rfl)
theorem wd_200 {Z : State} {a0 : Array Value} (G : Glb Z a0) : (Jvm.Cond.code ({ cls := "java/lang/AbstractStringBuilder", name := "length", desc := "()I" } : Jvm.MethodName) jdk_68_method_6_code (1 : Nat) (Option.some Jvm.ClassFile.FieldType.int)).before a0 Z = true := G.1 _ (List.mem_of_getElem? (i := 200) rfl)
theorem wd_201 {Z : State} {a0 : Array Value} (G : Glb Z a0) : (Jvm.Cond.methodLink "java/lang/String" (1047 : Nat) ({ cls := "java/lang/AbstractStringBuilder", name := "isLatin1", desc := "()Z" } : Jvm.MethodName)).before a0 Z = true := G.1 _ (List.mem_of_getElem? (i := 201) rfl)
theorem wd_202 {Z : State} {a0 : Array Value} (G : Glb Z a0) : (Jvm.Cond.declares ({ cls := "java/lang/AbstractStringBuilder", name := "isLatin1", desc := "()Z" } : Jvm.MethodName)).before a0 Z = true := G.1 _ (List.mem_of_getElem? (i := 202) rfl)
theorem wd_203 {Z : State} {a0 : Array Value} (G : Glb Z a0) : (Jvm.Cond.instanceMethod ({ cls := "java/lang/AbstractStringBuilder", name := "isLatin1", desc := "()Z" } : Jvm.MethodName)).before a0 Z = true := G.1 _ (List.mem_of_getElem? (i := 203) rfl)
theorem wd_204 {Z : State} {a0 : Array Value} (G : Glb Z a0) : (Jvm.Cond.selects "java/lang/StringBuilder" ({ cls := "java/lang/AbstractStringBuilder", name := "isLatin1", desc := "()Z" } : Jvm.MethodName) ({ cls := "java/lang/AbstractStringBuilder", name := "isLatin1", desc := "()Z" } : Jvm.MethodName)).before a0 Z = true := G.1 _ (List.mem_of_getElem? (i := 204) rfl)
theorem wd_205 {Z : State} {a0 : Array Value} (G : Glb Z a0) : (Jvm.Cond.code ({ cls := "java/lang/AbstractStringBuilder", name := "isLatin1", desc := "()Z" } : Jvm.MethodName) jdk_68_method_68_code (1 : Nat) (Option.some Jvm.ClassFile.FieldType.boolean)).before a0 Z = true := G.1 _ (List.mem_of_getElem? (i := 205) rfl)
theorem wd_206 {Z : State} {a0 : Array Value} (G : Glb Z a0) : (Jvm.Cond.methodLink "java/lang/String" (54 : Nat) ({ cls := "java/util/Arrays", name := "copyOfRange", desc := "([BII)[B" } : Jvm.MethodName)).before a0 Z = true := G.1 _ (List.mem_of_getElem? (i := 206) rfl)
theorem wd_207 {Z : State} {a0 : Array Value} (G : Glb Z a0) : (Jvm.Cond.static ({ cls := "java/util/Arrays", name := "copyOfRange", desc := "([BII)[B" } : Jvm.MethodName)).before a0 Z = true := G.1 _ (List.mem_of_getElem? (i := 207) rfl)
theorem wd_208 {Z : State} {a0 : Array Value} (G : Glb Z a0) : (Jvm.Cond.initialized "java/util/Arrays").before a0 Z = true := G.1 _ (List.mem_of_getElem? (i := 208) rfl)
theorem wd_209 {Z : State} {a0 : Array Value} (G : Glb Z a0) : (Jvm.Cond.code ({ cls := "java/util/Arrays", name := "copyOfRange", desc := "([BII)[B" } : Jvm.MethodName) jdk_65_method_132_code (3 : Nat) (Option.some (Jvm.ClassFile.FieldType.array Jvm.ClassFile.FieldType.byte))).before a0 Z = true := G.1 _ (List.mem_of_getElem? (i := 209) rfl)
theorem wd_210 {Z : State} {a0 : Array Value} (G : Glb Z a0) : (Jvm.Cond.methodLink "java/util/Arrays" (339 : Nat) ({ cls := "java/util/Arrays", name := "copyOfRangeByte", desc := "([BII)[B" } : Jvm.MethodName)).before a0 Z = true := G.1 _ (List.mem_of_getElem? (i := 210) rfl)
theorem wd_211 {Z : State} {a0 : Array Value} (G : Glb Z a0) : (Jvm.Cond.static ({ cls := "java/util/Arrays", name := "copyOfRangeByte", desc := "([BII)[B" } : Jvm.MethodName)).before a0 Z = true := G.1 _ (List.mem_of_getElem? (i := 211) rfl)
theorem wd_212 {Z : State} {a0 : Array Value} (G : Glb Z a0) : (Jvm.Cond.code ({ cls := "java/util/Arrays", name := "copyOfRangeByte", desc := "([BII)[B" } : Jvm.MethodName) jdk_65_method_133_code (5 : Nat) (Option.some (Jvm.ClassFile.FieldType.array Jvm.ClassFile.FieldType.byte))).before a0 Z = true := G.1 _ (List.mem_of_getElem? (i := 212) rfl)
theorem wd_213 {Z : State} {a0 : Array Value} (G : Glb Z a0) : (Jvm.Cond.methodLink "java/util/Arrays" (343 : Nat) ({ cls := "java/util/Arrays", name := "checkLength", desc := "(II)V" } : Jvm.MethodName)).before a0 Z = true := G.1 _ (List.mem_of_getElem? (i := 213) rfl)
theorem wd_214 {Z : State} {a0 : Array Value} (G : Glb Z a0) : (Jvm.Cond.static ({ cls := "java/util/Arrays", name := "checkLength", desc := "(II)V" } : Jvm.MethodName)).before a0 Z = true := G.1 _ (List.mem_of_getElem? (i := 214) rfl)
theorem wd_215 {Z : State} {a0 : Array Value} (G : Glb Z a0) : (Jvm.Cond.code ({ cls := "java/util/Arrays", name := "checkLength", desc := "(II)V" } : Jvm.MethodName) jdk_65_method_131_code (2 : Nat) (Option.none : Option Jvm.ClassFile.FieldType)).before a0 Z = true := G.1 _ (List.mem_of_getElem? (i := 215) rfl)
theorem wd_216 {Z : State} {a0 : Array Value} (G : Glb Z a0) : (Jvm.Cond.methodLink "java/util/Arrays" (304 : Nat) ({ cls := "java/lang/Math", name := "min", desc := "(II)I" } : Jvm.MethodName)).before a0 Z = true := G.1 _ (List.mem_of_getElem? (i := 216) rfl)
theorem wd_217 {Z : State} {a0 : Array Value} (G : Glb Z a0) : (Jvm.Cond.static ({ cls := "java/lang/Math", name := "min", desc := "(II)I" } : Jvm.MethodName)).before a0 Z = true := G.1 _ (List.mem_of_getElem? (i := 217) rfl)
theorem wd_218 {Z : State} {a0 : Array Value} (G : Glb Z a0) : (Jvm.Cond.initialized "java/lang/Math").before a0 Z = true := G.1 _ (List.mem_of_getElem? (i := 218) rfl)
theorem wd_219 {Z : State} {a0 : Array Value} (G : Glb Z a0) : (Jvm.Cond.code ({ cls := "java/lang/Math", name := "min", desc := "(II)I" } : Jvm.MethodName) jdk_29_method_69_code (2 : Nat) (Option.some Jvm.ClassFile.FieldType.int)).before a0 Z = true := G.1 _ (List.mem_of_getElem? (i := 219) rfl)
theorem wd_220 {Z : State} {a0 : Array Value} (G : Glb Z a0) : (Jvm.Cond.methodLink "java/util/Arrays" (150 : Nat) ({ cls := "java/lang/System", name := "arraycopy", desc := "(Ljava/lang/Object;ILjava/lang/Object;II)V" } : Jvm.MethodName)).before a0 Z = true := G.1 _ (List.mem_of_getElem? (i := 220) rfl)
theorem wd_221 {Z : State} {a0 : Array Value} (G : Glb Z a0) : (Jvm.Cond.methodLink "com/example/rightful_roles/rightfulroles/core/PermissionToStringPinLaw" (35 : Nat) ({ cls := "java/lang/String", name := "equals", desc := "(Ljava/lang/Object;)Z" } : Jvm.MethodName)).before a0 Z = true := G.1 _ (List.mem_of_getElem? (i := 221) rfl)
theorem wd_222 {Z : State} {a0 : Array Value} (G : Glb Z a0) : (Jvm.Cond.declares ({ cls := "java/lang/String", name := "equals", desc := "(Ljava/lang/Object;)Z" } : Jvm.MethodName)).before a0 Z = true := G.1 _ (List.mem_of_getElem? (i := 222) rfl)
theorem wd_223 {Z : State} {a0 : Array Value} (G : Glb Z a0) : (Jvm.Cond.instanceMethod ({ cls := "java/lang/String", name := "equals", desc := "(Ljava/lang/Object;)Z" } : Jvm.MethodName)).before a0 Z = true := G.1 _ (List.mem_of_getElem? (i := 223) rfl)
theorem wd_224 {Z : State} {a0 : Array Value} (G : Glb Z a0) : (Jvm.Cond.selects "java/lang/String" ({ cls := "java/lang/String", name := "equals", desc := "(Ljava/lang/Object;)Z" } : Jvm.MethodName) ({ cls := "java/lang/String", name := "equals", desc := "(Ljava/lang/Object;)Z" } : Jvm.MethodName)).before a0 Z = true := G.1 _ (List.mem_of_getElem? (i := 224) rfl)
theorem wd_225 {Z : State} {a0 : Array Value} (G : Glb Z a0) : (Jvm.Cond.code ({ cls := "java/lang/String", name := "equals", desc := "(Ljava/lang/Object;)Z" } : Jvm.MethodName) jdk_42_method_66_code (3 : Nat) (Option.some Jvm.ClassFile.FieldType.boolean)).before a0 Z = true := G.1 _ (List.mem_of_getElem? (i := 225) rfl)
theorem wd_226 {Z : State} {a0 : Array Value} (G : Glb Z a0) : (Jvm.Cond.methodLink "java/lang/String" (541 : Nat) ({ cls := "java/lang/StringLatin1", name := "equals", desc := "([B[B)Z" } : Jvm.MethodName)).before a0 Z = true := G.1 _ (List.mem_of_getElem? (i := 226) rfl)
theorem wd_227 {Z : State} {a0 : Array Value} (G : Glb Z a0) : (Jvm.Cond.static ({ cls := "java/lang/StringLatin1", name := "equals", desc := "([B[B)Z" } : Jvm.MethodName)).before a0 Z = true := G.1 _ (List.mem_of_getElem? (i := 227) rfl)
theorem wd_228 {Z : State} {a0 : Array Value} (G : Glb Z a0) : (Jvm.Cond.code ({ cls := "java/lang/StringLatin1", name := "equals", desc := "([B[B)Z" } : Jvm.MethodName) jdk_43_method_13_code (3 : Nat) (Option.some Jvm.ClassFile.FieldType.boolean)).before a0 Z = true := G.1 _ (List.mem_of_getElem? (i := 228) rfl)
theorem wd_229 {Z : State} {a0 : Array Value} (G : Glb Z a0) : (Jvm.Cond.constant "com/example/rightful_roles/rightfulroles/core/PermissionToStringPinLaw" (9 : Nat) (57343 : Int32)).before a0 Z = true := G.1 _ (List.mem_of_getElem? (i := 229) rfl)
theorem wd_230 {Z : State} {a0 : Array Value} (G : Glb Z a0) : (Jvm.Cond.methodLink "java/lang/StringUTF16" (119 : Nat) ({ cls := "java/lang/StringUTF16", name := "toBytes", desc := "([CII)[B" } : Jvm.MethodName)).before a0 Z = true := G.1 _ (List.mem_of_getElem? (i := 230) rfl)
theorem wd_231 {Z : State} {a0 : Array Value} (G : Glb Z a0) : (Jvm.Cond.static ({ cls := "java/lang/StringUTF16", name := "toBytes", desc := "([CII)[B" } : Jvm.MethodName)).before a0 Z = true := G.1 _ (List.mem_of_getElem? (i := 231) rfl)
theorem wd_232 {Z : State} {a0 : Array Value} (G : Glb Z a0) : (Jvm.Cond.code ({ cls := "java/lang/StringUTF16", name := "toBytes", desc := "([CII)[B" } : Jvm.MethodName) jdk_52_method_14_code (5 : Nat) (Option.some (Jvm.ClassFile.FieldType.array Jvm.ClassFile.FieldType.byte))).before a0 Z = true := G.1 _ (List.mem_of_getElem? (i := 232) rfl)
theorem wd_233 {Z : State} {a0 : Array Value} (G : Glb Z a0) : (Jvm.Cond.methodLink "java/lang/StringUTF16" (107 : Nat) ({ cls := "java/lang/StringUTF16", name := "newBytesFor", desc := "(I)[B" } : Jvm.MethodName)).before a0 Z = true := G.1 _ (List.mem_of_getElem? (i := 233) rfl)
theorem wd_234 {Z : State} {a0 : Array Value} (G : Glb Z a0) : (Jvm.Cond.static ({ cls := "java/lang/StringUTF16", name := "newBytesFor", desc := "(I)[B" } : Jvm.MethodName)).before a0 Z = true := G.1 _ (List.mem_of_getElem? (i := 234) rfl)
theorem wd_235 {Z : State} {a0 : Array Value} (G : Glb Z a0) : (Jvm.Cond.code ({ cls := "java/lang/StringUTF16", name := "newBytesFor", desc := "(I)[B" } : Jvm.MethodName) jdk_52_method_2_code (1 : Nat) (Option.some (Jvm.ClassFile.FieldType.array Jvm.ClassFile.FieldType.byte))).before a0 Z = true := G.1 _ (List.mem_of_getElem? (i := 235) rfl)
theorem wd_236 {Z : State} {a0 : Array Value} (G : Glb Z a0) : (Jvm.Cond.methodLink "java/lang/StringUTF16" (11 : Nat) ({ cls := "java/lang/StringUTF16", name := "newBytesLength", desc := "(I)I" } : Jvm.MethodName)).before a0 Z = true := G.1 _ (List.mem_of_getElem? (i := 236) rfl)
theorem wd_237 {Z : State} {a0 : Array Value} (G : Glb Z a0) : (Jvm.Cond.static ({ cls := "java/lang/StringUTF16", name := "newBytesLength", desc := "(I)I" } : Jvm.MethodName)).before a0 Z = true := G.1 _ (List.mem_of_getElem? (i := 237) rfl)
theorem wd_238 {Z : State} {a0 : Array Value} (G : Glb Z a0) : (Jvm.Cond.code ({ cls := "java/lang/StringUTF16", name := "newBytesLength", desc := "(I)I" } : Jvm.MethodName) jdk_52_method_3_code (1 : Nat) (Option.some Jvm.ClassFile.FieldType.int)).before a0 Z = true := G.1 _ (List.mem_of_getElem? (i := 238) rfl)
theorem wd_239 {Z : State} {a0 : Array Value} (G : Glb Z a0) : (Jvm.Cond.constant "java/lang/StringUTF16" (20 : Nat) (1073741823 : Int32)).before a0 Z = true := G.1 _ (List.mem_of_getElem? (i := 239) rfl)
theorem wd_240 {Z : State} {a0 : Array Value} (G : Glb Z a0) : (Jvm.Cond.methodLink "java/lang/StringUTF16" (111 : Nat) ({ cls := "java/lang/StringUTF16", name := "putChar", desc := "([BII)V" } : Jvm.MethodName)).before a0 Z = true := G.1 _ (List.mem_of_getElem? (i := 240) rfl)
theorem wd_241 {Z : State} {a0 : Array Value} (G : Glb Z a0) : (Jvm.Cond.static ({ cls := "java/lang/StringUTF16", name := "putChar", desc := "([BII)V" } : Jvm.MethodName)).before a0 Z = true := G.1 _ (List.mem_of_getElem? (i := 241) rfl)
theorem wd_242 {Z : State} {a0 : Array Value} (G : Glb Z a0) : (Jvm.Cond.code ({ cls := "java/lang/StringUTF16", name := "putChar", desc := "([BII)V" } : Jvm.MethodName) jdk_52_method_4_code (3 : Nat) (Option.none : Option Jvm.ClassFile.FieldType)).before a0 Z = true := G.1 _ (List.mem_of_getElem? (i := 242) rfl)
theorem wd_243 {Z : State} {a0 : Array Value} (G : Glb Z a0) : (Jvm.Cond.fieldLink "java/lang/StringUTF16" (44 : Nat) "java/lang/StringUTF16" "$assertionsDisabled" "Z").before a0 Z = true := G.1 _ (List.mem_of_getElem? (i := 243) rfl)
theorem wd_244 {Z : State} {a0 : Array Value} (G : Glb Z a0) : (Jvm.Cond.fieldLink "java/lang/StringUTF16" (59 : Nat) "java/lang/StringUTF16" "HI_BYTE_SHIFT" "I").before a0 Z = true := G.1 _ (List.mem_of_getElem? (i := 244) rfl)
theorem wd_245 {Z : State} {a0 : Array Value} (G : Glb Z a0) : (Jvm.Cond.fieldLink "java/lang/StringUTF16" (63 : Nat) "java/lang/StringUTF16" "LO_BYTE_SHIFT" "I").before a0 Z = true := G.1 _ (List.mem_of_getElem? (i := 245) rfl)
theorem wd_246 {Z : State} {a0 : Array Value} (G : Glb Z a0) : (Jvm.Cond.methodLink "java/lang/StringUTF16" (71 : Nat) ({ cls := "java/lang/StringUTF16", name := "getChar", desc := "([BI)C" } : Jvm.MethodName)).before a0 Z = true := G.1 _ (List.mem_of_getElem? (i := 246) rfl)
theorem wd_247 {Z : State} {a0 : Array Value} (G : Glb Z a0) : (Jvm.Cond.static ({ cls := "java/lang/StringUTF16", name := "getChar", desc := "([BI)C" } : Jvm.MethodName)).before a0 Z = true := G.1 _ (List.mem_of_getElem? (i := 247) rfl)
theorem wd_248 {Z : State} {a0 : Array Value} (G : Glb Z a0) : (Jvm.Cond.code ({ cls := "java/lang/StringUTF16", name := "getChar", desc := "([BI)C" } : Jvm.MethodName) jdk_52_method_5_code (2 : Nat) (Option.some Jvm.ClassFile.FieldType.char)).before a0 Z = true := G.1 _ (List.mem_of_getElem? (i := 248) rfl)
theorem wd_249 {Z : State} {a0 : Array Value} (G : Glb Z a0) : (Jvm.Cond.methodLink "java/lang/String" (502 : Nat) ({ cls := "java/lang/StringUTF16", name := "codePointAt", desc := "([BII)I" } : Jvm.MethodName)).before a0 Z = true := G.1 _ (List.mem_of_getElem? (i := 249) rfl)
theorem wd_250 {Z : State} {a0 : Array Value} (G : Glb Z a0) : (Jvm.Cond.static ({ cls := "java/lang/StringUTF16", name := "codePointAt", desc := "([BII)I" } : Jvm.MethodName)).before a0 Z = true := G.1 _ (List.mem_of_getElem? (i := 250) rfl)
theorem wd_251 {Z : State} {a0 : Array Value} (G : Glb Z a0) : (Jvm.Cond.code ({ cls := "java/lang/StringUTF16", name := "codePointAt", desc := "([BII)I" } : Jvm.MethodName) jdk_52_method_8_code (3 : Nat) (Option.some Jvm.ClassFile.FieldType.int)).before a0 Z = true := G.1 _ (List.mem_of_getElem? (i := 251) rfl)
theorem wd_252 {Z : State} {a0 : Array Value} (G : Glb Z a0) : (Jvm.Cond.methodLink "java/lang/StringUTF16" (88 : Nat) ({ cls := "java/lang/StringUTF16", name := "codePointAt", desc := "([BIIZ)I" } : Jvm.MethodName)).before a0 Z = true := G.1 _ (List.mem_of_getElem? (i := 252) rfl)
theorem wd_253 {Z : State} {a0 : Array Value} (G : Glb Z a0) : (Jvm.Cond.static ({ cls := "java/lang/StringUTF16", name := "codePointAt", desc := "([BIIZ)I" } : Jvm.MethodName)).before a0 Z = true := G.1 _ (List.mem_of_getElem? (i := 253) rfl)
theorem wd_254 {Z : State} {a0 : Array Value} (G : Glb Z a0) : (Jvm.Cond.code ({ cls := "java/lang/StringUTF16", name := "codePointAt", desc := "([BIIZ)I" } : Jvm.MethodName) jdk_52_method_7_code (6 : Nat) (Option.some Jvm.ClassFile.FieldType.int)).before a0 Z = true := G.1 _ (List.mem_of_getElem? (i := 254) rfl)
theorem wd_255 {Z : State} {a0 : Array Value} (G : Glb Z a0) : (Jvm.Cond.methodLink "java/lang/StringUTF16" (75 : Nat) ({ cls := "java/lang/Character", name := "isHighSurrogate", desc := "(C)Z" } : Jvm.MethodName)).before a0 Z = true := G.1 _ (List.mem_of_getElem? (i := 255) rfl)
theorem wd_256 {Z : State} {a0 : Array Value} (G : Glb Z a0) : (Jvm.Cond.static ({ cls := "java/lang/Character", name := "isHighSurrogate", desc := "(C)Z" } : Jvm.MethodName)).before a0 Z = true := G.1 _ (List.mem_of_getElem? (i := 256) rfl)
theorem wd_257 {Z : State} {a0 : Array Value} (G : Glb Z a0) : (Jvm.Cond.code ({ cls := "java/lang/Character", name := "isHighSurrogate", desc := "(C)Z" } : Jvm.MethodName) jdk_89_method_14_code (1 : Nat) (Option.some Jvm.ClassFile.FieldType.boolean)).before a0 Z = true := G.1 _ (List.mem_of_getElem? (i := 257) rfl)
theorem wd_258 {Z : State} {a0 : Array Value} (G : Glb Z a0) : (Jvm.Cond.constant "java/lang/Character" (75 : Nat) (55296 : Int32)).before a0 Z = true := G.1 _ (List.mem_of_getElem? (i := 258) rfl)
theorem wd_259 {Z : State} {a0 : Array Value} (G : Glb Z a0) : (Jvm.Cond.constant "java/lang/Character" (76 : Nat) (56320 : Int32)).before a0 Z = true := G.1 _ (List.mem_of_getElem? (i := 259) rfl)
theorem wd_260 {Z : State} {a0 : Array Value} (G : Glb Z a0) : (Jvm.Cond.constant "com/example/rightful_roles/rightfulroles/core/Names" (50 : Nat) (57343 : Int32)).before a0 Z = true := G.1 _ (List.mem_of_getElem? (i := 260) rfl)
theorem wd_261 {Z : State} {a0 : Array Value} (G : Glb Z a0) : (Jvm.Cond.methodLink "java/lang/AbstractStringBuilder" (195 : Nat) ({ cls := "java/lang/AbstractStringBuilder", name := "inflate", desc := "()V" } : Jvm.MethodName)).before a0 Z = true := G.1 _ (List.mem_of_getElem? (i := 261) rfl)
theorem wd_262 {Z : State} {a0 : Array Value} (G : Glb Z a0) : (Jvm.Cond.instanceMethod ({ cls := "java/lang/AbstractStringBuilder", name := "inflate", desc := "()V" } : Jvm.MethodName)).before a0 Z = true := G.1 _ (List.mem_of_getElem? (i := 262) rfl)
theorem wd_264 {Z : State} {a0 : Array Value} (G : Glb Z a0) : (Jvm.Cond.selects "java/lang/StringBuilder" ({ cls := "java/lang/AbstractStringBuilder", name := "inflate", desc := "()V" } : Jvm.MethodName) ({ cls := "java/lang/AbstractStringBuilder", name := "inflate", desc := "()V" } : Jvm.MethodName)).before a0 Z = true := G.1 _ (List.mem_of_getElem? (i := 264) rfl)
theorem wd_265 {Z : State} {a0 : Array Value} (G : Glb Z a0) : (Jvm.Cond.code ({ cls := "java/lang/AbstractStringBuilder", name := "inflate", desc := "()V" } : Jvm.MethodName) jdk_68_method_11_code (2 : Nat) (Option.none : Option Jvm.ClassFile.FieldType)).before a0 Z = true := G.1 _ (List.mem_of_getElem? (i := 265) rfl)
theorem wd_266 {Z : State} {a0 : Array Value} (G : Glb Z a0) : (Jvm.Cond.methodLink "java/lang/AbstractStringBuilder" (83 : Nat) ({ cls := "java/lang/AbstractStringBuilder", name := "isLatin1", desc := "()Z" } : Jvm.MethodName)).before a0 Z = true := G.1 _ (List.mem_of_getElem? (i := 266) rfl)
theorem wd_267 {Z : State} {a0 : Array Value} (G : Glb Z a0) : (Jvm.Cond.methodLink "java/lang/AbstractStringBuilder" (26 : Nat) ({ cls := "java/lang/StringUTF16", name := "newBytesFor", desc := "(I)[B" } : Jvm.MethodName)).before a0 Z = true := G.1 _ (List.mem_of_getElem? (i := 267) rfl)
theorem wd_268 {Z : State} {a0 : Array Value} (G : Glb Z a0) : (Jvm.Cond.methodLink "java/lang/AbstractStringBuilder" (125 : Nat) ({ cls := "java/lang/StringLatin1", name := "inflate", desc := "([BI[BII)V" } : Jvm.MethodName)).before a0 Z = true := G.1 _ (List.mem_of_getElem? (i := 268) rfl)
theorem wd_269 {Z : State} {a0 : Array Value} (G : Glb Z a0) : (Jvm.Cond.static ({ cls := "java/lang/StringLatin1", name := "inflate", desc := "([BI[BII)V" } : Jvm.MethodName)).before a0 Z = true := G.1 _ (List.mem_of_getElem? (i := 269) rfl)
theorem wd_270 {Z : State} {a0 : Array Value} (G : Glb Z a0) : (Jvm.Cond.code ({ cls := "java/lang/StringLatin1", name := "inflate", desc := "([BI[BII)V" } : Jvm.MethodName) jdk_43_method_50_code (5 : Nat) (Option.none : Option Jvm.ClassFile.FieldType)).before a0 Z = true := G.1 _ (List.mem_of_getElem? (i := 270) rfl)
theorem wd_271 {Z : State} {a0 : Array Value} (G : Glb Z a0) : (Jvm.Cond.methodLink "java/lang/StringLatin1" (240 : Nat) ({ cls := "java/lang/StringUTF16", name := "inflate", desc := "([BI[BII)V" } : Jvm.MethodName)).before a0 Z = true := G.1 _ (List.mem_of_getElem? (i := 271) rfl)
theorem wd_272 {Z : State} {a0 : Array Value} (G : Glb Z a0) : (Jvm.Cond.static ({ cls := "java/lang/StringUTF16", name := "inflate", desc := "([BI[BII)V" } : Jvm.MethodName)).before a0 Z = true := G.1 _ (List.mem_of_getElem? (i := 272) rfl)
theorem wd_273 {Z : State} {a0 : Array Value} (G : Glb Z a0) : (Jvm.Cond.code ({ cls := "java/lang/StringUTF16", name := "inflate", desc := "([BI[BII)V" } : Jvm.MethodName) jdk_52_method_86_code (6 : Nat) (Option.none : Option Jvm.ClassFile.FieldType)).before a0 Z = true := G.1 _ (List.mem_of_getElem? (i := 273) rfl)
theorem wd_274 {Z : State} {a0 : Array Value} (G : Glb Z a0) : (Jvm.Cond.methodLink "java/lang/StringUTF16" (173 : Nat) ({ cls := "java/lang/StringUTF16", name := "checkBoundsOffCount", desc := "(II[B)V" } : Jvm.MethodName)).before a0 Z = true := G.1 _ (List.mem_of_getElem? (i := 274) rfl)
theorem wd_275 {Z : State} {a0 : Array Value} (G : Glb Z a0) : (Jvm.Cond.static ({ cls := "java/lang/StringUTF16", name := "checkBoundsOffCount", desc := "(II[B)V" } : Jvm.MethodName)).before a0 Z = true := G.1 _ (List.mem_of_getElem? (i := 275) rfl)
theorem wd_276 {Z : State} {a0 : Array Value} (G : Glb Z a0) : (Jvm.Cond.code ({ cls := "java/lang/StringUTF16", name := "checkBoundsOffCount", desc := "(II[B)V" } : Jvm.MethodName) jdk_52_method_94_code (3 : Nat) (Option.none : Option Jvm.ClassFile.FieldType)).before a0 Z = true := G.1 _ (List.mem_of_getElem? (i := 276) rfl)
theorem wd_277 {Z : State} {a0 : Array Value} (G : Glb Z a0) : (Jvm.Cond.methodLink "java/lang/StringUTF16" (48 : Nat) ({ cls := "java/lang/StringUTF16", name := "length", desc := "([B)I" } : Jvm.MethodName)).before a0 Z = true := G.1 _ (List.mem_of_getElem? (i := 277) rfl)
theorem wd_278 {Z : State} {a0 : Array Value} (G : Glb Z a0) : (Jvm.Cond.static ({ cls := "java/lang/StringUTF16", name := "length", desc := "([B)I" } : Jvm.MethodName)).before a0 Z = true := G.1 _ (List.mem_of_getElem? (i := 278) rfl)
theorem wd_279 {Z : State} {a0 : Array Value} (G : Glb Z a0) : (Jvm.Cond.code ({ cls := "java/lang/StringUTF16", name := "length", desc := "([B)I" } : Jvm.MethodName) jdk_52_method_6_code (1 : Nat) (Option.some Jvm.ClassFile.FieldType.int)).before a0 Z = true := G.1 _ (List.mem_of_getElem? (i := 279) rfl)
theorem wd_280 {Z : State} {a0 : Array Value} (G : Glb Z a0) : (Jvm.Cond.methodLink "java/lang/StringUTF16" (419 : Nat) ({ cls := "java/lang/String", name := "checkBoundsOffCount", desc := "(III)I" } : Jvm.MethodName)).before a0 Z = true := G.1 _ (List.mem_of_getElem? (i := 280) rfl)
theorem wd_281 {Z : State} {a0 : Array Value} (G : Glb Z a0) : (Jvm.Cond.static ({ cls := "java/lang/String", name := "checkBoundsOffCount", desc := "(III)I" } : Jvm.MethodName)).before a0 Z = true := G.1 _ (List.mem_of_getElem? (i := 281) rfl)
theorem wd_282 {Z : State} {a0 : Array Value} (G : Glb Z a0) : (Jvm.Cond.code ({ cls := "java/lang/String", name := "checkBoundsOffCount", desc := "(III)I" } : Jvm.MethodName) jdk_42_method_157_code (3 : Nat) (Option.some Jvm.ClassFile.FieldType.int)).before a0 Z = true := G.1 _ (List.mem_of_getElem? (i := 282) rfl)
theorem wd_283 {Z : State} {a0 : Array Value} (G : Glb Z a0) : (Jvm.Cond.methodLink "java/lang/String" (1065 : Nat) ({ cls := "jdk/internal/util/Preconditions", name := "checkFromIndexSize", desc := "(IIILjava/util/function/BiFunction;)I" } : Jvm.MethodName)).before a0 Z = true := G.1 _ (List.mem_of_getElem? (i := 283) rfl)
theorem wd_284 {Z : State} {a0 : Array Value} (G : Glb Z a0) : (Jvm.Cond.static ({ cls := "jdk/internal/util/Preconditions", name := "checkFromIndexSize", desc := "(IIILjava/util/function/BiFunction;)I" } : Jvm.MethodName)).before a0 Z = true := G.1 _ (List.mem_of_getElem? (i := 284) rfl)
theorem wd_285 {Z : State} {a0 : Array Value} (G : Glb Z a0) : (Jvm.Cond.code ({ cls := "jdk/internal/util/Preconditions", name := "checkFromIndexSize", desc := "(IIILjava/util/function/BiFunction;)I" } : Jvm.MethodName) jdk_41_method_13_code (4 : Nat) (Option.some Jvm.ClassFile.FieldType.int)).before a0 Z = true := G.1 _ (List.mem_of_getElem? (i := 285) rfl)
theorem wd_286 {Z : State} {a0 : Array Value} (G : Glb Z a0) : (Jvm.Cond.methodLink "java/lang/String" (106 : Nat) ({ cls := "java/lang/StringLatin1", name := "inflate", desc := "([BI[BII)V" } : Jvm.MethodName)).before a0 Z = true := G.1 _ (List.mem_of_getElem? (i := 286) rfl)
theorem wd_287 {Z : State} {a0 : Array Value} (G : Glb Z a0) : (Jvm.Cond.fieldLink "java/lang/String" (1048 : Nat) "java/lang/AbstractStringBuilder" "maybeLatin1" "Z").before a0 Z = true := G.1 _ (List.mem_of_getElem? (i := 287) rfl)
theorem wd_288 {Z : State} {a0 : Array Value} (G : Glb Z a0) : (Jvm.Cond.lays "java/lang/StringBuilder" "java/lang/AbstractStringBuilder" "maybeLatin1" "Z").before a0 Z = true := G.1 _ (List.mem_of_getElem? (i := 288) rfl)
theorem wd_289 {Z : State} {a0 : Array Value} (G : Glb Z a0) : (Jvm.Cond.methodLink "java/lang/String" (1021 : Nat) ({ cls := "java/lang/StringUTF16", name := "toBytes", desc := "(C)[B" } : Jvm.MethodName)).before a0 Z = true := G.1 _ (List.mem_of_getElem? (i := 289) rfl)
theorem wd_290 {Z : State} {a0 : Array Value} (G : Glb Z a0) : (Jvm.Cond.static ({ cls := "java/lang/StringUTF16", name := "toBytes", desc := "(C)[B" } : Jvm.MethodName)).before a0 Z = true := G.1 _ (List.mem_of_getElem? (i := 290) rfl)
theorem wd_291 {Z : State} {a0 : Array Value} (G : Glb Z a0) : (Jvm.Cond.code ({ cls := "java/lang/StringUTF16", name := "toBytes", desc := "(C)[B" } : Jvm.MethodName) jdk_52_method_24_code (2 : Nat) (Option.some (Jvm.ClassFile.FieldType.array Jvm.ClassFile.FieldType.byte))).before a0 Z = true := G.1 _ (List.mem_of_getElem? (i := 291) rfl)
theorem wd_292 {Z : State} {a0 : Array Value} (G : Glb Z a0) : (Jvm.Cond.constant "com/example/rightful_roles/rightfulroles/core/PermissionToStringPinLaw" (10 : Nat) (32768 : Int32)).before a0 Z = true := G.1 _ (List.mem_of_getElem? (i := 292) rfl)
theorem G_SA {Z : State} {a0 : Array Value} (G : Glb Z a0) : ∀ a ∈ Bundle.stringAtoms, a.before a0 Z = true := fun a ha => G.1 a ((by decide +kernel : ∀ a ∈ Bundle.stringAtoms, a ∈ tables_1) a ha)
theorem G_EL {Z : State} {a0 : Array Value} (G : Glb Z a0) : EW Z a0 EL0 := (show EW Z a0 [("com/example/rightful_roles/rightfulroles/core/Permission", 7), ("com/example/rightful_roles/rightfulroles/core/Permission", 20), ("com/example/rightful_roles/rightfulroles/core/Permission", 53), ("com/example/rightful_roles/rightfulroles/core/Permission", 55), ("com/example/rightful_roles/rightfulroles/core/Permission", 57)] from EW.cons (wd_57 G) (by decide +kernel) (EW.cons (wd_109 G) (by decide +kernel) (EW.cons (wd_135 G) (by decide +kernel) (EW.cons (wd_174 G) (by decide +kernel) (EW.cons (wd_175 G) (by decide +kernel) (EW.nil))))))
theorem Ct.in {l : Launch} {Z : State} {a0 : Array Value} (G : Glb Z a0) {ml : Nat} {H : HP} {ls : List Slot} {y : MethodName} {bytes : ByteArray} {ret : Option FieldType} {rm : Room} {wz : List Jvm.Cond} {as : List Value} {Q : Option Value → HP → Prop} (hpl : plainFor y = true) (hls : locsOf as ml = ls) (hlen : ls.length = ml)
    (body : ∀ D, Wk l Z a0 EL0 y.cls bytes ml y.name ret rm D 0 ls [] H 0 0 → ∃ v H' k n, Rt Z EL0 D v H' k n ∧ Q v H' ∧ k ≤ rm.cells ∧ n ≤ rm.slots) : Ct l Z EL0 y bytes ml ret rm wz as H Q := Ct.intro hpl (G_EL G) (G_SA G) hls hlen body

/-! numbers -/
theorem n32_toInt {i : Nat} (h : i < 2 ^ 31) : (i.toInt32).toInt = i := by simp [Nat.toInt32, Int32.toInt_ofNat_of_lt h]
theorem n32_lt {i j : Nat} (hi : i < 2 ^ 31) (hj : j < 2 ^ 31) : i.toInt32 < j.toInt32 ↔ i < j := by
  rw [Int32.lt_iff_toInt_lt, n32_toInt hi, n32_toInt hj]; omega
theorem n32_inj {i j : Nat} (hi : i < 2 ^ 31) (hj : j < 2 ^ 31) : i.toInt32 = j.toInt32 ↔ i = j := by
  constructor
  · intro h; have := congrArg Int32.toInt h; rw [n32_toInt hi, n32_toInt hj] at this; omega
  · rintro rfl; rfl
theorem n32_succ (i : Nat) : i.toInt32 + 1 = (i + 1).toInt32 := by
  show Int32.ofNat i + Int32.ofNat 1 = Int32.ofNat (i + 1)
  rw [Int32.ofNat_add]
theorem n32_add (i j : Nat) : i.toInt32 + j.toInt32 = (i + j).toInt32 := by
  show Int32.ofNat i + Int32.ofNat j = Int32.ofNat (i + j)
  rw [Int32.ofNat_add]
theorem n32_shl0 (x : Int32) : x <<< ((0 : Int32) &&& 31) = x := by
  apply Int32.toInt_inj.mp
  have a := c_ishl x 0 0 (by decide)
  have r1 := rng32 (x <<< ((0 : Int32) &&& 31))
  have r2 := rng32 x
  simp only [Nat.pow_zero] at a
  omega

theorem G_compact {Z : State} {a0 : Array Value} (G : Glb Z a0) : ∃ x : Int32, ¬ x = 0 ∧ Sta Z Z.heap "java/lang/String" "COMPACT_STRINGS" "Z" (.int x) := by
  obtain ⟨x, e⟩ := is_v (Cond.before_iff.mp (G.2.1 _ (List.mem_of_getElem? (i := 1) rfl)))
  have n := not_v (Cond.before_iff.mp (G.2.1 _ (List.mem_of_getElem? (i := 2) rfl)))
  exact ⟨x, gotF (Cond.eq_ints e (Term.int_eval 0)) n, Sta.start e (Or.inl (G.2.1 _ (List.mem_of_getElem? (i := 0) rfl)))⟩

theorem stEq {args : Array Value} {s : State} {t : Term} {z : Int32} (h : (Jvm.Cond.eq t (.int z)).value args s none s [] = some true) : t.eval args s none [] s = some (.int z) := by
  obtain ⟨x, y, hx, hy, k1, -⟩ := cmp_v (Or.inl h)
  cases (Term.int_eval z).symm.trans hy
  cases x <;> simp [Kin, Value.isRef] at k1
  rename_i v
  have q : v = z := by simpa [Cond.value, hx, Term.eval] using h
  rw [hx, q]


/-! ## new String(char[]) -/
abbrev chs (cs : List Int32) : List Value := cs.map Value.int
abbrev b8 (c : Int32) : Int32 := c.toInt8.toInt32
abbrev lo8 (cs : List Int32) : List Value := cs.map fun c => Value.int (b8 c)
def pfx : List Int32 → Nat
  | [] => 0
  | c :: r => if (255 : Int32) < c then 0 else pfx r + 1
theorem pfx_le : ∀ cs, pfx cs ≤ cs.length
  | [] => Nat.le_refl _
  | c :: r => by unfold pfx; split <;> simp [pfx_le r]
theorem pfx_all : ∀ {cs}, (∀ c ∈ cs, ¬ (255 : Int32) < c) → pfx cs = cs.length
  | [], _ => rfl
  | c :: r, h => by
    unfold pfx
    rw [if_neg (h c (List.mem_cons_self ..)), pfx_all fun x hx => h x (List.mem_cons_of_mem _ hx)]; rfl
section JStr
variable {l : Launch} {Z : State} {a0 : Array Value} {D : Dyn} {H : HP}
set_option maxRecDepth 65536 in
theorem l_cmp5 (G : Glb Z a0) {s t : Addr} {cs : List Int32} {vs : List Value} (F : Ar Z H s .char (chs cs)) (hl : vs.length = cs.length) (hne : s ≠ t) :
    ∀ (q : List Int32) (i : Nat) (H1 : HP) (s6 : Slot), cs.drop i = q → i ≤ cs.length → Kp H H1 [t] → H1.2 t → Ar Z H1 t .byte (lo8 (cs.take i) ++ vs.drop i) → (s6 = .unset ∨ ∃ x, s6 = .val (.int x)) →
      Wk l Z a0 EL0 "java/lang/StringUTF16" jdk_52_method_21_code 7 "compress" (some .int) ({ frames := 0, cells := 0, slots := 0, locals := 0 } : Room) D 3 [.val (.ref s), .val (.int i.toInt32), .val (.ref t), .val (.int i.toInt32), .val (.int cs.length.toInt32), .val (.int i.toInt32), s6] [] H1 0 0 →
      ∃ H', Rt Z EL0 D (some (.int (i + pfx q).toInt32)) H' 0 0 ∧ Kp H H' [t] ∧ Ar Z H' t .byte (lo8 (cs.take (i + pfx q)) ++ vs.drop (i + pfx q)) := by
  have hn : cs.length < 2 ^ 31 := by simpa using F.len
  intro q
  induction q with
  | nil =>
    intro i H1 s6 hd hi K o T h6 A0
    have e : i = cs.length := by have := List.drop_eq_nil_iff.mp hd; omega
    subst e
    have A1 := A0.run [(3, .iload 5, 5, 0), (5, .iload 4, 7, 0)] (pe := 7) (by decide +kernel) rfl
    have A2 := A1.icT (cd := .ge) (o := 37) (by decide +kernel) Int32.lt_irrefl (pe := 44) (by decide)
    have A3 := A2.run [(44, .iload 4, 46, 0)] (pe := 46) (by decide +kernel) rfl
    have A4 := A3.retI (by decide +kernel)
    exact ⟨_, A4, K, T⟩
  | cons c r ih =>
    intro i H1 s6 hd hi K o T h6 A0
    have hlt : i < cs.length := by
      rcases Nat.lt_or_ge i cs.length with h | h
      · exact h
      · rw [List.drop_eq_nil_of_le h] at hd; cases hd
    have hc : cs[i]? = some c := by have := congrArg List.head? hd; simpa [List.head?_drop] using this
    have hr : cs.drop (i + 1) = r := by have := congrArg List.tail hd; simpa using this
    have A1 := A0.run [(3, .iload 5, 5, 0), (5, .iload 4, 7, 0)] (pe := 7) (by decide +kernel) rfl
    have A2 := A1.icF (cd := .ge) (o := 37) (by decide +kernel) (by show ¬ ¬ _ < _; exact not_not_intro ((n32_lt (by omega) hn).mpr hlt))
    have A3 := A2.run [(10, .aload_n 0, 11, 0), (11, .iload_n 1, 12, 0)] (pe := 12) (by decide +kernel) rfl
    have A4 := A3.caload (F.ky K (by simpa using hne)) (by decide +kernel) rfl (v := .int c) (by simp [hc])
    have A6 : Wk l Z a0 EL0 "java/lang/StringUTF16" jdk_52_method_21_code 7 "compress" (some .int) ({ frames := 0, cells := 0, slots := 0, locals := 0 } : Room) D 20 [.val (.ref s), .val (.int i.toInt32), .val (.ref t), .val (.int i.toInt32), .val (.int cs.length.toInt32), .val (.int i.toInt32), .val (.int c)] [.int 255, .int c] H1 0 0 := by
      rcases h6 with rfl | ⟨x, rfl⟩
      · exact A4.run [(13, .istore 6, 15, 0), (15, .iload 6, 17, 0), (17, .sipush 255, 20, 255)] (pe := 20) (by decide +kernel) rfl
      · exact A4.run [(13, .istore 6, 15, 0), (15, .iload 6, 17, 0), (17, .sipush 255, 20, 255)] (pe := 20) (by decide +kernel) rfl
    by_cases h255 : (255 : Int32) < c
    · have A7 := A6.icF (cd := .le) (o := 6) (by decide +kernel) (by show ¬ ¬ _ < _; exact not_not_intro h255)
      have A8 := A7.run [(23, .iload 5, 25, 0)] (pe := 25) (by decide +kernel) rfl
      have A9 := A8.retI (by decide +kernel)
      have e : pfx (c :: r) = 0 := by simp [pfx, h255]
      rw [e]
      exact ⟨_, A9, K, T⟩
    · have A7 := A6.icT (cd := .le) (o := 6) (by decide +kernel) (by show ¬ _ < _; exact h255) (pe := 26) (by decide)
      have A8 := A7.run [(26, .aload_n 2, 27, 0), (27, .iload_n 3, 28, 0), (28, .iload 6, 30, 0), (30, .i2b, 31, 0)] (pe := 31) (by decide +kernel) rfl
      obtain ⟨H2, A9, K2, T2⟩ := A8.bastore T o (by decide +kernel) rfl (by simp; omega) (x2 := b8 c) (by simp [nar])
      have A10 := A9.run [(32, .iinc 1 1, 35, 1), (35, .iinc 3 1, 38, 1), (38, .iinc 5 1, 41, 1), (41, .goto (-38), 3, 0)] (pe := 3) (by decide +kernel) rfl
      have e : pfx (c :: r) = pfx r + 1 := by simp [pfx, h255]
      have hl2 : (lo8 (cs.take i) ++ vs.drop i).set i (.int (b8 c)) = lo8 (cs.take (i + 1)) ++ vs.drop (i + 1) := by
        have h1 : (lo8 (cs.take i)).length = i := by simp; omega
        have h2 : vs.drop i = vs[i]'(by omega) :: vs.drop (i + 1) := by rw [List.drop_eq_getElem_cons]
        rw [List.set_append_right _ _ (by omega), h1, Nat.sub_self, h2, List.set_cons_zero]
        rw [List.take_add_one, hc]
        simp
      rw [hl2] at T2
      rw [n32_succ] at A10
      obtain ⟨H', B1, B2, B3⟩ := ih (i + 1) H2 _ hr hlt (K.trans K2 fun x hx => Or.inl hx) (K2.2 _ o) T2 (Or.inr ⟨c, rfl⟩) A10
      rw [e]
      rw [show i + (pfx r + 1) = i + 1 + pfx r by omega]
      exact ⟨H', B1, B2, B3⟩
theorem c_cmp5 (G : Glb Z a0) {s t : Addr} {cs : List Int32} {vs : List Value} (F : Ar Z H s .char (chs cs)) (T : Ar Z H t .byte vs) (o : H.2 t) (hl : vs.length = cs.length) (hne : s ≠ t) :
    Ct l Z EL0 (⟨"java/lang/StringUTF16", "compress", "([CI[BII)I"⟩ : MethodName) jdk_52_method_21_code 7 ((some .int)) ({ frames := 0, cells := 0, slots := 0, locals := 0 } : Room) [] [.ref s, .int 0, .ref t, .int 0, .int cs.length.toInt32] H (fun v H' => v = some (.int (pfx cs).toInt32) ∧ Kp H H' [t] ∧ Ar Z H' t .byte (lo8 (cs.take (pfx cs)) ++ vs.drop (pfx cs))) := by
  refine Ct.in G (by first | exact plainFor_of_name (by simp [plainName, overriddenIn]; done) | decide +kernel) (ls := [.val (.ref s), .val (.int 0), .val (.ref t), .val (.int 0), .val (.int cs.length.toInt32), .unset, .unset]) rfl rfl fun D A0 => ?_
  have A1 := A0.run [(0, .iconst 0, 1, 0), (1, .istore 5, 3, 0)] (pe := 3) (by decide +kernel) rfl
  obtain ⟨H', B1, B2, B3⟩ := l_cmp5 G F hl hne cs 0 H .unset rfl (Nat.zero_le _) (Kp.refl H |>.wide fun x hx => nomatch hx) o (by simpa using T) (Or.inl rfl) A1
  rw [Nat.zero_add] at B1 B3
  exact ⟨_, H', 0, 0, B1, ⟨rfl, B2, B3⟩, Nat.le_refl _, Nat.le_refl _⟩
/-- all chars below 256 -/
abbrev Lat (cs : List Int32) : Prop := ∀ c ∈ cs, ¬ (255 : Int32) < c
theorem c_cmp3 (G : Glb Z a0) {s : Addr} {cs : List Int32} (F : Ar Z H s .char (chs cs)) (hn : cs.length ≤ 8) (hla : Lat cs) :
    Ct l Z EL0 (⟨"java/lang/StringUTF16", "compress", "([CII)[B"⟩ : MethodName) jdk_52_method_16_code 6 ((some (.array .byte))) ({ frames := 3, cells := 2, slots := 40, locals := 40 } : Room) [] [.ref s, .int 0, .int cs.length.toInt32] H (fun v H' => ∃ t, v = some (.ref t) ∧ H.1.size ≤ t ∧ Kp H H' [] ∧ Ar Z H' t .byte (lo8 cs) ∧ H'.2 t) := by
  refine Ct.in G (by first | exact plainFor_of_name (by simp [plainName, overriddenIn]; done) | decide +kernel) (ls := [.val (.ref s), .val (.int 0), .val (.int cs.length.toInt32), .unset, .unset, .unset]) rfl rfl fun D A0 => ?_
  have A1 := A0.run [(0, .iload_n 2, 1, 0)] (pe := 1) (by decide +kernel) rfl
  obtain ⟨t, H1, A2, hge, K1, T1, o1⟩ := A1.newA (aty := .byte) (wd_20 G) (by decide +kernel) rfl (cap := 8) hn (by decide) (by decide) (by decide)
  have A3 := A2.run [(3, .astore_n 3, 4, 0), (4, .aload_n 0, 5, 0), (5, .iload_n 1, 6, 0), (6, .aload_n 3, 7, 0), (7, .iconst 0, 8, 0), (8, .iload_n 2, 9, 0)] (pe := 9) (by decide +kernel) rfl
  have hne : s ≠ t := Nat.ne_of_lt (Nat.lt_of_lt_of_le F.lt hge)
  obtain ⟨_, HA4, qA4, A4, moA4, szA4⟩ := A3.callS (argsL := [.ref s, .int 0, .ref t, .int 0, .int cs.length.toInt32]) (wd_44 G) (wd_45 G) (wd_42 G) (wd_46 G) (c_cmp5 G (F.ky K1) T1 o1 (by simp) hne) (by decide) ⟨_, _, (by decide +kernel : parseMethodDescriptor "([CI[BII)I" = some ⟨[(.array .char), .int, (.array .byte), .int, .int], some .int⟩), rfl⟩ (by decide +kernel) (Wd := 0) (by decide) (Nat.le_of_ble_eq_true rfl) (by decide) (by decide) (by decide)
  obtain ⟨rfl, K2, T2⟩ := qA4
  rw [pfx_all hla] at T2 A4
  have A5 := A4.run [(12, .istore 4, 14, 0), (14, .iload 4, 16, 0), (16, .iload_n 2, 17, 0)] (pe := 17) (by decide +kernel) rfl
  have A6 := A5.icT (cd := .eq) (o := 40) (by decide +kernel) rfl (pe := 57) (by decide)
  have A7 := A6.run [(57, .aload_n 3, 58, 0)] (pe := 58) (by decide +kernel) rfl
  have A8 := A7.retA (by decide +kernel) rfl rfl
  refine ⟨_, _, _, _, A8, ⟨t, rfl, hge, K1.trans K2 (fun x hx => Or.inr ?_), by simpa using T2, moA4 _ o1⟩, by decide, by decide⟩
  cases List.mem_singleton.mp hx; exact hge
theorem c_cfa (G : Glb Z a0) {t : Addr} {n : Nat} {vs : List Value} (F : Ar Z H t .byte vs) (hl : vs.length = n) :
    Ct l Z EL0 (⟨"java/lang/StringUTF16", "coderFromArrayLen", "([BI)B"⟩ : MethodName) jdk_52_method_15_code 2 ((some .byte)) ({ frames := 0, cells := 0, slots := 0, locals := 0 } : Room) [] [.ref t, .int n.toInt32] H (fun v H' => v = some (.int 0) ∧ H = H') := by
  refine Ct.in G (by first | exact plainFor_of_name (by simp [plainName, overriddenIn]; done) | decide +kernel) (ls := [.val (.ref t), .val (.int n.toInt32)]) rfl rfl fun D A0 => ?_
  have A1 := A0.run [(0, .iload_n 1, 1, 0), (1, .aload_n 0, 2, 0)] (pe := 2) (by decide +kernel) rfl
  have A2 := A1.alen F (by decide +kernel) (z := n.toInt32) (by rw [hl])
  have A3 := A2.run [(3, .isub, 4, 0), (4, .bipush 31, 6, 31), (6, .iushr, 7, 0), (7, .i2b, 8, 0)] (pe := 8) (by decide +kernel) rfl
  have A4 := A3.retB (by decide +kernel) (x2 := 0) (by rw [Int32.sub_self]; decide)
  exact ⟨_, _, _, _, A4, ⟨rfl, rfl⟩, Nat.le_refl _, Nat.le_refl _⟩
/-- a char's value -/
abbrev isC (c : Int32) : Prop := 0 ≤ c.toInt ∧ c.toInt < 65536
abbrev e16 (c : Int32) : List Value := [.int (b8 c), .int (b8 (c >>> (8 &&& 31)))]
abbrev enc16 (cs : List Int32) : List Value := cs.flatMap e16
/-- the String a says cs -/
def Str (Z : State) (H : HP) (a : Addr) (cs : List Int32) : Prop := Exa Z H.1 a "java/lang/String" ∧ (∀ c ∈ cs, isC c) ∧ ∃ t, Fld Z H.1 a "java/lang/String" "value" "[B" (.ref t) ∧
  (Lat cs ∧ Fld Z H.1 a "java/lang/String" "coder" "B" (.int 0) ∧ Ar Z H t .byte (lo8 cs) ∨ ¬ Lat cs ∧ Fld Z H.1 a "java/lang/String" "coder" "B" (.int 1) ∧ Ar Z H t .byte (enc16 cs))
theorem Str.ky {H H' : HP} {a : Addr} {cs : List Int32} (S : Str Z H a cs) (K : Kp H H' []) : Str Z H' a cs := by
  obtain ⟨h1, h2, t, h3, h4⟩ := S
  exact ⟨h1.ky K, h2, t, h3.ky K, h4.imp (fun ⟨q1, q2, q3⟩ => ⟨q1, q2.ky K, q3.ky K⟩) (fun ⟨q1, q2, q3⟩ => ⟨q1, q2.ky K, q3.ky K⟩)⟩
theorem Ar.kyE {H H' : HP} {t x : Addr} {ty : FieldType} {vs : List Value} {C : String} {q : Nat} (F : Ar Z H t ty vs) (K : Kp H H' [x]) (E : Exa Z H.1 x C) (wi : (Jvm.Cond.instantiable C q).before a0 Z = true) : Ar Z H' t ty vs :=
  F.ky K (by obtain ⟨c, A, -⟩ := F; simpa using Ne.symm (ne_arr E wi A))
theorem Str.kyE {H H' : HP} {a x : Addr} {cs : List Int32} {C : String} {q : Nat} (S : Str Z H a cs) (K : Kp H H' [x]) (E : Exa Z H.1 x C) (hC : C ≠ "java/lang/String") (wi : (Jvm.Cond.instantiable C q).before a0 Z = true) : Str Z H' a cs := by
  obtain ⟨h1, h2, t, h3, h4⟩ := S
  have ha : a ∉ [x] := by simpa using Ne.symm (ne_exa E h1 hC)
  exact ⟨h1.ky K, h2, t, h3.ky K ha, h4.imp (fun ⟨q1, q2, q3⟩ => ⟨q1, q2.ky K ha, q3.kyE K E wi⟩) (fun ⟨q1, q2, q3⟩ => ⟨q1, q2.ky K ha, q3.kyE K E wi⟩)⟩
theorem Str.lt {H : HP} {a : Addr} {cs : List Int32} (S : Str Z H a cs) : a < H.1.size := S.1.lt
theorem Str.opL {H : HP} {a : Addr} {cs : List Int32} (S : Str Z H a cs) (h : Lat cs) : Exa Z H.1 a "java/lang/String" ∧ ∃ t, Fld Z H.1 a "java/lang/String" "value" "[B" (.ref t) ∧ Fld Z H.1 a "java/lang/String" "coder" "B" (.int 0) ∧ Ar Z H t .byte (lo8 cs) := by
  obtain ⟨h1, h2, t, h3, h4⟩ := S
  rcases h4 with ⟨-, q⟩ | ⟨q, -⟩
  · exact ⟨h1, t, h3, q⟩
  · exact absurd h q
theorem Str.opU {H : HP} {a : Addr} {cs : List Int32} (S : Str Z H a cs) (h : ¬ Lat cs) : Exa Z H.1 a "java/lang/String" ∧ ∃ t, Fld Z H.1 a "java/lang/String" "value" "[B" (.ref t) ∧ Fld Z H.1 a "java/lang/String" "coder" "B" (.int 1) ∧ Ar Z H t .byte (enc16 cs) := by
  obtain ⟨h1, h2, t, h3, h4⟩ := S
  rcases h4 with ⟨q, -⟩ | ⟨-, q⟩
  · exact absurd q h
  · exact ⟨h1, t, h3, q⟩
theorem isC_of {H : HP} {s : Addr} {cs : List Int32} (F : Ar Z H s .char (chs cs)) : ∀ c ∈ cs, isC c := fun c hc => by
  have h := rng_char (F.fits (.int c) (List.mem_map_of_mem hc))
  rw [Int32.lt_iff_toInt_lt, Int32.lt_iff_toInt_lt] at h
  have e1 : (0 : Int32).toInt = 0 := by decide
  have e2 : (65535 : Int32).toInt = 65535 := by decide
  omega
set_option maxRecDepth 65536 in
theorem c_sI4L (G : Glb Z a0) {x s : Addr} {cs : List Int32} (F : Ar Z H s .char (chs cs)) (hn : cs.length ≤ 8) (h0 : cs ≠ []) (hla : Lat cs) (E : Exa Z H.1 x "java/lang/String") (V : Fld Z H.1 x "java/lang/String" "value" "[B" .null) (C : Fld Z H.1 x "java/lang/String" "coder" "B" (.int 0)) (o : H.2 x) :
    Ct l Z EL0 (⟨"java/lang/String", "<init>", "([CIILjava/lang/Void;)V"⟩ : MethodName) jdk_42_method_149_code 6 (none) ({ frames := 4, cells := 2, slots := 40, locals := 57 } : Room) [] [.ref x, .ref s, .int 0, .int cs.length.toInt32, .null] H (fun v H' => v = none ∧ Kp H H' [x] ∧ Str Z H' x cs) := by
  refine Ct.in G (by first | exact plainFor_of_name (by simp [plainName, overriddenIn]; done) | decide +kernel) (ls := [.val (.ref x), .val (.ref s), .val (.int 0), .val (.int cs.length.toInt32), .val .null, .unset]) rfl rfl fun D A0 => ?_
  have hn31 : cs.length < 2 ^ 31 := by omega
  obtain ⟨cz, hcz, cS⟩ := G_compact G
  have A1 := A0.run [(0, .aload_n 0, 1, 0)] (pe := 1) (by decide +kernel) rfl
  have A2 := A1.initO (wd_25 G) (wd_26 G) (wd_27 G) (by decide +kernel) (Wd := 0) (by decide) (Nat.le_of_ble_eq_true rfl) (by decide)
  have A3 := A2.run [(4, .iload_n 3, 5, 0)] (pe := 5) (by decide +kernel) rfl
  have A4 := A3.ifT (cd := .ne) (o := 22) (by decide +kernel) (by show ¬ _ = _; exact fun e => h0 (List.length_eq_zero_iff.mp ((n32_inj (j := 0) hn31 (by decide)).mp e))) (pe := 27) (by decide)
  have A5 := A4.getS (wd_10 G) cS (by decide +kernel)
  have A6 := A5.ifF (cd := .eq) (o := 28) (by decide +kernel) hcz
  have A7 := A6.run [(33, .aload_n 1, 34, 0), (34, .iload_n 2, 35, 0), (35, .iload_n 3, 36, 0)] (pe := 36) (by decide +kernel) rfl
  obtain ⟨_, HA8, qA8, A8, moA8, szA8⟩ := A7.callS (argsL := [.ref s, .int 0, .int cs.length.toInt32]) (wd_40 G) (wd_41 G) (wd_42 G) (wd_43 G) (c_cmp3 G F hn hla) (by decide) ⟨_, _, (by decide +kernel : parseMethodDescriptor "([CII)[B" = some ⟨[(.array .char), .int, .int], some (.array .byte)⟩), rfl⟩ (by decide +kernel) (Wd := 0) (by decide) (Nat.le_of_ble_eq_true rfl) (by decide) (by decide) (by decide)
  obtain ⟨t, rfl, hge, K1, T1, o1⟩ := qA8
  have A9 := A8.run [(39, .astore 5, 41, 0), (41, .aload_n 0, 42, 0), (42, .aload 5, 44, 0), (44, .iload_n 3, 45, 0)] (pe := 45) (by decide +kernel) rfl
  obtain ⟨_, HA10, qA10, A10, moA10, szA10⟩ := A9.callS (argsL := [.ref t, .int cs.length.toInt32]) (wd_47 G) (wd_48 G) (wd_42 G) (wd_49 G) (c_cfa G T1 (by simp)) (by decide) ⟨_, _, (by decide +kernel : parseMethodDescriptor "([BI)B" = some ⟨[(.array .byte), .int], some .byte⟩), rfl⟩ (by decide +kernel) (Wd := 1) (by decide) (Nat.le_of_ble_eq_true rfl) (by decide) (by decide) (by decide)
  obtain ⟨rfl, rfl⟩ := qA10
  obtain ⟨H2, A11, K2, W2⟩ := A10.putFin (wd_30 G) (C.ky K1) (E.ky K1) (wd_31 G) rfl rfl (wd_16 G) (K1.2 _ o) (by decide +kernel) (ty := .byte) (by decide) rfl rfl
  have A12 := A11.run [(51, .aload_n 0, 52, 0), (52, .aload 5, 54, 0)] (pe := 54) (by decide +kernel) rfl
  have V2 := (V.ky K1).other W2 (Or.inr (slot_ne (Or.inr (wd_29 G)) (Or.inr (wd_31 G)) (by decide) (t := .array .byte) (by decide) (t' := .byte) (by decide)))
  obtain ⟨H3, A13, K3, W3⟩ := A12.putFin (wd_28 G) V2 ((E.ky K1).ky K2) (wd_29 G) rfl rfl (wd_16 G) (K2.2 _ (K1.2 _ o)) (by decide +kernel) (ty := .array .byte) (by decide) rfl rfl
  have A14 := A13.ret (by decide +kernel)
  have hxt : t ≠ x := Nat.ne_of_gt (Nat.lt_of_lt_of_le E.lt hge)
  have C3 := ((C.ky K1).same W2).other W3 (Or.inr (slot_ne (Or.inr (wd_31 G)) (Or.inr (wd_29 G)) (by decide) (t := .byte) (by decide) (t' := .array .byte) (by decide)))
  refine ⟨_, _, _, _, A14, ⟨rfl, (K1.wide fun x hx => nomatch hx).trans (K2.trans K3 fun x hx => Or.inl hx) fun x hx => Or.inl hx, (((E.ky K1).ky K2).ky K3), isC_of F, t, V2.same W3, Or.inl ⟨hla, C3, (T1.ky K2 (by simpa using hxt)).ky K3 (by simpa using hxt)⟩⟩, by decide, by decide⟩
theorem c_sI1 (G : Glb Z a0) {x s : Addr} {cs : List Int32} (F : Ar Z H s .char (chs cs)) (M : Ct l Z EL0 (⟨"java/lang/String", "<init>", "([CIILjava/lang/Void;)V"⟩ : MethodName) jdk_42_method_149_code 6 (none) ({ frames := 4, cells := 2, slots := 40, locals := 57 } : Room) [] [.ref x, .ref s, .int 0, .int cs.length.toInt32, .null] H (fun v H' => v = none ∧ Kp H H' [x] ∧ Str Z H' x cs)) :
    Ct l Z EL0 (⟨"java/lang/String", "<init>", "([C)V"⟩ : MethodName) jdk_42_method_3_code 2 (none) ({ frames := 5, cells := 2, slots := 40, locals := 74 } : Room) [] [.ref x, .ref s] H (fun v H' => v = none ∧ Kp H H' [x] ∧ Str Z H' x cs) := by
  refine Ct.in G (by first | exact plainFor_of_name (by simp [plainName, overriddenIn]; done) | decide +kernel) (ls := [.val (.ref x), .val (.ref s)]) rfl rfl fun D A0 => ?_
  have A1 := A0.run [(0, .aload_n 0, 1, 0), (1, .aload_n 1, 2, 0), (2, .iconst 0, 3, 0), (3, .aload_n 1, 4, 0)] (pe := 4) (by decide +kernel) rfl
  have A2 := A1.alen F (by decide +kernel) (z := cs.length.toInt32) (by simp)
  have A3 := A2.run [(5, .aconst_null, 6, 0)] (pe := 6) (by decide +kernel) rfl
  obtain ⟨_, HA4, qA4, A4, moA4, szA4⟩ := A3.callI (argsL := [.ref s, .int 0, .int cs.length.toInt32, .null]) rfl (wd_37 G) (wd_38 G) (wd_8 G) (wd_39 G) (M) (by decide) ⟨_, _, (by decide +kernel : parseMethodDescriptor "([CIILjava/lang/Void;)V" = some ⟨[(.array .char), .int, .int, (.object "java/lang/Void")], none⟩), rfl⟩ (by decide +kernel) (Wd := 0) (by decide) (Nat.le_of_ble_eq_true rfl) (by decide) (by decide) (by decide)
  obtain ⟨rfl, K1, S1⟩ := qA4
  have A5 := A4.ret (by decide +kernel)
  exact ⟨_, _, _, _, A5, ⟨rfl, K1, S1⟩, by decide, by decide⟩
end JStr

theorem b8_back {c : Int32} (h : isC c) (h2 : ¬ (255 : Int32) < c) : (b8 c &&& 255).toUInt32.toUInt16.toUInt32.toInt32 = c := by
  rw [i2c_mask]
  apply Int32.toInt_inj.mp
  rw [c_mask _ 255 8 (by decide) (by decide)]
  have h3 := c_i2b c
  show (b8 c).toInt % _ = _
  simp only [b8] at *
  rw [Int32.lt_iff_toInt_lt, show (255 : Int32).toInt = 255 by decide] at h2
  omega
theorem b8_back' {c : Int32} (h : isC c) (h2 : ¬ (255 : Int32) < c) : b8 c &&& 255 = c := by rw [← i2c_mask]; exact b8_back h h2
theorem isC_nar {c : Int32} (h : isC c) : nar .char c = c := by
  apply Int32.toInt_inj.mp
  have := c_i2c c
  show (c.toUInt32.toUInt16.toUInt32.toInt32).toInt = _
  omega
theorem okc_mask (i : Int32) : isC (i &&& 255) ∧ ¬ (255 : Int32) < i &&& 255 := by
  have h := c_and i 255 (by decide)
  have e : (255 : Int32).toInt = 255 := by decide
  rw [Int32.lt_iff_toInt_lt]
  simp only [isC]; omega
theorem okc_i2c (i : Int32) : (i &&& 255).toUInt32.toUInt16.toUInt32.toInt32 = i &&& 255 := i2c_mask i
theorem lat1 {a : Int32} (ha : ¬ (255 : Int32) < a) : Lat [a] := fun e he => by simp at he; subst he; exact ha
theorem latC {a : Int32} {cs : List Int32} (ha : ¬ (255 : Int32) < a) (h : Lat cs) : Lat (a :: cs) := fun e he => by
  rcases List.mem_cons.mp he with rfl | he
  · exact ha
  · exact h e he
theorem lat2 {a b : Int32} (ha : ¬ (255 : Int32) < a) (hb : ¬ (255 : Int32) < b) : Lat [a, b] := latC ha (lat1 hb)
theorem lat3 {a b c : Int32} (ha : ¬ (255 : Int32) < a) (hb : ¬ (255 : Int32) < b) (hc : ¬ (255 : Int32) < c) : Lat [a, b, c] := latC ha (lat2 hb hc)

/-! longs -/
theorem n64_toInt {i : Nat} (h : i < 2 ^ 63) : (i.toInt64).toInt = i := by simp [Nat.toInt64, Int64.toInt_ofNat_of_lt h]
theorem n64_inj {i j : Nat} (hi : i < 2 ^ 63) (hj : j < 2 ^ 63) : i.toInt64 = j.toInt64 ↔ i = j := by
  constructor
  · intro h; have := congrArg Int64.toInt h; rw [n64_toInt hi, n64_toInt hj] at this; omega
  · rintro rfl; rfl
theorem n64_add (i j : Nat) : i.toInt64 + j.toInt64 = (i + j).toInt64 := by
  show Int64.ofNat i + Int64.ofNat j = Int64.ofNat (i + j)
  rw [Int64.ofNat_add]
theorem n64_mul (i j : Nat) : i.toInt64 * j.toInt64 = (i * j).toInt64 := by
  show Int64.ofNat i * Int64.ofNat j = Int64.ofNat (i * j)
  rw [Int64.ofNat_mul]
theorem n64_div {i j : Nat} (hi : i < 2 ^ 63) (hj : j < 2 ^ 63) : i.toInt64 / j.toInt64 = (i / j).toInt64 := by
  have q : i / j < 2 ^ 63 := Nat.lt_of_le_of_lt (Nat.div_le_self _ _) hi
  apply Int64.toInt_inj.mp
  have h1 : j.toInt64 ≠ -1 := fun e => by have := congrArg Int64.toInt e; rw [n64_toInt hj, show (-1 : Int64).toInt = -1 by decide] at this; omega
  rw [(c_ldiv i.toInt64 j.toInt64 j (n64_toInt hj) h1).1 (by rw [n64_toInt hi]; omega), n64_toInt hi, n64_toInt q]
  rfl
theorem n64_mod {i j : Nat} (hi : i < 2 ^ 63) (hj : j < 2 ^ 63) : i.toInt64 % j.toInt64 = (i % j).toInt64 := by
  have q : i % j < 2 ^ 63 := Nat.lt_of_le_of_lt (Nat.mod_le _ _) hi
  apply Int64.toInt_inj.mp
  have h := (c_lrem i.toInt64 j.toInt64 j (n64_toInt hj)).1 (by rw [n64_toInt hi]; omega)
  rw [lrem_mod] at h
  rw [h, n64_toInt hi, n64_toInt q]
  rfl
theorem n64_32 (i : Nat) : i.toInt64.toInt32 = i.toInt32 := by
  apply Int32.toInt_inj.mp
  rw [Int64.toInt_toInt32]
  simp only [Nat.toInt64, Nat.toInt32, Int64.toInt_ofNat', Int32.toInt_ofNat']
  exact Int.bmod_bmod_of_dvd (by decide)
theorem n32_64 {i : Nat} (h : i < 2 ^ 31) : i.toInt32.toInt64 = i.toInt64 := by
  apply Int64.toInt_inj.mp
  rw [c_i2l, n32_toInt h, n64_toInt (by omega)]
theorem n32_sub {i j : Nat} (h : j ≤ i) : i.toInt32 - j.toInt32 = (i - j).toInt32 := by
  have e : i.toInt32 = (i - j).toInt32 + j.toInt32 := by rw [n32_add]; congr 1; omega
  rw [e, Int32.add_sub_cancel]
theorem n32_c {i : Nat} (h : i < 65536) : isC i.toInt32 := by
  have := n32_toInt (i := i) (by omega)
  simp only [isC]; omega
theorem n32_i2c {i : Nat} (h : i < 65536) : i.toInt32.toUInt32.toUInt16.toUInt32.toInt32 = i.toInt32 := isC_nar (n32_c h)
theorem cmp_same (x : Int64) : XT.cmpL x x = 0 := by simp [XT.cmpL]


section JLen
variable {l : Launch} {Z : State} {a0 : Array Value} {D : Dyn} {H : HP}
theorem enc16_len : ∀ cs : List Int32, (enc16 cs).length = 2 * cs.length
  | [] => rfl
  | c :: r => by have := enc16_len r; simp only [enc16, List.flatMap_cons, List.length_append] at this ⊢; simp [e16]; simp at this; omega
theorem c_sCod (G : Glb Z a0) {a : Addr} {b : Int32} (F : Fld Z H.1 a "java/lang/String" "coder" "B" (.int b)) (hb : b = 0 ∨ b = 1) :
    Ct l Z EL0 (⟨"java/lang/String", "coder", "()B"⟩ : MethodName) jdk_42_method_152_code 1 ((some .byte)) ({ frames := 0, cells := 0, slots := 0, locals := 0 } : Room) [] [.ref a] H (fun v H' => v = some (.int b) ∧ H = H') := by
  refine Ct.in G (by first | exact plainFor_of_name (by simp [plainName, overriddenIn]; done) | decide +kernel) (ls := [.val (.ref a)]) rfl rfl fun D A0 => ?_
  obtain ⟨cz, hcz, cS⟩ := G_compact G
  have A1 := A0.getS (wd_10 G) cS (by decide +kernel)
  have A2 := A1.ifF (cd := .eq) (o := 10) (by decide +kernel) hcz
  have A3 := A2.run [(6, .aload_n 0, 7, 0)] (pe := 7) (by decide +kernel) rfl
  have A4 := A3.getF (wd_30 G) F (by decide +kernel)
  have A5 := A4.run [(10, .goto 4, 14, 0)] (pe := 14) (by decide +kernel) rfl
  exact ⟨_, _, _, _, A5.retB (by decide +kernel) (x2 := b) (by rcases hb with rfl | rfl <;> decide), ⟨rfl, rfl⟩, by decide, by decide⟩
theorem n32_shr1 {n : Nat} (h : 2 * n < 2 ^ 31) : (2 * n).toInt32 >>> ((1 : Int32) &&& 31) = n.toInt32 := by
  apply Int32.toInt_inj.mp
  rw [c_ishr _ 1 1 (by decide), n32_toInt h, n32_toInt (by omega)]
  omega
theorem n32_shr0 (x : Int32) : x >>> ((0 : Int32) &&& 31) = x := by
  apply Int32.toInt_inj.mp
  rw [c_ishr _ 0 0 (by decide)]; simp
theorem c_sLen (G : Glb Z a0) {a : Addr} {cs : List Int32} (S : Str Z H a cs) :
    Ct l Z EL0 (⟨"java/lang/String", "length", "()I"⟩ : MethodName) jdk_42_method_54_code 1 ((some .int)) ({ frames := 1, cells := 0, slots := 0, locals := 13 } : Room) [] [.ref a] H (fun v H' => v = some (.int cs.length.toInt32) ∧ H = H') := by
  refine Ct.in G (by first | exact plainFor_of_name (by simp [plainName, overriddenIn]; done) | decide +kernel) (ls := [.val (.ref a)]) rfl rfl fun D A0 => ?_
  obtain ⟨E, hC, t, F, q⟩ := S
  have A1 := A0.run [(0, .aload_n 0, 1, 0)] (pe := 1) (by decide +kernel) rfl
  have A2 := A1.getF (wd_28 G) F (by decide +kernel)
  rcases q with ⟨-, C, T⟩ | ⟨-, C, T⟩
  · have A3 := A2.alen T (by decide +kernel) (z := cs.length.toInt32) (by simp)
    have A4 := A3.run [(5, .aload_n 0, 6, 0)] (pe := 6) (by decide +kernel) rfl
    obtain ⟨_, HA5, qA5, A5, moA5, szA5⟩ := A4.callV (argsL := []) (wd_78 G) (wd_79 G) (wd_81 G) rfl (wd_81 G) (wd_80 G) (wd_8 G) (wd_82 G) E (c_sCod G C (Or.inl rfl)) (by decide) ⟨_, _, (by decide +kernel : parseMethodDescriptor "()B" = some ⟨[], some .byte⟩), rfl⟩ (by decide +kernel) (Wd := 1) (by decide) (Nat.le_of_ble_eq_true rfl) (by decide) (by decide) (by decide)
    obtain ⟨rfl, rfl⟩ := qA5
    have A6 := A5.run [(9, .ishr, 10, 0)] (pe := 10) (by decide +kernel) rfl
    rw [n32_shr0] at A6
    exact ⟨_, _, _, _, A6.retI (by decide +kernel), ⟨rfl, rfl⟩, by decide, by decide⟩
  · have A3 := A2.alen T (by decide +kernel) (z := (2 * cs.length).toInt32) (by rw [enc16_len])
    have A4 := A3.run [(5, .aload_n 0, 6, 0)] (pe := 6) (by decide +kernel) rfl
    obtain ⟨_, HA5, qA5, A5, moA5, szA5⟩ := A4.callV (argsL := []) (wd_78 G) (wd_79 G) (wd_81 G) rfl (wd_81 G) (wd_80 G) (wd_8 G) (wd_82 G) E (c_sCod G C (Or.inr rfl)) (by decide) ⟨_, _, (by decide +kernel : parseMethodDescriptor "()B" = some ⟨[], some .byte⟩), rfl⟩ (by decide +kernel) (Wd := 1) (by decide) (Nat.le_of_ble_eq_true rfl) (by decide) (by decide) (by decide)
    obtain ⟨rfl, rfl⟩ := qA5
    have A6 := A5.run [(9, .ishr, 10, 0)] (pe := 10) (by decide +kernel) rfl
    rw [n32_shr1 (by rw [← enc16_len]; exact T.len)] at A6
    exact ⟨_, _, _, _, A6.retI (by decide +kernel), ⟨rfl, rfl⟩, by decide, by decide⟩
end JLen


section JCh
variable {l : Launch} {Z : State} {a0 : Array Value} {D : Dyn} {H : HP}
theorem G_fmt {Z : State} {a0 : Array Value} (G : Glb Z a0) : ∃ x : Value, x.isRef = true ∧ Sta Z Z.heap "jdk/internal/util/Preconditions" "SIOOBE_FORMATTER" "Ljava/util/function/BiFunction;" x := by
  obtain ⟨x, e, r⟩ := isR_v (Cond.before_iff.mp (G.2.1 _ (List.mem_of_getElem? (i := 8) rfl)))
  exact ⟨x, r, Sta.start e (Or.inl (G.2.1 _ (List.mem_of_getElem? (i := 7) rfl)))⟩
theorem c_isL (G : Glb Z a0) {a : Addr} {b : Int32} (F : Fld Z H.1 a "java/lang/String" "coder" "B" (.int b)) (r : Int32) (hb : b = 0 ∧ r = 1 ∨ b = 1 ∧ r = 0) :
    Ct l Z EL0 (⟨"java/lang/String", "isLatin1", "()Z"⟩ : MethodName) jdk_42_method_154_code 1 ((some .boolean)) ({ frames := 0, cells := 0, slots := 0, locals := 0 } : Room) [] [.ref a] H (fun v H' => v = some (.int r) ∧ H = H') := by
  refine Ct.in G (by first | exact plainFor_of_name (by simp [plainName, overriddenIn]; done) | decide +kernel) (ls := [.val (.ref a)]) rfl rfl fun D A0 => ?_
  obtain ⟨cz, hcz, cS⟩ := G_compact G
  have A1 := A0.getS (wd_10 G) cS (by decide +kernel)
  have A2 := A1.ifF (cd := .eq) (o := 14) (by decide +kernel) hcz
  have A3 := A2.run [(6, .aload_n 0, 7, 0)] (pe := 7) (by decide +kernel) rfl
  have A4 := A3.getF (wd_30 G) F (by decide +kernel)
  rcases hb with ⟨rfl, rfl⟩ | ⟨rfl, rfl⟩
  · have A5 := A4.ifF (cd := .ne) (o := 7) (by decide +kernel) (by show ¬ ¬ _ = _; decide)
    have A6 := A5.run [(13, .iconst 1, 14, 1), (14, .goto 4, 18, 0)] (pe := 18) (by decide +kernel) rfl
    exact ⟨_, _, _, _, A6.retZ (by decide +kernel) rfl, ⟨rfl, rfl⟩, by decide, by decide⟩
  · have A5 := A4.ifT (cd := .ne) (o := 7) (by decide +kernel) (by show ¬ _ = _; decide) (pe := 17) (by decide)
    have A6 := A5.run [(17, .iconst 0, 18, 0)] (pe := 18) (by decide +kernel) rfl
    exact ⟨_, _, _, _, A6.retZ (by decide +kernel) rfl, ⟨rfl, rfl⟩, by decide, by decide⟩
theorem c_pci (G : Glb Z a0) {i n : Nat} {f : Value} (hf : f.isRef = true) (hi : i < n) (hn : n < 2 ^ 31) :
    Ct l Z EL0 (⟨"jdk/internal/util/Preconditions", "checkIndex", "(IILjava/util/function/BiFunction;)I"⟩ : MethodName) jdk_41_method_11_code 3 ((some .int)) ({ frames := 0, cells := 0, slots := 0, locals := 0 } : Room) [] [.int i.toInt32, .int n.toInt32, f] H (fun v H' => v = some (.int i.toInt32) ∧ H = H') := by
  have key : ∀ s : Slot, locsOf [.int i.toInt32, .int n.toInt32, f] 3 = [.val (.int i.toInt32), .val (.int n.toInt32), s] → Ct l Z EL0 (⟨"jdk/internal/util/Preconditions", "checkIndex", "(IILjava/util/function/BiFunction;)I"⟩ : MethodName) jdk_41_method_11_code 3 ((some .int)) ({ frames := 0, cells := 0, slots := 0, locals := 0 } : Room) [] [.int i.toInt32, .int n.toInt32, f] H (fun v H' => v = some (.int i.toInt32) ∧ H = H') := by
    intro s hs
    refine Ct.in G (by first | exact plainFor_of_name (by simp [plainName, overriddenIn]; done) | decide +kernel) (ls := [.val (.int i.toInt32), .val (.int n.toInt32), s]) hs rfl fun D A0 => ?_
    have A1 := A0.run [(0, .iload_n 0, 1, 0)] (pe := 1) (by decide +kernel) rfl
    have A2 := A1.ifF (cd := .lt) (o := 8) (by decide +kernel) (nonneg_nat (by omega))
    have A3 := A2.run [(4, .iload_n 0, 5, 0), (5, .iload_n 1, 6, 0)] (pe := 6) (by decide +kernel) rfl
    have A4 := A3.icT (cd := .lt) (o := 10) (by decide +kernel) ((n32_lt (by omega) hn).mpr hi) (pe := 16) (by decide)
    have A5 := A4.run [(16, .iload_n 0, 17, 0)] (pe := 17) (by decide +kernel) rfl
    exact ⟨_, _, _, _, A5.retI (by decide +kernel), ⟨rfl, rfl⟩, by decide, by decide⟩
  rcases ref_cases hf with rfl | ⟨x, rfl⟩ <;> exact key _ rfl
theorem c_sci (G : Glb Z a0) {i n : Nat} (hi : i < n) (hn : n < 2 ^ 31) :
    Ct l Z EL0 (⟨"java/lang/String", "checkIndex", "(II)V"⟩ : MethodName) jdk_42_method_155_code 2 (none) ({ frames := 1, cells := 0, slots := 0, locals := 14 } : Room) [] [.int i.toInt32, .int n.toInt32] H (fun v H' => v = none ∧ H = H') := by
  refine Ct.in G (by first | exact plainFor_of_name (by simp [plainName, overriddenIn]; done) | decide +kernel) (ls := [.val (.int i.toInt32), .val (.int n.toInt32)]) rfl rfl fun D A0 => ?_
  obtain ⟨f, hf, fS⟩ := G_fmt G
  have A1 := A0.run [(0, .iload_n 0, 1, 0), (1, .iload_n 1, 2, 0)] (pe := 2) (by decide +kernel) rfl
  have A2 := A1.getS (wd_96 G) fS (by decide +kernel)
  obtain ⟨_, HA3, qA3, A3, moA3, szA3⟩ := A2.callS (argsL := [.int i.toInt32, .int n.toInt32, f]) (wd_98 G) (wd_99 G) (wd_97 G) (wd_100 G) (c_pci G hf hi hn) (by decide) ⟨_, _, (by decide +kernel : parseMethodDescriptor "(IILjava/util/function/BiFunction;)I" = some ⟨[.int, .int, (.object "java/util/function/BiFunction")], some .int⟩), rfl⟩ (by decide +kernel) (Wd := 0) (by decide) (Nat.le_of_ble_eq_true rfl) (by decide) (by decide) (by decide)
  obtain ⟨rfl, rfl⟩ := qA3
  have A4 := A3.run [(8, .pop, 9, 0)] (pe := 9) (by decide +kernel) rfl
  exact ⟨_, _, _, _, A4.ret (by decide +kernel), ⟨rfl, rfl⟩, by decide, by decide⟩
end JCh


section JUtf
variable {l : Launch} {Z : State} {a0 : Array Value} {D : Dyn} {H : HP}
theorem G_asr {Z : State} {a0 : Array Value} (G : Glb Z a0) : Sta Z Z.heap "java/lang/StringUTF16" "$assertionsDisabled" "Z" (.int 1) := by
  have h := Cond.before_iff.mp (G.2.1 _ (List.mem_of_getElem? (i := 12) rfl))
  exact Sta.start (stEq h) (Or.inl (G.2.1 _ (List.mem_of_getElem? (i := 11) rfl)))
theorem G_hi {Z : State} {a0 : Array Value} (G : Glb Z a0) : Sta Z Z.heap "java/lang/StringUTF16" "HI_BYTE_SHIFT" "I" (.int 0) := by
  have h := Cond.before_iff.mp (G.2.1 _ (List.mem_of_getElem? (i := 15) rfl))
  exact Sta.start (stEq h) (Or.inl (G.2.1 _ (List.mem_of_getElem? (i := 14) rfl)))
theorem G_lo {Z : State} {a0 : Array Value} (G : Glb Z a0) : Sta Z Z.heap "java/lang/StringUTF16" "LO_BYTE_SHIFT" "I" (.int 8) := by
  have h := Cond.before_iff.mp (G.2.1 _ (List.mem_of_getElem? (i := 18) rfl))
  exact Sta.start (stEq h) (Or.inl (G.2.1 _ (List.mem_of_getElem? (i := 17) rfl)))
theorem n32_shl1 {n : Nat} (h : 2 * n < 2 ^ 31) : n.toInt32 <<< ((1 : Int32) &&& 31) = (2 * n).toInt32 := by
  apply Int32.toInt_inj.mp
  have := c_ishl n.toInt32 1 1 (by decide)
  rw [n32_toInt (by omega)] at this
  rw [n32_toInt h]
  have r := rng32 (n.toInt32 <<< ((1 : Int32) &&& 31))
  omega
theorem c_nbl (G : Glb Z a0) {n : Nat} (hn : n ≤ 4096) : Ct l Z EL0 (⟨"java/lang/StringUTF16", "newBytesLength", "(I)I"⟩ : MethodName) jdk_52_method_3_code 1 ((some .int)) ({ frames := 0, cells := 0, slots := 0, locals := 0 } : Room) [] [.int n.toInt32] H (fun v H' => v = some (.int (2 * n).toInt32) ∧ H = H') := by
  refine Ct.in G (by first | exact plainFor_of_name (by simp [plainName, overriddenIn]; done) | decide +kernel) (ls := [.val (.int n.toInt32)]) rfl rfl fun D A0 => ?_
  have A1 := A0.run [(0, .iload_n 0, 1, 0)] (pe := 1) (by decide +kernel) rfl
  have A2 := A1.ifT (cd := .ge) (o := 11) (by decide +kernel) (nonneg_nat (by omega)) (pe := 12) (by decide)
  have A3 := A2.run [(12, .iload_n 0, 13, 0)] (pe := 13) (by decide +kernel) rfl
  have A4 := A3.ldcI (wd_239 G) (by decide +kernel)
  have A5 := A4.icT (cd := .lt) (o := 40) (by decide +kernel) (by show _ < _; rw [Int32.lt_iff_toInt_lt, n32_toInt (by omega), show (1073741823 : Int32).toInt = 1073741823 by decide]; omega) (pe := 55) (by decide)
  have A6 := A5.run [(55, .iload_n 0, 56, 0), (56, .iconst 1, 57, 1), (57, .ishl, 58, 0)] (pe := 58) (by decide +kernel) rfl
  rw [n32_shl1 (by omega)] at A6
  exact ⟨_, _, _, _, A6.retI (by decide +kernel), ⟨rfl, rfl⟩, by decide, by decide⟩
theorem c_nbf (G : Glb Z a0) {n : Nat} (hn : 2 * n ≤ 32) : Ct l Z EL0 (⟨"java/lang/StringUTF16", "newBytesFor", "(I)[B"⟩ : MethodName) jdk_52_method_2_code 1 ((some (.array .byte))) ({ frames := 1, cells := 1, slots := 32, locals := 12 } : Room) [] [.int n.toInt32] H (fun v H' => ∃ t, v = some (.ref t) ∧ H.1.size ≤ t ∧ Kp H H' [] ∧ Ar Z H' t .byte (List.replicate (2 * n) (.int 0)) ∧ H'.2 t) := by
  refine Ct.in G (by first | exact plainFor_of_name (by simp [plainName, overriddenIn]; done) | decide +kernel) (ls := [.val (.int n.toInt32)]) rfl rfl fun D A0 => ?_
  have A1 := A0.run [(0, .iload_n 0, 1, 0)] (pe := 1) (by decide +kernel) rfl
  obtain ⟨_, HA2, qA2, A2, moA2, szA2⟩ := A1.callS (argsL := [.int n.toInt32]) (wd_236 G) (wd_237 G) (wd_42 G) (wd_238 G) (c_nbl G (by omega)) (by decide) ⟨_, _, (by decide +kernel : parseMethodDescriptor "(I)I" = some ⟨[.int], some .int⟩), rfl⟩ (by decide +kernel) (Wd := 0) (by decide) (Nat.le_of_ble_eq_true rfl) (by decide) (by decide) (by decide)
  obtain ⟨rfl, rfl⟩ := qA2
  obtain ⟨t, H1, A3, hge, K1, T1, o1⟩ := A2.newA (aty := .byte) (wd_20 G) (by decide +kernel) rfl (cap := 32) hn (by decide) (by decide) (by decide)
  exact ⟨_, _, _, _, A3.retA (by decide +kernel) rfl rfl, ⟨t, rfl, hge, K1, T1, o1⟩, by decide, by decide⟩
theorem c_pch (G : Glb Z a0) {t : Addr} {vs : List Value} {i : Nat} {c : Int32} (T : Ar Z H t .byte vs) (o : H.2 t) (hi : 2 * i + 1 < vs.length) :
    Ct l Z EL0 (⟨"java/lang/StringUTF16", "putChar", "([BII)V"⟩ : MethodName) jdk_52_method_4_code 3 (none) ({ frames := 0, cells := 0, slots := 0, locals := 0 } : Room) [] [.ref t, .int i.toInt32, .int c] H (fun v H' => v = none ∧ Kp H H' [t] ∧ Ar Z H' t .byte ((vs.set (2 * i) (.int (b8 c))).set (2 * i + 1) (.int (b8 (c >>> (8 &&& 31)))))) := by
  refine Ct.in G (by first | exact plainFor_of_name (by simp [plainName, overriddenIn]; done) | decide +kernel) (ls := [.val (.ref t), .val (.int i.toInt32), .val (.int c)]) rfl rfl fun D A0 => ?_
  have hL := T.len
  have A1 := A0.getS (wd_243 G) (G_asr G) (by decide +kernel)
  have A2 := A1.ifT (cd := .ne) (o := 25) (by decide +kernel) (by show ¬ _ = _; decide) (pe := 28) (by decide)
  have A3 := A2.run [(28, .iload_n 1, 29, 0), (29, .iconst 1, 30, 1), (30, .ishl, 31, 0), (31, .istore_n 1, 32, 0), (32, .aload_n 0, 33, 0), (33, .iload_n 1, 34, 0), (34, .iinc 1 1, 37, 1), (37, .iload_n 2, 38, 0)] (pe := 38) (by decide +kernel) rfl
  rw [n32_shl1 (by omega), n32_succ] at A3
  have A4 := A3.getS (wd_244 G) (G_hi G) (by decide +kernel)
  have A5 := A4.run [(41, .ishr, 42, 0), (42, .i2b, 43, 0)] (pe := 43) (by decide +kernel) rfl
  rw [n32_shr0] at A5
  obtain ⟨H1, A6, K1, T1⟩ := A5.bastore T o (by decide +kernel) rfl (by omega) (x2 := b8 c) (by simp [nar])
  have A7 := A6.run [(44, .aload_n 0, 45, 0), (45, .iload_n 1, 46, 0), (46, .iload_n 2, 47, 0)] (pe := 47) (by decide +kernel) rfl
  have A8 := A7.getS (wd_245 G) (G_lo G) (by decide +kernel)
  have A9 := A8.run [(50, .ishr, 51, 0), (51, .i2b, 52, 0)] (pe := 52) (by decide +kernel) rfl
  obtain ⟨H2, A10, K2, T2⟩ := A9.bastore T1 (K1.2 _ o) (by decide +kernel) rfl (by simp; omega) (x2 := b8 (c >>> (8 &&& 31))) (by simp [nar])
  exact ⟨_, _, _, _, A10.ret (by decide +kernel), ⟨rfl, K1.trans K2 fun x hx => Or.inl hx, T2⟩, by decide, by decide⟩
theorem set2_enc {cs : List Int32} {i : Nat} {c : Int32} (hc : cs[i]? = some c) (n : Nat) (hn : n = cs.length) :
    ((enc16 (cs.take i) ++ List.replicate (2 * (n - i)) (Value.int 0)).set (2 * i) (.int (b8 c))).set (2 * i + 1) (.int (b8 (c >>> (8 &&& 31)))) = enc16 (cs.take (i + 1)) ++ List.replicate (2 * (n - (i + 1))) (Value.int 0) := by
  have hi : i < cs.length := (List.getElem?_eq_some_iff.mp hc).1
  have h1 : (enc16 (cs.take i)).length = 2 * i := by rw [enc16_len]; simp; omega
  have h2 : List.replicate (2 * (n - i)) (Value.int 0) = .int 0 :: .int 0 :: List.replicate (2 * (n - (i + 1))) (.int 0) := by
    rw [show 2 * (n - i) = 2 * (n - (i + 1)) + 1 + 1 by omega]; rfl
  rw [h2, List.set_append_right _ _ (by omega), h1, Nat.sub_self, List.set_cons_zero, List.set_append_right _ _ (by omega), h1, show 2 * i + 1 - 2 * i = 0 + 1 by omega, List.set_cons_succ, List.set_cons_zero]
  rw [List.take_add_one, hc]
  simp [enc16, e16]
set_option maxRecDepth 65536 in
theorem l_tby (G : Glb Z a0) {s t : Addr} {cs : List Int32} (F : Ar Z H s .char (chs cs)) (hst : s ≠ t) (hge : H.1.size ≤ t) :
    ∀ (j i : Nat) (H1 : HP), i + j = cs.length → Kp H H1 [] → H1.2 t → Ar Z H1 t .byte (enc16 (cs.take i) ++ List.replicate (2 * (cs.length - i)) (.int 0)) →
      Wk l Z a0 EL0 "java/lang/StringUTF16" jdk_52_method_14_code 5 "toBytes" (some (.array .byte)) ({ frames := 2, cells := 1, slots := 32, locals := 24 } : Room) D 8 [.val (.ref s), .val (.int i.toInt32), .val (.int cs.length.toInt32), .val (.ref t), .val (.int i.toInt32)] [] H1 1 32 →
      ∃ H', Rt Z EL0 D (some (.ref t)) H' 1 32 ∧ Kp H H' [] ∧ Ar Z H' t .byte (enc16 cs) ∧ H'.2 t := by
  have hn : cs.length < 2 ^ 31 := by simpa using F.len
  intro j
  induction j with
  | zero =>
    intro i H1 e K o T A0
    have e : i = cs.length := by omega
    subst e
    have A1 := A0.run [(8, .iload 4, 10, 0), (10, .iload_n 2, 11, 0)] (pe := 11) (by decide +kernel) rfl
    have A2 := A1.icT (cd := .ge) (o := 21) (by decide +kernel) Int32.lt_irrefl (pe := 32) (by decide)
    have A3 := A2.run [(32, .aload_n 3, 33, 0)] (pe := 33) (by decide +kernel) rfl
    exact ⟨_, A3.retA (by decide +kernel) rfl rfl, K, by simpa using T, o⟩
  | succ j ih =>
    intro i H1 e K o T A0
    have hlt : i < cs.length := by omega
    obtain ⟨c, hc⟩ : ∃ c, cs[i]? = some c := ⟨_, List.getElem?_eq_getElem hlt⟩
    have A1 := A0.run [(8, .iload 4, 10, 0), (10, .iload_n 2, 11, 0)] (pe := 11) (by decide +kernel) rfl
    have A2 := A1.icF (cd := .ge) (o := 21) (by decide +kernel) (not_not_intro ((n32_lt (by omega) hn).mpr hlt))
    have A3 := A2.run [(14, .aload_n 3, 15, 0), (15, .iload 4, 17, 0), (17, .aload_n 0, 18, 0), (18, .iload_n 1, 19, 0)] (pe := 19) (by decide +kernel) rfl
    have A4 := A3.caload (F.ky K) (by decide +kernel) rfl (v := .int c) (by simp [hc])
    obtain ⟨_, HA5, qA5, A5, moA5, szA5⟩ := A4.callS (argsL := [.ref t, .int i.toInt32, .int c]) (wd_240 G) (wd_241 G) (wd_42 G) (wd_242 G) (c_pch G T o (by have := enc16_len (cs.take i); simp only [List.length_append, List.length_replicate, this, List.length_take]; omega)) (by decide) ⟨_, _, (by decide +kernel : parseMethodDescriptor "([BII)V" = some ⟨[(.array .byte), .int, .int], none⟩), rfl⟩ (by decide +kernel) (Wd := 0) (by decide) (Nat.le_of_ble_eq_true rfl) (by decide) (by decide) (by decide)
    obtain ⟨rfl, K5, T5⟩ := qA5
    have A6 := A5.run [(23, .iinc 1 1, 26, 1), (26, .iinc 4 1, 29, 1), (29, .goto (-21), 8, 0)] (pe := 8) (by decide +kernel) rfl
    rw [set2_enc hc _ rfl] at T5
    rw [n32_succ] at A6
    exact ih (i + 1) _ (by omega) (K.trans K5 fun x hx => by cases List.mem_singleton.mp hx; exact Or.inr hge) (K5.2 _ o) T5 A6
theorem c_tby (G : Glb Z a0) {s : Addr} {cs : List Int32} (F : Ar Z H s .char (chs cs)) (hn : 2 * cs.length ≤ 32) :
    Ct l Z EL0 (⟨"java/lang/StringUTF16", "toBytes", "([CII)[B"⟩ : MethodName) jdk_52_method_14_code 5 ((some (.array .byte))) ({ frames := 2, cells := 1, slots := 32, locals := 24 } : Room) [] [.ref s, .int 0, .int cs.length.toInt32] H (fun v H' => ∃ t, v = some (.ref t) ∧ H.1.size ≤ t ∧ Kp H H' [] ∧ Ar Z H' t .byte (enc16 cs) ∧ H'.2 t) := by
  refine Ct.in G (by first | exact plainFor_of_name (by simp [plainName, overriddenIn]; done) | decide +kernel) (ls := [.val (.ref s), .val (.int 0), .val (.int cs.length.toInt32), .unset, .unset]) rfl rfl fun D A0 => ?_
  have A1 := A0.run [(0, .iload_n 2, 1, 0)] (pe := 1) (by decide +kernel) rfl
  obtain ⟨_, HA2, qA2, A2, moA2, szA2⟩ := A1.callS (argsL := [.int cs.length.toInt32]) (wd_233 G) (wd_234 G) (wd_42 G) (wd_235 G) (c_nbf G hn) (by decide) ⟨_, _, (by decide +kernel : parseMethodDescriptor "(I)[B" = some ⟨[.int], some (.array .byte)⟩), rfl⟩ (by decide +kernel) (Wd := 0) (by decide) (Nat.le_of_ble_eq_true rfl) (by decide) (by decide) (by decide)
  obtain ⟨t, rfl, hge, K1, T1, o1⟩ := qA2
  have A3 := A2.run [(4, .astore_n 3, 5, 0), (5, .iconst 0, 6, 0), (6, .istore 4, 8, 0)] (pe := 8) (by decide +kernel) rfl
  have hst : s ≠ t := Nat.ne_of_lt (Nat.lt_of_lt_of_le F.lt hge)
  obtain ⟨H', B1, B2, B3, B4⟩ := l_tby G F hst hge cs.length 0 _ (by omega) K1 o1 (by simpa using T1) A3
  exact ⟨_, _, _, _, B1, ⟨t, rfl, hge, B2, B3, B4⟩, by decide, by decide⟩
theorem e16_at : ∀ {cs : List Int32} {i : Nat} {c : Int32}, cs[i]? = some c → (enc16 cs)[2 * i]? = some (.int (b8 c)) ∧ (enc16 cs)[2 * i + 1]? = some (.int (b8 (c >>> (8 &&& 31))))
  | [], i, c, h => by simp at h
  | d :: r, 0, c, h => by
    have : d = c := by simpa using h
    subst this; simp [enc16, e16]
  | d :: r, i + 1, c, h => by
    obtain ⟨h1, h2⟩ := e16_at (cs := r) (i := i) (c := c) (by simpa using h)
    rw [show 2 * (i + 1) = 2 * i + 1 + 1 by omega]
    exact ⟨by simpa [enc16, e16] using h1, by simpa [enc16, e16] using h2⟩
theorem c16_back {c : Int32} (h : isC c) : ((b8 c &&& (255 : Int32)) ||| ((b8 (c >>> (8 &&& 31)) &&& (255 : Int32)) <<< ((8 : Int32) &&& 31))).toUInt32.toUInt16.toUInt32.toInt32 = c := by
  apply Int32.toInt_inj.mp
  have a1 := c_mask (b8 c) 255 8 (by decide) (by decide)
  have a2 : ((b8 c).toInt - c.toInt) % 256 = 0 ∧ -128 ≤ (b8 c).toInt ∧ (b8 c).toInt < 128 := c_i2b c
  have a3 := c_mask (b8 (c >>> (8 &&& 31))) 255 8 (by decide) (by decide)
  have a4 : ((b8 (c >>> (8 &&& 31))).toInt - (c >>> (8 &&& 31)).toInt) % 256 = 0 ∧ -128 ≤ (b8 (c >>> (8 &&& 31))).toInt ∧ (b8 (c >>> (8 &&& 31))).toInt < 128 := c_i2b (c >>> (8 &&& 31))
  have a5 := c_ishr c 8 8 (by decide)
  have a6 := c_ishl (b8 (c >>> (8 &&& 31)) &&& 255) 8 8 (by decide)
  have r6 := rng32 ((b8 (c >>> (8 &&& 31)) &&& 255) <<< ((8 : Int32) &&& 31))
  generalize hX : (b8 c &&& 255) = X at *
  generalize hY : (b8 (c >>> (8 &&& 31)) &&& 255) = Y at *
  generalize hW : (Y <<< ((8 : Int32) &&& 31)) = W at *
  have a7 := c_or' X W 8 (by decide) 256 (by decide)
  have r7 := rng32 (X ||| W)
  have a8 := c_i2c (X ||| W)
  simp only [Nat.reducePow] at a1 a3 a5 a6
  have b1 : X.toInt = c.toInt % 256 := by omega
  have b2 : Y.toInt = c.toInt / 256 := by omega
  have b3 : W.toInt = c.toInt / 256 * 256 := by omega
  have b4 := a7 (by omega) (by omega) (by omega)
  omega
theorem c_gch (G : Glb Z a0) {t : Addr} {cs : List Int32} {i : Nat} {c : Int32} (T : Ar Z H t .byte (enc16 cs)) (hC : isC c) (hc : cs[i]? = some c) :
    Ct l Z EL0 (⟨"java/lang/StringUTF16", "getChar", "([BI)C"⟩ : MethodName) jdk_52_method_5_code 2 ((some .char)) ({ frames := 0, cells := 0, slots := 0, locals := 0 } : Room) [] [.ref t, .int i.toInt32] H (fun v H' => v = some (.int c) ∧ H = H') := by
  refine Ct.in G (by first | exact plainFor_of_name (by simp [plainName, overriddenIn]; done) | decide +kernel) (ls := [.val (.ref t), .val (.int i.toInt32)]) rfl rfl fun D A0 => ?_
  have hi : i < cs.length := (List.getElem?_eq_some_iff.mp hc).1
  have hL := T.len; rw [enc16_len] at hL
  obtain ⟨g1, g2⟩ := e16_at hc
  have A1 := A0.getS (wd_243 G) (G_asr G) (by decide +kernel)
  have A2 := A1.ifT (cd := .ne) (o := 25) (by decide +kernel) (by show ¬ _ = _; decide) (pe := 28) (by decide)
  have A3 := A2.run [(28, .iload_n 1, 29, 0), (29, .iconst 1, 30, 1), (30, .ishl, 31, 0), (31, .istore_n 1, 32, 0), (32, .aload_n 0, 33, 0), (33, .iload_n 1, 34, 0), (34, .iinc 1 1, 37, 1)] (pe := 37) (by decide +kernel) rfl
  rw [n32_shl1 (by omega), n32_succ] at A3
  have A4 := A3.baload T (by decide +kernel) rfl g1
  have A5 := A4.run [(38, .sipush 255, 41, 255), (41, .iand, 42, 0)] (pe := 42) (by decide +kernel) rfl
  have A6 := A5.getS (wd_244 G) (G_hi G) (by decide +kernel)
  have A7 := A6.run [(45, .ishl, 46, 0), (46, .aload_n 0, 47, 0), (47, .iload_n 1, 48, 0)] (pe := 48) (by decide +kernel) rfl
  have A8 := A7.baload T (by decide +kernel) rfl g2
  have A9 := A8.run [(49, .sipush 255, 52, 255), (52, .iand, 53, 0)] (pe := 53) (by decide +kernel) rfl
  have A10 := A9.getS (wd_245 G) (G_lo G) (by decide +kernel)
  have A11 := A10.run [(56, .ishl, 57, 0), (57, .ior, 58, 0), (58, .i2c, 59, 0)] (pe := 59) (by decide +kernel) rfl
  rw [n32_shl0, c16_back hC] at A11
  exact ⟨_, _, _, _, A11.retC (by decide +kernel) (isC_nar hC), ⟨rfl, rfl⟩, by decide, by decide⟩
end JUtf


section JUtf2
variable {l : Launch} {Z : State} {a0 : Array Value} {D : Dyn} {H : HP}
theorem pfx_at : ∀ {cs : List Int32}, ¬ Lat cs → ∃ c, cs[pfx cs]? = some c ∧ (255 : Int32) < c
  | [], h => absurd (fun c hc => nomatch hc) h
  | d :: r, h => by
    by_cases hd : (255 : Int32) < d
    · exact ⟨d, by simp [pfx, hd], hd⟩
    · have hr : ¬ Lat r := fun q => h fun c hc => by
        rcases List.mem_cons.mp hc with rfl | hc
        · exact hd
        · exact q c hc
      obtain ⟨c, h1, h2⟩ := pfx_at hr
      exact ⟨c, by simpa [pfx, hd] using h1, h2⟩
theorem c_cmp3U (G : Glb Z a0) {s : Addr} {cs : List Int32} (F : Ar Z H s .char (chs cs)) (hn : cs.length ≤ 8) (hla : ¬ Lat cs) :
    Ct l Z EL0 (⟨"java/lang/StringUTF16", "compress", "([CII)[B"⟩ : MethodName) jdk_52_method_16_code 6 ((some (.array .byte))) ({ frames := 3, cells := 2, slots := 40, locals := 40 } : Room) [] [.ref s, .int 0, .int cs.length.toInt32] H (fun v H' => ∃ t, v = some (.ref t) ∧ H.1.size ≤ t ∧ Kp H H' [] ∧ Ar Z H' t .byte (enc16 cs) ∧ H'.2 t) := by
  refine Ct.in G (by first | exact plainFor_of_name (by simp [plainName, overriddenIn]; done) | decide +kernel) (ls := [.val (.ref s), .val (.int 0), .val (.int cs.length.toInt32), .unset, .unset, .unset]) rfl rfl fun D A0 => ?_
  have hn31 : cs.length < 2 ^ 31 := by omega
  obtain ⟨c, hc, hc2⟩ := pfx_at hla
  have hp : pfx cs < cs.length := (List.getElem?_eq_some_iff.mp hc).1
  have A1 := A0.run [(0, .iload_n 2, 1, 0)] (pe := 1) (by decide +kernel) rfl
  obtain ⟨t, H1, A2, hge, K1, T1, o1⟩ := A1.newA (aty := .byte) (wd_20 G) (by decide +kernel) rfl (cap := 8) hn (by decide) (by decide) (by decide)
  have A3 := A2.run [(3, .astore_n 3, 4, 0), (4, .aload_n 0, 5, 0), (5, .iload_n 1, 6, 0), (6, .aload_n 3, 7, 0), (7, .iconst 0, 8, 0), (8, .iload_n 2, 9, 0)] (pe := 9) (by decide +kernel) rfl
  have hne : s ≠ t := Nat.ne_of_lt (Nat.lt_of_lt_of_le F.lt hge)
  obtain ⟨_, HA4, qA4, A4, moA4, szA4⟩ := A3.callS (argsL := [.ref s, .int 0, .ref t, .int 0, .int cs.length.toInt32]) (wd_44 G) (wd_45 G) (wd_42 G) (wd_46 G) (c_cmp5 G (F.ky K1) T1 o1 (by simp) hne) (by decide) ⟨_, _, (by decide +kernel : parseMethodDescriptor "([CI[BII)I" = some ⟨[(.array .char), .int, (.array .byte), .int, .int], some .int⟩), rfl⟩ (by decide +kernel) (Wd := 0) (by decide) (Nat.le_of_ble_eq_true rfl) (by decide) (by decide) (by decide)
  obtain ⟨rfl, K2, T2⟩ := qA4
  have A5 := A4.run [(12, .istore 4, 14, 0), (14, .iload 4, 16, 0), (16, .iload_n 2, 17, 0)] (pe := 17) (by decide +kernel) rfl
  have A6 := A5.icF (cd := .eq) (o := 40) (by decide +kernel) (fun e => by have := (n32_inj (by omega) hn31).mp e; omega)
  have A7 := A6.run [(20, .aload_n 0, 21, 0), (21, .iload_n 1, 22, 0), (22, .iload_n 2, 23, 0)] (pe := 23) (by decide +kernel) rfl
  have F2 := (F.ky K1).ky K2 (by simpa using hne)
  obtain ⟨_, HA8, qA8, A8, moA8, szA8⟩ := A7.callS (argsL := [.ref s, .int 0, .int cs.length.toInt32]) (wd_230 G) (wd_231 G) (wd_42 G) (wd_232 G) (c_tby G F2 (by omega)) (by decide) ⟨_, _, (by decide +kernel : parseMethodDescriptor "([CII)[B" = some ⟨[(.array .char), .int, .int], some (.array .byte)⟩), rfl⟩ (by decide +kernel) (Wd := 0) (by decide) (Nat.le_of_ble_eq_true rfl) (by decide) (by decide) (by decide)
  obtain ⟨u, rfl, hgu, K3, T3, o3⟩ := qA8
  have A9 := A8.run [(26, .astore 5, 28, 0), (28, .aload 5, 30, 0), (30, .iload 4, 32, 0)] (pe := 32) (by decide +kernel) rfl
  obtain ⟨_, HA10, qA10, A10, moA10, szA10⟩ := A9.callS (argsL := [.ref u, .int (pfx cs).toInt32]) (wd_246 G) (wd_247 G) (wd_42 G) (wd_248 G) (c_gch G T3 (isC_of F c (List.mem_of_getElem? hc)) hc) (by decide) ⟨_, _, (by decide +kernel : parseMethodDescriptor "([BI)C" = some ⟨[(.array .byte), .int], some .char⟩), rfl⟩ (by decide +kernel) (Wd := 0) (by decide) (Nat.le_of_ble_eq_true rfl) (by decide) (by decide) (by decide)
  obtain ⟨rfl, rfl⟩ := qA10
  have A11 := A10.run [(35, .sipush 255, 38, 255)] (pe := 38) (by decide +kernel) rfl
  have A12 := A11.icT (cd := .gt) (o := 16) (by decide +kernel) hc2 (pe := 54) (by decide)
  have A13 := A12.run [(54, .aload 5, 56, 0)] (pe := 56) (by decide +kernel) rfl
  have A14 := A13.retA (by decide +kernel) rfl rfl
  have K12 := K1.trans K2 (fun x hx => Or.inr (by cases List.mem_singleton.mp hx; exact hge))
  exact ⟨_, _, _, _, A14, ⟨u, rfl, Nat.le_trans K12.size hgu, K12.tr K3, T3, o3⟩, by decide, by decide⟩
theorem sub_neg {n : Nat} (h0 : 0 < n) (h : 2 * n < 2 ^ 31) : (XT.ushr (n.toInt32 - (2 * n).toInt32) 31).toInt8.toInt32 = 1 := by
  have e : n.toInt32 - (2 * n).toInt32 = -(n.toInt32) := by
    apply Int32.toInt_inj.mp
    have a := c_isub n.toInt32 (2 * n).toInt32
    have b := c_ineg n.toInt32
    rw [n32_toInt (by omega), n32_toInt h] at a
    rw [n32_toInt (by omega)] at b
    have r1 := rng32 (n.toInt32 - (2 * n).toInt32)
    have r2 := rng32 (-(n.toInt32))
    omega
  rw [e]
  have q : XT.ushr (-(n.toInt32)) 31 = 1 := by
    apply Int32.toInt_inj.mp
    have a := c_iushr (-(n.toInt32)) 31 31 (by decide) (by decide)
    have b := c_ineg n.toInt32
    rw [n32_toInt (by omega)] at b
    have r2 := rng32 (-(n.toInt32))
    show ((-(n.toInt32)).toUInt32 >>> ((31 : Int32) &&& 31).toUInt32).toInt32.toInt = _
    rw [a, show (1 : Int32).toInt = 1 by decide]
    simp only [Nat.reducePow]
    omega
  rw [q]; decide
theorem c_cfaU (G : Glb Z a0) {t : Addr} {n : Nat} {vs : List Value} (F : Ar Z H t .byte vs) (h0 : 0 < n) (hl : vs.length = 2 * n) :
    Ct l Z EL0 (⟨"java/lang/StringUTF16", "coderFromArrayLen", "([BI)B"⟩ : MethodName) jdk_52_method_15_code 2 ((some .byte)) ({ frames := 0, cells := 0, slots := 0, locals := 0 } : Room) [] [.ref t, .int n.toInt32] H (fun v H' => v = some (.int 1) ∧ H = H') := by
  refine Ct.in G (by first | exact plainFor_of_name (by simp [plainName, overriddenIn]; done) | decide +kernel) (ls := [.val (.ref t), .val (.int n.toInt32)]) rfl rfl fun D A0 => ?_
  have A1 := A0.run [(0, .iload_n 1, 1, 0), (1, .aload_n 0, 2, 0)] (pe := 2) (by decide +kernel) rfl
  have A2 := A1.alen F (by decide +kernel) (z := (2 * n).toInt32) (by rw [hl])
  have A3 := A2.run [(3, .isub, 4, 0), (4, .bipush 31, 6, 31), (6, .iushr, 7, 0), (7, .i2b, 8, 0)] (pe := 8) (by decide +kernel) rfl
  rw [sub_neg h0 (by rw [← hl]; exact F.len)] at A3
  have A4 := A3.retB (by decide +kernel) (x2 := 1) (by decide)
  exact ⟨_, _, _, _, A4, ⟨rfl, rfl⟩, Nat.le_refl _, Nat.le_refl _⟩
set_option maxRecDepth 65536 in
theorem c_sI4U (G : Glb Z a0) {x s : Addr} {cs : List Int32} (F : Ar Z H s .char (chs cs)) (hn : cs.length ≤ 8) (hla : ¬ Lat cs) (E : Exa Z H.1 x "java/lang/String") (V : Fld Z H.1 x "java/lang/String" "value" "[B" .null) (C : Fld Z H.1 x "java/lang/String" "coder" "B" (.int 0)) (o : H.2 x) :
    Ct l Z EL0 (⟨"java/lang/String", "<init>", "([CIILjava/lang/Void;)V"⟩ : MethodName) jdk_42_method_149_code 6 (none) ({ frames := 4, cells := 2, slots := 40, locals := 57 } : Room) [] [.ref x, .ref s, .int 0, .int cs.length.toInt32, .null] H (fun v H' => v = none ∧ Kp H H' [x] ∧ Str Z H' x cs) := by
  refine Ct.in G (by first | exact plainFor_of_name (by simp [plainName, overriddenIn]; done) | decide +kernel) (ls := [.val (.ref x), .val (.ref s), .val (.int 0), .val (.int cs.length.toInt32), .val .null, .unset]) rfl rfl fun D A0 => ?_
  have h0 : cs ≠ [] := fun e => hla (by rw [e]; exact fun c hc => nomatch hc)
  have hn31 : cs.length < 2 ^ 31 := by omega
  obtain ⟨cz, hcz, cS⟩ := G_compact G
  have A1 := A0.run [(0, .aload_n 0, 1, 0)] (pe := 1) (by decide +kernel) rfl
  have A2 := A1.initO (wd_25 G) (wd_26 G) (wd_27 G) (by decide +kernel) (Wd := 0) (by decide) (Nat.le_of_ble_eq_true rfl) (by decide)
  have A3 := A2.run [(4, .iload_n 3, 5, 0)] (pe := 5) (by decide +kernel) rfl
  have A4 := A3.ifT (cd := .ne) (o := 22) (by decide +kernel) (fun e => h0 (List.length_eq_zero_iff.mp ((n32_inj (j := 0) hn31 (by decide)).mp e))) (pe := 27) (by decide)
  have A5 := A4.getS (wd_10 G) cS (by decide +kernel)
  have A6 := A5.ifF (cd := .eq) (o := 28) (by decide +kernel) hcz
  have A7 := A6.run [(33, .aload_n 1, 34, 0), (34, .iload_n 2, 35, 0), (35, .iload_n 3, 36, 0)] (pe := 36) (by decide +kernel) rfl
  obtain ⟨_, HA8, qA8, A8, moA8, szA8⟩ := A7.callS (argsL := [.ref s, .int 0, .int cs.length.toInt32]) (wd_40 G) (wd_41 G) (wd_42 G) (wd_43 G) (c_cmp3U G F hn hla) (by decide) ⟨_, _, (by decide +kernel : parseMethodDescriptor "([CII)[B" = some ⟨[(.array .char), .int, .int], some (.array .byte)⟩), rfl⟩ (by decide +kernel) (Wd := 0) (by decide) (Nat.le_of_ble_eq_true rfl) (by decide) (by decide) (by decide)
  obtain ⟨t, rfl, hge, K1, T1, o1⟩ := qA8
  have A9 := A8.run [(39, .astore 5, 41, 0), (41, .aload_n 0, 42, 0), (42, .aload 5, 44, 0), (44, .iload_n 3, 45, 0)] (pe := 45) (by decide +kernel) rfl
  obtain ⟨_, HA10, qA10, A10, moA10, szA10⟩ := A9.callS (argsL := [.ref t, .int cs.length.toInt32]) (wd_47 G) (wd_48 G) (wd_42 G) (wd_49 G) (c_cfaU G T1 (List.length_pos_iff.mpr h0) (enc16_len _)) (by decide) ⟨_, _, (by decide +kernel : parseMethodDescriptor "([BI)B" = some ⟨[(.array .byte), .int], some .byte⟩), rfl⟩ (by decide +kernel) (Wd := 1) (by decide) (Nat.le_of_ble_eq_true rfl) (by decide) (by decide) (by decide)
  obtain ⟨rfl, rfl⟩ := qA10
  obtain ⟨H2, A11, K2, W2⟩ := A10.putFin (wd_30 G) (C.ky K1) (E.ky K1) (wd_31 G) rfl rfl (wd_16 G) (K1.2 _ o) (by decide +kernel) (ty := .byte) (by decide) rfl rfl
  have A12 := A11.run [(51, .aload_n 0, 52, 0), (52, .aload 5, 54, 0)] (pe := 54) (by decide +kernel) rfl
  have V2 := (V.ky K1).other W2 (Or.inr (slot_ne (Or.inr (wd_29 G)) (Or.inr (wd_31 G)) (by decide) (t := .array .byte) (by decide) (t' := .byte) (by decide)))
  obtain ⟨H3, A13, K3, W3⟩ := A12.putFin (wd_28 G) V2 ((E.ky K1).ky K2) (wd_29 G) rfl rfl (wd_16 G) (K2.2 _ (K1.2 _ o)) (by decide +kernel) (ty := .array .byte) (by decide) rfl rfl
  have A14 := A13.ret (by decide +kernel)
  have hxt : t ≠ x := Nat.ne_of_gt (Nat.lt_of_lt_of_le E.lt hge)
  have C3 := ((C.ky K1).same W2).other W3 (Or.inr (slot_ne (Or.inr (wd_31 G)) (Or.inr (wd_29 G)) (by decide) (t := .byte) (by decide) (t' := .array .byte) (by decide)))
  refine ⟨_, _, _, _, A14, ⟨rfl, (K1.wide fun x hx => nomatch hx).trans (K2.trans K3 fun x hx => Or.inl hx) fun x hx => Or.inl hx, (((E.ky K1).ky K2).ky K3), isC_of F, t, V2.same W3, Or.inr ⟨hla, C3, (T1.ky K2 (by simpa using hxt)).ky K3 (by simpa using hxt)⟩⟩, by decide, by decide⟩
theorem c_sI4 (G : Glb Z a0) {x s : Addr} {cs : List Int32} (F : Ar Z H s .char (chs cs)) (hn : cs.length ≤ 8) (h0 : cs ≠ []) (E : Exa Z H.1 x "java/lang/String") (V : Fld Z H.1 x "java/lang/String" "value" "[B" .null) (C : Fld Z H.1 x "java/lang/String" "coder" "B" (.int 0)) (o : H.2 x) :
    Ct l Z EL0 (⟨"java/lang/String", "<init>", "([CIILjava/lang/Void;)V"⟩ : MethodName) jdk_42_method_149_code 6 (none) ({ frames := 4, cells := 2, slots := 40, locals := 57 } : Room) [] [.ref x, .ref s, .int 0, .int cs.length.toInt32, .null] H (fun v H' => v = none ∧ Kp H H' [x] ∧ Str Z H' x cs) := by
  by_cases hla : Lat cs
  · exact c_sI4L G F hn h0 hla E V C o
  · exact c_sI4U G F hn hla E V C o
end JUtf2

abbrev bit (p : Prop) [Decidable p] : Int32 := if p then 1 else 0
theorem bit_isB (p : Prop) [Decidable p] : nar .boolean (bit p) = bit p := by by_cases h : p <;> simp [bit, h, nar]

def isB (b : Int32) : Prop := b = 0 ∨ b = 1
theorem isB.fits {b : Int32} (h : isB b) : fits .boolean (.int b) = true := by rcases h with rfl | rfl <;> decide
theorem isB.nar {b : Int32} (h : isB b) : nar .boolean b = b := by rcases h with rfl | rfl <;> decide
theorem isB.narrow {b : Int32} (h : isB b) : narrow .boolean (.int b) = .int b := by rcases h with rfl | rfl <;> decide


section JEq
variable {l : Launch} {Z : State} {a0 : Array Value} {D : Dyn} {H : HP}
set_option maxRecDepth 65536 in
theorem l_leq (G : Glb Z a0) {t u : Addr} {bs ds : List Int32} (T : Ar Z H t .byte (chs bs)) (U : Ar Z H u .byte (chs ds)) (hl : bs.length = ds.length) :
    ∀ (j i : Nat), i + j = bs.length → bs.take i = ds.take i →
      Wk l Z a0 EL0 "java/lang/StringLatin1" jdk_43_method_13_code 3 "equals" (some .boolean) ({ frames := 0, cells := 0, slots := 0, locals := 0 } : Room) D 9 [.val (.ref t), .val (.ref u), .val (.int i.toInt32)] [] H 0 0 →
      Rt Z EL0 D (some (.int (bit (bs = ds)))) H 0 0 := by
  have hn : bs.length < 2 ^ 31 := by simpa using T.len
  intro j
  induction j with
  | zero =>
    intro i e ht A0
    have e : i = bs.length := by omega
    subst e
    have hq : bs = ds := by rw [List.take_length, hl, List.take_length] at ht; exact ht
    have A1 := A0.run [(9, .iload_n 2, 10, 0), (10, .aload_n 0, 11, 0)] (pe := 11) (by decide +kernel) rfl
    have A2 := A1.alen T (by decide +kernel) (z := bs.length.toInt32) (by simp)
    have A3 := A2.icT (cd := .ge) (o := 20) (by decide +kernel) Int32.lt_irrefl (pe := 32) (by decide)
    have A4 := A3.run [(32, .iconst 1, 33, 1)] (pe := 33) (by decide +kernel) rfl
    exact A4.retZ (by decide +kernel) (by simp [bit, hq, nar])
  | succ j ih =>
    intro i e ht A0
    have hlt : i < bs.length := by omega
    have A1 := A0.run [(9, .iload_n 2, 10, 0), (10, .aload_n 0, 11, 0)] (pe := 11) (by decide +kernel) rfl
    have A2 := A1.alen T (by decide +kernel) (z := bs.length.toInt32) (by simp)
    have A3 := A2.icF (cd := .ge) (o := 20) (by decide +kernel) (not_not_intro ((n32_lt (by omega) hn).mpr hlt))
    have A4 := A3.run [(15, .aload_n 0, 16, 0), (16, .iload_n 2, 17, 0)] (pe := 17) (by decide +kernel) rfl
    have A5 := A4.baload T (by decide +kernel) rfl (v := .int bs[i]) (by simp [hlt])
    have A6 := A5.run [(18, .aload_n 1, 19, 0), (19, .iload_n 2, 20, 0)] (pe := 20) (by decide +kernel) rfl
    have A7 := A6.baload U (by decide +kernel) rfl (v := .int (ds[i]'(by omega))) (by simp [hl ▸ hlt])
    by_cases hv : bs[i] = ds[i]'(by omega)
    · have A8 := A7.icT (cd := .eq) (o := 5) (by decide +kernel) hv (pe := 26) (by decide)
      have A9 := A8.run [(26, .iinc 2 1, 29, 1), (29, .goto (-20), 9, 0)] (pe := 9) (by decide +kernel) rfl
      rw [n32_succ] at A9
      exact ih (i + 1) (by omega) (by rw [List.take_add_one, List.take_add_one, ht, List.getElem?_eq_getElem hlt, List.getElem?_eq_getElem (by omega : i < ds.length), hv]) A9
    · have A8 := A7.icF (cd := .eq) (o := 5) (by decide +kernel) hv
      have A9 := A8.run [(24, .iconst 0, 25, 0)] (pe := 25) (by decide +kernel) rfl
      exact A9.retZ (by decide +kernel) (by rw [bit, if_neg (fun h => hv (by subst h; rfl))]; decide)
theorem c_leq (G : Glb Z a0) {t u : Addr} {bs ds : List Int32} (T : Ar Z H t .byte (chs bs)) (U : Ar Z H u .byte (chs ds)) :
    Ct l Z EL0 (⟨"java/lang/StringLatin1", "equals", "([B[B)Z"⟩ : MethodName) jdk_43_method_13_code 3 ((some .boolean)) ({ frames := 0, cells := 0, slots := 0, locals := 0 } : Room) [] [.ref t, .ref u] H (fun v H' => v = some (.int (bit (bs = ds))) ∧ H = H') := by
  refine Ct.in G (by first | exact plainFor_of_name (by simp [plainName, overriddenIn]; done) | decide +kernel) (ls := [.val (.ref t), .val (.ref u), .unset]) rfl rfl fun D A0 => ?_
  have hn : bs.length < 2 ^ 31 := by simpa using T.len
  have hn2 : ds.length < 2 ^ 31 := by simpa using U.len
  have A1 := A0.run [(0, .aload_n 0, 1, 0)] (pe := 1) (by decide +kernel) rfl
  have A2 := A1.alen T (by decide +kernel) (z := bs.length.toInt32) (by simp)
  have A3 := A2.run [(2, .aload_n 1, 3, 0)] (pe := 3) (by decide +kernel) rfl
  have A4 := A3.alen U (by decide +kernel) (z := ds.length.toInt32) (by simp)
  by_cases hl : bs.length = ds.length
  · have A5 := A4.icF (cd := .ne) (o := 30) (by decide +kernel) (not_not_intro (congrArg Nat.toInt32 hl))
    have A6 := A5.run [(7, .iconst 0, 8, 0), (8, .istore_n 2, 9, 0)] (pe := 9) (by decide +kernel) rfl
    exact ⟨_, _, _, _, l_leq G T U hl bs.length 0 (by omega) rfl A6, ⟨rfl, rfl⟩, by decide, by decide⟩
  · have A5 := A4.icT (cd := .ne) (o := 30) (by decide +kernel) (fun e => hl ((n32_inj hn hn2).mp e)) (pe := 34) (by decide)
    have A6 := A5.run [(34, .iconst 0, 35, 0)] (pe := 35) (by decide +kernel) rfl
    have hq : bs ≠ ds := fun e => hl (congrArg List.length e)
    exact ⟨_, _, _, _, A6.retZ (by decide +kernel) (by rw [bit, if_neg hq]; decide), ⟨rfl, rfl⟩, by decide, by decide⟩
theorem lo8_chs (cs : List Int32) : lo8 cs = chs (cs.map b8) := by simp [List.map_map]
theorem lo8_inj {cs ds : List Int32} (h1 : ∀ c ∈ cs, isC c) (h2 : Lat cs) (g1 : ∀ c ∈ ds, isC c) (g2 : Lat ds) : cs.map b8 = ds.map b8 ↔ cs = ds := by
  refine ⟨fun h => ?_, fun h => h ▸ rfl⟩
  have q : ∀ es : List Int32, (∀ c ∈ es, isC c) → Lat es → (es.map b8).map (fun c => (c &&& 255).toUInt32.toUInt16.toUInt32.toInt32) = es := fun es a1 a2 => by
    rw [List.map_map]
    conv => rhs; rw [← List.map_id es]
    exact List.map_congr_left fun c hc => b8_back (a1 c hc) (a2 c hc)
  rw [← q cs h1 h2, h, q ds g1 g2]
set_option maxRecDepth 65536 in
theorem c_seqL (G : Glb Z a0) {a b : Addr} {cs ds : List Int32} (hab : a ≠ b) (S : Str Z H a cs) (S2 : Str Z H b ds) (hla : Lat cs) (hlb : Lat ds) :
    Ct l Z EL0 (⟨"java/lang/String", "equals", "(Ljava/lang/Object;)Z"⟩ : MethodName) jdk_42_method_66_code 3 ((some .boolean)) ({ frames := 1, cells := 0, slots := 0, locals := 14 } : Room) [] [.ref a, .ref b] H (fun v H' => v = some (.int (bit (cs = ds))) ∧ H = H') := by
  refine Ct.in G (by first | exact plainFor_of_name (by simp [plainName, overriddenIn]; done) | decide +kernel) (ls := [.val (.ref a), .val (.ref b), .unset]) rfl rfl fun D A0 => ?_
  have q1 := S.2.1
  have q2 := S2.2.1
  obtain ⟨E, t, V, C, T⟩ := S.opL hla
  obtain ⟨E2, u, V2, C2, U⟩ := S2.opL hlb
  obtain ⟨cz, hcz, cS⟩ := G_compact G
  have A1 := A0.run [(0, .aload_n 0, 1, 0), (1, .aload_n 1, 2, 0)] (pe := 2) (by decide +kernel) rfl
  have A2 := A1.acmp (cd := .ne) (o := 5) (by decide +kernel) rfl rfl (same := false) (decide_eq_false fun e => hab (Value.ref.inj e)) (pe := 7) (by decide) rfl
  have A3 := A2.run [(7, .aload_n 1, 8, 0)] (pe := 8) (by decide +kernel) rfl
  have A4 := A3.instY (wd_15 G) (Ins.self E2) (by decide +kernel)
  have A5 := A4.ifF (cd := .eq) (o := 43) (by decide +kernel) (by show ¬ _ = _; decide)
  have A6 := A5.run [(14, .aload_n 1, 15, 0)] (pe := 15) (by decide +kernel) rfl
  have A7 := A6.castY (wd_15 G) (Ins.self E2) (by decide +kernel)
  have A8 := A7.run [(18, .astore_n 2, 19, 0)] (pe := 19) (by decide +kernel) rfl
  have A9 := A8.getS (wd_10 G) cS (by decide +kernel)
  have A10 := A9.ifF (cd := .eq) (o := 14) (by decide +kernel) hcz
  have A11 := A10.run [(25, .aload_n 0, 26, 0)] (pe := 26) (by decide +kernel) rfl
  have A12 := A11.getF (wd_30 G) C (by decide +kernel)
  have A13 := A12.run [(29, .aload_n 2, 30, 0)] (pe := 30) (by decide +kernel) rfl
  have A14 := A13.getF (wd_30 G) C2 (by decide +kernel)
  have A15 := A14.icF (cd := .ne) (o := 21) (by decide +kernel) (not_not_intro rfl)
  have A16 := A15.run [(36, .aload_n 0, 37, 0)] (pe := 37) (by decide +kernel) rfl
  have A17 := A16.getF (wd_28 G) V (by decide +kernel)
  have A18 := A17.run [(40, .aload_n 2, 41, 0)] (pe := 41) (by decide +kernel) rfl
  have A19 := A18.getF (wd_28 G) V2 (by decide +kernel)
  rw [lo8_chs] at T U
  obtain ⟨_, HA20, qA20, A20, moA20, szA20⟩ := A19.callS (argsL := [.ref t, .ref u]) (wd_226 G) (wd_227 G) (wd_13 G) (wd_228 G) (c_leq G T U) (by decide) ⟨_, _, (by decide +kernel : parseMethodDescriptor "([B[B)Z" = some ⟨[(.array .byte), (.array .byte)], some .boolean⟩), rfl⟩ (by decide +kernel) (Wd := 0) (by decide) (Nat.le_of_ble_eq_true rfl) (by decide) (by decide) (by decide)
  obtain ⟨rfl, rfl⟩ := qA20
  have hiff := lo8_inj q1 hla q2 hlb
  by_cases h : cs = ds
  · have A21 := A20.ifF (cd := .eq) (o := 7) (by decide +kernel) (by show ¬ _ = _; rw [bit, if_pos (hiff.mpr h)]; decide)
    have A22 := A21.run [(50, .iconst 1, 51, 1), (51, .goto 4, 55, 0)] (pe := 55) (by decide +kernel) rfl
    exact ⟨_, _, _, _, A22.retZ (by decide +kernel) (by rw [bit, if_pos h]; decide), ⟨rfl, rfl⟩, by decide, by decide⟩
  · have A21 := A20.ifT (cd := .eq) (o := 7) (by decide +kernel) (by show _ = _; rw [bit, if_neg fun e => h (hiff.mp e)]) (pe := 54) (by decide)
    have A22 := A21.run [(54, .iconst 0, 55, 0)] (pe := 55) (by decide +kernel) rfl
    exact ⟨_, _, _, _, A22.retZ (by decide +kernel) (by rw [bit, if_neg h]; decide), ⟨rfl, rfl⟩, by decide, by decide⟩
end JEq


section JRnn
variable {l : Launch} {Z : State} {a0 : Array Value} {D : Dyn} {H : HP}
theorem c_rnn (G : Glb Z a0) {s w : Addr} : Ct l Z EL0 (⟨"java/util/Objects", "requireNonNull", "(Ljava/lang/Object;Ljava/lang/String;)Ljava/lang/Object;"⟩ : MethodName) jdk_31_method_11_code 2 ((some (.object "java/lang/Object"))) ({ frames := 0, cells := 0, slots := 0, locals := 0 } : Room) [] [.ref s, .ref w] H (fun v H' => v = some (.ref s) ∧ H = H') := by
  refine Ct.in G (by first | exact plainFor_of_name (by simp [plainName, overriddenIn]; done) | decide +kernel) (ls := [.val (.ref s), .val (.ref w)]) rfl rfl fun D A0 => ?_
  have A1 := A0.run [(0, .aload_n 0, 1, 0)] (pe := 1) (by decide +kernel) rfl
  have A2 := A1.nnullT (o := 12) (by decide +kernel) (pe := 13) (by decide)
  have A3 := A2.run [(13, .aload_n 0, 14, 0)] (pe := 14) (by decide +kernel) rfl
  exact ⟨_, _, _, _, A3.retA (by decide +kernel) rfl rfl, ⟨rfl, rfl⟩, by decide, by decide⟩
theorem c_sEmp (G : Glb Z a0) {a : Addr} {cs : List Int32} (S : Str Z H a cs) : Ct l Z EL0 (⟨"java/lang/String", "isEmpty", "()Z"⟩ : MethodName) jdk_42_method_55_code 1 ((some .boolean)) ({ frames := 0, cells := 0, slots := 0, locals := 0 } : Room) [] [.ref a] H (fun v H' => v = some (.int (bit (cs = []))) ∧ H = H') := by
  refine Ct.in G (by first | exact plainFor_of_name (by simp [plainName, overriddenIn]; done) | decide +kernel) (ls := [.val (.ref a)]) rfl rfl fun D A0 => ?_
  obtain ⟨E, hC, t, F, q⟩ := S
  have A1 := A0.run [(0, .aload_n 0, 1, 0)] (pe := 1) (by decide +kernel) rfl
  have A2 := A1.getF (wd_28 G) F (by decide +kernel)
  obtain ⟨vs, T, hvs⟩ : ∃ vs, Ar Z H t .byte vs ∧ (vs.length = 0 ↔ cs = []) := by
    rcases q with ⟨-, -, T⟩ | ⟨-, -, T⟩
    · exact ⟨_, T, by simp⟩
    · exact ⟨_, T, by rw [enc16_len, ← List.length_eq_zero_iff]; omega⟩
  have A3 := A2.alen T (by decide +kernel) (z := vs.length.toInt32) rfl
  by_cases h : cs = []
  · have A4 := A3.ifF (cd := .ne) (o := 7) (by decide +kernel) (not_not_intro (by rw [hvs.mpr h]; rfl))
    have A5 := A4.run [(8, .iconst 1, 9, 1), (9, .goto 4, 13, 0)] (pe := 13) (by decide +kernel) rfl
    exact ⟨_, _, _, _, A5.retZ (by decide +kernel) rfl, ⟨by rw [bit, if_pos h]; rfl, rfl⟩, by decide, by decide⟩
  · have A4 := A3.ifT (cd := .ne) (o := 7) (by decide +kernel) (fun e => h (hvs.mp ((n32_inj (j := 0) T.len (by decide)).mp e))) (pe := 12) (by decide)
    have A5 := A4.run [(12, .iconst 0, 13, 0)] (pe := 13) (by decide +kernel) rfl
    exact ⟨_, _, _, _, A5.retZ (by decide +kernel) rfl, ⟨by rw [bit, if_neg h]; rfl, rfl⟩, by decide, by decide⟩
end JRnn


section JName
variable {l : Launch} {Z : State} {a0 : Array Value} {D : Dyn} {H : HP}
theorem c_cpaL (G : Glb Z a0) {a : Addr} {cs : List Int32} {i : Nat} {c : Int32} (S : Str Z H a cs) (hla : Lat cs) (hc : cs[i]? = some c) :
    Ct l Z EL0 (⟨"java/lang/String", "codePointAt", "(I)I"⟩ : MethodName) jdk_42_method_57_code 3 ((some .int)) ({ frames := 3, cells := 0, slots := 0, locals := 44 } : Room) [] [.ref a, .int i.toInt32] H (fun v H' => v = some (.int c) ∧ H = H') := by
  refine Ct.in G (by first | exact plainFor_of_name (by simp [plainName, overriddenIn]; done) | decide +kernel) (ls := [.val (.ref a), .val (.int i.toInt32), .unset]) rfl rfl fun D A0 => ?_
  have hi : i < cs.length := (List.getElem?_eq_some_iff.mp hc).1
  have hm : c ∈ cs := List.mem_of_getElem? hc
  have hC := S.2.1
  obtain ⟨E, t, F, C, T⟩ := S.opL hla
  have hn : cs.length < 2 ^ 31 := by simpa using T.len
  have A1 := A0.run [(0, .aload_n 0, 1, 0)] (pe := 1) (by decide +kernel) rfl
  obtain ⟨_, HA2, qA2, A2, moA2, szA2⟩ := A1.callV (argsL := []) (wd_88 G) (wd_89 G) (wd_91 G) rfl (wd_91 G) (wd_90 G) (wd_8 G) (wd_92 G) E (c_isL G C 1 (Or.inl ⟨rfl, rfl⟩)) (by decide) ⟨_, _, (by decide +kernel : parseMethodDescriptor "()Z" = some ⟨[], some .boolean⟩), rfl⟩ (by decide +kernel) (Wd := 0) (by decide) (Nat.le_of_ble_eq_true rfl) (by decide) (by decide) (by decide)
  obtain ⟨rfl, rfl⟩ := qA2
  have A3 := A2.ifF (cd := .eq) (o := 23) (by decide +kernel) (by show ¬ _ = _; decide)
  have A4 := A3.run [(7, .iload_n 1, 8, 0), (8, .aload_n 0, 9, 0)] (pe := 9) (by decide +kernel) rfl
  have A5 := A4.getF (wd_28 G) F (by decide +kernel)
  have A6 := A5.alen T (by decide +kernel) (z := cs.length.toInt32) (by simp)
  obtain ⟨_, HA7, qA7, A7, moA7, szA7⟩ := A6.callS (argsL := [.int i.toInt32, .int cs.length.toInt32]) (wd_93 G) (wd_94 G) (wd_8 G) (wd_95 G) (c_sci G hi hn) (by decide) ⟨_, _, (by decide +kernel : parseMethodDescriptor "(II)V" = some ⟨[.int, .int], none⟩), rfl⟩ (by decide +kernel) (Wd := 0) (by decide) (Nat.le_of_ble_eq_true rfl) (by decide) (by decide) (by decide)
  obtain ⟨rfl, rfl⟩ := qA7
  have A8 := A7.run [(16, .aload_n 0, 17, 0)] (pe := 17) (by decide +kernel) rfl
  have A9 := A8.getF (wd_28 G) F (by decide +kernel)
  have A10 := A9.run [(20, .iload_n 1, 21, 0)] (pe := 21) (by decide +kernel) rfl
  have A11 := A10.baload T (by decide +kernel) rfl (v := .int (b8 c)) (by simp [hc])
  have A12 := A11.run [(22, .sipush 255, 25, 255), (25, .iand, 26, 0)] (pe := 26) (by decide +kernel) rfl
  rw [b8_back' (hC c hm) (hla c hm)] at A12
  exact ⟨_, _, _, _, A12.retI (by decide +kernel), ⟨rfl, rfl⟩, by decide, by decide⟩
theorem c_chc1 (G : Glb Z a0) {c : Int32} (h : c.toInt < 65536) : Ct l Z EL0 (⟨"java/lang/Character", "charCount", "(I)I"⟩ : MethodName) jdk_89_method_18_code 1 ((some .int)) ({ frames := 0, cells := 0, slots := 0, locals := 0 } : Room) [] [.int c] H (fun v H' => v = some (.int 1) ∧ H = H') := by
  refine Ct.in G (by first | exact plainFor_of_name (by simp [plainName, overriddenIn]; done) | decide +kernel) (ls := [.val (.int c)]) rfl rfl fun D A0 => ?_
  have A1 := A0.run [(0, .iload_n 0, 1, 0)] (pe := 1) (by decide +kernel) rfl
  have A2 := A1.ldcI (wd_106 G) (by decide +kernel)
  have A3 := A2.icT (cd := .lt) (o := 7) (by decide +kernel) (by show _ < _; rw [Int32.lt_iff_toInt_lt, show (65536 : Int32).toInt = 65536 by decide]; exact h) (pe := 10) (by decide)
  have A4 := A3.run [(10, .iconst 1, 11, 1)] (pe := 11) (by decide +kernel) rfl
  exact ⟨_, _, _, _, A4.retI (by decide +kernel), ⟨rfl, rfl⟩, by decide, by decide⟩
end JName


section JVof
variable {l : Launch} {Z : State} {a0 : Array Value} {D : Dyn} {H : HP}
theorem c_can (G : Glb Z a0) {c : Int32} (h : ¬ (255 : Int32) < c) : Ct l Z EL0 (⟨"java/lang/StringLatin1", "canEncode", "(C)Z"⟩ : MethodName) jdk_43_method_3_code 1 ((some .boolean)) ({ frames := 0, cells := 0, slots := 0, locals := 0 } : Room) [] [.int c] H (fun v H' => v = some (.int 1) ∧ H = H') := by
  refine Ct.in G (by first | exact plainFor_of_name (by simp [plainName, overriddenIn]; done) | decide +kernel) (ls := [.val (.int c)]) rfl rfl fun D A0 => ?_
  have A1 := A0.run [(0, .iload_n 0, 1, 0), (1, .sipush 255, 4, 255)] (pe := 4) (by decide +kernel) rfl
  have A2 := A1.icF (cd := .gt) (o := 7) (by decide +kernel) h
  have A3 := A2.run [(7, .iconst 1, 8, 1), (8, .goto 4, 12, 0)] (pe := 12) (by decide +kernel) rfl
  exact ⟨_, _, _, _, A3.retZ (by decide +kernel) rfl, ⟨rfl, rfl⟩, by decide, by decide⟩
theorem c_tb1 (G : Glb Z a0) {c : Int32} : Ct l Z EL0 (⟨"java/lang/StringLatin1", "toBytes", "(C)[B"⟩ : MethodName) jdk_43_method_46_code 1 ((some (.array .byte))) ({ frames := 0, cells := 1, slots := 1, locals := 0 } : Room) [] [.int c] H (fun v H' => ∃ t, v = some (.ref t) ∧ H.1.size ≤ t ∧ Kp H H' [] ∧ Ar Z H' t .byte (lo8 [c]) ∧ H'.2 t) := by
  refine Ct.in G (by first | exact plainFor_of_name (by simp [plainName, overriddenIn]; done) | decide +kernel) (ls := [.val (.int c)]) rfl rfl fun D A0 => ?_
  have A1 := A0.run [(0, .iconst 1, 1, 1)] (pe := 1) (by decide +kernel) rfl
  obtain ⟨t, H1, A2, hge, K1, T1, o1⟩ := A1.newA (aty := .byte) (wd_20 G) (by decide +kernel) (N := 1) rfl (cap := 1) (by decide) (by decide) (by decide) (by decide)
  have A3 := A2.run [(3, .dup, 4, 0), (4, .iconst 0, 5, 0), (5, .iload_n 0, 6, 0), (6, .i2b, 7, 0)] (pe := 7) (by decide +kernel) rfl
  obtain ⟨H2, A4, K2, T2⟩ := A3.bastore T1 o1 (by decide +kernel) (i := 0) rfl (by simp) (x2 := b8 c) (by
    have h := c_i2b c
    apply Int32.toInt_inj.mp
    have h2 := c_i2b (c.toInt8.toInt32)
    show (c.toInt8.toInt32.toInt8.toInt32).toInt = (c.toInt8.toInt32).toInt
    omega)
  exact ⟨_, _, _, _, A4.retA (by decide +kernel) rfl rfl, ⟨t, rfl, hge, K1.trans K2 (fun y hy => by cases List.mem_singleton.mp hy; exact Or.inr hge), T2, K2.2 _ o1⟩, by decide, by decide⟩
set_option maxRecDepth 65536 in
theorem c_sIB (G : Glb Z a0) {x t : Addr} {b : Int32} {cs : List Int32} (hC : ∀ c ∈ cs, isC c) (hb : Lat cs ∧ b = 0 ∧ Ar Z H t .byte (lo8 cs) ∨ ¬ Lat cs ∧ b = 1 ∧ Ar Z H t .byte (enc16 cs)) (E : Exa Z H.1 x "java/lang/String") (V : Fld Z H.1 x "java/lang/String" "value" "[B" .null) (C : Fld Z H.1 x "java/lang/String" "coder" "B" (.int 0)) (o : H.2 x) :
    Ct l Z EL0 (⟨"java/lang/String", "<init>", "([BB)V"⟩ : MethodName) jdk_42_method_151_code 3 (none) ({ frames := 1, cells := 0, slots := 0, locals := 12 } : Room) [] [.ref x, .ref t, .int b] H (fun v H' => v = none ∧ Kp H H' [x] ∧ Str Z H' x cs) := by
  refine Ct.in G (by first | exact plainFor_of_name (by simp [plainName, overriddenIn]; done) | decide +kernel) (ls := [.val (.ref x), .val (.ref t), .val (.int b)]) rfl rfl fun D A0 => ?_
  have A1 := A0.run [(0, .aload_n 0, 1, 0)] (pe := 1) (by decide +kernel) rfl
  have A2 := A1.initO (wd_25 G) (wd_26 G) (wd_27 G) (by decide +kernel) (Wd := 0) (by decide) (Nat.le_of_ble_eq_true rfl) (by decide)
  have A3 := A2.run [(4, .aload_n 0, 5, 0), (5, .aload_n 1, 6, 0)] (pe := 6) (by decide +kernel) rfl
  have hb2 : b = 0 ∨ b = 1 := hb.imp (fun q => q.2.1) (fun q => q.2.1)
  obtain ⟨H2, A4, K2, W2⟩ := A3.putFin (wd_28 G) V E (wd_29 G) rfl rfl (wd_16 G) o (by decide +kernel) (ty := .array .byte) (by decide) rfl rfl
  have A5 := A4.run [(9, .aload_n 0, 10, 0), (10, .iload_n 2, 11, 0)] (pe := 11) (by decide +kernel) rfl
  have sne := slot_ne (Z := Z) (Or.inr (wd_31 G)) (Or.inr (wd_29 G)) (by decide) (t := .byte) (by decide) (t' := .array .byte) (by decide)
  have C2 := C.other W2 (Or.inr sne)
  obtain ⟨H3, A6, K3, W3⟩ := A5.putFin (wd_30 G) C2 (E.ky K2) (wd_31 G) rfl rfl (wd_16 G) (K2.2 _ o) (by decide +kernel) (ty := .byte) (by decide) (by rcases hb2 with rfl | rfl <;> decide) (by rcases hb2 with rfl | rfl <;> decide)
  have hA : ∀ {vs : List Value}, Ar Z H t .byte vs → Ar Z H3 t .byte vs := fun {vs} F => by
    have ht : t ∉ [x] := by obtain ⟨c, A, -⟩ := F; simpa using Ne.symm (ne_arr E (wd_16 G) A)
    exact (F.ky K2 ht).ky K3 ht
  refine ⟨_, _, _, _, A6.ret (by decide +kernel), ⟨rfl, K2.trans K3 fun x hx => Or.inl hx, (E.ky K2).ky K3, hC, t, (V.same W2).other W3 (Or.inr (Ne.symm sne)), ?_⟩, by decide, by decide⟩
  rcases hb with ⟨q1, rfl, q3⟩ | ⟨q1, rfl, q3⟩
  · exact Or.inl ⟨q1, C2.same W3, hA q3⟩
  · exact Or.inr ⟨q1, C2.same W3, hA q3⟩
theorem c_vofL (G : Glb Z a0) {c : Int32} (hC : isC c) (h : ¬ (255 : Int32) < c) : Ct l Z EL0 (⟨"java/lang/String", "valueOf", "(C)Ljava/lang/String;"⟩ : MethodName) jdk_42_method_139_code 1 ((some (.object "java/lang/String"))) ({ frames := 2, cells := 2, slots := 6, locals := 29 } : Room) [] [.int c] H (fun v H' => ∃ s, v = some (.ref s) ∧ H.1.size ≤ s ∧ Kp H H' [] ∧ Str Z H' s [c]) := by
  refine Ct.in G (by first | exact plainFor_of_name (by simp [plainName, overriddenIn]; done) | decide +kernel) (ls := [.val (.int c)]) rfl rfl fun D A0 => ?_
  obtain ⟨cz, hcz, cS⟩ := G_compact G
  have A1 := A0.getS (wd_10 G) cS (by decide +kernel)
  have A2 := A1.ifF (cd := .eq) (o := 23) (by decide +kernel) hcz
  have A3 := A2.run [(6, .iload_n 0, 7, 0)] (pe := 7) (by decide +kernel) rfl
  obtain ⟨_, HA4, qA4, A4, moA4, szA4⟩ := A3.callS (argsL := [.int c]) (wd_11 G) (wd_12 G) (wd_13 G) (wd_14 G) (c_can G h) (by decide) ⟨_, _, (by decide +kernel : parseMethodDescriptor "(C)Z" = some ⟨[.char], some .boolean⟩), rfl⟩ (by decide +kernel) (Wd := 0) (by decide) (Nat.le_of_ble_eq_true rfl) (by decide) (by decide) (by decide)
  obtain ⟨rfl, rfl⟩ := qA4
  have A5 := A4.ifF (cd := .eq) (o := 16) (by decide +kernel) (by show ¬ _ = _; decide)
  obtain ⟨s, H1, A6, hge, K1, E, o, Df⟩ := A5.newO (wd_15 G) (wd_16 G) (wd_8 G) (by decide +kernel) (by decide) (by decide)
  have A7 := A6.run [(16, .dup, 17, 0), (17, .iload_n 0, 18, 0)] (pe := 18) (by decide +kernel) rfl
  obtain ⟨_, HA8, qA8, A8, moA8, szA8⟩ := A7.callS (argsL := [.int c]) (wd_17 G) (wd_18 G) (wd_13 G) (wd_19 G) (c_tb1 G) (by decide) ⟨_, _, (by decide +kernel : parseMethodDescriptor "(C)[B" = some ⟨[.char], some (.array .byte)⟩), rfl⟩ (by decide +kernel) (Wd := 2) (by decide) (Nat.le_of_ble_eq_true rfl) (by decide) (by decide) (by decide)
  obtain ⟨t, rfl, ht, K2, T, o2⟩ := qA8
  have A9 := A8.run [(21, .iconst 0, 22, 0)] (pe := 22) (by decide +kernel) rfl
  obtain ⟨_, HA10, qA10, A10, moA10, szA10⟩ := A9.callI (argsL := [.ref t, .int 0]) rfl (wd_21 G) (wd_22 G) (wd_8 G) (wd_24 G) (c_sIB G (cs := [c]) (fun d hd => by cases List.mem_singleton.mp hd; exact hC) (Or.inl ⟨lat1 h, rfl, T⟩) (E.ky K2) ((Df (Or.inr (wd_29 G)) (t := .array .byte) (by decide)).ky K2) ((Df (Or.inr (wd_31 G)) (t := .byte) (by decide)).ky K2) (K2.2 _ o)) (by decide) ⟨_, _, (by decide +kernel : parseMethodDescriptor "([BB)V" = some ⟨[(.array .byte), .byte], none⟩), rfl⟩ (by decide +kernel) (Wd := 1) (by decide) (Nat.le_of_ble_eq_true rfl) (by decide) (by decide) (by decide)
  obtain ⟨rfl, K3, S⟩ := qA10
  exact ⟨_, _, _, _, A10.retA (by decide +kernel) rfl rfl, ⟨s, rfl, hge, (K1.tr K2).trans K3 (fun y hy => by cases List.mem_singleton.mp hy; exact Or.inr hge), S⟩, by decide, by decide⟩
end JVof



/-! ## StringBuilder, Latin-1, with room -/
abbrev SBn : String := "java/lang/StringBuilder"
abbrev ASB : String := "java/lang/AbstractStringBuilder"
section JSb
variable {l : Launch} {Z : State} {a0 : Array Value} {D : Dyn} {H : HP}
/-- a String with its array named -/
def StrT (Z : State) (H : HP) (a t : Addr) (cs : List Int32) : Prop := Exa Z H.1 a "java/lang/String" ∧ (∀ c ∈ cs, isC c) ∧ Fld Z H.1 a "java/lang/String" "value" "[B" (.ref t) ∧
  (Lat cs ∧ Fld Z H.1 a "java/lang/String" "coder" "B" (.int 0) ∧ Ar Z H t .byte (lo8 cs) ∨ ¬ Lat cs ∧ Fld Z H.1 a "java/lang/String" "coder" "B" (.int 1) ∧ Ar Z H t .byte (enc16 cs))
theorem StrT.str {a t : Addr} {cs : List Int32} (S : StrT Z H a t cs) : Str Z H a cs := ⟨S.1, S.2.1, t, S.2.2.1, S.2.2.2⟩
theorem Str.t {a : Addr} {cs : List Int32} (S : Str Z H a cs) : ∃ t, StrT Z H a t cs ∧ t < H.1.size := by
  obtain ⟨h1, h2, t, h3, h4⟩ := S
  refine ⟨t, ⟨h1, h2, h3, h4⟩, ?_⟩
  rcases h4 with ⟨-, -, T⟩ | ⟨-, -, T⟩ <;> exact T.lt
theorem StrT.ky {H H' : HP} {a t : Addr} {cs : List Int32} {ws : List Addr} (S : StrT Z H a t cs) (K : Kp H H' ws) (ha : a ∉ ws) (ht : t ∉ ws) : StrT Z H' a t cs := by
  obtain ⟨h1, h2, h3, h4⟩ := S
  exact ⟨h1.ky K, h2, h3.ky K ha, h4.imp (fun ⟨q1, q2, q3⟩ => ⟨q1, q2.ky K ha, q3.ky K ht⟩) (fun ⟨q1, q2, q3⟩ => ⟨q1, q2.ky K ha, q3.ky K ht⟩)⟩
theorem StrT.lat {a t : Addr} {cs : List Int32} (S : StrT Z H a t cs) (h : Lat cs) : Fld Z H.1 a "java/lang/String" "coder" "B" (.int 0) ∧ Ar Z H t .byte (lo8 cs) := by
  obtain ⟨-, -, -, h4⟩ := S
  rcases h4 with ⟨-, q⟩ | ⟨q, -⟩
  · exact q
  · exact absurd h q
/-- a Latin-1 builder that says cs -/
def SB (Z : State) (H : HP) (a v : Addr) (cs : List Int32) (rs : List Value) : Prop :=
  Exa Z H.1 a SBn ∧ Fld Z H.1 a ASB "value" "[B" (.ref v) ∧ Fld Z H.1 a ASB "coder" "B" (.int 0) ∧ Fld Z H.1 a ASB "count" "I" (.int cs.length.toInt32) ∧ Ar Z H v .byte (lo8 cs ++ rs) ∧ Lat cs ∧ (∀ c ∈ cs, isC c) ∧ H.2 a ∧ H.2 v
theorem SB.ky {H H' : HP} {a v : Addr} {cs : List Int32} {rs : List Value} {ws : List Addr} (S : SB Z H a v cs rs) (K : Kp H H' ws) (ha : a ∉ ws := by exact List.not_mem_nil) (hv : v ∉ ws := by exact List.not_mem_nil) : SB Z H' a v cs rs := by
  obtain ⟨h1, h2, h3, h4, h5, h6, h7, h8, h9⟩ := S
  exact ⟨h1.ky K, h2.ky K ha, h3.ky K ha, h4.ky K ha, h5.ky K hv, h6, h7, K.2 _ h8, K.2 _ h9⟩
theorem SB.ne (G : Glb Z a0) {a v : Addr} {cs : List Int32} {rs : List Value} (S : SB Z H a v cs rs) : a ≠ v := by
  obtain ⟨h1, -, -, -, ⟨c, A, -⟩, -⟩ := S
  exact ne_arr h1 (wd_118 G) A
theorem sl_vc (G : Glb Z a0) : Jvm.RoadKit.slotOf Z ASB "value" "[B" ≠ Jvm.RoadKit.slotOf Z ASB "coder" "B" := slot_ne (Or.inl (wd_132 G)) (Or.inl (wd_134 G)) (by decide) (t := .array .byte) (by decide) (t' := .byte) (by decide)
theorem sl_vn (G : Glb Z a0) : Jvm.RoadKit.slotOf Z ASB "value" "[B" ≠ Jvm.RoadKit.slotOf Z ASB "count" "I" := slot_ne (Or.inl (wd_132 G)) (Or.inl (wd_148 G)) (by decide) (t := .array .byte) (by decide) (t' := .int) (by decide)
theorem sl_cn (G : Glb Z a0) : Jvm.RoadKit.slotOf Z ASB "coder" "B" ≠ Jvm.RoadKit.slotOf Z ASB "count" "I" := slot_ne (Or.inl (wd_134 G)) (Or.inl (wd_148 G)) (by decide) (t := .byte) (by decide) (t' := .int) (by decide)
set_option maxRecDepth 65536 in
theorem c_asbI (G : Glb Z a0) {x : Addr} (E : Exa Z H.1 x SBn) (V : Fld Z H.1 x ASB "value" "[B" .null) (C : Fld Z H.1 x ASB "coder" "B" (.int 0)) (N : Fld Z H.1 x ASB "count" "I" (.int 0)) (o : H.2 x) :
    Ct l Z EL0 (⟨"java/lang/AbstractStringBuilder", "<init>", "(I)V"⟩ : MethodName) jdk_68_method_2_code 2 (none) ({ frames := 1, cells := 1, slots := 16, locals := 12 } : Room) [] [.ref x, .int 16] H (fun v H' => v = none ∧ Kp H H' [x] ∧ ∃ t, H.1.size ≤ t ∧ SB Z H' x t [] (List.replicate 16 (.int 0))) := by
  refine Ct.in G (by first | exact plainFor_of_name (by simp [plainName, overriddenIn]; done) | decide +kernel) (ls := [.val (.ref x), .val (.int 16)]) rfl rfl fun D A0 => ?_
  obtain ⟨cz, hcz, cS⟩ := G_compact G
  have A1 := A0.run [(0, .aload_n 0, 1, 0)] (pe := 1) (by decide +kernel) rfl
  have A2 := A1.initO (wd_129 G) (wd_26 G) (wd_27 G) (by decide +kernel) (Wd := 0) (by decide) (Nat.le_of_ble_eq_true rfl) (by decide)
  have A3 := A2.getS (wd_130 G) cS (by decide +kernel)
  have A4 := A3.ifF (cd := .eq) (o := 18) (by decide +kernel) hcz
  have A5 := A4.run [(10, .aload_n 0, 11, 0), (11, .iload_n 1, 12, 0)] (pe := 12) (by decide +kernel) rfl
  obtain ⟨t, H1, A6, hge, K1, T1, o1⟩ := A5.newA (aty := .byte) (wd_20 G) (by decide +kernel) (N := 16) rfl (cap := 16) (by decide) (by decide) (by decide) (by decide)
  obtain ⟨H2, A7, K2, W2⟩ := A6.putF (wd_131 G) (V.ky K1) (E.ky K1) (wd_132 G) (wd_118 G) (K1.2 _ o) (by decide +kernel) (ty := .array .byte) (by decide) rfl rfl
  have A8 := A7.run [(17, .aload_n 0, 18, 0), (18, .iconst 0, 19, 0)] (pe := 19) (by decide +kernel) rfl
  have C2 := (C.ky K1).other W2 (Or.inr (Ne.symm (sl_vc G)))
  obtain ⟨H3, A9, K3, W3⟩ := A8.putF (wd_133 G) C2 ((E.ky K1).ky K2) (wd_134 G) (wd_118 G) (K2.2 _ (K1.2 _ o)) (by decide +kernel) (ty := .byte) (by decide) rfl rfl
  have A10 := A9.run [(22, .goto 16, 38, 0)] (pe := 38) (by decide +kernel) rfl
  have A11 := A10.ret (by decide +kernel)
  have htx : t ∉ [x] := by simpa using Nat.ne_of_gt (Nat.lt_of_lt_of_le E.lt hge)
  refine ⟨_, _, _, _, A11, ⟨rfl, ((K1.wide fun x hx => nomatch hx).trans K2 fun x hx => Or.inl hx).trans K3 fun x hx => Or.inl hx, t, hge, ((E.ky K1).ky K2).ky K3, ((V.ky K1).same W2).other W3 (Or.inr (sl_vc G)), C2.same W3, ((N.ky K1).other W2 (Or.inr (Ne.symm (sl_vn G)))).other W3 (Or.inr (Ne.symm (sl_cn G))), (T1.ky K2 htx).ky K3 htx, (fun c hc => nomatch hc), (fun c hc => nomatch hc), K3.2 _ (K2.2 _ (K1.2 _ o)), K3.2 _ (K2.2 _ o1)⟩, by decide, by decide⟩
theorem c_sbI (G : Glb Z a0) {x : Addr} (E : Exa Z H.1 x SBn) (V : Fld Z H.1 x ASB "value" "[B" .null) (C : Fld Z H.1 x ASB "coder" "B" (.int 0)) (N : Fld Z H.1 x ASB "count" "I" (.int 0)) (o : H.2 x) :
    Ct l Z EL0 (⟨"java/lang/StringBuilder", "<init>", "()V"⟩ : MethodName) jdk_67_method_1_code 1 (none) ({ frames := 2, cells := 1, slots := 16, locals := 25 } : Room) [] [.ref x] H (fun v H' => v = none ∧ Kp H H' [x] ∧ ∃ t, H.1.size ≤ t ∧ SB Z H' x t [] (List.replicate 16 (.int 0))) := by
  refine Ct.in G (by first | exact plainFor_of_name (by simp [plainName, overriddenIn]; done) | decide +kernel) (ls := [.val (.ref x)]) rfl rfl fun D A0 => ?_
  have A1 := A0.run [(0, .aload_n 0, 1, 0), (1, .bipush 16, 3, 16)] (pe := 3) (by decide +kernel) rfl
  obtain ⟨_, HA2, qA2, A2, moA2, szA2⟩ := A1.callI (argsL := [.int 16]) rfl (wd_123 G) (wd_124 G) (wd_127 G) (wd_128 G) (c_asbI G E V C N o) (by decide) ⟨_, _, (by decide +kernel : parseMethodDescriptor "(I)V" = some ⟨[.int], none⟩), rfl⟩ (by decide +kernel) (Wd := 0) (by decide) (Nat.le_of_ble_eq_true rfl) (by decide) (by decide) (by decide)
  obtain ⟨rfl, K, q⟩ := qA2
  exact ⟨_, _, _, _, A2.ret (by decide +kernel), ⟨rfl, K, q⟩, by decide, by decide⟩
/-- there is room: nothing is done -/
theorem c_ens (G : Glb Z a0) {a v : Addr} {cs : List Int32} {rs : List Value} {m : Nat} (S : SB Z H a v cs rs) (hm : m ≤ cs.length + rs.length) :
    Ct l Z EL0 (⟨"java/lang/AbstractStringBuilder", "ensureCapacityInternal", "(I)V"⟩ : MethodName) jdk_68_method_9_code 3 (none) ({ frames := 0, cells := 0, slots := 0, locals := 0 } : Room) [] [.ref a, .int m.toInt32] H (fun v H' => v = none ∧ H = H') := by
  refine Ct.in G (by first | exact plainFor_of_name (by simp [plainName, overriddenIn]; done) | decide +kernel) (ls := [.val (.ref a), .val (.int m.toInt32), .unset]) rfl rfl fun D A0 => ?_
  obtain ⟨E, V, C, N, T, -⟩ := S
  have hL := T.len; simp at hL
  have A1 := A0.run [(0, .aload_n 0, 1, 0)] (pe := 1) (by decide +kernel) rfl
  have A2 := A1.getF (wd_131 G) V (by decide +kernel)
  have A3 := A2.alen T (by decide +kernel) (z := (cs.length + rs.length).toInt32) (by simp)
  have A4 := A3.run [(5, .aload_n 0, 6, 0)] (pe := 6) (by decide +kernel) rfl
  have A5 := A4.getF (wd_133 G) C (by decide +kernel)
  have A6 := A5.run [(9, .ishr, 10, 0)] (pe := 10) (by decide +kernel) rfl
  rw [n32_shr0] at A6
  have A7 := A6.run [(10, .istore_n 2, 11, 0), (11, .iload_n 1, 12, 0), (12, .iload_n 2, 13, 0), (13, .isub, 14, 0)] (pe := 14) (by decide +kernel) rfl
  have hle : ¬ (0 : Int32) < m.toInt32 - (cs.length + rs.length).toInt32 := by
    have e := c_isub m.toInt32 (cs.length + rs.length).toInt32
    rw [n32_toInt (by omega), n32_toInt hL] at e
    have r := rng32 (m.toInt32 - (cs.length + rs.length).toInt32)
    rw [Int32.lt_iff_toInt_lt, show (0 : Int32).toInt = 0 by decide]; omega
  have A8 := A7.ifT (cd := .le) (o := 24) (by decide +kernel) hle (pe := 38) (by decide)
  exact ⟨_, _, _, _, A8.ret (by decide +kernel), ⟨rfl, rfl⟩, Nat.zero_le _, Nat.zero_le _⟩
theorem c_inf (G : Glb Z a0) {a v s t : Addr} {cs ds : List Int32} {rs : List Value} (S : SB Z H a v cs rs) (T : StrT Z H s t ds) (hla : Lat ds) :
    Ct l Z EL0 (⟨"java/lang/AbstractStringBuilder", "inflateIfNeededFor", "(Ljava/lang/String;)V"⟩ : MethodName) jdk_68_method_71_code 2 (none) ({ frames := 1, cells := 0, slots := 0, locals := 13 } : Room) [] [.ref a, .ref s] H (fun v H' => v = none ∧ H = H') := by
  refine Ct.in G (by first | exact plainFor_of_name (by simp [plainName, overriddenIn]; done) | decide +kernel) (ls := [.val (.ref a), .val (.ref s)]) rfl rfl fun D A0 => ?_
  obtain ⟨cz, hcz, cS⟩ := G_compact G
  have A1 := A0.getS (wd_130 G) cS (by decide +kernel)
  have A2 := A1.ifF (cd := .eq) (o := 18) (by decide +kernel) hcz
  have A3 := A2.run [(6, .aload_n 0, 7, 0)] (pe := 7) (by decide +kernel) rfl
  have A4 := A3.getF (wd_133 G) S.2.2.1 (by decide +kernel)
  have A5 := A4.run [(10, .aload_n 1, 11, 0)] (pe := 11) (by decide +kernel) rfl
  obtain ⟨_, HA6, qA6, A6, moA6, szA6⟩ := A5.callV (argsL := []) (wd_164 G) (wd_79 G) (wd_81 G) rfl (wd_81 G) (wd_80 G) (wd_8 G) (wd_82 G) T.1 (c_sCod G (T.lat hla).1 (Or.inl rfl)) (by decide) ⟨_, _, (by decide +kernel : parseMethodDescriptor "()B" = some ⟨[], some .byte⟩), rfl⟩ (by decide +kernel) (Wd := 1) (by decide) (Nat.le_of_ble_eq_true rfl) (by decide) (by decide) (by decide)
  obtain ⟨rfl, rfl⟩ := qA6
  have A7 := A6.icT (cd := .eq) (o := 7) (by decide +kernel) rfl (pe := 21) (by decide)
  exact ⟨_, _, _, _, A7.ret (by decide +kernel), ⟨rfl, rfl⟩, by decide, by decide⟩
theorem c_gby (G : Glb Z a0) {s t v : Addr} {ds : List Int32} {vs : List Value} {i : Nat} (T : StrT Z H s t ds) (hla : Lat ds) (B : Ar Z H v .byte vs) (o : H.2 v) (hi : i + ds.length ≤ vs.length) :
    Ct l Z EL0 (⟨"java/lang/String", "getBytes", "([BIB)V"⟩ : MethodName) jdk_42_method_147_code 4 (none) ({ frames := 1, cells := 0, slots := 0, locals := 18 } : Room) [] [.ref s, .ref v, .int i.toInt32, .int 0] H (fun v' H' => v' = none ∧ Kp H H' [v] ∧ Ar Z H' v .byte (vs.take i ++ lo8 ds ++ vs.drop (i + ds.length))) := by
  refine Ct.in G (by first | exact plainFor_of_name (by simp [plainName, overriddenIn]; done) | decide +kernel) (ls := [.val (.ref s), .val (.ref v), .val (.int i.toInt32), .val (.int 0)]) rfl rfl fun D A0 => ?_
  obtain ⟨hc0, hT⟩ := T.lat hla
  have A1 := A0.run [(0, .aload_n 0, 1, 0)] (pe := 1) (by decide +kernel) rfl
  obtain ⟨_, HA2, qA2, A2, moA2, szA2⟩ := A1.callV (argsL := []) (wd_78 G) (wd_79 G) (wd_81 G) rfl (wd_81 G) (wd_80 G) (wd_8 G) (wd_82 G) T.1 (c_sCod G hc0 (Or.inl rfl)) (by decide) ⟨_, _, (by decide +kernel : parseMethodDescriptor "()B" = some ⟨[], some .byte⟩), rfl⟩ (by decide +kernel) (Wd := 0) (by decide) (Nat.le_of_ble_eq_true rfl) (by decide) (by decide) (by decide)
  obtain ⟨rfl, rfl⟩ := qA2
  have A3 := A2.run [(4, .iload_n 3, 5, 0)] (pe := 5) (by decide +kernel) rfl
  have A4 := A3.icF (cd := .ne) (o := 23) (by decide +kernel) (not_not_intro rfl)
  have A5 := A4.run [(8, .aload_n 0, 9, 0)] (pe := 9) (by decide +kernel) rfl
  have A6 := A5.getF (wd_28 G) T.2.2.1 (by decide +kernel)
  have A7 := A6.run [(12, .iconst 0, 13, 0), (13, .aload_n 1, 14, 0), (14, .iload_n 2, 15, 0), (15, .iload_n 3, 16, 0), (16, .ishl, 17, 0), (17, .aload_n 0, 18, 0)] (pe := 18) (by decide +kernel) rfl
  rw [n32_shl0] at A7
  have A8 := A7.getF (wd_28 G) T.2.2.1 (by decide +kernel)
  have A9 := A8.alen hT (by decide +kernel) (z := ds.length.toInt32) (by simp)
  obtain ⟨H1, A10, K, B1⟩ := A9.copy (wd_170 G) (wd_173 G) (wd_171 G) (wd_172 G) hT B rfl o (i := 0) rfl rfl (q := ds.length) rfl (by simp) hi (by decide +kernel) (by decide) (Wd := 0) (by decide) (Nat.le_of_ble_eq_true rfl)
  have A11 := A10.run [(25, .goto 18, 43, 0)] (pe := 43) (by decide +kernel) rfl
  have e : (lo8 ds).take ds.length = lo8 ds := List.take_of_length_le (by simp)
  rw [List.drop_zero, e] at B1
  exact ⟨_, _, _, _, A11.ret (by decide +kernel), ⟨rfl, K, B1⟩, by decide, by decide⟩
theorem c_psa (G : Glb Z a0) {a v s t : Addr} {cs ds : List Int32} {rs : List Value} (S : SB Z H a v cs rs) (T : StrT Z H s t ds) (hla : Lat ds) (hr : ds.length ≤ rs.length) :
    Ct l Z EL0 (⟨"java/lang/AbstractStringBuilder", "putStringAt", "(ILjava/lang/String;)V"⟩ : MethodName) jdk_68_method_73_code 3 (none) ({ frames := 2, cells := 0, slots := 0, locals := 33 } : Room) [] [.ref a, .int cs.length.toInt32, .ref s] H (fun v' H' => v' = none ∧ Kp H H' [v] ∧ Ar Z H' v .byte (lo8 (cs ++ ds) ++ rs.drop ds.length)) := by
  refine Ct.in G (by first | exact plainFor_of_name (by simp [plainName, overriddenIn]; done) | decide +kernel) (ls := [.val (.ref a), .val (.int cs.length.toInt32), .val (.ref s)]) rfl rfl fun D A0 => ?_
  have A1 := A0.run [(0, .aload_n 0, 1, 0), (1, .aload_n 2, 2, 0)] (pe := 2) (by decide +kernel) rfl
  obtain ⟨_, HA2, qA2, A2, moA2, szA2⟩ := A1.callV (argsL := [.ref s]) (wd_159 G) (decl_of (wd_160 G) (wd_163 G)) (wd_162 G) rfl (wd_162 G) (wd_160 G) (wd_127 G) (wd_163 G) S.1 (c_inf G S T hla) (by decide) ⟨_, _, (by decide +kernel : parseMethodDescriptor "(Ljava/lang/String;)V" = some ⟨[(.object "java/lang/String")], none⟩), rfl⟩ (by decide +kernel) (Wd := 0) (by decide) (Nat.le_of_ble_eq_true rfl) (by decide) (by decide) (by decide)
  obtain ⟨rfl, rfl⟩ := qA2
  have A3 := A2.run [(5, .aload_n 2, 6, 0), (6, .aload_n 0, 7, 0)] (pe := 7) (by decide +kernel) rfl
  have A4 := A3.getF (wd_131 G) S.2.1 (by decide +kernel)
  have A5 := A4.run [(10, .iload_n 1, 11, 0), (11, .aload_n 0, 12, 0)] (pe := 12) (by decide +kernel) rfl
  have A6 := A5.getF (wd_133 G) S.2.2.1 (by decide +kernel)
  obtain ⟨_, HA7, qA7, A7, moA7, szA7⟩ := A6.callV (argsL := [.ref v, .int cs.length.toInt32, .int 0]) (wd_165 G) (wd_166 G) (wd_168 G) rfl (wd_168 G) (wd_167 G) (wd_8 G) (wd_169 G) T.1 (c_gby G T hla S.2.2.2.2.1 S.2.2.2.2.2.2.2.2 (by simp; omega)) (by decide) ⟨_, _, (by decide +kernel : parseMethodDescriptor "([BIB)V" = some ⟨[(.array .byte), .int, .byte], none⟩), rfl⟩ (by decide +kernel) (Wd := 0) (by decide) (Nat.le_of_ble_eq_true rfl) (by decide) (by decide) (by decide)
  obtain ⟨rfl, K, B⟩ := qA7
  refine ⟨_, _, _, _, A7.ret (by decide +kernel), ⟨rfl, K, ?_⟩, by decide, by decide⟩
  have e : (lo8 cs ++ rs).take cs.length = lo8 cs := by rw [List.take_append_of_le_length (by simp)]; exact List.take_of_length_le (by simp)
  have e2 : (lo8 cs ++ rs).drop (cs.length + ds.length) = rs.drop ds.length := by rw [List.drop_append]; simp
  rw [e, e2] at B
  rw [show lo8 (cs ++ ds) = lo8 cs ++ lo8 ds from List.map_append]
  exact B
set_option maxRecDepth 65536 in
theorem c_asbA (G : Glb Z a0) {a v s t : Addr} {cs ds : List Int32} {rs : List Value} (S : SB Z H a v cs rs) (T : StrT Z H s t ds) (hla : Lat ds) (hr : ds.length ≤ rs.length) :
    Ct l Z EL0 (⟨"java/lang/AbstractStringBuilder", "append", "(Ljava/lang/String;)Ljava/lang/AbstractStringBuilder;"⟩ : MethodName) jdk_68_method_22_code 3 ((some (.object "java/lang/AbstractStringBuilder"))) ({ frames := 3, cells := 0, slots := 0, locals := 47 } : Room) [] [.ref a, .ref s] H (fun v' H' => v' = some (.ref a) ∧ Kp H H' [a, v] ∧ SB Z H' a v (cs ++ ds) (rs.drop ds.length)) := by
  refine Ct.in G (by first | exact plainFor_of_name (by simp [plainName, overriddenIn]; done) | decide +kernel) (ls := [.val (.ref a), .val (.ref s), .unset]) rfl rfl fun D A0 => ?_
  have A1 := A0.run [(0, .aload_n 1, 1, 0)] (pe := 1) (by decide +kernel) rfl
  have A2 := A1.nnullT (o := 8) (by decide +kernel) (pe := 9) (by decide)
  have A3 := A2.run [(9, .aload_n 1, 10, 0)] (pe := 10) (by decide +kernel) rfl
  obtain ⟨_, HA4, qA4, A4, moA4, szA4⟩ := A3.callV (argsL := []) (wd_146 G) (wd_74 G) (wd_76 G) rfl (wd_76 G) (wd_75 G) (wd_8 G) (wd_77 G) T.1 (c_sLen G T.str) (by decide) ⟨_, _, (by decide +kernel : parseMethodDescriptor "()I" = some ⟨[], some .int⟩), rfl⟩ (by decide +kernel) (Wd := 0) (by decide) (Nat.le_of_ble_eq_true rfl) (by decide) (by decide) (by decide)
  obtain ⟨rfl, rfl⟩ := qA4
  have A5 := A4.run [(13, .istore_n 2, 14, 0), (14, .aload_n 0, 15, 0), (15, .aload_n 0, 16, 0)] (pe := 16) (by decide +kernel) rfl
  have A6 := A5.getF (wd_147 G) S.2.2.2.1 (by decide +kernel)
  have A7 := A6.run [(19, .iload_n 2, 20, 0), (20, .iadd, 21, 0)] (pe := 21) (by decide +kernel) rfl
  rw [n32_add] at A7
  obtain ⟨_, HA8, qA8, A8, moA8, szA8⟩ := A7.callV (argsL := [.int (cs.length + ds.length).toInt32]) (wd_149 G) (decl_of (wd_150 G) (wd_153 G)) (wd_152 G) rfl (wd_152 G) (wd_150 G) (wd_127 G) (wd_153 G) S.1 (c_ens G S (by omega)) (by decide) ⟨_, _, (by decide +kernel : parseMethodDescriptor "(I)V" = some ⟨[.int], none⟩), rfl⟩ (by decide +kernel) (Wd := 0) (by decide) (Nat.le_of_ble_eq_true rfl) (by decide) (by decide) (by decide)
  obtain ⟨rfl, rfl⟩ := qA8
  have A9 := A8.run [(24, .aload_n 0, 25, 0), (25, .aload_n 0, 26, 0)] (pe := 26) (by decide +kernel) rfl
  have A10 := A9.getF (wd_147 G) S.2.2.2.1 (by decide +kernel)
  have A11 := A10.run [(29, .aload_n 1, 30, 0)] (pe := 30) (by decide +kernel) rfl
  obtain ⟨_, HA12, qA12, A12, moA12, szA12⟩ := A11.callV (argsL := [.int cs.length.toInt32, .ref s]) (wd_154 G) (decl_of (wd_155 G) (wd_158 G)) (wd_157 G) rfl (wd_157 G) (wd_155 G) (wd_127 G) (wd_158 G) S.1 (c_psa G S T hla hr) (by decide) ⟨_, _, (by decide +kernel : parseMethodDescriptor "(ILjava/lang/String;)V" = some ⟨[.int, (.object "java/lang/String")], none⟩), rfl⟩ (by decide +kernel) (Wd := 0) (by decide) (Nat.le_of_ble_eq_true rfl) (by decide) (by decide) (by decide)
  obtain ⟨rfl, K1, B1⟩ := qA12
  have hav : a ∉ [v] := by simpa using S.ne G
  have hva : v ∉ [a] := by simpa using Ne.symm (S.ne G)
  obtain ⟨E, V, C, N, T0, la, lc, o1, o2⟩ := S
  have A13 := A12.run [(33, .aload_n 0, 34, 0), (34, .dup, 35, 0)] (pe := 35) (by decide +kernel) rfl
  have A14 := A13.getF (wd_147 G) (N.ky K1 hav) (by decide +kernel)
  have A15 := A14.run [(38, .iload_n 2, 39, 0), (39, .iadd, 40, 0)] (pe := 40) (by decide +kernel) rfl
  rw [n32_add] at A15
  obtain ⟨H3, A16, K3, W3⟩ := A15.putF (wd_147 G) (N.ky K1 hav) (E.ky K1) (wd_148 G) (wd_118 G) (K1.2 _ o1) (by decide +kernel) (ty := .int) (by decide) rfl rfl
  have A17 := A16.run [(43, .aload_n 0, 44, 0)] (pe := 44) (by decide +kernel) rfl
  refine ⟨_, _, _, _, A17.retA (by decide +kernel) rfl rfl, ⟨rfl, (K1.wide fun x hx => Or.inl (by simp at hx; simp [hx])).trans K3 fun x hx => Or.inl (by simp at hx; simp [hx]), (E.ky K1).ky K3, (V.ky K1 hav).other W3 (Or.inr (sl_vn G)), (C.ky K1 hav).other W3 (Or.inr (sl_cn G)), by rw [List.length_append]; exact (N.ky K1 hav).same W3, B1.ky K3 hva, ?_, ?_, K3.2 _ (K1.2 _ o1), K3.2 _ (K1.2 _ o2)⟩, by decide, by decide⟩
  · exact fun c hc => (List.mem_append.mp hc).elim (la c) (hla c)
  · exact fun c hc => (List.mem_append.mp hc).elim (lc c) (T.2.1 c)
theorem c_sbA (G : Glb Z a0) {a v s t : Addr} {cs ds : List Int32} {rs : List Value} (S : SB Z H a v cs rs) (T : StrT Z H s t ds) (hla : Lat ds) (hr : ds.length ≤ rs.length) :
    Ct l Z EL0 (⟨"java/lang/StringBuilder", "append", "(Ljava/lang/String;)Ljava/lang/StringBuilder;"⟩ : MethodName) jdk_67_method_7_code 2 ((some (.object "java/lang/StringBuilder"))) ({ frames := 4, cells := 0, slots := 0, locals := 61 } : Room) [] [.ref a, .ref s] H (fun v' H' => v' = some (.ref a) ∧ Kp H H' [a, v] ∧ SB Z H' a v (cs ++ ds) (rs.drop ds.length)) := by
  refine Ct.in G (by first | exact plainFor_of_name (by simp [plainName, overriddenIn]; done) | decide +kernel) (ls := [.val (.ref a), .val (.ref s)]) rfl rfl fun D A0 => ?_
  have A1 := A0.run [(0, .aload_n 0, 1, 0), (1, .aload_n 1, 2, 0)] (pe := 2) (by decide +kernel) rfl
  obtain ⟨_, HA2, qA2, A2, moA2, szA2⟩ := A1.callU (argsL := [.ref s]) (wd_141 G) (wd_144 G) (wd_152 G) rfl (wd_143 G) (wd_142 G) (by decide) (wd_127 G) (wd_145 G) S.1 (c_asbA G S T hla hr) (by decide) ⟨_, _, (by decide +kernel : parseMethodDescriptor "(Ljava/lang/String;)Ljava/lang/AbstractStringBuilder;" = some ⟨[(.object "java/lang/String")], some (.object "java/lang/AbstractStringBuilder")⟩), rfl⟩ (by decide +kernel) (Wd := 0) (by decide) (Nat.le_of_ble_eq_true rfl) (by decide) (by decide) (by decide)
  obtain ⟨rfl, K, S2⟩ := qA2
  have A3 := A2.run [(5, .pop, 6, 0), (6, .aload_n 0, 7, 0)] (pe := 7) (by decide +kernel) rfl
  exact ⟨_, _, _, _, A3.retA (by decide +kernel) rfl rfl, ⟨rfl, K, S2⟩, by decide, by decide⟩
end JSb

section JCpr
variable {l : Launch} {Z : State} {a0 : Array Value} {D : Dyn} {H : HP}
theorem c_mmin (G : Glb Z a0) {i j : Nat} (hi : i < 2 ^ 31) (hj : j < 2 ^ 31) : Ct l Z EL0 (⟨"java/lang/Math", "min", "(II)I"⟩ : MethodName) jdk_29_method_69_code 2 ((some .int)) ({ frames := 0, cells := 0, slots := 0, locals := 0 } : Room) [] [.int i.toInt32, .int j.toInt32] H (fun v H' => v = some (.int (min i j).toInt32) ∧ H = H') := by
  refine Ct.in G (by decide +kernel) (ls := [.val (.int i.toInt32), .val (.int j.toInt32)]) rfl rfl fun D A0 => ?_
  have A1 := A0.run [(0, .iload_n 0, 1, 0), (1, .iload_n 1, 2, 0)] (pe := 2) (by decide +kernel) rfl
  by_cases h : j < i
  · have A2 := A1.icT (cd := .gt) (o := 7) (by decide +kernel) ((n32_lt hj hi).mpr h) (pe := 9) (by decide)
    have A3 := A2.run [(9, .iload_n 1, 10, 0)] (pe := 10) (by decide +kernel) rfl
    exact ⟨_, _, _, _, A3.retI (by decide +kernel), ⟨by rw [Nat.min_eq_right (by omega)], rfl⟩, by decide, by decide⟩
  · have A2 := A1.icF (cd := .gt) (o := 7) (by decide +kernel) (fun q => h ((n32_lt hj hi).mp q))
    have A3 := A2.run [(5, .iload_n 0, 6, 0), (6, .goto 4, 10, 0)] (pe := 10) (by decide +kernel) rfl
    exact ⟨_, _, _, _, A3.retI (by decide +kernel), ⟨by rw [Nat.min_eq_left (by omega)], rfl⟩, by decide, by decide⟩
theorem c_chl (G : Glb Z a0) {i j : Nat} (hi : i < 2 ^ 31) (hj : j < 2 ^ 31) (h : i ≤ j) : Ct l Z EL0 (⟨"java/util/Arrays", "checkLength", "(II)V"⟩ : MethodName) jdk_65_method_131_code 2 (none) ({ frames := 0, cells := 0, slots := 0, locals := 0 } : Room) [] [.int i.toInt32, .int j.toInt32] H (fun v H' => v = none ∧ H = H') := by
  refine Ct.in G (by first | exact plainFor_of_name (by simp [plainName, overriddenIn]; done) | decide +kernel) (ls := [.val (.int i.toInt32), .val (.int j.toInt32)]) rfl rfl fun D A0 => ?_
  have A1 := A0.run [(0, .iload_n 1, 1, 0), (1, .iload_n 0, 2, 0)] (pe := 2) (by decide +kernel) rfl
  have A2 := A1.icT (cd := .ge) (o := 35) (by decide +kernel) (fun q => by have := (n32_lt hj hi).mp q; omega) (pe := 37) (by decide)
  exact ⟨_, _, _, _, A2.ret (by decide +kernel), ⟨rfl, rfl⟩, by decide, by decide⟩
set_option maxRecDepth 65536 in
theorem c_cpb (G : Glb Z a0) {t : Addr} {vs : List Value} {i j : Nat} (T : Ar Z H t .byte vs) (h1 : i ≤ j) (h2 : j ≤ vs.length) (h3 : j - i ≤ 32) :
    Ct l Z EL0 (⟨"java/util/Arrays", "copyOfRangeByte", "([BII)[B"⟩ : MethodName) jdk_65_method_133_code 5 ((some (.array .byte))) ({ frames := 1, cells := 1, slots := 32, locals := 18 } : Room) [] [.ref t, .int i.toInt32, .int j.toInt32] H (fun v H' => ∃ u, v = some (.ref u) ∧ H.1.size ≤ u ∧ Kp H H' [] ∧ Ar Z H' u .byte ((vs.drop i).take (j - i)) ∧ H'.2 u) := by
  refine Ct.in G (by first | exact plainFor_of_name (by simp [plainName, overriddenIn]; done) | decide +kernel) (ls := [.val (.ref t), .val (.int i.toInt32), .val (.int j.toInt32), .unset, .unset]) rfl rfl fun D A0 => ?_
  have hL := T.len
  have A1 := A0.run [(0, .iload_n 1, 1, 0), (1, .iload_n 2, 2, 0)] (pe := 2) (by decide +kernel) rfl
  obtain ⟨_, HA2, qA2, A2, moA2, szA2⟩ := A1.callS (argsL := [.int i.toInt32, .int j.toInt32]) (wd_213 G) (wd_214 G) (wd_208 G) (wd_215 G) (c_chl G (by omega) (by omega) h1) (by decide) ⟨_, _, (by decide +kernel : parseMethodDescriptor "(II)V" = some ⟨[.int, .int], none⟩), rfl⟩ (by decide +kernel) (Wd := 0) (by decide) (Nat.le_of_ble_eq_true rfl) (by decide) (by decide) (by decide)
  obtain ⟨rfl, rfl⟩ := qA2
  have A3 := A2.run [(5, .iload_n 2, 6, 0), (6, .iload_n 1, 7, 0), (7, .isub, 8, 0)] (pe := 8) (by decide +kernel) rfl
  rw [n32_sub h1] at A3
  have A4 := A3.run [(8, .istore_n 3, 9, 0), (9, .iload_n 3, 10, 0)] (pe := 10) (by decide +kernel) rfl
  obtain ⟨u, H1, A5, hge, K1, U1, o1⟩ := A4.newA (aty := .byte) (wd_20 G) (by decide +kernel) (N := j - i) rfl (cap := 32) h3 (by decide) (by decide) (by decide)
  have A6 := A5.run [(12, .astore 4, 14, 0), (14, .aload_n 0, 15, 0), (15, .iload_n 1, 16, 0), (16, .aload 4, 18, 0), (18, .iconst 0, 19, 0), (19, .aload_n 0, 20, 0)] (pe := 20) (by decide +kernel) rfl
  have A7 := A6.alen (T.ky K1) (by decide +kernel) rfl
  have A8 := A7.run [(21, .iload_n 1, 22, 0), (22, .isub, 23, 0)] (pe := 23) (by decide +kernel) rfl
  rw [n32_sub (by omega)] at A8
  have A9 := A8.run [(23, .iload_n 3, 24, 0)] (pe := 24) (by decide +kernel) rfl
  obtain ⟨_, HA10, qA10, A10, moA10, szA10⟩ := A9.callS (argsL := [.int (vs.length - i).toInt32, .int (j - i).toInt32]) (wd_216 G) (wd_217 G) (wd_218 G) (wd_219 G) (c_mmin G (by omega) (by omega)) (by decide) ⟨_, _, (by decide +kernel : parseMethodDescriptor "(II)I" = some ⟨[.int, .int], some .int⟩), rfl⟩ (by decide +kernel) (Wd := 4) (by decide) (Nat.le_of_ble_eq_true rfl) (by decide) (by decide) (by decide)
  obtain ⟨rfl, rfl⟩ := qA10
  rw [Nat.min_eq_right (by omega)] at A10
  obtain ⟨H2, A11, K2, U2⟩ := A10.copy (wd_220 G) (wd_173 G) (wd_171 G) (wd_172 G) (T.ky K1) U1 rfl o1 (i := i) rfl (j := 0) rfl (q := j - i) rfl (by omega) (by simp) (by decide +kernel) (by decide) (Wd := 0) (by decide) (Nat.le_of_ble_eq_true rfl)
  have A12 := A11.run [(30, .aload 4, 32, 0)] (pe := 32) (by decide +kernel) rfl
  have e : (List.replicate (j - i) (defaultValue (newarray.typeOf .byte))).drop (0 + (j - i)) = [] := List.drop_eq_nil_of_le (by simp)
  rw [e, List.take_zero, List.nil_append, List.append_nil] at U2
  exact ⟨_, _, _, _, A12.retA (by decide +kernel) rfl rfl, ⟨u, rfl, hge, K1.trans K2 (fun y hy => by cases List.mem_singleton.mp hy; exact Or.inr hge), U2, K2.2 _ o1⟩, by decide, by decide⟩
theorem c_cpr (G : Glb Z a0) {t : Addr} {vs : List Value} {i j : Nat} (T : Ar Z H t .byte vs) (h1 : i ≤ j) (h2 : j ≤ vs.length) (h3 : j - i ≤ 32) (h4 : i = 0 → j ≠ vs.length) :
    Ct l Z EL0 (⟨"java/util/Arrays", "copyOfRange", "([BII)[B"⟩ : MethodName) jdk_65_method_132_code 3 ((some (.array .byte))) ({ frames := 2, cells := 1, slots := 32, locals := 34 } : Room) [] [.ref t, .int i.toInt32, .int j.toInt32] H (fun v H' => ∃ u, v = some (.ref u) ∧ H.1.size ≤ u ∧ Kp H H' [] ∧ Ar Z H' u .byte ((vs.drop i).take (j - i)) ∧ H'.2 u) := by
  refine Ct.in G (by first | exact plainFor_of_name (by simp [plainName, overriddenIn]; done) | decide +kernel) (ls := [.val (.ref t), .val (.int i.toInt32), .val (.int j.toInt32)]) rfl rfl fun D A0 => ?_
  have hL := T.len
  have A1 := A0.run [(0, .iload_n 1, 1, 0)] (pe := 1) (by decide +kernel) rfl
  have key : Wk l Z a0 EL0 "java/util/Arrays" jdk_65_method_132_code 3 "copyOfRange" (some (.array .byte)) ({ frames := 2, cells := 1, slots := 32, locals := 34 } : Room) D 10 [.val (.ref t), .val (.int i.toInt32), .val (.int j.toInt32)] [] H 0 0 := by
    by_cases h : i = 0
    · have B1 := A1.ifF (cd := .ne) (o := 9) (by decide +kernel) (not_not_intro (by rw [h]; rfl))
      have B2 := B1.run [(4, .iload_n 2, 5, 0), (5, .aload_n 0, 6, 0)] (pe := 6) (by decide +kernel) rfl
      have B3 := B2.alen T (by decide +kernel) rfl
      have B4 := B3.icF (cd := .eq) (o := 10) (by decide +kernel) (fun q => h4 h ((n32_inj (by omega) hL).mp q))
      exact B4
    · have B1 := A1.ifT (cd := .ne) (o := 9) (by decide +kernel) (fun q => h ((n32_inj (j := 0) (by omega) (by decide)).mp q)) (pe := 10) (by decide)
      exact B1
  have A2 := key.run [(10, .aload_n 0, 11, 0), (11, .iload_n 1, 12, 0), (12, .iload_n 2, 13, 0)] (pe := 13) (by decide +kernel) rfl
  obtain ⟨_, HA3, qA3, A3, moA3, szA3⟩ := A2.callS (argsL := [.ref t, .int i.toInt32, .int j.toInt32]) (wd_210 G) (wd_211 G) (wd_208 G) (wd_212 G) (c_cpb G T h1 h2 h3) (by decide) ⟨_, _, (by decide +kernel : parseMethodDescriptor "([BII)[B" = some ⟨[(.array .byte), .int, .int], some (.array .byte)⟩), rfl⟩ (by decide +kernel) (Wd := 0) (by decide) (Nat.le_of_ble_eq_true rfl) (by decide) (by decide) (by decide)
  obtain ⟨u, rfl, q⟩ := qA3
  exact ⟨_, _, _, _, A3.retA (by decide +kernel) rfl rfl, ⟨u, rfl, q⟩, by decide, by decide⟩
end JCpr

section JSb2
variable {l : Launch} {Z : State} {a0 : Array Value} {D : Dyn} {H : HP}
theorem c_gva (G : Glb Z a0) {a v : Addr} (V : Fld Z H.1 a ASB "value" "[B" (.ref v)) : Ct l Z EL0 (⟨"java/lang/AbstractStringBuilder", "getValue", "()[B"⟩ : MethodName) jdk_68_method_64_code 1 ((some (.array .byte))) ({ frames := 0, cells := 0, slots := 0, locals := 0 } : Room) [] [.ref a] H (fun v' H' => v' = some (.ref v) ∧ H = H') := by
  refine Ct.in G (by first | exact plainFor_of_name (by simp [plainName, overriddenIn]; done) | decide +kernel) (ls := [.val (.ref a)]) rfl rfl fun D A0 => ?_
  have A1 := A0.run [(0, .aload_n 0, 1, 0)] (pe := 1) (by decide +kernel) rfl
  have A2 := A1.getF (wd_131 G) V (by decide +kernel)
  exact ⟨_, _, _, _, A2.retA (by decide +kernel) rfl rfl, ⟨rfl, rfl⟩, by decide, by decide⟩
theorem c_asbL (G : Glb Z a0) {a : Addr} {n : Int32} (N : Fld Z H.1 a ASB "count" "I" (.int n)) : Ct l Z EL0 (⟨"java/lang/AbstractStringBuilder", "length", "()I"⟩ : MethodName) jdk_68_method_6_code 1 ((some .int)) ({ frames := 0, cells := 0, slots := 0, locals := 0 } : Room) [] [.ref a] H (fun v' H' => v' = some (.int n) ∧ H = H') := by
  refine Ct.in G (by first | exact plainFor_of_name (by simp [plainName, overriddenIn]; done) | decide +kernel) (ls := [.val (.ref a)]) rfl rfl fun D A0 => ?_
  have A1 := A0.run [(0, .aload_n 0, 1, 0)] (pe := 1) (by decide +kernel) rfl
  have A2 := A1.getF (wd_147 G) N (by decide +kernel)
  exact ⟨_, _, _, _, A2.retI (by decide +kernel), ⟨rfl, rfl⟩, by decide, by decide⟩
theorem c_sbL (G : Glb Z a0) {a : Addr} {n : Int32} (E : Exa Z H.1 a SBn) (N : Fld Z H.1 a ASB "count" "I" (.int n)) : Ct l Z EL0 (⟨"java/lang/StringBuilder", "length", "()I"⟩ : MethodName) jdk_67_method_93_code 1 ((some .int)) ({ frames := 1, cells := 0, slots := 0, locals := 12 } : Room) [] [.ref a] H (fun v' H' => v' = some (.int n) ∧ H = H') := by
  refine Ct.in G (by first | exact plainFor_of_name (by simp [plainName, overriddenIn]; done) | decide +kernel) (ls := [.val (.ref a)]) rfl rfl fun D A0 => ?_
  have A1 := A0.run [(0, .aload_n 0, 1, 0)] (pe := 1) (by decide +kernel) rfl
  obtain ⟨_, HA2, qA2, A2, moA2, szA2⟩ := A1.callU (argsL := []) (wd_199 G) (wd_194 G) (wd_152 G) rfl (wd_143 G) (wd_195 G) (by decide) (wd_127 G) (wd_200 G) E (c_asbL G N) (by decide) ⟨_, _, (by decide +kernel : parseMethodDescriptor "()I" = some ⟨[], some .int⟩), rfl⟩ (by decide +kernel) (Wd := 0) (by decide) (Nat.le_of_ble_eq_true rfl) (by decide) (by decide) (by decide)
  obtain ⟨rfl, rfl⟩ := qA2
  exact ⟨_, _, _, _, A2.retI (by decide +kernel), ⟨rfl, rfl⟩, by decide, by decide⟩
theorem c_asbLat (G : Glb Z a0) {a : Addr} (C : Fld Z H.1 a ASB "coder" "B" (.int 0)) : Ct l Z EL0 (⟨"java/lang/AbstractStringBuilder", "isLatin1", "()Z"⟩ : MethodName) jdk_68_method_68_code 1 ((some .boolean)) ({ frames := 0, cells := 0, slots := 0, locals := 0 } : Room) [] [.ref a] H (fun v' H' => v' = some (.int 1) ∧ H = H') := by
  refine Ct.in G (by first | exact plainFor_of_name (by simp [plainName, overriddenIn]; done) | decide +kernel) (ls := [.val (.ref a)]) rfl rfl fun D A0 => ?_
  obtain ⟨cz, hcz, cS⟩ := G_compact G
  have A1 := A0.getS (wd_130 G) cS (by decide +kernel)
  have A2 := A1.ifF (cd := .eq) (o := 14) (by decide +kernel) hcz
  have A3 := A2.run [(6, .aload_n 0, 7, 0)] (pe := 7) (by decide +kernel) rfl
  have A4 := A3.getF (wd_133 G) C (by decide +kernel)
  have A5 := A4.ifF (cd := .ne) (o := 7) (by decide +kernel) (not_not_intro rfl)
  have A6 := A5.run [(13, .iconst 1, 14, 1), (14, .goto 4, 18, 0)] (pe := 18) (by decide +kernel) rfl
  exact ⟨_, _, _, _, A6.retZ (by decide +kernel) rfl, ⟨rfl, rfl⟩, by decide, by decide⟩
set_option maxRecDepth 65536 in
theorem c_sIA (G : Glb Z a0) {x a v : Addr} {cs : List Int32} {rs : List Value} (S : SB Z H a v cs rs) (hr : rs ≠ []) (hc : cs.length ≤ 32) (E : Exa Z H.1 x "java/lang/String") (V : Fld Z H.1 x "java/lang/String" "value" "[B" .null) (C : Fld Z H.1 x "java/lang/String" "coder" "B" (.int 0)) (o : H.2 x) :
    Ct l Z EL0 (⟨"java/lang/String", "<init>", "(Ljava/lang/AbstractStringBuilder;Ljava/lang/Void;)V"⟩ : MethodName) jdk_42_method_150_code 5 (none) ({ frames := 3, cells := 1, slots := 32, locals := 49 } : Room) [] [.ref x, .ref a, .null] H (fun v' H' => v' = none ∧ Kp H H' [x] ∧ Str Z H' x cs) := by
  refine Ct.in G (by first | exact plainFor_of_name (by simp [plainName, overriddenIn]; done) | decide +kernel) (ls := [.val (.ref x), .val (.ref a), .val .null, .unset, .unset]) rfl rfl fun D A0 => ?_
  obtain ⟨SE, SV, SC, SN, ST, la, lc, o1, o2⟩ := S
  have hL := ST.len; simp at hL
  have hr' : 0 < rs.length := List.length_pos_iff.mpr hr
  have A1 := A0.run [(0, .aload_n 0, 1, 0)] (pe := 1) (by decide +kernel) rfl
  have A2 := A1.initO (wd_25 G) (wd_26 G) (wd_27 G) (by decide +kernel) (Wd := 0) (by decide) (Nat.le_of_ble_eq_true rfl) (by decide)
  have A3 := A2.run [(4, .aload_n 1, 5, 0)] (pe := 5) (by decide +kernel) rfl
  obtain ⟨_, HA4, qA4, A4, moA4, szA4⟩ := A3.callV (argsL := []) (wd_188 G) (wd_189 G) (wd_191 G) rfl (wd_191 G) (wd_190 G) (wd_127 G) (wd_192 G) SE (c_gva G SV) (by decide) ⟨_, _, (by decide +kernel : parseMethodDescriptor "()[B" = some ⟨[], some (.array .byte)⟩), rfl⟩ (by decide +kernel) (Wd := 0) (by decide) (Nat.le_of_ble_eq_true rfl) (by decide) (by decide) (by decide)
  obtain ⟨rfl, rfl⟩ := qA4
  have A5 := A4.run [(8, .astore_n 3, 9, 0), (9, .aload_n 1, 10, 0)] (pe := 10) (by decide +kernel) rfl
  obtain ⟨_, HA6, qA6, A6, moA6, szA6⟩ := A5.callV (argsL := []) (wd_193 G) (wd_194 G) (wd_152 G) rfl (wd_196 G) (wd_197 G) (wd_119 G) (wd_198 G) SE (c_sbL G SE SN) (by decide) ⟨_, _, (by decide +kernel : parseMethodDescriptor "()I" = some ⟨[], some .int⟩), rfl⟩ (by decide +kernel) (Wd := 0) (by decide) (Nat.le_of_ble_eq_true rfl) (by decide) (by decide) (by decide)
  obtain ⟨rfl, rfl⟩ := qA6
  have A7 := A6.run [(13, .istore 4, 15, 0), (15, .aload_n 1, 16, 0)] (pe := 16) (by decide +kernel) rfl
  obtain ⟨_, HA8, qA8, A8, moA8, szA8⟩ := A7.callV (argsL := []) (wd_201 G) (wd_202 G) (wd_204 G) rfl (wd_204 G) (wd_203 G) (wd_127 G) (wd_205 G) SE (c_asbLat G SC) (by decide) ⟨_, _, (by decide +kernel : parseMethodDescriptor "()Z" = some ⟨[], some .boolean⟩), rfl⟩ (by decide +kernel) (Wd := 0) (by decide) (Nat.le_of_ble_eq_true rfl) (by decide) (by decide) (by decide)
  obtain ⟨rfl, rfl⟩ := qA8
  have A9 := A8.ifF (cd := .eq) (o := 22) (by decide +kernel) (by show ¬ _ = _; decide)
  have A10 := A9.run [(22, .aload_n 0, 23, 0), (23, .iconst 0, 24, 0)] (pe := 24) (by decide +kernel) rfl
  obtain ⟨H2, A11, K2, W2⟩ := A10.putFin (wd_30 G) C E (wd_31 G) rfl rfl (wd_16 G) o (by decide +kernel) (ty := .byte) (by decide) rfl rfl
  have A12 := A11.run [(27, .aload_n 0, 28, 0), (28, .aload_n 3, 29, 0), (29, .iconst 0, 30, 0), (30, .iload 4, 32, 0)] (pe := 32) (by decide +kernel) rfl
  have hvx : v ∉ [x] := by
    obtain ⟨cA, A, -⟩ := ST
    simpa using Ne.symm (ne_arr E (wd_16 G) A)
  obtain ⟨_, HA13, qA13, A13, moA13, szA13⟩ := A12.callS (argsL := [.ref v, .int (0 : Nat).toInt32, .int cs.length.toInt32]) (wd_206 G) (wd_207 G) (wd_208 G) (wd_209 G) (c_cpr G (ST.ky K2 hvx) (i := 0) (j := cs.length) (by omega) (by simp) (by omega) (fun _ => by simp; omega)) (by decide) ⟨_, _, (by decide +kernel : parseMethodDescriptor "([BII)[B" = some ⟨[(.array .byte), .int, .int], some (.array .byte)⟩), rfl⟩ (by decide +kernel) (Wd := 1) (by decide) (Nat.le_of_ble_eq_true rfl) (by decide) (by decide) (by decide)
  obtain ⟨u, rfl, hge, K3, U, o3⟩ := qA13
  have sne := slot_ne (Z := Z) (Or.inr (wd_31 G)) (Or.inr (wd_29 G)) (by decide) (t := .byte) (by decide) (t' := .array .byte) (by decide)
  have V3 := ((V.other W2 (Or.inr (Ne.symm sne))).ky K3)
  obtain ⟨H4, A14, K4, W4⟩ := A13.putFin (wd_28 G) V3 ((E.ky K2).ky K3) (wd_29 G) rfl rfl (wd_16 G) (K3.2 _ (K2.2 _ o)) (by decide +kernel) (ty := .array .byte) (by decide) rfl rfl
  have A15 := A14.run [(38, .goto 59, 97, 0)] (pe := 97) (by decide +kernel) rfl
  have e : ((lo8 cs ++ rs).drop 0).take (cs.length - 0) = lo8 cs := by
    rw [List.drop_zero, Nat.sub_zero, List.take_append_of_le_length (by simp)]; exact List.take_of_length_le (by simp)
  rw [e] at U
  have hux : u ∉ [x] := by simpa using Nat.ne_of_gt (Nat.lt_of_lt_of_le (E.ky K2).lt hge)
  refine ⟨_, _, _, _, A15.ret (by decide +kernel), ⟨rfl, (K2.trans K3 fun x hx => nomatch hx).trans K4 fun x hx => Or.inl hx, ((E.ky K2).ky K3).ky K4, lc, u, V3.same W4, Or.inl ⟨la, ((C.same W2).ky K3).other W4 (Or.inr sne), U.ky K4 hux⟩⟩, by decide, by decide⟩
theorem c_sIS (G : Glb Z a0) {x a v : Addr} {cs : List Int32} {rs : List Value} (S : SB Z H a v cs rs) (hr : rs ≠ []) (hc : cs.length ≤ 32) (E : Exa Z H.1 x "java/lang/String") (V : Fld Z H.1 x "java/lang/String" "value" "[B" .null) (C : Fld Z H.1 x "java/lang/String" "coder" "B" (.int 0)) (o : H.2 x) :
    Ct l Z EL0 (⟨"java/lang/String", "<init>", "(Ljava/lang/StringBuilder;)V"⟩ : MethodName) jdk_42_method_53_code 2 (none) ({ frames := 4, cells := 1, slots := 32, locals := 65 } : Room) [] [.ref x, .ref a] H (fun v' H' => v' = none ∧ Kp H H' [x] ∧ Str Z H' x cs) := by
  refine Ct.in G (by first | exact plainFor_of_name (by simp [plainName, overriddenIn]; done) | decide +kernel) (ls := [.val (.ref x), .val (.ref a)]) rfl rfl fun D A0 => ?_
  have A1 := A0.run [(0, .aload_n 0, 1, 0), (1, .aload_n 1, 2, 0), (2, .aconst_null, 3, 0)] (pe := 3) (by decide +kernel) rfl
  obtain ⟨_, HA2, qA2, A2, moA2, szA2⟩ := A1.callI (argsL := [.ref a, .null]) rfl (wd_185 G) (wd_186 G) (wd_8 G) (wd_187 G) (c_sIA G S hr hc E V C o) (by decide) ⟨_, _, (by decide +kernel : parseMethodDescriptor "(Ljava/lang/AbstractStringBuilder;Ljava/lang/Void;)V" = some ⟨[(.object "java/lang/AbstractStringBuilder"), (.object "java/lang/Void")], none⟩), rfl⟩ (by decide +kernel) (Wd := 0) (by decide) (Nat.le_of_ble_eq_true rfl) (by decide) (by decide) (by decide)
  obtain ⟨rfl, q⟩ := qA2
  exact ⟨_, _, _, _, A2.ret (by decide +kernel), ⟨rfl, q⟩, by decide, by decide⟩
theorem c_tos (G : Glb Z a0) {a v : Addr} {cs : List Int32} {rs : List Value} (S : SB Z H a v cs rs) (hr : rs ≠ []) (hc : cs.length ≤ 32) :
    Ct l Z EL0 (⟨"java/lang/StringBuilder", "toString", "()Ljava/lang/String;"⟩ : MethodName) jdk_67_method_42_code 1 ((some (.object "java/lang/String"))) ({ frames := 5, cells := 2, slots := 36, locals := 79 } : Room) [] [.ref a] H (fun v' H' => ∃ s, v' = some (.ref s) ∧ H.1.size ≤ s ∧ Kp H H' [] ∧ Str Z H' s cs) := by
  refine Ct.in G (by first | exact plainFor_of_name (by simp [plainName, overriddenIn]; done) | decide +kernel) (ls := [.val (.ref a)]) rfl rfl fun D A0 => ?_
  obtain ⟨s, H1, A1, hge, K1, E, o, Df⟩ := A0.newO (wd_181 G) (wd_16 G) (wd_8 G) (by decide +kernel) (by decide) (by decide)
  have A2 := A1.run [(3, .dup, 4, 0), (4, .aload_n 0, 5, 0)] (pe := 5) (by decide +kernel) rfl
  obtain ⟨_, HA3, qA3, A3, moA3, szA3⟩ := A2.callI (argsL := [.ref a]) rfl (wd_182 G) (wd_183 G) (wd_8 G) (wd_184 G) (c_sIS G (S.ky K1) hr hc E (Df (Or.inr (wd_29 G)) (t := .array .byte) (by decide)) (Df (Or.inr (wd_31 G)) (t := .byte) (by decide)) o) (by decide) ⟨_, _, (by decide +kernel : parseMethodDescriptor "(Ljava/lang/StringBuilder;)V" = some ⟨[(.object "java/lang/StringBuilder")], none⟩), rfl⟩ (by decide +kernel) (Wd := 1) (by decide) (Nat.le_of_ble_eq_true rfl) (by decide) (by decide) (by decide)
  obtain ⟨rfl, K2, S2⟩ := qA3
  exact ⟨_, _, _, _, A3.retA (by decide +kernel) rfl rfl, ⟨s, rfl, hge, K1.trans K2 (fun y hy => by cases List.mem_singleton.mp hy; exact Or.inr hge), S2⟩, by decide, by decide⟩
end JSb2


/-! ## StringBuilder, either coder, with room -/
section JSbu
variable {l : Launch} {Z : State} {a0 : Array Value} {D : Dyn} {H : HP}
theorem or_nn {x y : Int32} (hx : ¬ x < 0) (hy : ¬ y < 0) : ¬ x ||| y < 0 := by
  rw [Int32.lt_iff_toInt_lt, show (0 : Int32).toInt = 0 by decide] at *
  have := (c_orS x y).1 (by omega) (by omega)
  omega
theorem c_pcf (G : Glb Z a0) {i n m : Nat} {f : Value} (hf : f.isRef = true) (hi : i + n ≤ m) (hm : m < 2 ^ 31) :
    Ct l Z EL0 (⟨"jdk/internal/util/Preconditions", "checkFromIndexSize", "(IIILjava/util/function/BiFunction;)I"⟩ : MethodName) jdk_41_method_13_code 4 ((some .int)) ({ frames := 0, cells := 0, slots := 0, locals := 0 } : Room) [] [.int i.toInt32, .int n.toInt32, .int m.toInt32, f] H (fun v H' => v = some (.int i.toInt32) ∧ H = H') := by
  have key : ∀ s : Slot, locsOf [.int i.toInt32, .int n.toInt32, .int m.toInt32, f] 4 = [.val (.int i.toInt32), .val (.int n.toInt32), .val (.int m.toInt32), s] → Ct l Z EL0 (⟨"jdk/internal/util/Preconditions", "checkFromIndexSize", "(IIILjava/util/function/BiFunction;)I"⟩ : MethodName) jdk_41_method_13_code 4 ((some .int)) ({ frames := 0, cells := 0, slots := 0, locals := 0 } : Room) [] [.int i.toInt32, .int n.toInt32, .int m.toInt32, f] H (fun v H' => v = some (.int i.toInt32) ∧ H = H') := by
    intro s hs
    refine Ct.in G (by first | exact plainFor_of_name (by simp [plainName, overriddenIn]; done) | decide +kernel) (ls := [.val (.int i.toInt32), .val (.int n.toInt32), .val (.int m.toInt32), s]) hs rfl fun D A0 => ?_
    have A1 := A0.run [(0, .iload_n 2, 1, 0), (1, .iload_n 0, 2, 0), (2, .ior, 3, 0), (3, .iload_n 1, 4, 0), (4, .ior, 5, 0)] (pe := 5) (by decide +kernel) rfl
    have A2 := A1.ifF (cd := .lt) (o := 10) (by decide +kernel) (or_nn (or_nn (nonneg_nat (by omega)) (nonneg_nat (by omega))) (nonneg_nat (by omega)))
    have A3 := A2.run [(8, .iload_n 1, 9, 0), (9, .iload_n 2, 10, 0), (10, .iload_n 0, 11, 0), (11, .isub, 12, 0)] (pe := 12) (by decide +kernel) rfl
    rw [n32_sub (by omega)] at A3
    have A4 := A3.icT (cd := .le) (o := 11) (by decide +kernel) (fun q => by have := (n32_lt (by omega) (by omega)).mp q; omega) (pe := 23) (by decide)
    have A5 := A4.run [(23, .iload_n 0, 24, 0)] (pe := 24) (by decide +kernel) rfl
    exact ⟨_, _, _, _, A5.retI (by decide +kernel), ⟨rfl, rfl⟩, by decide, by decide⟩
  rcases ref_cases hf with rfl | ⟨x, rfl⟩ <;> exact key _ rfl
theorem c_scb (G : Glb Z a0) {i n m : Nat} (hi : i + n ≤ m) (hm : m < 2 ^ 31) :
    Ct l Z EL0 (⟨"java/lang/String", "checkBoundsOffCount", "(III)I"⟩ : MethodName) jdk_42_method_157_code 3 ((some .int)) ({ frames := 1, cells := 0, slots := 0, locals := 15 } : Room) [] [.int i.toInt32, .int n.toInt32, .int m.toInt32] H (fun v H' => v = some (.int i.toInt32) ∧ H = H') := by
  refine Ct.in G (by first | exact plainFor_of_name (by simp [plainName, overriddenIn]; done) | decide +kernel) (ls := [.val (.int i.toInt32), .val (.int n.toInt32), .val (.int m.toInt32)]) rfl rfl fun D A0 => ?_
  obtain ⟨f, hf, fS⟩ := G_fmt G
  have A1 := A0.run [(0, .iload_n 0, 1, 0), (1, .iload_n 1, 2, 0), (2, .iload_n 2, 3, 0)] (pe := 3) (by decide +kernel) rfl
  have A2 := A1.getS (wd_96 G) fS (by decide +kernel)
  obtain ⟨_, HA3, qA3, A3, moA3, szA3⟩ := A2.callS (argsL := [.int i.toInt32, .int n.toInt32, .int m.toInt32, f]) (wd_283 G) (wd_284 G) (wd_97 G) (wd_285 G) (c_pcf G hf hi hm) (by decide) ⟨_, _, (by decide +kernel : parseMethodDescriptor "(IIILjava/util/function/BiFunction;)I" = some ⟨[.int, .int, .int, (.object "java/util/function/BiFunction")], some .int⟩), rfl⟩ (by decide +kernel) (Wd := 0) (by decide) (Nat.le_of_ble_eq_true rfl) (by decide) (by decide) (by decide)
  obtain ⟨rfl, rfl⟩ := qA3
  exact ⟨_, _, _, _, A3.retI (by decide +kernel), ⟨rfl, rfl⟩, by decide, by decide⟩
theorem c_ulen2 (G : Glb Z a0) {t : Addr} {vs : List Value} {m : Nat} (T : Ar Z H t .byte vs) (hm : vs.length = 2 * m) : Ct l Z EL0 (⟨"java/lang/StringUTF16", "length", "([B)I"⟩ : MethodName) jdk_52_method_6_code 1 ((some .int)) ({ frames := 0, cells := 0, slots := 0, locals := 0 } : Room) [] [.ref t] H (fun v H' => v = some (.int m.toInt32) ∧ H = H') := by
  refine Ct.in G (by first | exact plainFor_of_name (by simp [plainName, overriddenIn]; done) | decide +kernel) (ls := [.val (.ref t)]) rfl rfl fun D A0 => ?_
  have A1 := A0.run [(0, .aload_n 0, 1, 0)] (pe := 1) (by decide +kernel) rfl
  have A2 := A1.alen T (by decide +kernel) (z := (2 * m).toInt32) (by rw [hm])
  have A3 := A2.run [(2, .iconst 1, 3, 1), (3, .ishr, 4, 0)] (pe := 4) (by decide +kernel) rfl
  rw [n32_shr1 (by rw [← hm]; exact T.len)] at A3
  exact ⟨_, _, _, _, A3.retI (by decide +kernel), ⟨rfl, rfl⟩, by decide, by decide⟩
theorem c_ucb (G : Glb Z a0) {t : Addr} {vs : List Value} {i n m : Nat} (T : Ar Z H t .byte vs) (hm : vs.length = 2 * m) (hi : i + n ≤ m) :
    Ct l Z EL0 (⟨"java/lang/StringUTF16", "checkBoundsOffCount", "(II[B)V"⟩ : MethodName) jdk_52_method_94_code 3 (none) ({ frames := 2, cells := 0, slots := 0, locals := 29 } : Room) [] [.int i.toInt32, .int n.toInt32, .ref t] H (fun v H' => v = none ∧ H = H') := by
  refine Ct.in G (by first | exact plainFor_of_name (by simp [plainName, overriddenIn]; done) | decide +kernel) (ls := [.val (.int i.toInt32), .val (.int n.toInt32), .val (.ref t)]) rfl rfl fun D A0 => ?_
  have hL := T.len
  have A1 := A0.run [(0, .iload_n 0, 1, 0), (1, .iload_n 1, 2, 0), (2, .aload_n 2, 3, 0)] (pe := 3) (by decide +kernel) rfl
  obtain ⟨_, HA2, qA2, A2, moA2, szA2⟩ := A1.callS (argsL := [.ref t]) (wd_277 G) (wd_278 G) (wd_42 G) (wd_279 G) (c_ulen2 G T hm) (by decide) ⟨_, _, (by decide +kernel : parseMethodDescriptor "([B)I" = some ⟨[(.array .byte)], some .int⟩), rfl⟩ (by decide +kernel) (Wd := 2) (by decide) (Nat.le_of_ble_eq_true rfl) (by decide) (by decide) (by decide)
  obtain ⟨rfl, rfl⟩ := qA2
  obtain ⟨_, HA3, qA3, A3, moA3, szA3⟩ := A2.callS (argsL := [.int i.toInt32, .int n.toInt32, .int m.toInt32]) (wd_280 G) (wd_281 G) (wd_8 G) (wd_282 G) (c_scb G hi (by omega)) (by decide) ⟨_, _, (by decide +kernel : parseMethodDescriptor "(III)I" = some ⟨[.int, .int, .int], some .int⟩), rfl⟩ (by decide +kernel) (Wd := 0) (by decide) (Nat.le_of_ble_eq_true rfl) (by decide) (by decide) (by decide)
  obtain ⟨rfl, rfl⟩ := qA3
  have A4 := A3.run [(9, .pop, 10, 0)] (pe := 10) (by decide +kernel) rfl
  exact ⟨_, _, _, _, A4.ret (by decide +kernel), ⟨rfl, rfl⟩, by decide, by decide⟩
theorem set2_gen {P vs : List Value} {k : Nat} {x y : Value} (hP : P.length = 2 * k) (hk : 2 * k + 1 < vs.length) :
    ((P ++ vs.drop (2 * k)).set (2 * k) x).set (2 * k + 1) y = (P ++ [x, y]) ++ vs.drop (2 * (k + 1)) := by
  have h2 : vs.drop (2 * k) = vs[2 * k] :: vs[2 * k + 1] :: vs.drop (2 * (k + 1)) := by
    rw [List.drop_eq_getElem_cons (by omega), List.drop_eq_getElem_cons hk]; rfl
  rw [h2, List.set_append_right _ _ (by omega), hP, Nat.sub_self, List.set_cons_zero, List.set_append_right _ _ (by omega), hP, show 2 * k + 1 - 2 * k = 0 + 1 by omega, List.set_cons_succ, List.set_cons_zero]
  simp
set_option maxRecDepth 65536 in
theorem l_uinf (G : Glb Z a0) {s t : Addr} {ds : List Int32} {xs vs : List Value} {i m : Nat} (F : Ar Z H s .byte (lo8 ds ++ xs)) (hla : Lat ds) (hC : ∀ c ∈ ds, isC c) (hst : s ≠ t) (hm : vs.length = 2 * m) (hi : i + ds.length ≤ m) (hL : 2 * m < 2 ^ 31) :
    ∀ (r j : Nat) (H1 : HP), j + r = ds.length → Kp H H1 [t] → H1.2 t → Ar Z H1 t .byte (vs.take (2 * i) ++ enc16 (ds.take j) ++ vs.drop (2 * (i + j))) →
      Wk l Z a0 EL0 "java/lang/StringUTF16" jdk_52_method_86_code 6 "inflate" none ({ frames := 3, cells := 0, slots := 0, locals := 43 } : Room) D 10 [.val (.ref s), .val (.int j.toInt32), .val (.ref t), .val (.int (i + j).toInt32), .val (.int ds.length.toInt32), .val (.int j.toInt32)] [] H1 0 0 →
      ∃ H', Rt Z EL0 D none H' 0 0 ∧ Kp H H' [t] ∧ Ar Z H' t .byte (vs.take (2 * i) ++ enc16 ds ++ vs.drop (2 * (i + ds.length))) := by
  intro r
  induction r with
  | zero =>
    intro j H1 e K o T A0
    have e : j = ds.length := by omega
    subst e
    have A1 := A0.run [(10, .iload 5, 12, 0), (12, .iload 4, 14, 0)] (pe := 14) (by decide +kernel) rfl
    have A2 := A1.icT (cd := .ge) (o := 27) (by decide +kernel) Int32.lt_irrefl (pe := 41) (by decide)
    exact ⟨_, A2.ret (by decide +kernel), K, by simpa using T⟩
  | succ r ih =>
    intro j H1 e K o T A0
    have hlt : j < ds.length := by omega
    obtain ⟨c, hc⟩ : ∃ c, ds[j]? = some c := ⟨_, List.getElem?_eq_getElem hlt⟩
    have hcm := List.mem_of_getElem? hc
    have A1 := A0.run [(10, .iload 5, 12, 0), (12, .iload 4, 14, 0)] (pe := 14) (by decide +kernel) rfl
    have A2 := A1.icF (cd := .ge) (o := 27) (by decide +kernel) (not_not_intro ((n32_lt (by omega) (by omega)).mpr hlt))
    have A3 := A2.run [(17, .aload_n 2, 18, 0), (18, .iload_n 3, 19, 0), (19, .iinc 3 1, 22, 1), (22, .aload_n 0, 23, 0), (23, .iload_n 1, 24, 0), (24, .iinc 1 1, 27, 1)] (pe := 27) (by decide +kernel) rfl
    have A4 := A3.baload (F.ky K (by simpa using hst)) (by decide +kernel) rfl (v := .int (b8 c)) (by rw [List.getElem?_append_left (by simpa using hlt)]; simp [hc])
    have A5 := A4.run [(28, .sipush 255, 31, 255), (31, .iand, 32, 0)] (pe := 32) (by decide +kernel) rfl
    rw [b8_back' (hC c hcm) (hla c hcm)] at A5
    have hP : (vs.take (2 * i) ++ enc16 (ds.take j)).length = 2 * (i + j) := by
      rw [List.length_append, enc16_len, List.length_take, List.length_take]; omega
    obtain ⟨_, HA6, qA6, A6, moA6, szA6⟩ := A5.callS (argsL := [.ref t, .int (i + j).toInt32, .int c]) (wd_240 G) (wd_241 G) (wd_42 G) (wd_242 G) (c_pch G T o (by rw [List.length_append, hP, List.length_drop]; omega)) (by decide) ⟨_, _, (by decide +kernel : parseMethodDescriptor "([BII)V" = some ⟨[(.array .byte), .int, .int], none⟩), rfl⟩ (by decide +kernel) (Wd := 0) (by decide) (Nat.le_of_ble_eq_true rfl) (by decide) (by decide) (by decide)
    obtain ⟨rfl, K6, T6⟩ := qA6
    rw [set2_gen hP (by omega)] at T6
    have A7 := A6.run [(35, .iinc 5 1, 38, 1), (38, .goto (-28), 10, 0)] (pe := 10) (by decide +kernel) rfl
    rw [n32_succ, n32_succ] at A7
    have T7 : Ar Z HA6 t .byte (vs.take (2 * i) ++ enc16 (ds.take (j + 1)) ++ vs.drop (2 * (i + (j + 1)))) := by
      have q : vs.take (2 * i) ++ enc16 (ds.take (j + 1)) = (vs.take (2 * i) ++ enc16 (ds.take j)) ++ e16 c := by
        rw [List.append_assoc]; congr 1
        rw [List.take_add_one, hc]; simp [enc16]
      rw [q]; exact T6
    exact ih (j + 1) _ (by omega) (K.trans K6 fun x hx => Or.inl hx) (K6.2 _ o) T7 A7
theorem c_uinf (G : Glb Z a0) {s t : Addr} {ds : List Int32} {xs vs : List Value} {i m : Nat} (F : Ar Z H s .byte (lo8 ds ++ xs)) (T : Ar Z H t .byte vs) (o : H.2 t) (hla : Lat ds) (hC : ∀ c ∈ ds, isC c) (hst : s ≠ t) (hm : vs.length = 2 * m) (hi : i + ds.length ≤ m) :
    Ct l Z EL0 (⟨"java/lang/StringUTF16", "inflate", "([BI[BII)V"⟩ : MethodName) jdk_52_method_86_code 6 (none) ({ frames := 3, cells := 0, slots := 0, locals := 43 } : Room) [] [.ref s, .int 0, .ref t, .int i.toInt32, .int ds.length.toInt32] H (fun v H' => v = none ∧ Kp H H' [t] ∧ Ar Z H' t .byte (vs.take (2 * i) ++ enc16 ds ++ vs.drop (2 * (i + ds.length)))) := by
  refine Ct.in G (by first | exact plainFor_of_name (by simp [plainName, overriddenIn]; done) | decide +kernel) (ls := [.val (.ref s), .val (.int 0), .val (.ref t), .val (.int i.toInt32), .val (.int ds.length.toInt32), .unset]) rfl rfl fun D A0 => ?_
  have hL := T.len
  have A1 := A0.run [(0, .iload_n 3, 1, 0), (1, .iload 4, 3, 0), (3, .aload_n 2, 4, 0)] (pe := 4) (by decide +kernel) rfl
  obtain ⟨_, HA2, qA2, A2, moA2, szA2⟩ := A1.callS (argsL := [.int i.toInt32, .int ds.length.toInt32, .ref t]) (wd_274 G) (wd_275 G) (wd_42 G) (wd_276 G) (c_ucb G T hm hi) (by decide) ⟨_, _, (by decide +kernel : parseMethodDescriptor "(II[B)V" = some ⟨[.int, .int, (.array .byte)], none⟩), rfl⟩ (by decide +kernel) (Wd := 0) (by decide) (Nat.le_of_ble_eq_true rfl) (by decide) (by decide) (by decide)
  obtain ⟨rfl, rfl⟩ := qA2
  have A3 := A2.run [(7, .iconst 0, 8, 0), (8, .istore 5, 10, 0)] (pe := 10) (by decide +kernel) rfl
  obtain ⟨H', B1, B2, B3⟩ := l_uinf G F hla hC hst hm hi (by omega) ds.length 0 H (by omega) ((Kp.refl H).wide fun x hx => nomatch hx) o (by simpa using T) A3
  exact ⟨_, _, _, _, B1, ⟨rfl, B2, B3⟩, by decide, by decide⟩
theorem c_linf (G : Glb Z a0) {s t : Addr} {ds : List Int32} {xs vs : List Value} {i m : Nat} (F : Ar Z H s .byte (lo8 ds ++ xs)) (T : Ar Z H t .byte vs) (o : H.2 t) (hla : Lat ds) (hC : ∀ c ∈ ds, isC c) (hst : s ≠ t) (hm : vs.length = 2 * m) (hi : i + ds.length ≤ m) :
    Ct l Z EL0 (⟨"java/lang/StringLatin1", "inflate", "([BI[BII)V"⟩ : MethodName) jdk_43_method_50_code 5 (none) ({ frames := 4, cells := 0, slots := 0, locals := 60 } : Room) [] [.ref s, .int 0, .ref t, .int i.toInt32, .int ds.length.toInt32] H (fun v H' => v = none ∧ Kp H H' [t] ∧ Ar Z H' t .byte (vs.take (2 * i) ++ enc16 ds ++ vs.drop (2 * (i + ds.length)))) := by
  refine Ct.in G (by first | exact plainFor_of_name (by simp [plainName, overriddenIn]; done) | decide +kernel) (ls := [.val (.ref s), .val (.int 0), .val (.ref t), .val (.int i.toInt32), .val (.int ds.length.toInt32)]) rfl rfl fun D A0 => ?_
  have A1 := A0.run [(0, .aload_n 0, 1, 0), (1, .iload_n 1, 2, 0), (2, .aload_n 2, 3, 0), (3, .iload_n 3, 4, 0), (4, .iload 4, 6, 0)] (pe := 6) (by decide +kernel) rfl
  obtain ⟨_, HA2, qA2, A2, moA2, szA2⟩ := A1.callS (argsL := [.ref s, .int 0, .ref t, .int i.toInt32, .int ds.length.toInt32]) (wd_271 G) (wd_272 G) (wd_42 G) (wd_273 G) (c_uinf G F T o hla hC hst hm hi) (by decide) ⟨_, _, (by decide +kernel : parseMethodDescriptor "([BI[BII)V" = some ⟨[(.array .byte), .int, (.array .byte), .int, .int], none⟩), rfl⟩ (by decide +kernel) (Wd := 0) (by decide) (Nat.le_of_ble_eq_true rfl) (by decide) (by decide) (by decide)
  obtain ⟨rfl, q⟩ := qA2
  exact ⟨_, _, _, _, A2.ret (by decide +kernel), ⟨rfl, q⟩, by decide, by decide⟩
/-- a builder of either coder that says cs; cap chars have room -/
def SG (Z : State) (H : HP) (a v : Addr) (b : Int32) (cap : Nat) (cs : List Int32) : Prop :=
  Exa Z H.1 a SBn ∧ Fld Z H.1 a ASB "value" "[B" (.ref v) ∧ Fld Z H.1 a ASB "coder" "B" (.int b) ∧ Fld Z H.1 a ASB "count" "I" (.int cs.length.toInt32) ∧ Fld Z H.1 a ASB "maybeLatin1" "Z" (.int 0) ∧ cs.length ≤ cap ∧ (∀ c ∈ cs, isC c) ∧ H.2 a ∧ H.2 v ∧
  ∃ rs : List Value, b = 0 ∧ Lat cs ∧ rs.length = cap - cs.length ∧ Ar Z H v .byte (lo8 cs ++ rs) ∨ b = 1 ∧ rs.length = 2 * (cap - cs.length) ∧ Ar Z H v .byte (enc16 cs ++ rs)
theorem SG.ky {H H' : HP} {a v : Addr} {b : Int32} {cap : Nat} {cs : List Int32} {ws : List Addr} (S : SG Z H a v b cap cs) (K : Kp H H' ws) (ha : a ∉ ws := by exact List.not_mem_nil) (hv : v ∉ ws := by exact List.not_mem_nil) : SG Z H' a v b cap cs := by
  obtain ⟨h1, h2, h3, h4, h5, h6, h7, h8, h9, rs, h10⟩ := S
  exact ⟨h1.ky K, h2.ky K ha, h3.ky K ha, h4.ky K ha, h5.ky K ha, h6, h7, K.2 _ h8, K.2 _ h9, rs, h10.imp (fun ⟨q1, q2, q3, q4⟩ => ⟨q1, q2, q3, q4.ky K hv⟩) (fun ⟨q1, q2, q3⟩ => ⟨q1, q2, q3.ky K hv⟩)⟩
theorem SG.arr {a v : Addr} {b : Int32} {cap : Nat} {cs : List Int32} (S : SG Z H a v b cap cs) : ∃ vs, Ar Z H v .byte vs ∧ (b = 0 ∧ vs.length = cap ∨ b = 1 ∧ vs.length = 2 * cap) := by
  obtain ⟨-, -, -, -, -, hc, -, -, -, rs, h⟩ := S
  rcases h with ⟨h1, -, h3, h4⟩ | ⟨h1, h3, h4⟩
  · exact ⟨_, h4, Or.inl ⟨h1, by simp; omega⟩⟩
  · exact ⟨_, h4, Or.inr ⟨h1, by rw [List.length_append, enc16_len]; omega⟩⟩
theorem SG.ne (G : Glb Z a0) {a v : Addr} {b : Int32} {cap : Nat} {cs : List Int32} (S : SG Z H a v b cap cs) : a ≠ v := by
  obtain ⟨vs, ⟨c, A, -⟩, -⟩ := S.arr
  exact ne_arr S.1 (wd_118 G) A
theorem sl_vm (G : Glb Z a0) : Jvm.RoadKit.slotOf Z ASB "value" "[B" ≠ Jvm.RoadKit.slotOf Z ASB "maybeLatin1" "Z" := slot_ne (Or.inl (wd_132 G)) (Or.inl (wd_288 G)) (by decide) (t := .array .byte) (by decide) (t' := .boolean) (by decide)
theorem sl_cm (G : Glb Z a0) : Jvm.RoadKit.slotOf Z ASB "coder" "B" ≠ Jvm.RoadKit.slotOf Z ASB "maybeLatin1" "Z" := slot_ne (Or.inl (wd_134 G)) (Or.inl (wd_288 G)) (by decide) (t := .byte) (by decide) (t' := .boolean) (by decide)
theorem sl_nm (G : Glb Z a0) : Jvm.RoadKit.slotOf Z ASB "count" "I" ≠ Jvm.RoadKit.slotOf Z ASB "maybeLatin1" "Z" := slot_ne (Or.inl (wd_148 G)) (Or.inl (wd_288 G)) (by decide) (t := .int) (by decide) (t' := .boolean) (by decide)
set_option maxRecDepth 65536 in
theorem c_asbIg (G : Glb Z a0) {x : Addr} (E : Exa Z H.1 x SBn) (V : Fld Z H.1 x ASB "value" "[B" .null) (C : Fld Z H.1 x ASB "coder" "B" (.int 0)) (N : Fld Z H.1 x ASB "count" "I" (.int 0)) (M : Fld Z H.1 x ASB "maybeLatin1" "Z" (.int 0)) (o : H.2 x) :
    Ct l Z EL0 (⟨"java/lang/AbstractStringBuilder", "<init>", "(I)V"⟩ : MethodName) jdk_68_method_2_code 2 (none) ({ frames := 1, cells := 1, slots := 16, locals := 12 } : Room) [] [.ref x, .int 16] H (fun v H' => v = none ∧ Kp H H' [x] ∧ ∃ t, H.1.size ≤ t ∧ SG Z H' x t 0 16 []) := by
  refine Ct.in G (by first | exact plainFor_of_name (by simp [plainName, overriddenIn]; done) | decide +kernel) (ls := [.val (.ref x), .val (.int 16)]) rfl rfl fun D A0 => ?_
  obtain ⟨cz, hcz, cS⟩ := G_compact G
  have A1 := A0.run [(0, .aload_n 0, 1, 0)] (pe := 1) (by decide +kernel) rfl
  have A2 := A1.initO (wd_129 G) (wd_26 G) (wd_27 G) (by decide +kernel) (Wd := 0) (by decide) (Nat.le_of_ble_eq_true rfl) (by decide)
  have A3 := A2.getS (wd_130 G) cS (by decide +kernel)
  have A4 := A3.ifF (cd := .eq) (o := 18) (by decide +kernel) hcz
  have A5 := A4.run [(10, .aload_n 0, 11, 0), (11, .iload_n 1, 12, 0)] (pe := 12) (by decide +kernel) rfl
  obtain ⟨t, H1, A6, hge, K1, T1, o1⟩ := A5.newA (aty := .byte) (wd_20 G) (by decide +kernel) (N := 16) rfl (cap := 16) (by decide) (by decide) (by decide) (by decide)
  obtain ⟨H2, A7, K2, W2⟩ := A6.putF (wd_131 G) (V.ky K1) (E.ky K1) (wd_132 G) (wd_118 G) (K1.2 _ o) (by decide +kernel) (ty := .array .byte) (by decide) rfl rfl
  have A8 := A7.run [(17, .aload_n 0, 18, 0), (18, .iconst 0, 19, 0)] (pe := 19) (by decide +kernel) rfl
  have C2 := (C.ky K1).other W2 (Or.inr (Ne.symm (sl_vc G)))
  obtain ⟨H3, A9, K3, W3⟩ := A8.putF (wd_133 G) C2 ((E.ky K1).ky K2) (wd_134 G) (wd_118 G) (K2.2 _ (K1.2 _ o)) (by decide +kernel) (ty := .byte) (by decide) rfl rfl
  have A10 := A9.run [(22, .goto 16, 38, 0)] (pe := 38) (by decide +kernel) rfl
  have A11 := A10.ret (by decide +kernel)
  have htx : t ∉ [x] := by simpa using Nat.ne_of_gt (Nat.lt_of_lt_of_le E.lt hge)
  refine ⟨_, _, _, _, A11, ⟨rfl, ((K1.wide fun x hx => nomatch hx).trans K2 fun x hx => Or.inl hx).trans K3 fun x hx => Or.inl hx, t, hge, ((E.ky K1).ky K2).ky K3, ((V.ky K1).same W2).other W3 (Or.inr (sl_vc G)), C2.same W3, ((N.ky K1).other W2 (Or.inr (Ne.symm (sl_vn G)))).other W3 (Or.inr (Ne.symm (sl_cn G))), ((M.ky K1).other W2 (Or.inr (Ne.symm (sl_vm G)))).other W3 (Or.inr (Ne.symm (sl_cm G))), Nat.zero_le _, (fun c hc => nomatch hc), K3.2 _ (K2.2 _ (K1.2 _ o)), K3.2 _ (K2.2 _ o1), List.replicate 16 (.int 0), Or.inl ⟨rfl, (fun c hc => nomatch hc), by simp, (T1.ky K2 htx).ky K3 htx⟩⟩, by decide, by decide⟩
theorem c_sbIg (G : Glb Z a0) {x : Addr} (E : Exa Z H.1 x SBn) (V : Fld Z H.1 x ASB "value" "[B" .null) (C : Fld Z H.1 x ASB "coder" "B" (.int 0)) (N : Fld Z H.1 x ASB "count" "I" (.int 0)) (M : Fld Z H.1 x ASB "maybeLatin1" "Z" (.int 0)) (o : H.2 x) :
    Ct l Z EL0 (⟨"java/lang/StringBuilder", "<init>", "()V"⟩ : MethodName) jdk_67_method_1_code 1 (none) ({ frames := 2, cells := 1, slots := 16, locals := 25 } : Room) [] [.ref x] H (fun v H' => v = none ∧ Kp H H' [x] ∧ ∃ t, H.1.size ≤ t ∧ SG Z H' x t 0 16 []) := by
  refine Ct.in G (by first | exact plainFor_of_name (by simp [plainName, overriddenIn]; done) | decide +kernel) (ls := [.val (.ref x)]) rfl rfl fun D A0 => ?_
  have A1 := A0.run [(0, .aload_n 0, 1, 0), (1, .bipush 16, 3, 16)] (pe := 3) (by decide +kernel) rfl
  obtain ⟨_, HA2, qA2, A2, moA2, szA2⟩ := A1.callI (argsL := [.int 16]) rfl (wd_123 G) (wd_124 G) (wd_127 G) (wd_128 G) (c_asbIg G E V C N M o) (by decide) ⟨_, _, (by decide +kernel : parseMethodDescriptor "(I)V" = some ⟨[.int], none⟩), rfl⟩ (by decide +kernel) (Wd := 0) (by decide) (Nat.le_of_ble_eq_true rfl) (by decide) (by decide) (by decide)
  obtain ⟨rfl, K, q⟩ := qA2
  exact ⟨_, _, _, _, A2.ret (by decide +kernel), ⟨rfl, K, q⟩, by decide, by decide⟩

theorem c_ensg (G : Glb Z a0) {a v : Addr} {b : Int32} {cap : Nat} {cs : List Int32} {m : Nat} (S : SG Z H a v b cap cs) (hm : m ≤ cap) :
    Ct l Z EL0 (⟨"java/lang/AbstractStringBuilder", "ensureCapacityInternal", "(I)V"⟩ : MethodName) jdk_68_method_9_code 3 (none) ({ frames := 0, cells := 0, slots := 0, locals := 0 } : Room) [] [.ref a, .int m.toInt32] H (fun v H' => v = none ∧ H = H') := by
  refine Ct.in G (by first | exact plainFor_of_name (by simp [plainName, overriddenIn]; done) | decide +kernel) (ls := [.val (.ref a), .val (.int m.toInt32), .unset]) rfl rfl fun D A0 => ?_
  obtain ⟨vs, T, hb⟩ := S.arr
  obtain ⟨E, V, C, N, -⟩ := S
  have hL := T.len
  have A1 := A0.run [(0, .aload_n 0, 1, 0)] (pe := 1) (by decide +kernel) rfl
  have A2 := A1.getF (wd_131 G) V (by decide +kernel)
  have A3 := A2.alen T (by decide +kernel) rfl
  have A4 := A3.run [(5, .aload_n 0, 6, 0)] (pe := 6) (by decide +kernel) rfl
  have A5 := A4.getF (wd_133 G) C (by decide +kernel)
  have A6 := A5.run [(9, .ishr, 10, 0)] (pe := 10) (by decide +kernel) rfl
  have e : vs.length.toInt32 >>> (b &&& 31) = cap.toInt32 := by
    rcases hb with ⟨rfl, h⟩ | ⟨rfl, h⟩
    · rw [n32_shr0, h]
    · rw [h, n32_shr1 (by omega)]
  rw [e] at A6
  have hc : cap < 2 ^ 31 := by rcases hb with ⟨-, h⟩ | ⟨-, h⟩ <;> omega
  have A7 := A6.run [(10, .istore_n 2, 11, 0), (11, .iload_n 1, 12, 0), (12, .iload_n 2, 13, 0), (13, .isub, 14, 0)] (pe := 14) (by decide +kernel) rfl
  have hle : ¬ (0 : Int32) < m.toInt32 - cap.toInt32 := by
    have e := c_isub m.toInt32 cap.toInt32
    rw [n32_toInt (by omega), n32_toInt hc] at e
    have r := rng32 (m.toInt32 - cap.toInt32)
    rw [Int32.lt_iff_toInt_lt, show (0 : Int32).toInt = 0 by decide]; omega
  have A8 := A7.ifT (cd := .le) (o := 24) (by decide +kernel) hle (pe := 38) (by decide)
  exact ⟨_, _, _, _, A8.ret (by decide +kernel), ⟨rfl, rfl⟩, Nat.zero_le _, Nat.zero_le _⟩
theorem c_asbLat1 (G : Glb Z a0) {a : Addr} (C : Fld Z H.1 a ASB "coder" "B" (.int 1)) : Ct l Z EL0 (⟨"java/lang/AbstractStringBuilder", "isLatin1", "()Z"⟩ : MethodName) jdk_68_method_68_code 1 ((some .boolean)) ({ frames := 0, cells := 0, slots := 0, locals := 0 } : Room) [] [.ref a] H (fun v' H' => v' = some (.int 0) ∧ H = H') := by
  refine Ct.in G (by first | exact plainFor_of_name (by simp [plainName, overriddenIn]; done) | decide +kernel) (ls := [.val (.ref a)]) rfl rfl fun D A0 => ?_
  obtain ⟨cz, hcz, cS⟩ := G_compact G
  have A1 := A0.getS (wd_130 G) cS (by decide +kernel)
  have A2 := A1.ifF (cd := .eq) (o := 14) (by decide +kernel) hcz
  have A3 := A2.run [(6, .aload_n 0, 7, 0)] (pe := 7) (by decide +kernel) rfl
  have A4 := A3.getF (wd_133 G) C (by decide +kernel)
  have A5 := A4.ifT (cd := .ne) (o := 7) (by decide +kernel) (by show ¬ _ = _; decide) (pe := 17) (by decide)
  have A6 := A5.run [(17, .iconst 0, 18, 0)] (pe := 18) (by decide +kernel) rfl
  exact ⟨_, _, _, _, A6.retZ (by decide +kernel) rfl, ⟨rfl, rfl⟩, by decide, by decide⟩
set_option maxRecDepth 65536 in
theorem c_ainf (G : Glb Z a0) {a v : Addr} {b : Int32} {cap : Nat} {cs : List Int32} (S : SG Z H a v b cap cs) (hc : 2 * cap ≤ 32) :
    Ct l Z EL0 (⟨"java/lang/AbstractStringBuilder", "inflate", "()V"⟩ : MethodName) jdk_68_method_11_code 2 (none) ({ frames := 5, cells := 1, slots := 32, locals := 76 } : Room) [] [.ref a] H (fun v' H' => v' = none ∧ Kp H H' [a] ∧ ∃ u, (u = v ∨ H.1.size ≤ u) ∧ SG Z H' a u 1 cap cs) := by
  refine Ct.in G (by first | exact plainFor_of_name (by simp [plainName, overriddenIn]; done) | decide +kernel) (ls := [.val (.ref a), .unset]) rfl rfl fun D A0 => ?_
  have S0 := S
  obtain ⟨E, V, C, N, M, hl, hC, o1, o2, rs, q⟩ := S
  have A1 := A0.run [(0, .aload_n 0, 1, 0)] (pe := 1) (by decide +kernel) rfl
  rcases q with ⟨rfl, la, hr, T⟩ | ⟨rfl, hr, T⟩
  · obtain ⟨_, HA2, qA2, A2, moA2, szA2⟩ := A1.callV (argsL := []) (wd_266 G) (wd_202 G) (wd_204 G) rfl (wd_204 G) (wd_203 G) (wd_127 G) (wd_205 G) E (c_asbLat G C) (by decide) ⟨_, _, (by decide +kernel : parseMethodDescriptor "()Z" = some ⟨[], some .boolean⟩), rfl⟩ (by decide +kernel) (Wd := 0) (by decide) (Nat.le_of_ble_eq_true rfl) (by decide) (by decide) (by decide)
    obtain ⟨rfl, rfl⟩ := qA2
    have A3 := A2.ifT (cd := .ne) (o := 4) (by decide +kernel) (by show ¬ _ = _; decide) (pe := 8) (by decide)
    have A4 := A3.run [(8, .aload_n 0, 9, 0)] (pe := 9) (by decide +kernel) rfl
    have A5 := A4.getF (wd_131 G) V (by decide +kernel)
    have A6 := A5.alen T (by decide +kernel) (z := cap.toInt32) (by congr 1; simp; omega)
    obtain ⟨_, HA7, qA7, A7, moA7, szA7⟩ := A6.callS (argsL := [.int cap.toInt32]) (wd_267 G) (wd_234 G) (wd_42 G) (wd_235 G) (c_nbf G hc) (by decide) ⟨_, _, (by decide +kernel : parseMethodDescriptor "(I)[B" = some ⟨[.int], some (.array .byte)⟩), rfl⟩ (by decide +kernel) (Wd := 0) (by decide) (Nat.le_of_ble_eq_true rfl) (by decide) (by decide) (by decide)
    obtain ⟨u, rfl, hge, K1, U, ou⟩ := qA7
    have A8 := A7.run [(16, .astore_n 1, 17, 0), (17, .aload_n 0, 18, 0)] (pe := 18) (by decide +kernel) rfl
    have A9 := A8.getF (wd_131 G) (V.ky K1) (by decide +kernel)
    have A10 := A9.run [(21, .iconst 0, 22, 0), (22, .aload_n 1, 23, 0), (23, .iconst 0, 24, 0), (24, .aload_n 0, 25, 0)] (pe := 25) (by decide +kernel) rfl
    have A11 := A10.getF (wd_147 G) (N.ky K1) (by decide +kernel)
    have hvu : v ≠ u := Nat.ne_of_lt (Nat.lt_of_lt_of_le T.lt hge)
    obtain ⟨_, HA12, qA12, A12, moA12, szA12⟩ := A11.callS (argsL := [.ref v, .int 0, .ref u, .int (0 : Nat).toInt32, .int cs.length.toInt32]) (wd_268 G) (wd_269 G) (wd_13 G) (wd_270 G) (c_linf G (T.ky K1) U ou la hC hvu (m := cap) (by simp) (by omega)) (by decide) ⟨_, _, (by decide +kernel : parseMethodDescriptor "([BI[BII)V" = some ⟨[(.array .byte), .int, (.array .byte), .int, .int], none⟩), rfl⟩ (by decide +kernel) (Wd := 0) (by decide) (Nat.le_of_ble_eq_true rfl) (by decide) (by decide) (by decide)
    obtain ⟨rfl, K2, U2⟩ := qA12
    have hau : a ∉ [u] := by simpa using Nat.ne_of_lt (Nat.lt_of_lt_of_le E.lt hge)
    have A13 := A12.run [(31, .aload_n 0, 32, 0), (32, .aload_n 1, 33, 0)] (pe := 33) (by decide +kernel) rfl
    obtain ⟨H3, A14, K3, W3⟩ := A13.putF (wd_131 G) ((V.ky K1).ky K2 hau) ((E.ky K1).ky K2) (wd_132 G) (wd_118 G) (K2.2 _ (K1.2 _ o1)) (by decide +kernel) (ty := .array .byte) (by decide) rfl rfl
    have A15 := A14.run [(36, .aload_n 0, 37, 0), (37, .iconst 1, 38, 1)] (pe := 38) (by decide +kernel) rfl
    have C3 := ((C.ky K1).ky K2 hau).other W3 (Or.inr (Ne.symm (sl_vc G)))
    obtain ⟨H4, A16, K4, W4⟩ := A15.putF (wd_133 G) C3 (((E.ky K1).ky K2).ky K3) (wd_134 G) (wd_118 G) (K3.2 _ (K2.2 _ (K1.2 _ o1))) (by decide +kernel) (ty := .byte) (by decide) rfl rfl
    have hua : u ∉ [a] := by simpa using Nat.ne_of_gt (Nat.lt_of_lt_of_le E.lt hge)
    have K12 := (K1.wide (ws' := [a]) fun x hx => nomatch hx).trans K2 fun x hx => Or.inr (by cases List.mem_singleton.mp hx; exact hge)
    refine ⟨_, _, _, _, A16.ret (by decide +kernel), ⟨rfl, (K12.trans K3 fun x hx => Or.inl hx).trans K4 fun x hx => Or.inl hx, u, Or.inr hge, (((E.ky K1).ky K2).ky K3).ky K4, (((V.ky K1).ky K2 hau).same W3).other W4 (Or.inr (sl_vc G)), C3.same W4, (((N.ky K1).ky K2 hau).other W3 (Or.inr (Ne.symm (sl_vn G)))).other W4 (Or.inr (Ne.symm (sl_cn G))), (((M.ky K1).ky K2 hau).other W3 (Or.inr (Ne.symm (sl_vm G)))).other W4 (Or.inr (Ne.symm (sl_cm G))), hl, hC, K4.2 _ (K3.2 _ (K2.2 _ (K1.2 _ o1))), K4.2 _ (K3.2 _ (K2.2 _ ou)), _, Or.inr ⟨rfl, ?_, (U2.ky K3 hua).ky K4 hua⟩⟩, by decide, by decide⟩
    simp; omega
  · obtain ⟨_, HA2, qA2, A2, moA2, szA2⟩ := A1.callV (argsL := []) (wd_266 G) (wd_202 G) (wd_204 G) rfl (wd_204 G) (wd_203 G) (wd_127 G) (wd_205 G) E (c_asbLat1 G C) (by decide) ⟨_, _, (by decide +kernel : parseMethodDescriptor "()Z" = some ⟨[], some .boolean⟩), rfl⟩ (by decide +kernel) (Wd := 0) (by decide) (Nat.le_of_ble_eq_true rfl) (by decide) (by decide) (by decide)
    obtain ⟨rfl, rfl⟩ := qA2
    have A3 := A2.ifF (cd := .ne) (o := 4) (by decide +kernel) (not_not_intro rfl)
    exact ⟨_, _, _, _, A3.ret (by decide +kernel), ⟨rfl, (Kp.refl _).wide (fun x hx => nomatch hx), v, Or.inl rfl, S0⟩, Nat.zero_le _, Nat.zero_le _⟩
/-- the coder of a text -/
abbrev cod (ds : List Int32) [Decidable (Lat ds)] : Int32 := if Lat ds then 0 else 1
theorem StrT.codF {s t : Addr} {ds : List Int32} (T : StrT Z H s t ds) : Fld Z H.1 s "java/lang/String" "coder" "B" (.int (cod ds)) := by
  obtain ⟨-, -, -, h⟩ := T
  rcases h with ⟨h1, h2, -⟩ | ⟨h1, h2, -⟩
  · rw [show cod ds = 0 from if_pos h1]; exact h2
  · rw [show cod ds = 1 from if_neg h1]; exact h2
theorem cod01 (ds : List Int32) : cod ds = 0 ∨ cod ds = 1 := by unfold cod; split <;> simp
set_option maxRecDepth 65536 in
theorem c_infg (G : Glb Z a0) {a v s t : Addr} {b : Int32} {cap : Nat} {cs ds : List Int32} (S : SG Z H a v b cap cs) (T : StrT Z H s t ds) (hc : 2 * cap ≤ 32) :
    Ct l Z EL0 (⟨"java/lang/AbstractStringBuilder", "inflateIfNeededFor", "(Ljava/lang/String;)V"⟩ : MethodName) jdk_68_method_71_code 2 (none) ({ frames := 6, cells := 1, slots := 32, locals := 89 } : Room) [] [.ref a, .ref s] H (fun v' H' => v' = none ∧ Kp H H' [a] ∧ ∃ u b', (u = v ∨ H.1.size ≤ u) ∧ SG Z H' a u b' cap cs ∧ (b' = 0 ∧ b = 0 ∧ Lat ds ∨ b' = 1 ∧ (b = 1 ∨ ¬ Lat ds))) := by
  refine Ct.in G (by first | exact plainFor_of_name (by simp [plainName, overriddenIn]; done) | decide +kernel) (ls := [.val (.ref a), .val (.ref s)]) rfl rfl fun D A0 => ?_
  obtain ⟨cz, hcz, cS⟩ := G_compact G
  have A1 := A0.getS (wd_130 G) cS (by decide +kernel)
  have A2 := A1.ifF (cd := .eq) (o := 18) (by decide +kernel) hcz
  have A3 := A2.run [(6, .aload_n 0, 7, 0)] (pe := 7) (by decide +kernel) rfl
  have A4 := A3.getF (wd_133 G) S.2.2.1 (by decide +kernel)
  have A5 := A4.run [(10, .aload_n 1, 11, 0)] (pe := 11) (by decide +kernel) rfl
  obtain ⟨_, HA6, qA6, A6, moA6, szA6⟩ := A5.callV (argsL := []) (wd_164 G) (wd_79 G) (wd_81 G) rfl (wd_81 G) (wd_80 G) (wd_8 G) (wd_82 G) T.1 (c_sCod G T.codF (cod01 ds)) (by decide) ⟨_, _, (by decide +kernel : parseMethodDescriptor "()B" = some ⟨[], some .byte⟩), rfl⟩ (by decide +kernel) (Wd := 1) (by decide) (Nat.le_of_ble_eq_true rfl) (by decide) (by decide) (by decide)
  obtain ⟨rfl, rfl⟩ := qA6
  have hb : b = 0 ∨ b = 1 := by obtain ⟨vs, -, h⟩ := S.arr; exact h.imp (fun q => q.1) (fun q => q.1)
  by_cases h : b = cod ds
  · have A7 := A6.icT (cd := .eq) (o := 7) (by decide +kernel) h (pe := 21) (by decide)
    refine ⟨_, _, _, _, A7.ret (by decide +kernel), ⟨rfl, (Kp.refl _).wide (fun x hx => nomatch hx), v, b, Or.inl rfl, S, ?_⟩, Nat.zero_le _, Nat.zero_le _⟩
    by_cases hl : Lat ds
    · rw [show cod ds = 0 from if_pos hl] at h; exact Or.inl ⟨h, h, hl⟩
    · rw [show cod ds = 1 from if_neg hl] at h; exact Or.inr ⟨h, Or.inl h⟩
  · have A7 := A6.icF (cd := .eq) (o := 7) (by decide +kernel) h
    have A8 := A7.run [(17, .aload_n 0, 18, 0)] (pe := 18) (by decide +kernel) rfl
    obtain ⟨_, HA9, qA9, A9, moA9, szA9⟩ := A8.callV (argsL := []) (wd_261 G) (decl_of (wd_262 G) (wd_265 G)) (wd_264 G) rfl (wd_264 G) (wd_262 G) (wd_127 G) (wd_265 G) S.1 (c_ainf G S hc) (by decide) ⟨_, _, (by decide +kernel : parseMethodDescriptor "()V" = some ⟨[], none⟩), rfl⟩ (by decide +kernel) (Wd := 0) (by decide) (Nat.le_of_ble_eq_true rfl) (by decide) (by decide) (by decide)
    obtain ⟨rfl, K, u, hu, S2⟩ := qA9
    refine ⟨_, _, _, _, A9.ret (by decide +kernel), ⟨rfl, K, u, 1, hu, S2, Or.inr ⟨rfl, ?_⟩⟩, by decide, by decide⟩
    rcases hb with rfl | rfl
    · exact Or.inr fun hl => h (if_pos hl).symm
    · exact Or.inl rfl
theorem enc16_app (cs ds : List Int32) : enc16 (cs ++ ds) = enc16 cs ++ enc16 ds := by simp [enc16]
set_option maxRecDepth 65536 in
/-- getBytes into a UTF16 array -/
theorem c_gbyU (G : Glb Z a0) {s t v : Addr} {ds : List Int32} {vs : List Value} {i m : Nat} (T : StrT Z H s t ds) (B : Ar Z H v .byte vs) (o : H.2 v) (htv : t ≠ v) (hm : vs.length = 2 * m) (hi : i + ds.length ≤ m) :
    Ct l Z EL0 (⟨"java/lang/String", "getBytes", "([BIB)V"⟩ : MethodName) jdk_42_method_147_code 4 (none) ({ frames := 5, cells := 0, slots := 0, locals := 76 } : Room) [] [.ref s, .ref v, .int i.toInt32, .int 1] H (fun v' H' => v' = none ∧ Kp H H' [v] ∧ Ar Z H' v .byte (vs.take (2 * i) ++ enc16 ds ++ vs.drop (2 * (i + ds.length)))) := by
  refine Ct.in G (by first | exact plainFor_of_name (by simp [plainName, overriddenIn]; done) | decide +kernel) (ls := [.val (.ref s), .val (.ref v), .val (.int i.toInt32), .val (.int 1)]) rfl rfl fun D A0 => ?_
  have hL := B.len
  have hcd := T.codF
  have A1 := A0.run [(0, .aload_n 0, 1, 0)] (pe := 1) (by decide +kernel) rfl
  obtain ⟨_, HA2, qA2, A2, moA2, szA2⟩ := A1.callV (argsL := []) (wd_78 G) (wd_79 G) (wd_81 G) rfl (wd_81 G) (wd_80 G) (wd_8 G) (wd_82 G) T.1 (c_sCod G hcd (cod01 ds)) (by decide) ⟨_, _, (by decide +kernel : parseMethodDescriptor "()B" = some ⟨[], some .byte⟩), rfl⟩ (by decide +kernel) (Wd := 0) (by decide) (Nat.le_of_ble_eq_true rfl) (by decide) (by decide) (by decide)
  obtain ⟨rfl, rfl⟩ := qA2
  have A3 := A2.run [(4, .iload_n 3, 5, 0)] (pe := 5) (by decide +kernel) rfl
  obtain ⟨E, hC, V, q⟩ := T
  rcases q with ⟨la, -, U⟩ | ⟨la, -, U⟩
  · rw [show cod ds = 0 from if_pos la] at A3
    have A4 := A3.icT (cd := .ne) (o := 23) (by decide +kernel) (by show ¬ _ = _; decide) (pe := 28) (by decide)
    have A5 := A4.run [(28, .aload_n 0, 29, 0)] (pe := 29) (by decide +kernel) rfl
    have A6 := A5.getF (wd_28 G) V (by decide +kernel)
    have A7 := A6.run [(32, .iconst 0, 33, 0), (33, .aload_n 1, 34, 0), (34, .iload_n 2, 35, 0), (35, .aload_n 0, 36, 0)] (pe := 36) (by decide +kernel) rfl
    have A8 := A7.getF (wd_28 G) V (by decide +kernel)
    have A9 := A8.alen U (by decide +kernel) (z := ds.length.toInt32) (by simp)
    obtain ⟨_, HA10, qA10, A10, moA10, szA10⟩ := A9.callS (argsL := [.ref t, .int 0, .ref v, .int i.toInt32, .int ds.length.toInt32]) (wd_286 G) (wd_269 G) (wd_13 G) (wd_270 G) (c_linf G (xs := []) (by simpa using U) B o la hC htv hm hi) (by decide) ⟨_, _, (by decide +kernel : parseMethodDescriptor "([BI[BII)V" = some ⟨[(.array .byte), .int, (.array .byte), .int, .int], none⟩), rfl⟩ (by decide +kernel) (Wd := 0) (by decide) (Nat.le_of_ble_eq_true rfl) (by decide) (by decide) (by decide)
    obtain ⟨rfl, K, B2⟩ := qA10
    exact ⟨_, _, _, _, A10.ret (by decide +kernel), ⟨rfl, K, B2⟩, by decide, by decide⟩
  · rw [show cod ds = 1 from if_neg la] at A3
    have A4 := A3.icF (cd := .ne) (o := 23) (by decide +kernel) (not_not_intro rfl)
    have A5 := A4.run [(8, .aload_n 0, 9, 0)] (pe := 9) (by decide +kernel) rfl
    have A6 := A5.getF (wd_28 G) V (by decide +kernel)
    have A7 := A6.run [(12, .iconst 0, 13, 0), (13, .aload_n 1, 14, 0), (14, .iload_n 2, 15, 0), (15, .iload_n 3, 16, 0), (16, .ishl, 17, 0), (17, .aload_n 0, 18, 0)] (pe := 18) (by decide +kernel) rfl
    rw [n32_shl1 (by omega)] at A7
    have A8 := A7.getF (wd_28 G) V (by decide +kernel)
    have A9 := A8.alen U (by decide +kernel) (z := (2 * ds.length).toInt32) (by rw [enc16_len])
    obtain ⟨H1, A10, K, B1⟩ := A9.copy (wd_170 G) (wd_173 G) (wd_171 G) (wd_172 G) U B rfl o (i := 0) rfl (j := 2 * i) rfl (q := 2 * ds.length) rfl (by rw [enc16_len]; omega) (by omega) (by decide +kernel) (by decide) (Wd := 0) (by decide) (Nat.le_of_ble_eq_true rfl)
    have A11 := A10.run [(25, .goto 18, 43, 0)] (pe := 43) (by decide +kernel) rfl
    have e : (enc16 ds).take (2 * ds.length) = enc16 ds := List.take_of_length_le (by rw [enc16_len]; omega)
    rw [List.drop_zero, e, show 2 * i + 2 * ds.length = 2 * (i + ds.length) by omega] at B1
    exact ⟨_, _, _, _, A11.ret (by decide +kernel), ⟨rfl, K, B1⟩, by decide, by decide⟩
/-- the coder that says cs best -/
abbrev CB (b : Int32) (cs : List Int32) : Prop := b = 0 ∧ Lat cs ∨ b = 1 ∧ ¬ Lat cs
theorem CB.app {b b' : Int32} {cs ds : List Int32} (h : CB b cs) (q : b' = 0 ∧ b = 0 ∧ Lat ds ∨ b' = 1 ∧ (b = 1 ∨ ¬ Lat ds)) : CB b' (cs ++ ds) := by
  rcases q with ⟨rfl, rfl, q⟩ | ⟨rfl, q⟩
  · rcases h with ⟨-, h⟩ | ⟨h, -⟩
    · exact Or.inl ⟨rfl, fun c hc => (List.mem_append.mp hc).elim (h c) (q c)⟩
    · exact absurd h (by decide)
  · refine Or.inr ⟨rfl, fun hl => ?_⟩
    rcases q with rfl | q
    · rcases h with ⟨h, -⟩ | ⟨-, h⟩
      · exact absurd h (by decide)
      · exact h fun c hc => hl c (List.mem_append_left _ hc)
    · exact q fun c hc => hl c (List.mem_append_right _ hc)
set_option maxRecDepth 65536 in
theorem c_psag (G : Glb Z a0) {a v s t : Addr} {b : Int32} {cap : Nat} {cs ds : List Int32} (S : SG Z H a v b cap cs) (T : StrT Z H s t ds) (htv : t ≠ v) (hr : cs.length + ds.length ≤ cap) (hc : 2 * cap ≤ 32) :
    Ct l Z EL0 (⟨"java/lang/AbstractStringBuilder", "putStringAt", "(ILjava/lang/String;)V"⟩ : MethodName) jdk_68_method_73_code 3 (none) ({ frames := 7, cells := 1, slots := 32, locals := 102 } : Room) [] [.ref a, .int cs.length.toInt32, .ref s] H (fun v' H' => v' = none ∧ Kp H H' [a, v] ∧ ∃ u b', (u = v ∨ H.1.size ≤ u) ∧ (b' = 0 ∧ b = 0 ∧ Lat ds ∨ b' = 1 ∧ (b = 1 ∨ ¬ Lat ds)) ∧
      Exa Z H'.1 a SBn ∧ Fld Z H'.1 a ASB "value" "[B" (.ref u) ∧ Fld Z H'.1 a ASB "coder" "B" (.int b') ∧ Fld Z H'.1 a ASB "count" "I" (.int cs.length.toInt32) ∧ Fld Z H'.1 a ASB "maybeLatin1" "Z" (.int 0) ∧ H'.2 a ∧ H'.2 u ∧
      ∃ rs : List Value, b' = 0 ∧ Lat (cs ++ ds) ∧ rs.length = cap - (cs ++ ds).length ∧ Ar Z H' u .byte (lo8 (cs ++ ds) ++ rs) ∨ b' = 1 ∧ rs.length = 2 * (cap - (cs ++ ds).length) ∧ Ar Z H' u .byte (enc16 (cs ++ ds) ++ rs)) := by
  refine Ct.in G (by first | exact plainFor_of_name (by simp [plainName, overriddenIn]; done) | decide +kernel) (ls := [.val (.ref a), .val (.int cs.length.toInt32), .val (.ref s)]) rfl rfl fun D A0 => ?_
  have A1 := A0.run [(0, .aload_n 0, 1, 0), (1, .aload_n 2, 2, 0)] (pe := 2) (by decide +kernel) rfl
  obtain ⟨_, HA2, qA2, A2, moA2, szA2⟩ := A1.callV (argsL := [.ref s]) (wd_159 G) (decl_of (wd_160 G) (wd_163 G)) (wd_162 G) rfl (wd_162 G) (wd_160 G) (wd_127 G) (wd_163 G) S.1 (c_infg G S T hc) (by decide) ⟨_, _, (by decide +kernel : parseMethodDescriptor "(Ljava/lang/String;)V" = some ⟨[(.object "java/lang/String")], none⟩), rfl⟩ (by decide +kernel) (Wd := 0) (by decide) (Nat.le_of_ble_eq_true rfl) (by decide) (by decide) (by decide)
  obtain ⟨rfl, K1, u, b', hu, S2, hb⟩ := qA2
  have hsa : s ∉ [a] := by simpa using ne_exa T.1 S.1 (by decide)
  have htl : t < H.1.size := by obtain ⟨-, -, -, q⟩ := T; rcases q with ⟨-, -, q⟩ | ⟨-, -, q⟩ <;> exact q.lt
  have hta : t ∉ [a] := by
    obtain ⟨-, -, -, q⟩ := T
    rcases q with ⟨-, -, ⟨c, A, -⟩⟩ | ⟨-, -, ⟨c, A, -⟩⟩ <;> simpa using Ne.symm (ne_arr S.1 (wd_118 G) A)
  have T2 := T.ky K1 hsa hta
  have htu : t ≠ u := by
    rcases hu with rfl | hu
    · exact htv
    · exact Nat.ne_of_lt (Nat.lt_of_lt_of_le htl hu)
  have hau := S2.ne G
  obtain ⟨E, V, C, N, M, hl, hC, o1, o2, rs, q⟩ := S2
  have A3 := A2.run [(5, .aload_n 2, 6, 0), (6, .aload_n 0, 7, 0)] (pe := 7) (by decide +kernel) rfl
  have A4 := A3.getF (wd_131 G) V (by decide +kernel)
  have A5 := A4.run [(10, .iload_n 1, 11, 0), (11, .aload_n 0, 12, 0)] (pe := 12) (by decide +kernel) rfl
  have A6 := A5.getF (wd_133 G) C (by decide +kernel)
  have hau' : a ∉ [u] := by simpa using hau
  have hKp : ∀ {H2 : HP}, Kp HA2 H2 [u] → Kp H H2 [a, v] := fun K => (K1.wide fun x hx => Or.inl (by simp at hx; simp [hx])).trans K fun x hx => by
    cases List.mem_singleton.mp hx
    rcases hu with rfl | hu
    · exact Or.inl (by simp)
    · exact Or.inr hu
  have hlen : (cs ++ ds).length = cs.length + ds.length := List.length_append
  rcases q with ⟨rfl, la, hr2, U⟩ | ⟨rfl, hr2, U⟩
  · have hld : Lat ds := by
      rcases hb with ⟨-, -, q⟩ | ⟨q, -⟩
      · exact q
      · exact absurd q (by decide)
    obtain ⟨_, HA7, qA7, A7, moA7, szA7⟩ := A6.callV (argsL := [.ref u, .int cs.length.toInt32, .int 0]) (wd_165 G) (wd_166 G) (wd_168 G) rfl (wd_168 G) (wd_167 G) (wd_8 G) (wd_169 G) T2.1 (c_gby G T2 hld U o2 (by simp; omega)) (by decide) ⟨_, _, (by decide +kernel : parseMethodDescriptor "([BIB)V" = some ⟨[(.array .byte), .int, .byte], none⟩), rfl⟩ (by decide +kernel) (Wd := 0) (by decide) (Nat.le_of_ble_eq_true rfl) (by decide) (by decide) (by decide)
    obtain ⟨rfl, K2, B⟩ := qA7
    have e : (lo8 cs ++ rs).take cs.length = lo8 cs := by rw [List.take_append_of_le_length (by simp)]; exact List.take_of_length_le (by simp)
    have e2 : (lo8 cs ++ rs).drop (cs.length + ds.length) = rs.drop ds.length := by rw [List.drop_append]; simp
    rw [e, e2] at B
    refine ⟨_, _, _, _, A7.ret (by decide +kernel), ⟨rfl, hKp K2, u, 0, hu, hb, E.ky K2, V.ky K2 hau', C.ky K2 hau', N.ky K2 hau', M.ky K2 hau', K2.2 _ o1, K2.2 _ o2, rs.drop ds.length, Or.inl ⟨rfl, fun c hc => (List.mem_append.mp hc).elim (la c) (hld c), by rw [hlen, List.length_drop]; omega, ?_⟩⟩, by decide, by decide⟩
    rw [show lo8 (cs ++ ds) = lo8 cs ++ lo8 ds from List.map_append]; exact B
  · obtain ⟨_, HA7, qA7, A7, moA7, szA7⟩ := A6.callV (argsL := [.ref u, .int cs.length.toInt32, .int 1]) (wd_165 G) (wd_166 G) (wd_168 G) rfl (wd_168 G) (wd_167 G) (wd_8 G) (wd_169 G) T2.1 (c_gbyU G T2 U o2 htu (m := cap) (by rw [List.length_append, enc16_len]; omega) hr) (by decide) ⟨_, _, (by decide +kernel : parseMethodDescriptor "([BIB)V" = some ⟨[(.array .byte), .int, .byte], none⟩), rfl⟩ (by decide +kernel) (Wd := 0) (by decide) (Nat.le_of_ble_eq_true rfl) (by decide) (by decide) (by decide)
    obtain ⟨rfl, K2, B⟩ := qA7
    have e : (enc16 cs ++ rs).take (2 * cs.length) = enc16 cs := by rw [List.take_append_of_le_length (by rw [enc16_len]; omega)]; exact List.take_of_length_le (by rw [enc16_len]; omega)
    have e2 : (enc16 cs ++ rs).drop (2 * (cs.length + ds.length)) = rs.drop (2 * ds.length) := by
      rw [List.drop_append, enc16_len, List.drop_eq_nil_of_le (by rw [enc16_len]; omega), List.nil_append]; congr 1; omega
    rw [e, e2] at B
    refine ⟨_, _, _, _, A7.ret (by decide +kernel), ⟨rfl, hKp K2, u, 1, hu, hb, E.ky K2, V.ky K2 hau', C.ky K2 hau', N.ky K2 hau', M.ky K2 hau', K2.2 _ o1, K2.2 _ o2, rs.drop (2 * ds.length), Or.inr ⟨rfl, by rw [hlen, List.length_drop]; omega, ?_⟩⟩, by decide, by decide⟩
    rw [enc16_app]; exact B
set_option maxRecDepth 65536 in
theorem c_asbAg (G : Glb Z a0) {a v s t : Addr} {b : Int32} {cap : Nat} {cs ds : List Int32} (S : SG Z H a v b cap cs) (T : StrT Z H s t ds) (htv : t ≠ v) (hr : cs.length + ds.length ≤ cap) (hc : 2 * cap ≤ 32) :
    Ct l Z EL0 (⟨"java/lang/AbstractStringBuilder", "append", "(Ljava/lang/String;)Ljava/lang/AbstractStringBuilder;"⟩ : MethodName) jdk_68_method_22_code 3 ((some (.object "java/lang/AbstractStringBuilder"))) ({ frames := 8, cells := 1, slots := 32, locals := 116 } : Room) [] [.ref a, .ref s] H (fun v' H' => v' = some (.ref a) ∧ Kp H H' [a, v] ∧ ∃ u b', (u = v ∨ H.1.size ≤ u) ∧ (b' = 0 ∧ b = 0 ∧ Lat ds ∨ b' = 1 ∧ (b = 1 ∨ ¬ Lat ds)) ∧ SG Z H' a u b' cap (cs ++ ds)) := by
  refine Ct.in G (by first | exact plainFor_of_name (by simp [plainName, overriddenIn]; done) | decide +kernel) (ls := [.val (.ref a), .val (.ref s), .unset]) rfl rfl fun D A0 => ?_
  have A1 := A0.run [(0, .aload_n 1, 1, 0)] (pe := 1) (by decide +kernel) rfl
  have A2 := A1.nnullT (o := 8) (by decide +kernel) (pe := 9) (by decide)
  have A3 := A2.run [(9, .aload_n 1, 10, 0)] (pe := 10) (by decide +kernel) rfl
  obtain ⟨_, HA4, qA4, A4, moA4, szA4⟩ := A3.callV (argsL := []) (wd_146 G) (wd_74 G) (wd_76 G) rfl (wd_76 G) (wd_75 G) (wd_8 G) (wd_77 G) T.1 (c_sLen G T.str) (by decide) ⟨_, _, (by decide +kernel : parseMethodDescriptor "()I" = some ⟨[], some .int⟩), rfl⟩ (by decide +kernel) (Wd := 0) (by decide) (Nat.le_of_ble_eq_true rfl) (by decide) (by decide) (by decide)
  obtain ⟨rfl, rfl⟩ := qA4
  have A5 := A4.run [(13, .istore_n 2, 14, 0), (14, .aload_n 0, 15, 0), (15, .aload_n 0, 16, 0)] (pe := 16) (by decide +kernel) rfl
  have A6 := A5.getF (wd_147 G) S.2.2.2.1 (by decide +kernel)
  have A7 := A6.run [(19, .iload_n 2, 20, 0), (20, .iadd, 21, 0)] (pe := 21) (by decide +kernel) rfl
  rw [n32_add] at A7
  obtain ⟨_, HA8, qA8, A8, moA8, szA8⟩ := A7.callV (argsL := [.int (cs.length + ds.length).toInt32]) (wd_149 G) (decl_of (wd_150 G) (wd_153 G)) (wd_152 G) rfl (wd_152 G) (wd_150 G) (wd_127 G) (wd_153 G) S.1 (c_ensg G S hr) (by decide) ⟨_, _, (by decide +kernel : parseMethodDescriptor "(I)V" = some ⟨[.int], none⟩), rfl⟩ (by decide +kernel) (Wd := 0) (by decide) (Nat.le_of_ble_eq_true rfl) (by decide) (by decide) (by decide)
  obtain ⟨rfl, rfl⟩ := qA8
  have A9 := A8.run [(24, .aload_n 0, 25, 0), (25, .aload_n 0, 26, 0)] (pe := 26) (by decide +kernel) rfl
  have A10 := A9.getF (wd_147 G) S.2.2.2.1 (by decide +kernel)
  have A11 := A10.run [(29, .aload_n 1, 30, 0)] (pe := 30) (by decide +kernel) rfl
  obtain ⟨_, HA12, qA12, A12, moA12, szA12⟩ := A11.callV (argsL := [.int cs.length.toInt32, .ref s]) (wd_154 G) (decl_of (wd_155 G) (wd_158 G)) (wd_157 G) rfl (wd_157 G) (wd_155 G) (wd_127 G) (wd_158 G) S.1 (c_psag G S T htv hr hc) (by decide) ⟨_, _, (by decide +kernel : parseMethodDescriptor "(ILjava/lang/String;)V" = some ⟨[.int, (.object "java/lang/String")], none⟩), rfl⟩ (by decide +kernel) (Wd := 0) (by decide) (Nat.le_of_ble_eq_true rfl) (by decide) (by decide) (by decide)
  obtain ⟨rfl, K1, u, b', hu, hb, E, V, C, N, M, o1, o2, rs, q⟩ := qA12
  have A13 := A12.run [(33, .aload_n 0, 34, 0), (34, .dup, 35, 0)] (pe := 35) (by decide +kernel) rfl
  have A14 := A13.getF (wd_147 G) N (by decide +kernel)
  have A15 := A14.run [(38, .iload_n 2, 39, 0), (39, .iadd, 40, 0)] (pe := 40) (by decide +kernel) rfl
  rw [n32_add] at A15
  obtain ⟨H3, A16, K3, W3⟩ := A15.putF (wd_147 G) N E (wd_148 G) (wd_118 G) o1 (by decide +kernel) (ty := .int) (by decide) rfl rfl
  have A17 := A16.run [(43, .aload_n 0, 44, 0)] (pe := 44) (by decide +kernel) rfl
  have hua : ∀ {vs : List Value}, Ar Z HA12 u .byte vs → u ∉ [a] := fun F => by
    obtain ⟨c, A, -⟩ := F; simpa using Ne.symm (ne_arr E (wd_118 G) A)
  refine ⟨_, _, _, _, A17.retA (by decide +kernel) rfl rfl, ⟨rfl, K1.trans K3 fun x hx => Or.inl (by simp at hx; simp [hx]), u, b', hu, hb, E.ky K3, V.other W3 (Or.inr (sl_vn G)), C.other W3 (Or.inr (sl_cn G)), by rw [List.length_append]; exact N.same W3, M.other W3 (Or.inr (Ne.symm (sl_nm G))), by rw [List.length_append]; exact hr, ?_, K3.2 _ o1, K3.2 _ o2, rs, ?_⟩, by decide, by decide⟩
  · exact fun c hc => (List.mem_append.mp hc).elim (S.2.2.2.2.2.2.1 c) (T.2.1 c)
  · exact q.imp (fun ⟨q1, q2, q3, q4⟩ => ⟨q1, q2, q3, q4.ky K3 (hua q4)⟩) (fun ⟨q1, q2, q3⟩ => ⟨q1, q2, q3.ky K3 (hua q3)⟩)
theorem c_sbAg (G : Glb Z a0) {a v s t : Addr} {b : Int32} {cap : Nat} {cs ds : List Int32} (S : SG Z H a v b cap cs) (hB : CB b cs) (T : StrT Z H s t ds) (htv : t ≠ v) (hr : cs.length + ds.length ≤ cap) (hc : 2 * cap ≤ 32) :
    Ct l Z EL0 (⟨"java/lang/StringBuilder", "append", "(Ljava/lang/String;)Ljava/lang/StringBuilder;"⟩ : MethodName) jdk_67_method_7_code 2 ((some (.object "java/lang/StringBuilder"))) ({ frames := 9, cells := 1, slots := 32, locals := 130 } : Room) [] [.ref a, .ref s] H (fun v' H' => v' = some (.ref a) ∧ Kp H H' [a, v] ∧ ∃ u b', (u = v ∨ H.1.size ≤ u) ∧ CB b' (cs ++ ds) ∧ SG Z H' a u b' cap (cs ++ ds)) := by
  refine Ct.in G (by first | exact plainFor_of_name (by simp [plainName, overriddenIn]; done) | decide +kernel) (ls := [.val (.ref a), .val (.ref s)]) rfl rfl fun D A0 => ?_
  have A1 := A0.run [(0, .aload_n 0, 1, 0), (1, .aload_n 1, 2, 0)] (pe := 2) (by decide +kernel) rfl
  obtain ⟨_, HA2, qA2, A2, moA2, szA2⟩ := A1.callU (argsL := [.ref s]) (wd_141 G) (wd_144 G) (wd_152 G) rfl (wd_143 G) (wd_142 G) (by decide) (wd_127 G) (wd_145 G) S.1 (c_asbAg G S T htv hr hc) (by decide) ⟨_, _, (by decide +kernel : parseMethodDescriptor "(Ljava/lang/String;)Ljava/lang/AbstractStringBuilder;" = some ⟨[(.object "java/lang/String")], some (.object "java/lang/AbstractStringBuilder")⟩), rfl⟩ (by decide +kernel) (Wd := 0) (by decide) (Nat.le_of_ble_eq_true rfl) (by decide) (by decide) (by decide)
  obtain ⟨rfl, K, u, b', hu, hb, S2⟩ := qA2
  have A3 := A2.run [(5, .pop, 6, 0), (6, .aload_n 0, 7, 0)] (pe := 7) (by decide +kernel) rfl
  exact ⟨_, _, _, _, A3.retA (by decide +kernel) rfl rfl, ⟨rfl, K, u, b', hu, hB.app hb, S2⟩, by decide, by decide⟩
set_option maxRecDepth 65536 in
theorem c_sIAg (G : Glb Z a0) {x a v : Addr} {b : Int32} {cap : Nat} {cs : List Int32} (S : SG Z H a v b cap cs) (hB : CB b cs) (hr : cs.length < cap) (hc : 2 * cs.length ≤ 32) (E : Exa Z H.1 x "java/lang/String") (V : Fld Z H.1 x "java/lang/String" "value" "[B" .null) (C : Fld Z H.1 x "java/lang/String" "coder" "B" (.int 0)) (o : H.2 x) :
    Ct l Z EL0 (⟨"java/lang/String", "<init>", "(Ljava/lang/AbstractStringBuilder;Ljava/lang/Void;)V"⟩ : MethodName) jdk_42_method_150_code 5 (none) ({ frames := 3, cells := 1, slots := 32, locals := 49 } : Room) [] [.ref x, .ref a, .null] H (fun v' H' => v' = none ∧ Kp H H' [x] ∧ Str Z H' x cs) := by
  obtain ⟨SE, SV, SC, SN, SM, hl, lc, o1, o2, rs, q⟩ := S
  rcases q with ⟨rfl, la, hrs, ST⟩ | ⟨rfl, hrs, ST⟩
  · exact c_sIA G (rs := rs) ⟨SE, SV, SC, SN, ST, la, lc, o1, o2⟩ (fun e => by rw [e] at hrs; simp at hrs; omega) (by omega) E V C o
  have la : ¬ Lat cs := by
    rcases hB with ⟨h, -⟩ | ⟨-, h⟩
    · exact absurd h (by decide)
    · exact h
  refine Ct.in G (by first | exact plainFor_of_name (by simp [plainName, overriddenIn]; done) | decide +kernel) (ls := [.val (.ref x), .val (.ref a), .val .null, .unset, .unset]) rfl rfl fun D A0 => ?_
  have hL := ST.len; rw [List.length_append, enc16_len] at hL
  obtain ⟨cz, hcz, cS⟩ := G_compact G
  have A1 := A0.run [(0, .aload_n 0, 1, 0)] (pe := 1) (by decide +kernel) rfl
  have A2 := A1.initO (wd_25 G) (wd_26 G) (wd_27 G) (by decide +kernel) (Wd := 0) (by decide) (Nat.le_of_ble_eq_true rfl) (by decide)
  have A3 := A2.run [(4, .aload_n 1, 5, 0)] (pe := 5) (by decide +kernel) rfl
  obtain ⟨_, HA4, qA4, A4, moA4, szA4⟩ := A3.callV (argsL := []) (wd_188 G) (wd_189 G) (wd_191 G) rfl (wd_191 G) (wd_190 G) (wd_127 G) (wd_192 G) SE (c_gva G SV) (by decide) ⟨_, _, (by decide +kernel : parseMethodDescriptor "()[B" = some ⟨[], some (.array .byte)⟩), rfl⟩ (by decide +kernel) (Wd := 0) (by decide) (Nat.le_of_ble_eq_true rfl) (by decide) (by decide) (by decide)
  obtain ⟨rfl, rfl⟩ := qA4
  have A5 := A4.run [(8, .astore_n 3, 9, 0), (9, .aload_n 1, 10, 0)] (pe := 10) (by decide +kernel) rfl
  obtain ⟨_, HA6, qA6, A6, moA6, szA6⟩ := A5.callV (argsL := []) (wd_193 G) (wd_194 G) (wd_152 G) rfl (wd_196 G) (wd_197 G) (wd_119 G) (wd_198 G) SE (c_sbL G SE SN) (by decide) ⟨_, _, (by decide +kernel : parseMethodDescriptor "()I" = some ⟨[], some .int⟩), rfl⟩ (by decide +kernel) (Wd := 0) (by decide) (Nat.le_of_ble_eq_true rfl) (by decide) (by decide) (by decide)
  obtain ⟨rfl, rfl⟩ := qA6
  have A7 := A6.run [(13, .istore 4, 15, 0), (15, .aload_n 1, 16, 0)] (pe := 16) (by decide +kernel) rfl
  obtain ⟨_, HA8, qA8, A8, moA8, szA8⟩ := A7.callV (argsL := []) (wd_201 G) (wd_202 G) (wd_204 G) rfl (wd_204 G) (wd_203 G) (wd_127 G) (wd_205 G) SE (c_asbLat1 G SC) (by decide) ⟨_, _, (by decide +kernel : parseMethodDescriptor "()Z" = some ⟨[], some .boolean⟩), rfl⟩ (by decide +kernel) (Wd := 0) (by decide) (Nat.le_of_ble_eq_true rfl) (by decide) (by decide) (by decide)
  obtain ⟨rfl, rfl⟩ := qA8
  have A9 := A8.ifT (cd := .eq) (o := 22) (by decide +kernel) rfl (pe := 41) (by decide)
  have A10 := A9.getS (wd_10 G) cS (by decide +kernel)
  have A11 := A10.ifF (cd := .eq) (o := 35) (by decide +kernel) hcz
  have A12 := A11.run [(47, .aload_n 1, 48, 0)] (pe := 48) (by decide +kernel) rfl
  have A13 := A12.getF (wd_287 G) SM (by decide +kernel)
  have A14 := A13.ifT (cd := .eq) (o := 28) (by decide +kernel) rfl (pe := 79) (by decide)
  have A15 := A14.run [(79, .aload_n 0, 80, 0), (80, .iconst 1, 81, 1)] (pe := 81) (by decide +kernel) rfl
  obtain ⟨H2, A16, K2, W2⟩ := A15.putFin (wd_30 G) C E (wd_31 G) rfl rfl (wd_16 G) o (by decide +kernel) (ty := .byte) (by decide) rfl rfl
  have A17 := A16.run [(84, .aload_n 0, 85, 0), (85, .aload_n 3, 86, 0), (86, .iconst 0, 87, 0), (87, .iload 4, 89, 0), (89, .iconst 1, 90, 1), (90, .ishl, 91, 0)] (pe := 91) (by decide +kernel) rfl
  rw [n32_shl1 (by omega)] at A17
  have hvx : v ∉ [x] := by
    obtain ⟨cA, A, -⟩ := ST
    simpa using Ne.symm (ne_arr E (wd_16 G) A)
  obtain ⟨_, HA18, qA18, A18, moA18, szA18⟩ := A17.callS (argsL := [.ref v, .int (0 : Nat).toInt32, .int (2 * cs.length).toInt32]) (wd_206 G) (wd_207 G) (wd_208 G) (wd_209 G) (c_cpr G (ST.ky K2 hvx) (i := 0) (j := 2 * cs.length) (by omega) (by rw [List.length_append, enc16_len]; omega) (by omega) (fun _ => by rw [List.length_append, enc16_len]; omega)) (by decide) ⟨_, _, (by decide +kernel : parseMethodDescriptor "([BII)[B" = some ⟨[(.array .byte), .int, .int], some (.array .byte)⟩), rfl⟩ (by decide +kernel) (Wd := 1) (by decide) (Nat.le_of_ble_eq_true rfl) (by decide) (by decide) (by decide)
  obtain ⟨u, rfl, hge, K3, U, o3⟩ := qA18
  have sne := slot_ne (Z := Z) (Or.inr (wd_31 G)) (Or.inr (wd_29 G)) (by decide) (t := .byte) (by decide) (t' := .array .byte) (by decide)
  have V3 := ((V.other W2 (Or.inr (Ne.symm sne))).ky K3)
  obtain ⟨H4, A19, K4, W4⟩ := A18.putFin (wd_28 G) V3 ((E.ky K2).ky K3) (wd_29 G) rfl rfl (wd_16 G) (K3.2 _ (K2.2 _ o)) (by decide +kernel) (ty := .array .byte) (by decide) rfl rfl
  have e : ((enc16 cs ++ rs).drop 0).take (2 * cs.length - 0) = enc16 cs := by
    rw [List.drop_zero, Nat.sub_zero, List.take_append_of_le_length (by rw [enc16_len]; omega)]; exact List.take_of_length_le (by rw [enc16_len]; omega)
  rw [e] at U
  have hux : u ∉ [x] := by simpa using Nat.ne_of_gt (Nat.lt_of_lt_of_le (E.ky K2).lt hge)
  refine ⟨_, _, _, _, A19.ret (by decide +kernel), ⟨rfl, (K2.trans K3 fun x hx => nomatch hx).trans K4 fun x hx => Or.inl hx, ((E.ky K2).ky K3).ky K4, lc, u, V3.same W4, Or.inr ⟨la, ((C.same W2).ky K3).other W4 (Or.inr sne), U.ky K4 hux⟩⟩, by decide, by decide⟩
theorem c_sISg (G : Glb Z a0) {x a v : Addr} {b : Int32} {cap : Nat} {cs : List Int32} (S : SG Z H a v b cap cs) (hB : CB b cs) (hr : cs.length < cap) (hc : 2 * cs.length ≤ 32) (E : Exa Z H.1 x "java/lang/String") (V : Fld Z H.1 x "java/lang/String" "value" "[B" .null) (C : Fld Z H.1 x "java/lang/String" "coder" "B" (.int 0)) (o : H.2 x) :
    Ct l Z EL0 (⟨"java/lang/String", "<init>", "(Ljava/lang/StringBuilder;)V"⟩ : MethodName) jdk_42_method_53_code 2 (none) ({ frames := 4, cells := 1, slots := 32, locals := 65 } : Room) [] [.ref x, .ref a] H (fun v' H' => v' = none ∧ Kp H H' [x] ∧ Str Z H' x cs) := by
  refine Ct.in G (by first | exact plainFor_of_name (by simp [plainName, overriddenIn]; done) | decide +kernel) (ls := [.val (.ref x), .val (.ref a)]) rfl rfl fun D A0 => ?_
  have A1 := A0.run [(0, .aload_n 0, 1, 0), (1, .aload_n 1, 2, 0), (2, .aconst_null, 3, 0)] (pe := 3) (by decide +kernel) rfl
  obtain ⟨_, HA2, qA2, A2, moA2, szA2⟩ := A1.callI (argsL := [.ref a, .null]) rfl (wd_185 G) (wd_186 G) (wd_8 G) (wd_187 G) (c_sIAg G S hB hr hc E V C o) (by decide) ⟨_, _, (by decide +kernel : parseMethodDescriptor "(Ljava/lang/AbstractStringBuilder;Ljava/lang/Void;)V" = some ⟨[(.object "java/lang/AbstractStringBuilder"), (.object "java/lang/Void")], none⟩), rfl⟩ (by decide +kernel) (Wd := 0) (by decide) (Nat.le_of_ble_eq_true rfl) (by decide) (by decide) (by decide)
  obtain ⟨rfl, q⟩ := qA2
  exact ⟨_, _, _, _, A2.ret (by decide +kernel), ⟨rfl, q⟩, by decide, by decide⟩
theorem c_tosg (G : Glb Z a0) {a v : Addr} {b : Int32} {cap : Nat} {cs : List Int32} (S : SG Z H a v b cap cs) (hB : CB b cs) (hr : cs.length < cap) (hc : 2 * cs.length ≤ 32) :
    Ct l Z EL0 (⟨"java/lang/StringBuilder", "toString", "()Ljava/lang/String;"⟩ : MethodName) jdk_67_method_42_code 1 ((some (.object "java/lang/String"))) ({ frames := 5, cells := 2, slots := 36, locals := 79 } : Room) [] [.ref a] H (fun v' H' => ∃ s, v' = some (.ref s) ∧ H.1.size ≤ s ∧ Kp H H' [] ∧ Str Z H' s cs) := by
  refine Ct.in G (by first | exact plainFor_of_name (by simp [plainName, overriddenIn]; done) | decide +kernel) (ls := [.val (.ref a)]) rfl rfl fun D A0 => ?_
  obtain ⟨s, H1, A1, hge, K1, E, o, Df⟩ := A0.newO (wd_181 G) (wd_16 G) (wd_8 G) (by decide +kernel) (by decide) (by decide)
  have A2 := A1.run [(3, .dup, 4, 0), (4, .aload_n 0, 5, 0)] (pe := 5) (by decide +kernel) rfl
  obtain ⟨_, HA3, qA3, A3, moA3, szA3⟩ := A2.callI (argsL := [.ref a]) rfl (wd_182 G) (wd_183 G) (wd_8 G) (wd_184 G) (c_sISg G (S.ky K1) hB hr hc E (Df (Or.inr (wd_29 G)) (t := .array .byte) (by decide)) (Df (Or.inr (wd_31 G)) (t := .byte) (by decide)) o) (by decide) ⟨_, _, (by decide +kernel : parseMethodDescriptor "(Ljava/lang/StringBuilder;)V" = some ⟨[(.object "java/lang/StringBuilder")], none⟩), rfl⟩ (by decide +kernel) (Wd := 1) (by decide) (Nat.le_of_ble_eq_true rfl) (by decide) (by decide) (by decide)
  obtain ⟨rfl, K2, S2⟩ := qA3
  exact ⟨_, _, _, _, A3.retA (by decide +kernel) rfl rfl, ⟨s, rfl, hge, K1.trans K2 (fun y hy => by cases List.mem_singleton.mp hy; exact Or.inr hge), S2⟩, by decide, by decide⟩
end JSbu


def Bt (e : Int32) (P : Prop) : Prop := e = 1 ∧ P ∨ e = 0 ∧ ¬ P
abbrev sur (c : Int32) : Prop := ¬ c < 55296 ∧ ¬ 57343 < c
abbrev hig (c : Int32) : Prop := ¬ c < 55296 ∧ ¬ 56319 < c
theorem nsh (c : Int32) (h : ¬ sur c) : ¬ hig c := fun q => h ⟨q.1, fun z => by
  have := q.2
  rw [Int32.lt_iff_toInt_lt] at z this
  rw [show (57343 : Int32).toInt = 57343 by decide] at z
  rw [show (56319 : Int32).toInt = 56319 by decide] at this
  omega⟩
theorem nsur_iff (c : Int32) : ¬ sur c ↔ c.toInt < 55296 ∨ 57343 < c.toInt := by
  unfold sur
  rw [Int32.lt_iff_toInt_lt, Int32.lt_iff_toInt_lt, show (57343 : Int32).toInt = 57343 by decide, show (55296 : Int32).toInt = 55296 by decide]; omega
theorem xor15 {n : Nat} (h1 : 32768 ≤ n) (h2 : n < 65536) : n ^^^ 32768 < 32768 := by
  apply Nat.lt_pow_two_of_testBit (n := 15)
  intro i hi
  rw [Nat.testBit_xor, show (32768 : Nat) = 2 ^ 15 by decide, Nat.testBit_two_pow]
  by_cases h : i = 15
  · subst h
    have : n.testBit 15 = true := by rw [Nat.testBit_eq_decide_div_mod_eq]; simp; omega
    simp [this]
  · have : n.testBit i = false := Nat.testBit_lt_two_pow (Nat.lt_of_lt_of_le h2 (by rw [show (65536 : Nat) = 2 ^ 16 by decide]; exact Nat.pow_le_pow_right (by decide) (by omega)))
    simp [this]; omega
theorem xorI {y : Int32} (h1 : 32768 ≤ y.toInt) (h2 : y.toInt < 65536) : 0 ≤ (y ^^^ 32768).toInt ∧ (y ^^^ 32768).toInt < 32768 := by
  have hn : (y ^^^ 32768).toBitVec.toNat = y.toBitVec.toNat ^^^ 32768 := by
    show (y.toBitVec ^^^ (32768 : Int32).toBitVec).toNat = _
    rw [BitVec.toNat_xor]; rfl
  have hy : y.toBitVec.toInt = y.toInt := rfl
  have hb := y.toBitVec.isLt
  rw [BitVec.toInt_eq_toNat_cond] at hy
  have hy2 : (y.toBitVec.toNat : Int) = y.toInt := by split at hy <;> omega
  have hx := xor15 (n := y.toBitVec.toNat) (by omega) (by omega)
  have hz : (y ^^^ 32768).toBitVec.toInt = (y ^^^ 32768).toInt := rfl
  rw [BitVec.toInt_eq_toNat_cond, hn, if_pos (by omega)] at hz
  omega
theorem isC_i2c (x : Int32) : isC x.toUInt32.toUInt16.toUInt32.toInt32 := (c_i2c x).2
section LawP
variable {l : Launch} {Z : State} {a0 : Array Value} {D : Dyn} {H : HP}
theorem c_ch (G : Glb Z a0) (i : Int32) : Ct l Z EL0 (⟨"com/example/rightful_roles/rightfulroles/core/PermissionToStringPinLaw", "ch", "(I)C"⟩ : MethodName) method_2_code 2 ((some .char)) ({ frames := 0, cells := 0, slots := 0, locals := 0 } : Room) [] [.int i] H (fun v H' => ∃ c, isC c ∧ ¬ sur c ∧ v = some (.int c) ∧ H = H') := by
  refine Ct.in G (by first | exact plainFor_of_name (by simp [plainName, overriddenIn]; done) | decide +kernel) (ls := [.val (.int i), .unset]) rfl rfl fun D A0 => ?_
  have h := c_and i 65535 (by decide)
  rw [show (65535 : Int32).toInt = 65535 by decide] at h
  have A1 := A0.run [(0, .iload_n 0, 1, 0)] (pe := 1) (by decide +kernel) rfl
  have A2 := A1.ldcI (wd_4 G) (by decide +kernel)
  have A3 := A2.run [(3, .iand, 4, 0), (4, .istore_n 1, 5, 0), (5, .iload_n 1, 6, 0)] (pe := 6) (by decide +kernel) rfl
  generalize i &&& 65535 = y at A3 h
  have A4 := A3.ldcI (wd_5 G) (by decide +kernel)
  have fin : ∀ z : Int32, ¬ sur z → 0 ≤ z.toInt → z.toInt < 65536 → ¬ sur z.toUInt32.toUInt16.toUInt32.toInt32 := fun z hz h0 h1 => by
    have q := c_i2c z
    rw [nsur_iff] at hz ⊢; omega
  by_cases h1 : y < 55296
  · have A5 := A4.icT (cd := .lt) (o := 14) (by decide +kernel) h1 (pe := 22) (by decide)
    have A6 := A5.run [(22, .iload_n 1, 23, 0), (23, .i2c, 24, 0)] (pe := 24) (by decide +kernel) rfl
    exact ⟨_, _, _, _, A6.retC (by decide +kernel) (isC_nar (isC_i2c _)), ⟨_, isC_i2c _, fin y (fun q => q.1 h1) h.1 (by omega), rfl, rfl⟩, by decide, by decide⟩
  · have A5 := A4.icF (cd := .lt) (o := 14) (by decide +kernel) h1
    have A6 := A5.run [(11, .iload_n 1, 12, 0)] (pe := 12) (by decide +kernel) rfl
    have A7 := A6.ldcI (wd_229 G) (by decide +kernel)
    by_cases h2 : 57343 < y
    · have A8 := A7.icT (cd := .gt) (o := 8) (by decide +kernel) h2 (pe := 22) (by decide)
      have A9 := A8.run [(22, .iload_n 1, 23, 0), (23, .i2c, 24, 0)] (pe := 24) (by decide +kernel) rfl
      exact ⟨_, _, _, _, A9.retC (by decide +kernel) (isC_nar (isC_i2c _)), ⟨_, isC_i2c _, fin y (fun q => q.2 h2) h.1 (by omega), rfl, rfl⟩, by decide, by decide⟩
    · have A8 := A7.icF (cd := .gt) (o := 8) (by decide +kernel) h2
      have A9 := A8.run [(17, .iload_n 1, 18, 0)] (pe := 18) (by decide +kernel) rfl
      have A10 := A9.ldcI (wd_292 G) (by decide +kernel)
      have A11 := A10.run [(20, .ixor, 21, 0), (21, .istore_n 1, 22, 0), (22, .iload_n 1, 23, 0), (23, .i2c, 24, 0)] (pe := 24) (by decide +kernel) rfl
      have hy : 32768 ≤ y.toInt := by
        rw [Int32.lt_iff_toInt_lt, show (55296 : Int32).toInt = 55296 by decide] at h1; omega
      have hx := xorI hy (by omega)
      exact ⟨_, _, _, _, A11.retC (by decide +kernel) (isC_nar (isC_i2c _)), ⟨_, isC_i2c _, fin _ ((nsur_iff _).mpr (by omega)) hx.1 (by omega), rfl, rfl⟩, by decide, by decide⟩
theorem c_jhi (G : Glb Z a0) (c : Int32) : Ct l Z EL0 (⟨"java/lang/Character", "isHighSurrogate", "(C)Z"⟩ : MethodName) jdk_89_method_14_code 1 ((some .boolean)) ({ frames := 0, cells := 0, slots := 0, locals := 0 } : Room) [] [.int c] H (fun v H' => ∃ e, Bt e (hig c) ∧ v = some (.int e) ∧ H = H') := by
  refine Ct.in G (by first | exact plainFor_of_name (by simp [plainName, overriddenIn]; done) | decide +kernel) (ls := [.val (.int c)]) rfl rfl fun D A0 => ?_
  have hiff : c < 56320 ↔ ¬ 56319 < c := by
    rw [Int32.lt_iff_toInt_lt, Int32.lt_iff_toInt_lt, show (56320 : Int32).toInt = 56320 by decide, show (56319 : Int32).toInt = 56319 by decide]; omega
  have A1 := A0.run [(0, .iload_n 0, 1, 0)] (pe := 1) (by decide +kernel) rfl
  have A2 := A1.ldcI (wd_258 G) (by decide +kernel)
  by_cases h : c < 55296
  · have A3 := A2.icT (cd := .lt) (o := 13) (by decide +kernel) h (pe := 16) (by decide)
    have A4 := A3.run [(16, .iconst 0, 17, 0)] (pe := 17) (by decide +kernel) rfl
    exact ⟨_, _, _, _, A4.retZ (by decide +kernel) rfl, ⟨0, Or.inr ⟨rfl, fun q => q.1 h⟩, rfl, rfl⟩, by decide, by decide⟩
  · have A3 := A2.icF (cd := .lt) (o := 13) (by decide +kernel) h
    have A4 := A3.run [(6, .iload_n 0, 7, 0)] (pe := 7) (by decide +kernel) rfl
    have A5 := A4.ldcI (wd_259 G) (by decide +kernel)
    by_cases h2 : c < 56320
    · have A6 := A5.icF (cd := .ge) (o := 7) (by decide +kernel) (not_not_intro h2)
      have A7 := A6.run [(12, .iconst 1, 13, 1), (13, .goto 4, 17, 0)] (pe := 17) (by decide +kernel) rfl
      exact ⟨_, _, _, _, A7.retZ (by decide +kernel) rfl, ⟨1, Or.inl ⟨rfl, h, hiff.mp h2⟩, rfl, rfl⟩, by decide, by decide⟩
    · have A6 := A5.icT (cd := .ge) (o := 7) (by decide +kernel) h2 (pe := 16) (by decide)
      have A7 := A6.run [(16, .iconst 0, 17, 0)] (pe := 17) (by decide +kernel) rfl
      exact ⟨_, _, _, _, A7.retZ (by decide +kernel) rfl, ⟨0, Or.inr ⟨rfl, fun q => h2 (hiff.mpr q.2)⟩, rfl, rfl⟩, by decide, by decide⟩
/-- what codePointAt answers where no surrogate stands -/
def CpAt (cs : List Int32) (i : Nat) (r : Int32) : Prop := cs[i]? = some r ∧ ¬ hig r
set_option maxRecDepth 65536 in
theorem c_cp4 (G : Glb Z a0) {t : Addr} {cs : List Int32} {i : Nat} {r : Int32} (T : Ar Z H t .byte (enc16 cs)) (hC : ∀ c ∈ cs, isC c) (hr : CpAt cs i r) :
    Ct l Z EL0 (⟨"java/lang/StringUTF16", "codePointAt", "([BIIZ)I"⟩ : MethodName) jdk_52_method_7_code 6 ((some .int)) ({ frames := 1, cells := 0, slots := 0, locals := 13 } : Room) [] [.ref t, .int i.toInt32, .int cs.length.toInt32, .int 0] H (fun v H' => v = some (.int r) ∧ H = H') := by
  refine Ct.in G (by first | exact plainFor_of_name (by simp [plainName, overriddenIn]; done) | decide +kernel) (ls := [.val (.ref t), .val (.int i.toInt32), .val (.int cs.length.toInt32), .val (.int 0), .unset, .unset]) rfl rfl fun D A0 => ?_
  have A1 := A0.getS (wd_243 G) (G_asr G) (by decide +kernel)
  have A2 := A1.ifT (cd := .ne) (o := 16) (by decide +kernel) (by show ¬ _ = _; decide) (pe := 19) (by decide)
  have A3 := A2.run [(19, .iload_n 3, 20, 0)] (pe := 20) (by decide +kernel) rfl
  have A4 := A3.ifT (cd := .eq) (o := 8) (by decide +kernel) rfl (pe := 28) (by decide)
  have A5 := A4.run [(28, .aload_n 0, 29, 0), (29, .iload_n 1, 30, 0)] (pe := 30) (by decide +kernel) rfl
  obtain ⟨hc, hnh⟩ := hr
  obtain ⟨_, HA6, qA6, A6, moA6, szA6⟩ := A5.callS (argsL := [.ref t, .int i.toInt32]) (wd_246 G) (wd_247 G) (wd_42 G) (wd_248 G) (c_gch G T (hC r (List.mem_of_getElem? hc)) hc) (by decide) ⟨_, _, (by decide +kernel : parseMethodDescriptor "([BI)C" = some ⟨[(.array .byte), .int], some .char⟩), rfl⟩ (by decide +kernel) (Wd := 0) (by decide) (Nat.le_of_ble_eq_true rfl) (by decide) (by decide) (by decide)
  obtain ⟨rfl, rfl⟩ := qA6
  have A7 := A6.run [(33, .istore 4, 35, 0), (35, .iload 4, 37, 0)] (pe := 37) (by decide +kernel) rfl
  obtain ⟨_, HA8, qA8, A8, moA8, szA8⟩ := A7.callS (argsL := [.int r]) (wd_255 G) (wd_256 G) (wd_104 G) (wd_257 G) (c_jhi G r) (by decide) ⟨_, _, (by decide +kernel : parseMethodDescriptor "(C)Z" = some ⟨[.char], some .boolean⟩), rfl⟩ (by decide +kernel) (Wd := 0) (by decide) (Nat.le_of_ble_eq_true rfl) (by decide) (by decide) (by decide)
  obtain ⟨e, he, rfl, rfl⟩ := qA8
  rcases he with ⟨rfl, he⟩ | ⟨rfl, he⟩
  · exact absurd he hnh
  · have A9 := A8.ifT (cd := .eq) (o := 43) (by decide +kernel) rfl (pe := 83) (by decide)
    have A10 := A9.run [(83, .iload 4, 85, 0)] (pe := 85) (by decide +kernel) rfl
    exact ⟨_, _, _, _, A10.retI (by decide +kernel), ⟨rfl, rfl⟩, by decide, by decide⟩
theorem c_cp3 (G : Glb Z a0) {t : Addr} {cs : List Int32} {i : Nat} {r : Int32} (T : Ar Z H t .byte (enc16 cs)) (hC : ∀ c ∈ cs, isC c) (hr : CpAt cs i r) :
    Ct l Z EL0 (⟨"java/lang/StringUTF16", "codePointAt", "([BII)I"⟩ : MethodName) jdk_52_method_8_code 3 ((some .int)) ({ frames := 2, cells := 0, slots := 0, locals := 30 } : Room) [] [.ref t, .int i.toInt32, .int cs.length.toInt32] H (fun v H' => v = some (.int r) ∧ H = H') := by
  refine Ct.in G (by first | exact plainFor_of_name (by simp [plainName, overriddenIn]; done) | decide +kernel) (ls := [.val (.ref t), .val (.int i.toInt32), .val (.int cs.length.toInt32)]) rfl rfl fun D A0 => ?_
  have A1 := A0.run [(0, .aload_n 0, 1, 0), (1, .iload_n 1, 2, 0), (2, .iload_n 2, 3, 0), (3, .iconst 0, 4, 0)] (pe := 4) (by decide +kernel) rfl
  obtain ⟨_, HA2, qA2, A2, moA2, szA2⟩ := A1.callS (argsL := [.ref t, .int i.toInt32, .int cs.length.toInt32, .int 0]) (wd_252 G) (wd_253 G) (wd_42 G) (wd_254 G) (c_cp4 G T hC hr) (by decide) ⟨_, _, (by decide +kernel : parseMethodDescriptor "([BIIZ)I" = some ⟨[(.array .byte), .int, .int, .boolean], some .int⟩), rfl⟩ (by decide +kernel) (Wd := 0) (by decide) (Nat.le_of_ble_eq_true rfl) (by decide) (by decide) (by decide)
  obtain ⟨rfl, rfl⟩ := qA2
  exact ⟨_, _, _, _, A2.retI (by decide +kernel), ⟨rfl, rfl⟩, by decide, by decide⟩
theorem CpAt.lt {cs : List Int32} {i : Nat} {r : Int32} (h : CpAt cs i r) : i < cs.length := (List.getElem?_eq_some_iff.mp h.1).1
theorem c_cpaU (G : Glb Z a0) {a : Addr} {cs : List Int32} {i : Nat} {r : Int32} (S : Str Z H a cs) (hla : ¬ Lat cs) (hr : CpAt cs i r) :
    Ct l Z EL0 (⟨"java/lang/String", "codePointAt", "(I)I"⟩ : MethodName) jdk_42_method_57_code 3 ((some .int)) ({ frames := 3, cells := 0, slots := 0, locals := 44 } : Room) [] [.ref a, .int i.toInt32] H (fun v H' => v = some (.int r) ∧ H = H') := by
  refine Ct.in G (by first | exact plainFor_of_name (by simp [plainName, overriddenIn]; done) | decide +kernel) (ls := [.val (.ref a), .val (.int i.toInt32), .unset]) rfl rfl fun D A0 => ?_
  have hC := S.2.1
  obtain ⟨E, t, F, C, T⟩ := S.opU hla
  have hL := T.len; rw [enc16_len] at hL
  have A1 := A0.run [(0, .aload_n 0, 1, 0)] (pe := 1) (by decide +kernel) rfl
  obtain ⟨_, HA2, qA2, A2, moA2, szA2⟩ := A1.callV (argsL := []) (wd_88 G) (wd_89 G) (wd_91 G) rfl (wd_91 G) (wd_90 G) (wd_8 G) (wd_92 G) E (c_isL G C 0 (Or.inr ⟨rfl, rfl⟩)) (by decide) ⟨_, _, (by decide +kernel : parseMethodDescriptor "()Z" = some ⟨[], some .boolean⟩), rfl⟩ (by decide +kernel) (Wd := 0) (by decide) (Nat.le_of_ble_eq_true rfl) (by decide) (by decide) (by decide)
  obtain ⟨rfl, rfl⟩ := qA2
  have A3 := A2.ifT (cd := .eq) (o := 23) (by decide +kernel) rfl (pe := 27) (by decide)
  have A4 := A3.run [(27, .aload_n 0, 28, 0)] (pe := 28) (by decide +kernel) rfl
  have A5 := A4.getF (wd_28 G) F (by decide +kernel)
  have A6 := A5.alen T (by decide +kernel) (z := (2 * cs.length).toInt32) (by rw [enc16_len])
  have A7 := A6.run [(32, .iconst 1, 33, 1), (33, .ishr, 34, 0), (34, .istore_n 2, 35, 0), (35, .iload_n 1, 36, 0), (36, .iload_n 2, 37, 0)] (pe := 37) (by decide +kernel) rfl
  rw [n32_shr1 (by omega)] at A7
  obtain ⟨_, HA8, qA8, A8, moA8, szA8⟩ := A7.callS (argsL := [.int i.toInt32, .int cs.length.toInt32]) (wd_93 G) (wd_94 G) (wd_8 G) (wd_95 G) (c_sci G hr.lt (by omega)) (by decide) ⟨_, _, (by decide +kernel : parseMethodDescriptor "(II)V" = some ⟨[.int, .int], none⟩), rfl⟩ (by decide +kernel) (Wd := 0) (by decide) (Nat.le_of_ble_eq_true rfl) (by decide) (by decide) (by decide)
  obtain ⟨rfl, rfl⟩ := qA8
  have A9 := A8.run [(40, .aload_n 0, 41, 0)] (pe := 41) (by decide +kernel) rfl
  have A10 := A9.getF (wd_28 G) F (by decide +kernel)
  have A11 := A10.run [(44, .iload_n 1, 45, 0), (45, .iload_n 2, 46, 0)] (pe := 46) (by decide +kernel) rfl
  obtain ⟨_, HA12, qA12, A12, moA12, szA12⟩ := A11.callS (argsL := [.ref t, .int i.toInt32, .int cs.length.toInt32]) (wd_249 G) (wd_250 G) (wd_42 G) (wd_251 G) (c_cp3 G T hC hr) (by decide) ⟨_, _, (by decide +kernel : parseMethodDescriptor "([BII)I" = some ⟨[(.array .byte), .int, .int], some .int⟩), rfl⟩ (by decide +kernel) (Wd := 0) (by decide) (Nat.le_of_ble_eq_true rfl) (by decide) (by decide) (by decide)
  obtain ⟨rfl, rfl⟩ := qA12
  exact ⟨_, _, _, _, A12.retI (by decide +kernel), ⟨rfl, rfl⟩, by decide, by decide⟩
theorem c_cpa (G : Glb Z a0) {a : Addr} {cs : List Int32} {i : Nat} {r : Int32} (S : Str Z H a cs) (hr : CpAt cs i r) :
    Ct l Z EL0 (⟨"java/lang/String", "codePointAt", "(I)I"⟩ : MethodName) jdk_42_method_57_code 3 ((some .int)) ({ frames := 3, cells := 0, slots := 0, locals := 44 } : Room) [] [.ref a, .int i.toInt32] H (fun v H' => v = some (.int r) ∧ H = H') := by
  by_cases hla : Lat cs
  · exact c_cpaL G S hla hr.1
  · exact c_cpaU G S hla hr
set_option maxRecDepth 65536 in
theorem l_rqn (G : Glb Z a0) {s w : Addr} {cs : List Int32} (S : Str Z H s cs) (hn : cs.length < 2 ^ 30) (hs : ∀ c ∈ cs, ¬ sur c) :
    ∀ (j i : Nat) (s3 : Slot), i + j = cs.length → (s3 = .unset ∨ ∃ x, s3 = .val (.int x)) → Wk l Z a0 EL0 "com/example/rightful_roles/rightfulroles/core/Names" prog_11_method_2_code 4 "requireName" (some (.object "java/lang/String")) ({ frames := 4, cells := 0, slots := 0, locals := 58 } : Room) D 47 [.val (.ref s), .val (.ref w), .val (.int i.toInt32), s3] [] H 0 0 → Rt Z EL0 D (some (.ref s)) H 0 0 := by
  intro j
  induction j with
  | zero =>
    intro i s3 e h3 A0
    have e : i = cs.length := by omega
    subst e
    have A1 := A0.run [(47, .iload_n 2, 48, 0), (48, .aload_n 0, 49, 0)] (pe := 49) (by decide +kernel) rfl
    obtain ⟨_, HA2, qA2, A2, moA2, szA2⟩ := A1.callV (argsL := []) (wd_73 G) (wd_74 G) (wd_76 G) rfl (wd_76 G) (wd_75 G) (wd_8 G) (wd_77 G) S.1 (c_sLen G S) (by decide) ⟨_, _, (by decide +kernel : parseMethodDescriptor "()I" = some ⟨[], some .int⟩), rfl⟩ (by decide +kernel) (Wd := 1) (by decide) (Nat.le_of_ble_eq_true rfl) (by decide) (by decide) (by decide)
    obtain ⟨rfl, rfl⟩ := qA2
    have A3 := A2.icT (cd := .ge) (o := 67) (by decide +kernel) Int32.lt_irrefl (pe := 119) (by decide)
    have A4 := A3.run [(119, .aload_n 0, 120, 0)] (pe := 120) (by decide +kernel) rfl
    exact A4.retA (by decide +kernel) rfl rfl
  | succ j ih =>
    intro i s3 e h3 A0
    have hlt : i < cs.length := by omega
    obtain ⟨r, hc⟩ : ∃ c, cs[i]? = some c := ⟨_, List.getElem?_eq_getElem hlt⟩
    have hm : r ∈ cs := List.mem_of_getElem? hc
    have hC := S.2.1 r hm
    have hr : CpAt cs i r := ⟨hc, nsh r (hs r hm)⟩
    have A1 := A0.run [(47, .iload_n 2, 48, 0), (48, .aload_n 0, 49, 0)] (pe := 49) (by decide +kernel) rfl
    obtain ⟨_, HA2, qA2, A2, moA2, szA2⟩ := A1.callV (argsL := []) (wd_73 G) (wd_74 G) (wd_76 G) rfl (wd_76 G) (wd_75 G) (wd_8 G) (wd_77 G) S.1 (c_sLen G S) (by decide) ⟨_, _, (by decide +kernel : parseMethodDescriptor "()I" = some ⟨[], some .int⟩), rfl⟩ (by decide +kernel) (Wd := 1) (by decide) (Nat.le_of_ble_eq_true rfl) (by decide) (by decide) (by decide)
    obtain ⟨rfl, rfl⟩ := qA2
    have A3 := A2.icF (cd := .ge) (o := 67) (by decide +kernel) (not_not_intro ((n32_lt (by omega) (by omega)).mpr hlt))
    have A4 := A3.run [(55, .aload_n 0, 56, 0), (56, .iload_n 2, 57, 0)] (pe := 57) (by decide +kernel) rfl
    obtain ⟨_, HA5, qA5, A5, moA5, szA5⟩ := A4.callV (argsL := [.int i.toInt32]) (wd_83 G) (wd_84 G) (wd_86 G) rfl (wd_86 G) (wd_85 G) (wd_8 G) (wd_87 G) S.1 (c_cpa G S hr) (by decide) ⟨_, _, (by decide +kernel : parseMethodDescriptor "(I)I" = some ⟨[.int], some .int⟩), rfl⟩ (by decide +kernel) (Wd := 0) (by decide) (Nat.le_of_ble_eq_true rfl) (by decide) (by decide) (by decide)
    obtain ⟨rfl, rfl⟩ := qA5
    have A6 : Wk l Z a0 EL0 "com/example/rightful_roles/rightfulroles/core/Names" prog_11_method_2_code 4 "requireName" (some (.object "java/lang/String")) ({ frames := 4, cells := 0, slots := 0, locals := 58 } : Room) D 62 [.val (.ref s), .val (.ref w), .val (.int i.toInt32), .val (.int r)] [.int r] H 0 0 := by
      rcases h3 with rfl | ⟨x, rfl⟩
      · exact A5.run [(60, .istore_n 3, 61, 0), (61, .iload_n 3, 62, 0)] (pe := 62) (by decide +kernel) rfl
      · exact A5.run [(60, .istore_n 3, 61, 0), (61, .iload_n 3, 62, 0)] (pe := 62) (by decide +kernel) rfl
    have A7 := A6.ldcI (wd_101 G) (by decide +kernel)
    have A8 : Wk l Z a0 EL0 "com/example/rightful_roles/rightfulroles/core/Names" prog_11_method_2_code 4 "requireName" (some (.object "java/lang/String")) ({ frames := 4, cells := 0, slots := 0, locals := 58 } : Room) D 109 [.val (.ref s), .val (.ref w), .val (.int i.toInt32), .val (.int r)] [] H 0 0 := by
      by_cases h1 : r < 55296
      · have B1 := A7.icT (cd := .lt) (o := 45) (by decide +kernel) h1 (pe := 109) (by decide)
        exact B1
      · have B1 := A7.icF (cd := .lt) (o := 45) (by decide +kernel) h1
        have B2 := B1.run [(67, .iload_n 3, 68, 0)] (pe := 68) (by decide +kernel) rfl
        have B3 := B2.ldcI (wd_260 G) (by decide +kernel)
        have B4 := B3.icT (cd := .gt) (o := 39) (by decide +kernel) (Classical.not_not.mp fun q => hs r hm ⟨h1, q⟩) (pe := 109) (by decide)
        exact B4
    have A9 := A8.run [(109, .iload_n 2, 110, 0), (110, .iload_n 3, 111, 0)] (pe := 111) (by decide +kernel) rfl
    obtain ⟨_, HA10, qA10, A10, moA10, szA10⟩ := A9.callS (argsL := [.int r]) (wd_102 G) (wd_103 G) (wd_104 G) (wd_105 G) (c_chc1 G hC.2) (by decide) ⟨_, _, (by decide +kernel : parseMethodDescriptor "(I)I" = some ⟨[.int], some .int⟩), rfl⟩ (by decide +kernel) (Wd := 1) (by decide) (Nat.le_of_ble_eq_true rfl) (by decide) (by decide) (by decide)
    obtain ⟨rfl, rfl⟩ := qA10
    have A11 := A10.run [(114, .iadd, 115, 0), (115, .istore_n 2, 116, 0), (116, .goto (-69), 47, 0)] (pe := 47) (by decide +kernel) rfl
    rw [n32_succ] at A11
    exact ih (i + 1) _ (by omega) (Or.inr ⟨r, rfl⟩) A11
theorem c_rqn (G : Glb Z a0) {s w : Addr} {cs : List Int32} (S : Str Z H s cs) (hn : cs.length < 2 ^ 30) (hs : ∀ c ∈ cs, ¬ sur c) (h0 : cs ≠ []) : Ct l Z EL0 (⟨"com/example/rightful_roles/rightfulroles/core/Names", "requireName", "(Ljava/lang/String;Ljava/lang/String;)Ljava/lang/String;"⟩ : MethodName) prog_11_method_2_code 4 ((some (.object "java/lang/String"))) ({ frames := 4, cells := 0, slots := 0, locals := 58 } : Room) [] [.ref s, .ref w] H (fun v H' => v = some (.ref s) ∧ H = H') := by
  refine Ct.in G (by first | exact plainFor_of_name (by simp [plainName, overriddenIn]; done) | decide +kernel) (ls := [.val (.ref s), .val (.ref w), .unset, .unset]) rfl rfl fun D A0 => ?_
  have A1 := A0.run [(0, .aload_n 0, 1, 0), (1, .aload_n 1, 2, 0)] (pe := 2) (by decide +kernel) rfl
  obtain ⟨_, HA2, qA2, A2, moA2, szA2⟩ := A1.callS (argsL := [.ref s, .ref w]) (wd_64 G) (wd_65 G) (wd_66 G) (wd_67 G) (c_rnn G) (by decide) ⟨_, _, (by decide +kernel : parseMethodDescriptor "(Ljava/lang/Object;Ljava/lang/String;)Ljava/lang/Object;" = some ⟨[(.object "java/lang/Object"), (.object "java/lang/String")], some (.object "java/lang/Object")⟩), rfl⟩ (by decide +kernel) (Wd := 0) (by decide) (Nat.le_of_ble_eq_true rfl) (by decide) (by decide) (by decide)
  obtain ⟨rfl, rfl⟩ := qA2
  have A3 := A2.run [(5, .pop, 6, 0), (6, .aload_n 0, 7, 0)] (pe := 7) (by decide +kernel) rfl
  obtain ⟨_, HA4, qA4, A4, moA4, szA4⟩ := A3.callV (argsL := []) (wd_68 G) (wd_69 G) (wd_71 G) rfl (wd_71 G) (wd_70 G) (wd_8 G) (wd_72 G) S.1 (c_sEmp G S) (by decide) ⟨_, _, (by decide +kernel : parseMethodDescriptor "()Z" = some ⟨[], some .boolean⟩), rfl⟩ (by decide +kernel) (Wd := 0) (by decide) (Nat.le_of_ble_eq_true rfl) (by decide) (by decide) (by decide)
  obtain ⟨rfl, rfl⟩ := qA4
  have A5 := A4.ifT (cd := .eq) (o := 35) (by decide +kernel) (by show _ = _; rw [bit, if_neg h0]) (pe := 45) (by decide)
  have A6 := A5.run [(45, .iconst 0, 46, 0), (46, .istore_n 2, 47, 0)] (pe := 47) (by decide +kernel) rfl
  exact ⟨_, _, _, _, l_rqn G S hn hs cs.length 0 _ (by omega) (Or.inl rfl) A6, ⟨rfl, rfl⟩, by decide, by decide⟩
abbrev PN : String := "com/example/rightful_roles/rightfulroles/core/Permission"
def PermAt (Z : State) (H : HP) (a s t : Addr) : Prop := Exa Z H.1 a PN ∧ Fld Z H.1 a PN "operation" "Ljava/lang/String;" (.ref s) ∧ Fld Z H.1 a PN "object" "Ljava/lang/String;" (.ref t)
theorem PermAt.ky {H H' : HP} {a s t : Addr} (F : PermAt Z H a s t) (K : Kp H H' []) : PermAt Z H' a s t := ⟨F.1.ky K, F.2.1.ky K, F.2.2.ky K⟩
set_option maxRecDepth 65536 in
theorem c_pI (G : Glb Z a0) {x s t : Addr} {cs ds : List Int32} (S : Str Z H s cs) (T : Str Z H t ds) (n1 : cs.length < 2 ^ 30) (n2 : ds.length < 2 ^ 30) (hl1 : ∀ c ∈ cs, ¬ sur c) (hl2 : ∀ c ∈ ds, ¬ sur c) (h1 : cs ≠ []) (h2 : ds ≠ []) (E : Exa Z H.1 x PN) (P : Fld Z H.1 x PN "operation" "Ljava/lang/String;" .null) (O : Fld Z H.1 x PN "object" "Ljava/lang/String;" .null) (o : H.2 x) :
    Ct l Z EL0 (⟨"com/example/rightful_roles/rightfulroles/core/Permission", "<init>", "(Ljava/lang/String;Ljava/lang/String;)V"⟩ : MethodName) prog_12_method_1_code 3 (none) ({ frames := 5, cells := 4, slots := 68, locals := 74 } : Room) [] [.ref x, .ref s, .ref t] H (fun v H' => v = none ∧ Kp H H' [x] ∧ PermAt Z H' x s t) := by
  refine Ct.in G (by first | exact plainFor_of_name (by simp [plainName, overriddenIn]; done) | decide +kernel) (ls := [.val (.ref x), .val (.ref s), .val (.ref t)]) rfl rfl fun D A0 => ?_
  have A1 := A0.run [(0, .aload_n 0, 1, 0)] (pe := 1) (by decide +kernel) rfl
  have A2 := A1.initO (wd_56 G) (wd_26 G) (wd_27 G) (by decide +kernel) (Wd := 0) (by decide) (Nat.le_of_ble_eq_true rfl) (by decide)
  have A3 := A2.run [(4, .aload_n 0, 5, 0), (5, .aload_n 1, 6, 0)] (pe := 6) (by decide +kernel) rfl
  obtain ⟨w1, H4, A4, K4⟩ := A3.ldcSo (wd_57 G) (by decide +kernel) (q := 36) (by decide +kernel) (by decide) (by decide) (by decide)
  obtain ⟨_, HA5, qA5, A5, moA5, szA5⟩ := A4.callS (argsL := [.ref s, .ref w1]) (wd_60 G) (wd_61 G) (wd_62 G) (wd_63 G) (c_rqn G (S.ky K4) n1 hl1 h1) (by decide) ⟨_, _, (by decide +kernel : parseMethodDescriptor "(Ljava/lang/String;Ljava/lang/String;)Ljava/lang/String;" = some ⟨[(.object "java/lang/String"), (.object "java/lang/String")], some (.object "java/lang/String")⟩), rfl⟩ (by decide +kernel) (Wd := 1) (by decide) (Nat.le_of_ble_eq_true rfl) (by decide) (by decide) (by decide)
  obtain ⟨rfl, rfl⟩ := qA5
  obtain ⟨H6, A6, K6, W6⟩ := A5.putFin (wd_107 G) (P.ky K4) (E.ky K4) (wd_108 G) rfl rfl (wd_51 G) (K4.2 _ o) (by decide +kernel) (ty := .object "java/lang/String") (by decide) rfl rfl
  have A7 := A6.run [(14, .aload_n 0, 15, 0), (15, .aload_n 2, 16, 0)] (pe := 16) (by decide +kernel) rfl
  obtain ⟨w2, H8, A8, K8⟩ := A7.ldcSo (wd_109 G) (by decide +kernel) (q := 24) (by decide +kernel) (by decide) (by decide) (by decide)
  have wP := (wd_51 G)
  have T6 := (T.ky K4).kyE K6 (E.ky K4) (by decide) wP
  obtain ⟨_, HA9, qA9, A9, moA9, szA9⟩ := A8.callS (argsL := [.ref t, .ref w2]) (wd_60 G) (wd_61 G) (wd_62 G) (wd_63 G) (c_rqn G (T6.ky K8) n2 hl2 h2) (by decide) ⟨_, _, (by decide +kernel : parseMethodDescriptor "(Ljava/lang/String;Ljava/lang/String;)Ljava/lang/String;" = some ⟨[(.object "java/lang/String"), (.object "java/lang/String")], some (.object "java/lang/String")⟩), rfl⟩ (by decide +kernel) (Wd := 1) (by decide) (Nat.le_of_ble_eq_true rfl) (by decide) (by decide) (by decide)
  obtain ⟨rfl, rfl⟩ := qA9
  have lo := (wd_108 G)
  have lb := (wd_111 G)
  have sne := slot_ne (Z := Z) (Or.inr lo) (Or.inr lb) (by decide) (t := .object "java/lang/String") (by decide) (t' := .object "java/lang/String") (by decide)
  have O6 := ((O.ky K4).other W6 (Or.inr (Ne.symm sne))).ky K8
  have E8 := ((E.ky K4).ky K6).ky K8
  obtain ⟨H10, A10, K10, W10⟩ := A9.putFin (wd_110 G) O6 E8 lb rfl rfl wP (K8.2 _ (K6.2 _ (K4.2 _ o))) (by decide +kernel) (ty := .object "java/lang/String") (by decide) rfl rfl
  have P10 := (((P.ky K4).same W6).ky K8).other W10 (Or.inr sne)
  refine ⟨_, _, _, _, A10.ret (by decide +kernel), ⟨rfl, ?_, E8.ky K10, P10, O6.same W10⟩, by decide, by decide⟩
  exact (((K4.wide fun x hx => nomatch hx).trans K6 fun x hx => Or.inl hx).trans K8 fun x hx => nomatch hx).trans K10 fun x hx => Or.inl hx
theorem c_canU (G : Glb Z a0) {c : Int32} (h : (255 : Int32) < c) : Ct l Z EL0 (⟨"java/lang/StringLatin1", "canEncode", "(C)Z"⟩ : MethodName) jdk_43_method_3_code 1 ((some .boolean)) ({ frames := 0, cells := 0, slots := 0, locals := 0 } : Room) [] [.int c] H (fun v H' => v = some (.int 0) ∧ H = H') := by
  refine Ct.in G (by first | exact plainFor_of_name (by simp [plainName, overriddenIn]; done) | decide +kernel) (ls := [.val (.int c)]) rfl rfl fun D A0 => ?_
  have A1 := A0.run [(0, .iload_n 0, 1, 0), (1, .sipush 255, 4, 255)] (pe := 4) (by decide +kernel) rfl
  have A2 := A1.icT (cd := .gt) (o := 7) (by decide +kernel) h (pe := 11) (by decide)
  have A3 := A2.run [(11, .iconst 0, 12, 0)] (pe := 12) (by decide +kernel) rfl
  exact ⟨_, _, _, _, A3.retZ (by decide +kernel) rfl, ⟨rfl, rfl⟩, by decide, by decide⟩
theorem c_tb2 (G : Glb Z a0) {c : Int32} : Ct l Z EL0 (⟨"java/lang/StringUTF16", "toBytes", "(C)[B"⟩ : MethodName) jdk_52_method_24_code 2 ((some (.array .byte))) ({ frames := 1, cells := 1, slots := 2, locals := 14 } : Room) [] [.int c] H (fun v H' => ∃ t, v = some (.ref t) ∧ H.1.size ≤ t ∧ Kp H H' [] ∧ Ar Z H' t .byte (enc16 [c]) ∧ H'.2 t) := by
  refine Ct.in G (by first | exact plainFor_of_name (by simp [plainName, overriddenIn]; done) | decide +kernel) (ls := [.val (.int c), .unset]) rfl rfl fun D A0 => ?_
  have A1 := A0.run [(0, .iconst 2, 1, 2)] (pe := 1) (by decide +kernel) rfl
  obtain ⟨t, H1, A2, hge, K1, T1, o1⟩ := A1.newA (aty := .byte) (wd_20 G) (by decide +kernel) (N := 2) rfl (cap := 2) (by decide) (by decide) (by decide) (by decide)
  have A3 := A2.run [(3, .astore_n 1, 4, 0), (4, .aload_n 1, 5, 0), (5, .iconst 0, 6, 0), (6, .iload_n 0, 7, 0)] (pe := 7) (by decide +kernel) rfl
  obtain ⟨_, HA4, qA4, A4, moA4, szA4⟩ := A3.callS (argsL := [.ref t, .int (0 : Nat).toInt32, .int c]) (wd_240 G) (wd_241 G) (wd_42 G) (wd_242 G) (c_pch G (i := 0) T1 o1 (by simp)) (by decide) ⟨_, _, (by decide +kernel : parseMethodDescriptor "([BII)V" = some ⟨[(.array .byte), .int, .int], none⟩), rfl⟩ (by decide +kernel) (Wd := 0) (by decide) (Nat.le_of_ble_eq_true rfl) (by decide) (by decide) (by decide)
  obtain ⟨rfl, K2, T2⟩ := qA4
  have A5 := A4.run [(10, .aload_n 1, 11, 0)] (pe := 11) (by decide +kernel) rfl
  exact ⟨_, _, _, _, A5.retA (by decide +kernel) rfl rfl, ⟨t, rfl, hge, K1.trans K2 (fun y hy => by cases List.mem_singleton.mp hy; exact Or.inr hge), T2, K2.2 _ o1⟩, by decide, by decide⟩
theorem c_vofU (G : Glb Z a0) {c : Int32} (hC : isC c) (h : (255 : Int32) < c) : Ct l Z EL0 (⟨"java/lang/String", "valueOf", "(C)Ljava/lang/String;"⟩ : MethodName) jdk_42_method_139_code 1 ((some (.object "java/lang/String"))) ({ frames := 2, cells := 2, slots := 6, locals := 29 } : Room) [] [.int c] H (fun v H' => ∃ s, v = some (.ref s) ∧ H.1.size ≤ s ∧ Kp H H' [] ∧ Str Z H' s [c]) := by
  refine Ct.in G (by first | exact plainFor_of_name (by simp [plainName, overriddenIn]; done) | decide +kernel) (ls := [.val (.int c)]) rfl rfl fun D A0 => ?_
  obtain ⟨cz, hcz, cS⟩ := G_compact G
  have A1 := A0.getS (wd_10 G) cS (by decide +kernel)
  have A2 := A1.ifF (cd := .eq) (o := 23) (by decide +kernel) hcz
  have A3 := A2.run [(6, .iload_n 0, 7, 0)] (pe := 7) (by decide +kernel) rfl
  obtain ⟨_, HA4, qA4, A4, moA4, szA4⟩ := A3.callS (argsL := [.int c]) (wd_11 G) (wd_12 G) (wd_13 G) (wd_14 G) (c_canU G h) (by decide) ⟨_, _, (by decide +kernel : parseMethodDescriptor "(C)Z" = some ⟨[.char], some .boolean⟩), rfl⟩ (by decide +kernel) (Wd := 0) (by decide) (Nat.le_of_ble_eq_true rfl) (by decide) (by decide) (by decide)
  obtain ⟨rfl, rfl⟩ := qA4
  have A5 := A4.ifT (cd := .eq) (o := 16) (by decide +kernel) rfl (pe := 26) (by decide)
  obtain ⟨s, H1, A6, hge, K1, E, o, Df⟩ := A5.newO (wd_15 G) (wd_16 G) (wd_8 G) (by decide +kernel) (by decide) (by decide)
  have A7 := A6.run [(29, .dup, 30, 0), (30, .iload_n 0, 31, 0)] (pe := 31) (by decide +kernel) rfl
  obtain ⟨_, HA8, qA8, A8, moA8, szA8⟩ := A7.callS (argsL := [.int c]) (wd_289 G) (wd_290 G) (wd_42 G) (wd_291 G) (c_tb2 G) (by decide) ⟨_, _, (by decide +kernel : parseMethodDescriptor "(C)[B" = some ⟨[.char], some (.array .byte)⟩), rfl⟩ (by decide +kernel) (Wd := 2) (by decide) (Nat.le_of_ble_eq_true rfl) (by decide) (by decide) (by decide)
  obtain ⟨t, rfl, ht, K2, T, o2⟩ := qA8
  have A9 := A8.run [(34, .iconst 1, 35, 1)] (pe := 35) (by decide +kernel) rfl
  obtain ⟨_, HA10, qA10, A10, moA10, szA10⟩ := A9.callI (argsL := [.ref t, .int 1]) rfl (wd_21 G) (wd_22 G) (wd_8 G) (wd_24 G) (c_sIB G (cs := [c]) (fun d hd => by cases List.mem_singleton.mp hd; exact hC) (Or.inr ⟨fun q => q c List.mem_cons_self h, rfl, T⟩) (E.ky K2) ((Df (Or.inr (wd_29 G)) (t := .array .byte) (by decide)).ky K2) ((Df (Or.inr (wd_31 G)) (t := .byte) (by decide)).ky K2) (K2.2 _ o)) (by decide) ⟨_, _, (by decide +kernel : parseMethodDescriptor "([BB)V" = some ⟨[(.array .byte), .byte], none⟩), rfl⟩ (by decide +kernel) (Wd := 1) (by decide) (Nat.le_of_ble_eq_true rfl) (by decide) (by decide) (by decide)
  obtain ⟨rfl, K3, S⟩ := qA10
  exact ⟨_, _, _, _, A10.retA (by decide +kernel) rfl rfl, ⟨s, rfl, hge, (K1.tr K2).trans K3 (fun y hy => by cases List.mem_singleton.mp hy; exact Or.inr hge), S⟩, by decide, by decide⟩
theorem c_vof (G : Glb Z a0) {c : Int32} (hC : isC c) : Ct l Z EL0 (⟨"java/lang/String", "valueOf", "(C)Ljava/lang/String;"⟩ : MethodName) jdk_42_method_139_code 1 ((some (.object "java/lang/String"))) ({ frames := 2, cells := 2, slots := 6, locals := 29 } : Room) [] [.int c] H (fun v H' => ∃ s, v = some (.ref s) ∧ H.1.size ≤ s ∧ Kp H H' [] ∧ Str Z H' s [c]) := by
  by_cases h : (255 : Int32) < c
  · exact c_vofU G hC h
  · exact c_vofL G hC h
abbrev e16i (cs : List Int32) : List Int32 := cs.flatMap fun c => [b8 c, b8 (c >>> (8 &&& 31))]
theorem enc16_chs : ∀ cs : List Int32, enc16 cs = chs (e16i cs)
  | [] => rfl
  | c :: r => by
    have := enc16_chs r
    simp only [enc16, e16i, chs, List.flatMap_cons, List.map_append] at this ⊢
    rw [this]; rfl
set_option maxRecDepth 65536 in
theorem c_seqU (G : Glb Z a0) {a b : Addr} {cs : List Int32} (hab : a ≠ b) (S : Str Z H a cs) (S2 : Str Z H b cs) (hla : ¬ Lat cs) :
    Ct l Z EL0 (⟨"java/lang/String", "equals", "(Ljava/lang/Object;)Z"⟩ : MethodName) jdk_42_method_66_code 3 ((some .boolean)) ({ frames := 1, cells := 0, slots := 0, locals := 14 } : Room) [] [.ref a, .ref b] H (fun v H' => v = some (.int 1) ∧ H = H') := by
  refine Ct.in G (by first | exact plainFor_of_name (by simp [plainName, overriddenIn]; done) | decide +kernel) (ls := [.val (.ref a), .val (.ref b), .unset]) rfl rfl fun D A0 => ?_
  obtain ⟨E, t, V, C, T⟩ := S.opU hla
  obtain ⟨E2, u, V2, C2, U⟩ := S2.opU hla
  obtain ⟨cz, hcz, cS⟩ := G_compact G
  have A1 := A0.run [(0, .aload_n 0, 1, 0), (1, .aload_n 1, 2, 0)] (pe := 2) (by decide +kernel) rfl
  have A2 := A1.acmp (cd := .ne) (o := 5) (by decide +kernel) rfl rfl (same := false) (decide_eq_false fun e => hab (Value.ref.inj e)) (pe := 7) (by decide) rfl
  have A3 := A2.run [(7, .aload_n 1, 8, 0)] (pe := 8) (by decide +kernel) rfl
  have A4 := A3.instY (wd_15 G) (Ins.self E2) (by decide +kernel)
  have A5 := A4.ifF (cd := .eq) (o := 43) (by decide +kernel) (by show ¬ _ = _; decide)
  have A6 := A5.run [(14, .aload_n 1, 15, 0)] (pe := 15) (by decide +kernel) rfl
  have A7 := A6.castY (wd_15 G) (Ins.self E2) (by decide +kernel)
  have A8 := A7.run [(18, .astore_n 2, 19, 0)] (pe := 19) (by decide +kernel) rfl
  have A9 := A8.getS (wd_10 G) cS (by decide +kernel)
  have A10 := A9.ifF (cd := .eq) (o := 14) (by decide +kernel) hcz
  have A11 := A10.run [(25, .aload_n 0, 26, 0)] (pe := 26) (by decide +kernel) rfl
  have A12 := A11.getF (wd_30 G) C (by decide +kernel)
  have A13 := A12.run [(29, .aload_n 2, 30, 0)] (pe := 30) (by decide +kernel) rfl
  have A14 := A13.getF (wd_30 G) C2 (by decide +kernel)
  have A15 := A14.icF (cd := .ne) (o := 21) (by decide +kernel) (not_not_intro rfl)
  have A16 := A15.run [(36, .aload_n 0, 37, 0)] (pe := 37) (by decide +kernel) rfl
  have A17 := A16.getF (wd_28 G) V (by decide +kernel)
  have A18 := A17.run [(40, .aload_n 2, 41, 0)] (pe := 41) (by decide +kernel) rfl
  have A19 := A18.getF (wd_28 G) V2 (by decide +kernel)
  rw [enc16_chs] at T U
  obtain ⟨_, HA20, qA20, A20, moA20, szA20⟩ := A19.callS (argsL := [.ref t, .ref u]) (wd_226 G) (wd_227 G) (wd_13 G) (wd_228 G) (c_leq G T U) (by decide) ⟨_, _, (by decide +kernel : parseMethodDescriptor "([B[B)Z" = some ⟨[(.array .byte), (.array .byte)], some .boolean⟩), rfl⟩ (by decide +kernel) (Wd := 0) (by decide) (Nat.le_of_ble_eq_true rfl) (by decide) (by decide) (by decide)
  obtain ⟨rfl, rfl⟩ := qA20
  have A21 := A20.ifF (cd := .eq) (o := 7) (by decide +kernel) (by show ¬ _ = _; rw [bit, if_pos rfl]; decide)
  have A22 := A21.run [(50, .iconst 1, 51, 1), (51, .goto 4, 55, 0)] (pe := 55) (by decide +kernel) rfl
  exact ⟨_, _, _, _, A22.retZ (by decide +kernel) rfl, ⟨rfl, rfl⟩, by decide, by decide⟩
theorem c_seqEq (G : Glb Z a0) {a b : Addr} {cs : List Int32} (hab : a ≠ b) (S : Str Z H a cs) (S2 : Str Z H b cs) :
    Ct l Z EL0 (⟨"java/lang/String", "equals", "(Ljava/lang/Object;)Z"⟩ : MethodName) jdk_42_method_66_code 3 ((some .boolean)) ({ frames := 1, cells := 0, slots := 0, locals := 14 } : Room) [] [.ref a, .ref b] H (fun v H' => v = some (.int 1) ∧ H = H') := by
  by_cases hla : Lat cs
  · have h := c_seqL (l := l) G hab S S2 hla hla
    rw [show bit (cs = cs) = 1 from if_pos rfl] at h; exact h
  · exact c_seqU G hab S S2 hla
theorem two {a b : Addr} {n : Nat} (h1 : n ≤ a) (h2 : n ≤ b) : ∀ y ∈ [a, b], n ≤ y := fun y hy => by
  rcases List.mem_cons.mp hy with rfl | hy
  · exact h1
  · cases List.mem_singleton.mp hy; exact h2
set_option maxRecDepth 65536 in
set_option maxHeartbeats 2000000 in
theorem c_pts (G : Glb Z a0) {p s t : Addr} {cs ds : List Int32} (F : PermAt Z H p s t) (S : Str Z H s cs) (T : Str Z H t ds) (hl : cs.length ≤ 2) (hl2 : ds.length ≤ 2) :
    Ct l Z EL0 (⟨"com/example/rightful_roles/rightfulroles/core/Permission", "toString", "()Ljava/lang/String;"⟩ : MethodName) prog_12_method_7_code 1 ((some (.object "java/lang/String"))) ({ frames := 10, cells := 20, slots := 400, locals := 143 } : Room) [] [.ref p] H (fun v H' => ∃ u, v = some (.ref u) ∧ H.1.size ≤ u ∧ Kp H H' [] ∧ Str Z H' u ([40] ++ cs ++ [44, 32] ++ ds ++ [41])) := by
  refine Ct.in G (by first | exact plainFor_of_name (by simp [plainName, overriddenIn]; done) | decide +kernel) (ls := [.val (.ref p)]) rfl rfl fun D A0 => ?_
  obtain ⟨st, ST, hst⟩ := S.t
  obtain ⟨tt, TT, htt⟩ := T.t
  obtain ⟨x, H2, B1, gx, K2, E, o, Df⟩ := A0.newO (wd_117 G) (wd_118 G) (wd_119 G) (by decide +kernel) (by decide) (by decide)
  have B2 := B1.run [(3, .dup, 4, 0)] (pe := 4) (by decide +kernel) rfl
  obtain ⟨_, HB3, qB3, B3, moB3, szB3⟩ := B2.callI (argsL := []) rfl (wd_120 G) (wd_121 G) (wd_119 G) (wd_122 G) (c_sbIg G E (Df (Or.inl (wd_132 G)) (t := .array .byte) (by decide)) (Df (Or.inl (wd_134 G)) (t := .byte) (by decide)) (Df (Or.inl (wd_148 G)) (t := .int) (by decide)) (Df (Or.inl (wd_288 G)) (t := .boolean) (by decide)) o) (by decide) ⟨_, _, (by decide +kernel : parseMethodDescriptor "()V" = some ⟨[], none⟩), rfl⟩ (by decide +kernel) (Wd := 1) (by decide) (Nat.le_of_ble_eq_true rfl) (by decide) (by decide) (by decide)
  obtain ⟨rfl, K3, v, gv, Q3⟩ := qB3
  have gv0 : H.1.size ≤ v := Nat.le_trans K2.size gv
  have L3 : Kp H HB3 [] := K2.trans K3 (fun y hy => Or.inr (by cases List.mem_singleton.mp hy; exact gx))
  obtain ⟨sp, tp, Hp, B4, Kp, Ep, Cp, Vp, Tp, np⟩ := B3.ldcS (wd_135 G) (by decide +kernel) (vs := lo8 [40]) ⟨by decide +kernel, by decide +kernel⟩ (by decide +kernel) (z := 1) (by decide) (by decide) (q := 4) (by decide +kernel) (by decide) (by decide) (by decide)
  have Sp : StrT Z Hp sp tp [40] := ⟨Ep, by decide, Vp, Or.inl ⟨by decide, Cp, Tp⟩⟩
  have htp : tp ≠ v := Ne.symm (np v (Kp.2 _ Q3.2.2.2.2.2.2.2.2.1)).2
  obtain ⟨_, HB5, qB5, B5, moB5, szB5⟩ := B4.callV (argsL := [.ref sp]) (wd_136 G) (wd_137 G) (wd_139 G) rfl (wd_139 G) (wd_138 G) (wd_119 G) (wd_140 G) (Q3.ky Kp).1 (c_sbAg G (Q3.ky Kp) (Or.inl ⟨rfl, fun c hc => nomatch hc⟩) Sp htp (by simp) (by decide)) (by decide) ⟨_, _, (by decide +kernel : parseMethodDescriptor "(Ljava/lang/String;)Ljava/lang/StringBuilder;" = some ⟨[(.object "java/lang/String")], some (.object "java/lang/StringBuilder")⟩), rfl⟩ (by decide +kernel) (Wd := 0) (by decide) (Nat.le_of_ble_eq_true rfl) (by decide) (by decide) (by decide)
  obtain ⟨rfl, K5, u5, b5, hu5, hB5, Q5⟩ := qB5
  have L5 := (L3.tr Kp).trans K5 (fun y hy => Or.inr (two gx gv0 y hy))
  have gu5 : H.1.size ≤ u5 := hu5.elim (fun e => e ▸ gv0) (fun e => Nat.le_trans (L3.tr Kp).size e)
  have B6 := B5.run [(12, .aload_n 0, 13, 0)] (pe := 13) (by decide +kernel) rfl
  have B7 := B6.getF (wd_107 G) (F.ky L5).2.1 (by decide +kernel)
  have ST5 := ST.ky L5 List.not_mem_nil List.not_mem_nil
  obtain ⟨_, HB8, qB8, B8, moB8, szB8⟩ := B7.callV (argsL := [.ref s]) (wd_136 G) (wd_137 G) (wd_139 G) rfl (wd_139 G) (wd_138 G) (wd_119 G) (wd_140 G) Q5.1 (c_sbAg G Q5 hB5 ST5 (Nat.ne_of_lt (Nat.lt_of_lt_of_le hst gu5)) (by simp; omega) (by decide)) (by decide) ⟨_, _, (by decide +kernel : parseMethodDescriptor "(Ljava/lang/String;)Ljava/lang/StringBuilder;" = some ⟨[(.object "java/lang/String")], some (.object "java/lang/StringBuilder")⟩), rfl⟩ (by decide +kernel) (Wd := 0) (by decide) (Nat.le_of_ble_eq_true rfl) (by decide) (by decide) (by decide)
  obtain ⟨rfl, K8, u8, b8, hu8, hB8, Q8⟩ := qB8
  have L8 := L5.trans K8 (fun y hy => Or.inr (two gx gu5 y hy))
  have gu8 : H.1.size ≤ u8 := hu8.elim (fun e => e ▸ gu5) (fun e => Nat.le_trans L5.size e)
  obtain ⟨sq, tq, Hq, B9, Kq, Eq, Cq, Vq, Tq, nq⟩ := B8.ldcS (wd_174 G) (by decide +kernel) (vs := lo8 [44, 32]) ⟨by decide +kernel, by decide +kernel⟩ (by decide +kernel) (z := 2) (by decide) (by decide) (q := 8) (by decide +kernel) (by decide) (by decide) (by decide)
  have Sq : StrT Z Hq sq tq [44, 32] := ⟨Eq, by decide, Vq, Or.inl ⟨by decide, Cq, Tq⟩⟩
  have htq : tq ≠ u8 := Ne.symm (nq u8 (Kq.2 _ Q8.2.2.2.2.2.2.2.2.1)).2
  obtain ⟨_, HB10, qB10, B10, moB10, szB10⟩ := B9.callV (argsL := [.ref sq]) (wd_136 G) (wd_137 G) (wd_139 G) rfl (wd_139 G) (wd_138 G) (wd_119 G) (wd_140 G) (Q8.ky Kq).1 (c_sbAg G (Q8.ky Kq) hB8 Sq htq (by simp; omega) (by decide)) (by decide) ⟨_, _, (by decide +kernel : parseMethodDescriptor "(Ljava/lang/String;)Ljava/lang/StringBuilder;" = some ⟨[(.object "java/lang/String")], some (.object "java/lang/StringBuilder")⟩), rfl⟩ (by decide +kernel) (Wd := 0) (by decide) (Nat.le_of_ble_eq_true rfl) (by decide) (by decide) (by decide)
  obtain ⟨rfl, K10, u10, b10, hu10, hB10, Q10⟩ := qB10
  have L10 := (L8.tr Kq).trans K10 (fun y hy => Or.inr (two gx gu8 y hy))
  have gu10 : H.1.size ≤ u10 := hu10.elim (fun e => e ▸ gu8) (fun e => Nat.le_trans (L8.tr Kq).size e)
  have B11 := B10.run [(24, .aload_n 0, 25, 0)] (pe := 25) (by decide +kernel) rfl
  have B12 := B11.getF (wd_110 G) (F.ky L10).2.2 (by decide +kernel)
  have TT10 := TT.ky L10 List.not_mem_nil List.not_mem_nil
  obtain ⟨_, HB13, qB13, B13, moB13, szB13⟩ := B12.callV (argsL := [.ref t]) (wd_136 G) (wd_137 G) (wd_139 G) rfl (wd_139 G) (wd_138 G) (wd_119 G) (wd_140 G) Q10.1 (c_sbAg G Q10 hB10 TT10 (Nat.ne_of_lt (Nat.lt_of_lt_of_le htt gu10)) (by simp; omega) (by decide)) (by decide) ⟨_, _, (by decide +kernel : parseMethodDescriptor "(Ljava/lang/String;)Ljava/lang/StringBuilder;" = some ⟨[(.object "java/lang/String")], some (.object "java/lang/StringBuilder")⟩), rfl⟩ (by decide +kernel) (Wd := 0) (by decide) (Nat.le_of_ble_eq_true rfl) (by decide) (by decide) (by decide)
  obtain ⟨rfl, K13, u13, b13, hu13, hB13, Q13⟩ := qB13
  have L13 := L10.trans K13 (fun y hy => Or.inr (two gx gu10 y hy))
  have gu13 : H.1.size ≤ u13 := hu13.elim (fun e => e ▸ gu10) (fun e => Nat.le_trans L10.size e)
  obtain ⟨sz, tz, Hz, B14, Kz, Ez, Cz, Vz, Tz, nz⟩ := B13.ldcS (wd_175 G) (by decide +kernel) (vs := lo8 [41]) ⟨by decide +kernel, by decide +kernel⟩ (by decide +kernel) (z := 1) (by decide) (by decide) (q := 4) (by decide +kernel) (by decide) (by decide) (by decide)
  have Sz : StrT Z Hz sz tz [41] := ⟨Ez, by decide, Vz, Or.inl ⟨by decide, Cz, Tz⟩⟩
  have htz : tz ≠ u13 := Ne.symm (nz u13 (Kz.2 _ Q13.2.2.2.2.2.2.2.2.1)).2
  obtain ⟨_, HB15, qB15, B15, moB15, szB15⟩ := B14.callV (argsL := [.ref sz]) (wd_136 G) (wd_137 G) (wd_139 G) rfl (wd_139 G) (wd_138 G) (wd_119 G) (wd_140 G) (Q13.ky Kz).1 (c_sbAg G (Q13.ky Kz) hB13 Sz htz (by simp; omega) (by decide)) (by decide) ⟨_, _, (by decide +kernel : parseMethodDescriptor "(Ljava/lang/String;)Ljava/lang/StringBuilder;" = some ⟨[(.object "java/lang/String")], some (.object "java/lang/StringBuilder")⟩), rfl⟩ (by decide +kernel) (Wd := 0) (by decide) (Nat.le_of_ble_eq_true rfl) (by decide) (by decide) (by decide)
  obtain ⟨rfl, K15, u15, b15, hu15, hB15, Q15⟩ := qB15
  have L15 := (L13.tr Kz).trans K15 (fun y hy => Or.inr (two gx gu13 y hy))
  obtain ⟨_, HB16, qB16, B16, moB16, szB16⟩ := B15.callV (argsL := []) (wd_176 G) (wd_177 G) (wd_179 G) rfl (wd_179 G) (wd_178 G) (wd_119 G) (wd_180 G) Q15.1 (c_tosg G Q15 hB15 (by simp; omega) (by simp; omega)) (by decide) ⟨_, _, (by decide +kernel : parseMethodDescriptor "()Ljava/lang/String;" = some ⟨[], some (.object "java/lang/String")⟩), rfl⟩ (by decide +kernel) (Wd := 0) (by decide) (Nat.le_of_ble_eq_true rfl) (by decide) (by decide) (by decide)
  obtain ⟨u, rfl, gu, K16, U⟩ := qB16
  exact ⟨_, _, _, _, B16.retA (by decide +kernel) rfl rfl, ⟨u, rfl, Nat.le_trans L15.size gu, L15.tr K16, U⟩, by decide, by decide⟩
set_option maxRecDepth 65536 in
theorem l_op (G : Glb Z a0) {i0 i1 i2 i3 i4 c0 c1 c2 c3 : Int32} {e9 e10 : Int32} (hc0 : isC c0) (hc1 : isC c1) (hb : isB e9) (A0 : Wk l Z a0 EL0 "com/example/rightful_roles/rightfulroles/core/PermissionToStringPinLaw" code maxLocals "law" ret room_1 D 52 [.val (.int i0), .val (.int i1), .val (.int i2), .val (.int i3), .val (.int i4), .val (.int c0), .val (.int c1), .val (.int c2), .val (.int c3), .val (.int e9), .val (.int e10), .unset, .unset, .unset, .unset] [] H 0 0) :
    ∃ cs s H1, (e9 = 0 ∧ cs = [c0] ∨ e9 = 1 ∧ cs = [c0, c1]) ∧ H.1.size ≤ s ∧ Kp H H1 [] ∧ Str Z H1 s cs ∧ Wk l Z a0 EL0 "com/example/rightful_roles/rightfulroles/core/PermissionToStringPinLaw" code maxLocals "law" ret room_1 D 87 [.val (.int i0), .val (.int i1), .val (.int i2), .val (.int i3), .val (.int i4), .val (.int c0), .val (.int c1), .val (.int c2), .val (.int c3), .val (.int e9), .val (.int e10), .val (.ref s), .unset, .unset, .unset] [] H1 4 80 := by
  have A1 := A0.run [(52, .iload 9, 54, 0)] (pe := 54) (by decide +kernel) rfl
  rcases hb with rfl | rfl
  · have A2 := A1.ifT (cd := .eq) (o := 26) (by decide +kernel) rfl (pe := 80) (by decide)
    have A3 := A2.run [(80, .iload 5, 82, 0)] (pe := 82) (by decide +kernel) rfl
    obtain ⟨_, HA4, qA4, A4, moA4, szA4⟩ := A3.callS (argsL := [.int c0]) (wd_6 G) (wd_7 G) (wd_8 G) (wd_9 G) (c_vof G hc0) (by decide) ⟨_, _, (by decide +kernel : parseMethodDescriptor "(C)Ljava/lang/String;" = some ⟨[.char], some (.object "java/lang/String")⟩), rfl⟩ (by decide +kernel) (Wd := 0) (by decide) (Nat.le_of_ble_eq_true rfl) (by decide) (by decide) (by decide)
    obtain ⟨s, rfl, gs, K, S⟩ := qA4
    have A5 := A4.run [(85, .astore 11, 87, 0)] (pe := 87) (by decide +kernel) rfl
    exact ⟨_, s, _, Or.inl ⟨rfl, rfl⟩, gs, K, S, A5.more (by decide) (by decide)⟩
  · have A2 := A1.ifF (cd := .eq) (o := 26) (by decide +kernel) (by show ¬ _ = _; decide)
    obtain ⟨sq, H1q, P1q, gq, K1q, Eq, o1q, Dq⟩ := A2.newO (wd_32 G) (wd_16 G) (wd_8 G) (by decide +kernel) (by decide) (by decide)
    have P2q := P1q.run [(60, .dup, 61, 0), (61, .iconst 2, 62, 2)] (pe := 62) (by decide +kernel) rfl
    obtain ⟨caq, H2q, P3q, gaq, K2q, T0q, oaq⟩ := P2q.newA (aty := .char) (wd_33 G) (by decide +kernel) (N := 2) rfl (cap := 2) (by decide) (by decide) (by decide) (by decide)
    have hsq : sq ∉ [caq] := by simpa using Nat.ne_of_lt (Nat.lt_of_lt_of_le Eq.lt gaq)
    have Q0q := P3q.run [(64, .dup, 65, 0), (65, .iconst 0, 66, 0), (66, .iload 5, 68, 0)] (pe := 68) (by decide +kernel) rfl
    obtain ⟨G0q, R0q, J0q, T1q⟩ := Q0q.castore T0q oaq (by decide +kernel) (i := 0) rfl (by simp) (isC_nar hc0)
    have Q1q := R0q.run [(69, .dup, 70, 0), (70, .iconst 1, 71, 1), (71, .iload 6, 73, 0)] (pe := 73) (by decide +kernel) rfl
    obtain ⟨G1q, R1q, J1q, T2q⟩ := Q1q.castore T1q (J0q.2 _ oaq) (by decide +kernel) (i := 1) rfl (by simp) (isC_nar hc1)
    obtain ⟨_, HA3, qA3, A3, moA3, szA3⟩ := R1q.callI (argsL := [.ref caq]) rfl (wd_34 G) (wd_35 G) (wd_8 G) (wd_36 G) (c_sI1 G (cs := [c0, c1]) T2q (c_sI4 G T2q (by simp) (by simp) (((Eq.ky K2q).ky J0q).ky J1q) ((((Dq (Or.inr (wd_29 G)) (t := .array .byte) (by decide)).ky K2q).ky J0q hsq).ky J1q hsq) ((((Dq (Or.inr (wd_31 G)) (t := .byte) (by decide)).ky K2q).ky J0q hsq).ky J1q hsq) (J1q.2 _ (J0q.2 _ (K2q.2 _ o1q))))) (by decide) ⟨_, _, (by decide +kernel : parseMethodDescriptor "([C)V" = some ⟨[(.array .char)], none⟩), rfl⟩ (by decide +kernel) (Wd := 1) (by decide) (Nat.le_of_ble_eq_true rfl) (by decide) (by decide) (by decide)
    obtain ⟨rfl, K9q, Sq⟩ := qA3
    have Kq := (((K1q.tr K2q).trans J0q (fun y hy => by cases List.mem_singleton.mp hy; exact Or.inr (Nat.le_trans K1q.size gaq))).trans J1q (fun y hy => by cases List.mem_singleton.mp hy; exact Or.inr (Nat.le_trans K1q.size gaq))).trans K9q (fun y hy => by cases List.mem_singleton.mp hy; exact Or.inr gq)
    have A5 := A3.run [(77, .goto 8, 85, 0), (85, .astore 11, 87, 0)] (pe := 87) (by decide +kernel) rfl
    exact ⟨_, sq, _, Or.inr ⟨rfl, rfl⟩, gq, Kq, Sq, A5.more (by decide) (by decide)⟩
set_option maxRecDepth 65536 in
theorem l_ob (G : Glb Z a0) {i0 i1 i2 i3 i4 c0 c1 c2 c3 : Int32} {e9 e10 : Int32} {so : Addr} (hc2 : isC c2) (hc3 : isC c3) (hb : isB e10) (A0 : Wk l Z a0 EL0 "com/example/rightful_roles/rightfulroles/core/PermissionToStringPinLaw" code maxLocals "law" ret room_1 D 87 [.val (.int i0), .val (.int i1), .val (.int i2), .val (.int i3), .val (.int i4), .val (.int c0), .val (.int c1), .val (.int c2), .val (.int c3), .val (.int e9), .val (.int e10), .val (.ref so), .unset, .unset, .unset] [] H 4 80) :
    ∃ cs s H1, (e10 = 0 ∧ cs = [c2] ∨ e10 = 1 ∧ cs = [c2, c3]) ∧ H.1.size ≤ s ∧ Kp H H1 [] ∧ Str Z H1 s cs ∧ Wk l Z a0 EL0 "com/example/rightful_roles/rightfulroles/core/PermissionToStringPinLaw" code maxLocals "law" ret room_1 D 122 [.val (.int i0), .val (.int i1), .val (.int i2), .val (.int i3), .val (.int i4), .val (.int c0), .val (.int c1), .val (.int c2), .val (.int c3), .val (.int e9), .val (.int e10), .val (.ref so), .val (.ref s), .unset, .unset] [] H1 8 160 := by
  have A1 := A0.run [(87, .iload 10, 89, 0)] (pe := 89) (by decide +kernel) rfl
  rcases hb with rfl | rfl
  · have A2 := A1.ifT (cd := .eq) (o := 26) (by decide +kernel) rfl (pe := 115) (by decide)
    have A3 := A2.run [(115, .iload 7, 117, 0)] (pe := 117) (by decide +kernel) rfl
    obtain ⟨_, HA4, qA4, A4, moA4, szA4⟩ := A3.callS (argsL := [.int c2]) (wd_6 G) (wd_7 G) (wd_8 G) (wd_9 G) (c_vof G hc2) (by decide) ⟨_, _, (by decide +kernel : parseMethodDescriptor "(C)Ljava/lang/String;" = some ⟨[.char], some (.object "java/lang/String")⟩), rfl⟩ (by decide +kernel) (Wd := 0) (by decide) (Nat.le_of_ble_eq_true rfl) (by decide) (by decide) (by decide)
    obtain ⟨s, rfl, gs, K, S⟩ := qA4
    have A5 := A4.run [(120, .astore 12, 122, 0)] (pe := 122) (by decide +kernel) rfl
    exact ⟨_, s, _, Or.inl ⟨rfl, rfl⟩, gs, K, S, A5.more (by decide) (by decide)⟩
  · have A2 := A1.ifF (cd := .eq) (o := 26) (by decide +kernel) (by show ¬ _ = _; decide)
    obtain ⟨sq, H1q, P1q, gq, K1q, Eq, o1q, Dq⟩ := A2.newO (wd_32 G) (wd_16 G) (wd_8 G) (by decide +kernel) (by decide) (by decide)
    have P2q := P1q.run [(95, .dup, 96, 0), (96, .iconst 2, 97, 2)] (pe := 97) (by decide +kernel) rfl
    obtain ⟨caq, H2q, P3q, gaq, K2q, T0q, oaq⟩ := P2q.newA (aty := .char) (wd_33 G) (by decide +kernel) (N := 2) rfl (cap := 2) (by decide) (by decide) (by decide) (by decide)
    have hsq : sq ∉ [caq] := by simpa using Nat.ne_of_lt (Nat.lt_of_lt_of_le Eq.lt gaq)
    have Q0q := P3q.run [(99, .dup, 100, 0), (100, .iconst 0, 101, 0), (101, .iload 7, 103, 0)] (pe := 103) (by decide +kernel) rfl
    obtain ⟨G0q, R0q, J0q, T1q⟩ := Q0q.castore T0q oaq (by decide +kernel) (i := 0) rfl (by simp) (isC_nar hc2)
    have Q1q := R0q.run [(104, .dup, 105, 0), (105, .iconst 1, 106, 1), (106, .iload 8, 108, 0)] (pe := 108) (by decide +kernel) rfl
    obtain ⟨G1q, R1q, J1q, T2q⟩ := Q1q.castore T1q (J0q.2 _ oaq) (by decide +kernel) (i := 1) rfl (by simp) (isC_nar hc3)
    obtain ⟨_, HA3, qA3, A3, moA3, szA3⟩ := R1q.callI (argsL := [.ref caq]) rfl (wd_34 G) (wd_35 G) (wd_8 G) (wd_36 G) (c_sI1 G (cs := [c2, c3]) T2q (c_sI4 G T2q (by simp) (by simp) (((Eq.ky K2q).ky J0q).ky J1q) ((((Dq (Or.inr (wd_29 G)) (t := .array .byte) (by decide)).ky K2q).ky J0q hsq).ky J1q hsq) ((((Dq (Or.inr (wd_31 G)) (t := .byte) (by decide)).ky K2q).ky J0q hsq).ky J1q hsq) (J1q.2 _ (J0q.2 _ (K2q.2 _ o1q))))) (by decide) ⟨_, _, (by decide +kernel : parseMethodDescriptor "([C)V" = some ⟨[(.array .char)], none⟩), rfl⟩ (by decide +kernel) (Wd := 1) (by decide) (Nat.le_of_ble_eq_true rfl) (by decide) (by decide) (by decide)
    obtain ⟨rfl, K9q, Sq⟩ := qA3
    have Kq := (((K1q.tr K2q).trans J0q (fun y hy => by cases List.mem_singleton.mp hy; exact Or.inr (Nat.le_trans K1q.size gaq))).trans J1q (fun y hy => by cases List.mem_singleton.mp hy; exact Or.inr (Nat.le_trans K1q.size gaq))).trans K9q (fun y hy => by cases List.mem_singleton.mp hy; exact Or.inr gq)
    have A5 := A3.run [(112, .goto 8, 120, 0), (120, .astore 12, 122, 0)] (pe := 122) (by decide +kernel) rfl
    exact ⟨_, sq, _, Or.inr ⟨rfl, rfl⟩, gq, Kq, Sq, A5.more (by decide) (by decide)⟩
set_option maxRecDepth 65536 in
set_option maxHeartbeats 1000000 in
theorem l_x8 (G : Glb Z a0) {i0 i1 i2 i3 i4 c0 c1 c2 c3 : Int32} {so sb : Addr} (hc0 : isC c0) (hc1 : isC c1) (hc2 : isC c2) (hc3 : isC c3) (A0 : Wk l Z a0 EL0 "com/example/rightful_roles/rightfulroles/core/PermissionToStringPinLaw" code maxLocals "law" ret room_1 D 132 [.val (.int i0), .val (.int i1), .val (.int i2), .val (.int i3), .val (.int i4), .val (.int c0), .val (.int c1), .val (.int c2), .val (.int c3), .val (.int 1), .val (.int 1), .val (.ref so), .val (.ref sb), .unset, .unset] [] H 8 160) :
    ∃ s H1, H.1.size ≤ s ∧ Kp H H1 [] ∧ Str Z H1 s [40, c0, c1, 44, 32, c2, c3, 41] ∧ Wk l Z a0 EL0 "com/example/rightful_roles/rightfulroles/core/PermissionToStringPinLaw" code maxLocals "law" ret room_1 D 342 [.val (.int i0), .val (.int i1), .val (.int i2), .val (.int i3), .val (.int i4), .val (.int c0), .val (.int c1), .val (.int c2), .val (.int c3), .val (.int 1), .val (.int 1), .val (.ref so), .val (.ref sb), .val (.ref s), .unset] [] H1 12 240 := by
  obtain ⟨sq, H1q, P1q, gq, K1q, Eq, o1q, Dq⟩ := A0.newO (wd_32 G) (wd_16 G) (wd_8 G) (by decide +kernel) (by decide) (by decide)
  have P2q := P1q.run [(135, .dup, 136, 0), (136, .bipush 8, 138, 8)] (pe := 138) (by decide +kernel) rfl
  obtain ⟨caq, H2q, P3q, gaq, K2q, T0q, oaq⟩ := P2q.newA (aty := .char) (wd_33 G) (by decide +kernel) (N := 8) rfl (cap := 8) (by decide) (by decide) (by decide) (by decide)
  have hsq : sq ∉ [caq] := by simpa using Nat.ne_of_lt (Nat.lt_of_lt_of_le Eq.lt gaq)
  have Q0q := P3q.run [(140, .dup, 141, 0), (141, .iconst 0, 142, 0), (142, .bipush 40, 144, 40)] (pe := 144) (by decide +kernel) rfl
  obtain ⟨G0q, R0q, J0q, T1q⟩ := Q0q.castore T0q oaq (by decide +kernel) (i := 0) rfl (by simp) (isC_nar (show isC 40 by decide))
  have Q1q := R0q.run [(145, .dup, 146, 0), (146, .iconst 1, 147, 1), (147, .iload 5, 149, 0)] (pe := 149) (by decide +kernel) rfl
  obtain ⟨G1q, R1q, J1q, T2q⟩ := Q1q.castore T1q (J0q.2 _ oaq) (by decide +kernel) (i := 1) rfl (by simp) (isC_nar hc0)
  have Q2q := R1q.run [(150, .dup, 151, 0), (151, .iconst 2, 152, 2), (152, .iload 6, 154, 0)] (pe := 154) (by decide +kernel) rfl
  obtain ⟨G2q, R2q, J2q, T3q⟩ := Q2q.castore T2q (J1q.2 _ (J0q.2 _ oaq)) (by decide +kernel) (i := 2) rfl (by simp) (isC_nar hc1)
  have Q3q := R2q.run [(155, .dup, 156, 0), (156, .iconst 3, 157, 3), (157, .bipush 44, 159, 44)] (pe := 159) (by decide +kernel) rfl
  obtain ⟨G3q, R3q, J3q, T4q⟩ := Q3q.castore T3q (J2q.2 _ (J1q.2 _ (J0q.2 _ oaq))) (by decide +kernel) (i := 3) rfl (by simp) (isC_nar (show isC 44 by decide))
  have Q4q := R3q.run [(160, .dup, 161, 0), (161, .iconst 4, 162, 4), (162, .bipush 32, 164, 32)] (pe := 164) (by decide +kernel) rfl
  obtain ⟨G4q, R4q, J4q, T5q⟩ := Q4q.castore T4q (J3q.2 _ (J2q.2 _ (J1q.2 _ (J0q.2 _ oaq)))) (by decide +kernel) (i := 4) rfl (by simp) (isC_nar (show isC 32 by decide))
  have Q5q := R4q.run [(165, .dup, 166, 0), (166, .iconst 5, 167, 5), (167, .iload 7, 169, 0)] (pe := 169) (by decide +kernel) rfl
  obtain ⟨G5q, R5q, J5q, T6q⟩ := Q5q.castore T5q (J4q.2 _ (J3q.2 _ (J2q.2 _ (J1q.2 _ (J0q.2 _ oaq))))) (by decide +kernel) (i := 5) rfl (by simp) (isC_nar hc2)
  have Q6q := R5q.run [(170, .dup, 171, 0), (171, .bipush 6, 173, 6), (173, .iload 8, 175, 0)] (pe := 175) (by decide +kernel) rfl
  obtain ⟨G6q, R6q, J6q, T7q⟩ := Q6q.castore T6q (J5q.2 _ (J4q.2 _ (J3q.2 _ (J2q.2 _ (J1q.2 _ (J0q.2 _ oaq)))))) (by decide +kernel) (i := 6) rfl (by simp) (isC_nar hc3)
  have Q7q := R6q.run [(176, .dup, 177, 0), (177, .bipush 7, 179, 7), (179, .bipush 41, 181, 41)] (pe := 181) (by decide +kernel) rfl
  obtain ⟨G7q, R7q, J7q, T8q⟩ := Q7q.castore T7q (J6q.2 _ (J5q.2 _ (J4q.2 _ (J3q.2 _ (J2q.2 _ (J1q.2 _ (J0q.2 _ oaq))))))) (by decide +kernel) (i := 7) rfl (by simp) (isC_nar (show isC 41 by decide))
  obtain ⟨_, HA1, qA1, A1, moA1, szA1⟩ := R7q.callI (argsL := [.ref caq]) rfl (wd_34 G) (wd_35 G) (wd_8 G) (wd_36 G) (c_sI1 G (cs := [40, c0, c1, 44, 32, c2, c3, 41]) T8q (c_sI4 G T8q (by simp) (by simp) (((((((((Eq.ky K2q).ky J0q).ky J1q).ky J2q).ky J3q).ky J4q).ky J5q).ky J6q).ky J7q) ((((((((((Dq (Or.inr (wd_29 G)) (t := .array .byte) (by decide)).ky K2q).ky J0q hsq).ky J1q hsq).ky J2q hsq).ky J3q hsq).ky J4q hsq).ky J5q hsq).ky J6q hsq).ky J7q hsq) ((((((((((Dq (Or.inr (wd_31 G)) (t := .byte) (by decide)).ky K2q).ky J0q hsq).ky J1q hsq).ky J2q hsq).ky J3q hsq).ky J4q hsq).ky J5q hsq).ky J6q hsq).ky J7q hsq) (J7q.2 _ (J6q.2 _ (J5q.2 _ (J4q.2 _ (J3q.2 _ (J2q.2 _ (J1q.2 _ (J0q.2 _ (K2q.2 _ o1q))))))))))) (by decide) ⟨_, _, (by decide +kernel : parseMethodDescriptor "([C)V" = some ⟨[(.array .char)], none⟩), rfl⟩ (by decide +kernel) (Wd := 1) (by decide) (Nat.le_of_ble_eq_true rfl) (by decide) (by decide) (by decide)
  obtain ⟨rfl, K9q, Sq⟩ := qA1
  have Kq := (((((((((K1q.tr K2q).trans J0q (fun y hy => by cases List.mem_singleton.mp hy; exact Or.inr (Nat.le_trans K1q.size gaq))).trans J1q (fun y hy => by cases List.mem_singleton.mp hy; exact Or.inr (Nat.le_trans K1q.size gaq))).trans J2q (fun y hy => by cases List.mem_singleton.mp hy; exact Or.inr (Nat.le_trans K1q.size gaq))).trans J3q (fun y hy => by cases List.mem_singleton.mp hy; exact Or.inr (Nat.le_trans K1q.size gaq))).trans J4q (fun y hy => by cases List.mem_singleton.mp hy; exact Or.inr (Nat.le_trans K1q.size gaq))).trans J5q (fun y hy => by cases List.mem_singleton.mp hy; exact Or.inr (Nat.le_trans K1q.size gaq))).trans J6q (fun y hy => by cases List.mem_singleton.mp hy; exact Or.inr (Nat.le_trans K1q.size gaq))).trans J7q (fun y hy => by cases List.mem_singleton.mp hy; exact Or.inr (Nat.le_trans K1q.size gaq))).trans K9q (fun y hy => by cases List.mem_singleton.mp hy; exact Or.inr gq)
  have A2 := A1.run [(185, .astore 13, 187, 0), (187, .goto 155, 342, 0)] (pe := 342) (by decide +kernel) rfl
  exact ⟨sq, _, gq, Kq, Sq, A2.more (by decide) (by decide)⟩
set_option maxRecDepth 65536 in
set_option maxHeartbeats 1000000 in
theorem l_x7 (G : Glb Z a0) {i0 i1 i2 i3 i4 c0 c1 c2 c3 : Int32} {so sb : Addr} (hc0 : isC c0) (hc1 : isC c1) (hc2 : isC c2) (hc3 : isC c3) (A0 : Wk l Z a0 EL0 "com/example/rightful_roles/rightfulroles/core/PermissionToStringPinLaw" code maxLocals "law" ret room_1 D 190 [.val (.int i0), .val (.int i1), .val (.int i2), .val (.int i3), .val (.int i4), .val (.int c0), .val (.int c1), .val (.int c2), .val (.int c3), .val (.int 1), .val (.int 0), .val (.ref so), .val (.ref sb), .unset, .unset] [] H 8 160) :
    ∃ s H1, H.1.size ≤ s ∧ Kp H H1 [] ∧ Str Z H1 s [40, c0, c1, 44, 32, c2, 41] ∧ Wk l Z a0 EL0 "com/example/rightful_roles/rightfulroles/core/PermissionToStringPinLaw" code maxLocals "law" ret room_1 D 342 [.val (.int i0), .val (.int i1), .val (.int i2), .val (.int i3), .val (.int i4), .val (.int c0), .val (.int c1), .val (.int c2), .val (.int c3), .val (.int 1), .val (.int 0), .val (.ref so), .val (.ref sb), .val (.ref s), .unset] [] H1 12 240 := by
  obtain ⟨sq, H1q, P1q, gq, K1q, Eq, o1q, Dq⟩ := A0.newO (wd_32 G) (wd_16 G) (wd_8 G) (by decide +kernel) (by decide) (by decide)
  have P2q := P1q.run [(193, .dup, 194, 0), (194, .bipush 7, 196, 7)] (pe := 196) (by decide +kernel) rfl
  obtain ⟨caq, H2q, P3q, gaq, K2q, T0q, oaq⟩ := P2q.newA (aty := .char) (wd_33 G) (by decide +kernel) (N := 7) rfl (cap := 7) (by decide) (by decide) (by decide) (by decide)
  have hsq : sq ∉ [caq] := by simpa using Nat.ne_of_lt (Nat.lt_of_lt_of_le Eq.lt gaq)
  have Q0q := P3q.run [(198, .dup, 199, 0), (199, .iconst 0, 200, 0), (200, .bipush 40, 202, 40)] (pe := 202) (by decide +kernel) rfl
  obtain ⟨G0q, R0q, J0q, T1q⟩ := Q0q.castore T0q oaq (by decide +kernel) (i := 0) rfl (by simp) (isC_nar (show isC 40 by decide))
  have Q1q := R0q.run [(203, .dup, 204, 0), (204, .iconst 1, 205, 1), (205, .iload 5, 207, 0)] (pe := 207) (by decide +kernel) rfl
  obtain ⟨G1q, R1q, J1q, T2q⟩ := Q1q.castore T1q (J0q.2 _ oaq) (by decide +kernel) (i := 1) rfl (by simp) (isC_nar hc0)
  have Q2q := R1q.run [(208, .dup, 209, 0), (209, .iconst 2, 210, 2), (210, .iload 6, 212, 0)] (pe := 212) (by decide +kernel) rfl
  obtain ⟨G2q, R2q, J2q, T3q⟩ := Q2q.castore T2q (J1q.2 _ (J0q.2 _ oaq)) (by decide +kernel) (i := 2) rfl (by simp) (isC_nar hc1)
  have Q3q := R2q.run [(213, .dup, 214, 0), (214, .iconst 3, 215, 3), (215, .bipush 44, 217, 44)] (pe := 217) (by decide +kernel) rfl
  obtain ⟨G3q, R3q, J3q, T4q⟩ := Q3q.castore T3q (J2q.2 _ (J1q.2 _ (J0q.2 _ oaq))) (by decide +kernel) (i := 3) rfl (by simp) (isC_nar (show isC 44 by decide))
  have Q4q := R3q.run [(218, .dup, 219, 0), (219, .iconst 4, 220, 4), (220, .bipush 32, 222, 32)] (pe := 222) (by decide +kernel) rfl
  obtain ⟨G4q, R4q, J4q, T5q⟩ := Q4q.castore T4q (J3q.2 _ (J2q.2 _ (J1q.2 _ (J0q.2 _ oaq)))) (by decide +kernel) (i := 4) rfl (by simp) (isC_nar (show isC 32 by decide))
  have Q5q := R4q.run [(223, .dup, 224, 0), (224, .iconst 5, 225, 5), (225, .iload 7, 227, 0)] (pe := 227) (by decide +kernel) rfl
  obtain ⟨G5q, R5q, J5q, T6q⟩ := Q5q.castore T5q (J4q.2 _ (J3q.2 _ (J2q.2 _ (J1q.2 _ (J0q.2 _ oaq))))) (by decide +kernel) (i := 5) rfl (by simp) (isC_nar hc2)
  have Q6q := R5q.run [(228, .dup, 229, 0), (229, .bipush 6, 231, 6), (231, .bipush 41, 233, 41)] (pe := 233) (by decide +kernel) rfl
  obtain ⟨G6q, R6q, J6q, T7q⟩ := Q6q.castore T6q (J5q.2 _ (J4q.2 _ (J3q.2 _ (J2q.2 _ (J1q.2 _ (J0q.2 _ oaq)))))) (by decide +kernel) (i := 6) rfl (by simp) (isC_nar (show isC 41 by decide))
  obtain ⟨_, HA1, qA1, A1, moA1, szA1⟩ := R6q.callI (argsL := [.ref caq]) rfl (wd_34 G) (wd_35 G) (wd_8 G) (wd_36 G) (c_sI1 G (cs := [40, c0, c1, 44, 32, c2, 41]) T7q (c_sI4 G T7q (by simp) (by simp) ((((((((Eq.ky K2q).ky J0q).ky J1q).ky J2q).ky J3q).ky J4q).ky J5q).ky J6q) (((((((((Dq (Or.inr (wd_29 G)) (t := .array .byte) (by decide)).ky K2q).ky J0q hsq).ky J1q hsq).ky J2q hsq).ky J3q hsq).ky J4q hsq).ky J5q hsq).ky J6q hsq) (((((((((Dq (Or.inr (wd_31 G)) (t := .byte) (by decide)).ky K2q).ky J0q hsq).ky J1q hsq).ky J2q hsq).ky J3q hsq).ky J4q hsq).ky J5q hsq).ky J6q hsq) (J6q.2 _ (J5q.2 _ (J4q.2 _ (J3q.2 _ (J2q.2 _ (J1q.2 _ (J0q.2 _ (K2q.2 _ o1q)))))))))) (by decide) ⟨_, _, (by decide +kernel : parseMethodDescriptor "([C)V" = some ⟨[(.array .char)], none⟩), rfl⟩ (by decide +kernel) (Wd := 1) (by decide) (Nat.le_of_ble_eq_true rfl) (by decide) (by decide) (by decide)
  obtain ⟨rfl, K9q, Sq⟩ := qA1
  have Kq := ((((((((K1q.tr K2q).trans J0q (fun y hy => by cases List.mem_singleton.mp hy; exact Or.inr (Nat.le_trans K1q.size gaq))).trans J1q (fun y hy => by cases List.mem_singleton.mp hy; exact Or.inr (Nat.le_trans K1q.size gaq))).trans J2q (fun y hy => by cases List.mem_singleton.mp hy; exact Or.inr (Nat.le_trans K1q.size gaq))).trans J3q (fun y hy => by cases List.mem_singleton.mp hy; exact Or.inr (Nat.le_trans K1q.size gaq))).trans J4q (fun y hy => by cases List.mem_singleton.mp hy; exact Or.inr (Nat.le_trans K1q.size gaq))).trans J5q (fun y hy => by cases List.mem_singleton.mp hy; exact Or.inr (Nat.le_trans K1q.size gaq))).trans J6q (fun y hy => by cases List.mem_singleton.mp hy; exact Or.inr (Nat.le_trans K1q.size gaq))).trans K9q (fun y hy => by cases List.mem_singleton.mp hy; exact Or.inr gq)
  have A2 := A1.run [(237, .astore 13, 239, 0), (239, .goto 103, 342, 0)] (pe := 342) (by decide +kernel) rfl
  exact ⟨sq, _, gq, Kq, Sq, A2.more (by decide) (by decide)⟩
set_option maxRecDepth 65536 in
set_option maxHeartbeats 1000000 in
theorem l_y7 (G : Glb Z a0) {i0 i1 i2 i3 i4 c0 c1 c2 c3 : Int32} {so sb : Addr} (hc0 : isC c0) (hc1 : isC c1) (hc2 : isC c2) (hc3 : isC c3) (A0 : Wk l Z a0 EL0 "com/example/rightful_roles/rightfulroles/core/PermissionToStringPinLaw" code maxLocals "law" ret room_1 D 247 [.val (.int i0), .val (.int i1), .val (.int i2), .val (.int i3), .val (.int i4), .val (.int c0), .val (.int c1), .val (.int c2), .val (.int c3), .val (.int 0), .val (.int 1), .val (.ref so), .val (.ref sb), .unset, .unset] [] H 8 160) :
    ∃ s H1, H.1.size ≤ s ∧ Kp H H1 [] ∧ Str Z H1 s [40, c0, 44, 32, c2, c3, 41] ∧ Wk l Z a0 EL0 "com/example/rightful_roles/rightfulroles/core/PermissionToStringPinLaw" code maxLocals "law" ret room_1 D 342 [.val (.int i0), .val (.int i1), .val (.int i2), .val (.int i3), .val (.int i4), .val (.int c0), .val (.int c1), .val (.int c2), .val (.int c3), .val (.int 0), .val (.int 1), .val (.ref so), .val (.ref sb), .val (.ref s), .unset] [] H1 12 240 := by
  obtain ⟨sq, H1q, P1q, gq, K1q, Eq, o1q, Dq⟩ := A0.newO (wd_32 G) (wd_16 G) (wd_8 G) (by decide +kernel) (by decide) (by decide)
  have P2q := P1q.run [(250, .dup, 251, 0), (251, .bipush 7, 253, 7)] (pe := 253) (by decide +kernel) rfl
  obtain ⟨caq, H2q, P3q, gaq, K2q, T0q, oaq⟩ := P2q.newA (aty := .char) (wd_33 G) (by decide +kernel) (N := 7) rfl (cap := 7) (by decide) (by decide) (by decide) (by decide)
  have hsq : sq ∉ [caq] := by simpa using Nat.ne_of_lt (Nat.lt_of_lt_of_le Eq.lt gaq)
  have Q0q := P3q.run [(255, .dup, 256, 0), (256, .iconst 0, 257, 0), (257, .bipush 40, 259, 40)] (pe := 259) (by decide +kernel) rfl
  obtain ⟨G0q, R0q, J0q, T1q⟩ := Q0q.castore T0q oaq (by decide +kernel) (i := 0) rfl (by simp) (isC_nar (show isC 40 by decide))
  have Q1q := R0q.run [(260, .dup, 261, 0), (261, .iconst 1, 262, 1), (262, .iload 5, 264, 0)] (pe := 264) (by decide +kernel) rfl
  obtain ⟨G1q, R1q, J1q, T2q⟩ := Q1q.castore T1q (J0q.2 _ oaq) (by decide +kernel) (i := 1) rfl (by simp) (isC_nar hc0)
  have Q2q := R1q.run [(265, .dup, 266, 0), (266, .iconst 2, 267, 2), (267, .bipush 44, 269, 44)] (pe := 269) (by decide +kernel) rfl
  obtain ⟨G2q, R2q, J2q, T3q⟩ := Q2q.castore T2q (J1q.2 _ (J0q.2 _ oaq)) (by decide +kernel) (i := 2) rfl (by simp) (isC_nar (show isC 44 by decide))
  have Q3q := R2q.run [(270, .dup, 271, 0), (271, .iconst 3, 272, 3), (272, .bipush 32, 274, 32)] (pe := 274) (by decide +kernel) rfl
  obtain ⟨G3q, R3q, J3q, T4q⟩ := Q3q.castore T3q (J2q.2 _ (J1q.2 _ (J0q.2 _ oaq))) (by decide +kernel) (i := 3) rfl (by simp) (isC_nar (show isC 32 by decide))
  have Q4q := R3q.run [(275, .dup, 276, 0), (276, .iconst 4, 277, 4), (277, .iload 7, 279, 0)] (pe := 279) (by decide +kernel) rfl
  obtain ⟨G4q, R4q, J4q, T5q⟩ := Q4q.castore T4q (J3q.2 _ (J2q.2 _ (J1q.2 _ (J0q.2 _ oaq)))) (by decide +kernel) (i := 4) rfl (by simp) (isC_nar hc2)
  have Q5q := R4q.run [(280, .dup, 281, 0), (281, .iconst 5, 282, 5), (282, .iload 8, 284, 0)] (pe := 284) (by decide +kernel) rfl
  obtain ⟨G5q, R5q, J5q, T6q⟩ := Q5q.castore T5q (J4q.2 _ (J3q.2 _ (J2q.2 _ (J1q.2 _ (J0q.2 _ oaq))))) (by decide +kernel) (i := 5) rfl (by simp) (isC_nar hc3)
  have Q6q := R5q.run [(285, .dup, 286, 0), (286, .bipush 6, 288, 6), (288, .bipush 41, 290, 41)] (pe := 290) (by decide +kernel) rfl
  obtain ⟨G6q, R6q, J6q, T7q⟩ := Q6q.castore T6q (J5q.2 _ (J4q.2 _ (J3q.2 _ (J2q.2 _ (J1q.2 _ (J0q.2 _ oaq)))))) (by decide +kernel) (i := 6) rfl (by simp) (isC_nar (show isC 41 by decide))
  obtain ⟨_, HA1, qA1, A1, moA1, szA1⟩ := R6q.callI (argsL := [.ref caq]) rfl (wd_34 G) (wd_35 G) (wd_8 G) (wd_36 G) (c_sI1 G (cs := [40, c0, 44, 32, c2, c3, 41]) T7q (c_sI4 G T7q (by simp) (by simp) ((((((((Eq.ky K2q).ky J0q).ky J1q).ky J2q).ky J3q).ky J4q).ky J5q).ky J6q) (((((((((Dq (Or.inr (wd_29 G)) (t := .array .byte) (by decide)).ky K2q).ky J0q hsq).ky J1q hsq).ky J2q hsq).ky J3q hsq).ky J4q hsq).ky J5q hsq).ky J6q hsq) (((((((((Dq (Or.inr (wd_31 G)) (t := .byte) (by decide)).ky K2q).ky J0q hsq).ky J1q hsq).ky J2q hsq).ky J3q hsq).ky J4q hsq).ky J5q hsq).ky J6q hsq) (J6q.2 _ (J5q.2 _ (J4q.2 _ (J3q.2 _ (J2q.2 _ (J1q.2 _ (J0q.2 _ (K2q.2 _ o1q)))))))))) (by decide) ⟨_, _, (by decide +kernel : parseMethodDescriptor "([C)V" = some ⟨[(.array .char)], none⟩), rfl⟩ (by decide +kernel) (Wd := 1) (by decide) (Nat.le_of_ble_eq_true rfl) (by decide) (by decide) (by decide)
  obtain ⟨rfl, K9q, Sq⟩ := qA1
  have Kq := ((((((((K1q.tr K2q).trans J0q (fun y hy => by cases List.mem_singleton.mp hy; exact Or.inr (Nat.le_trans K1q.size gaq))).trans J1q (fun y hy => by cases List.mem_singleton.mp hy; exact Or.inr (Nat.le_trans K1q.size gaq))).trans J2q (fun y hy => by cases List.mem_singleton.mp hy; exact Or.inr (Nat.le_trans K1q.size gaq))).trans J3q (fun y hy => by cases List.mem_singleton.mp hy; exact Or.inr (Nat.le_trans K1q.size gaq))).trans J4q (fun y hy => by cases List.mem_singleton.mp hy; exact Or.inr (Nat.le_trans K1q.size gaq))).trans J5q (fun y hy => by cases List.mem_singleton.mp hy; exact Or.inr (Nat.le_trans K1q.size gaq))).trans J6q (fun y hy => by cases List.mem_singleton.mp hy; exact Or.inr (Nat.le_trans K1q.size gaq))).trans K9q (fun y hy => by cases List.mem_singleton.mp hy; exact Or.inr gq)
  have A2 := A1.run [(294, .astore 13, 296, 0), (296, .goto 46, 342, 0)] (pe := 342) (by decide +kernel) rfl
  exact ⟨sq, _, gq, Kq, Sq, A2.more (by decide) (by decide)⟩
set_option maxRecDepth 65536 in
set_option maxHeartbeats 1000000 in
theorem l_x6 (G : Glb Z a0) {i0 i1 i2 i3 i4 c0 c1 c2 c3 : Int32} {so sb : Addr} (hc0 : isC c0) (hc1 : isC c1) (hc2 : isC c2) (hc3 : isC c3) (A0 : Wk l Z a0 EL0 "com/example/rightful_roles/rightfulroles/core/PermissionToStringPinLaw" code maxLocals "law" ret room_1 D 299 [.val (.int i0), .val (.int i1), .val (.int i2), .val (.int i3), .val (.int i4), .val (.int c0), .val (.int c1), .val (.int c2), .val (.int c3), .val (.int 0), .val (.int 0), .val (.ref so), .val (.ref sb), .unset, .unset] [] H 8 160) :
    ∃ s H1, H.1.size ≤ s ∧ Kp H H1 [] ∧ Str Z H1 s [40, c0, 44, 32, c2, 41] ∧ Wk l Z a0 EL0 "com/example/rightful_roles/rightfulroles/core/PermissionToStringPinLaw" code maxLocals "law" ret room_1 D 342 [.val (.int i0), .val (.int i1), .val (.int i2), .val (.int i3), .val (.int i4), .val (.int c0), .val (.int c1), .val (.int c2), .val (.int c3), .val (.int 0), .val (.int 0), .val (.ref so), .val (.ref sb), .val (.ref s), .unset] [] H1 12 240 := by
  obtain ⟨sq, H1q, P1q, gq, K1q, Eq, o1q, Dq⟩ := A0.newO (wd_32 G) (wd_16 G) (wd_8 G) (by decide +kernel) (by decide) (by decide)
  have P2q := P1q.run [(302, .dup, 303, 0), (303, .bipush 6, 305, 6)] (pe := 305) (by decide +kernel) rfl
  obtain ⟨caq, H2q, P3q, gaq, K2q, T0q, oaq⟩ := P2q.newA (aty := .char) (wd_33 G) (by decide +kernel) (N := 6) rfl (cap := 6) (by decide) (by decide) (by decide) (by decide)
  have hsq : sq ∉ [caq] := by simpa using Nat.ne_of_lt (Nat.lt_of_lt_of_le Eq.lt gaq)
  have Q0q := P3q.run [(307, .dup, 308, 0), (308, .iconst 0, 309, 0), (309, .bipush 40, 311, 40)] (pe := 311) (by decide +kernel) rfl
  obtain ⟨G0q, R0q, J0q, T1q⟩ := Q0q.castore T0q oaq (by decide +kernel) (i := 0) rfl (by simp) (isC_nar (show isC 40 by decide))
  have Q1q := R0q.run [(312, .dup, 313, 0), (313, .iconst 1, 314, 1), (314, .iload 5, 316, 0)] (pe := 316) (by decide +kernel) rfl
  obtain ⟨G1q, R1q, J1q, T2q⟩ := Q1q.castore T1q (J0q.2 _ oaq) (by decide +kernel) (i := 1) rfl (by simp) (isC_nar hc0)
  have Q2q := R1q.run [(317, .dup, 318, 0), (318, .iconst 2, 319, 2), (319, .bipush 44, 321, 44)] (pe := 321) (by decide +kernel) rfl
  obtain ⟨G2q, R2q, J2q, T3q⟩ := Q2q.castore T2q (J1q.2 _ (J0q.2 _ oaq)) (by decide +kernel) (i := 2) rfl (by simp) (isC_nar (show isC 44 by decide))
  have Q3q := R2q.run [(322, .dup, 323, 0), (323, .iconst 3, 324, 3), (324, .bipush 32, 326, 32)] (pe := 326) (by decide +kernel) rfl
  obtain ⟨G3q, R3q, J3q, T4q⟩ := Q3q.castore T3q (J2q.2 _ (J1q.2 _ (J0q.2 _ oaq))) (by decide +kernel) (i := 3) rfl (by simp) (isC_nar (show isC 32 by decide))
  have Q4q := R3q.run [(327, .dup, 328, 0), (328, .iconst 4, 329, 4), (329, .iload 7, 331, 0)] (pe := 331) (by decide +kernel) rfl
  obtain ⟨G4q, R4q, J4q, T5q⟩ := Q4q.castore T4q (J3q.2 _ (J2q.2 _ (J1q.2 _ (J0q.2 _ oaq)))) (by decide +kernel) (i := 4) rfl (by simp) (isC_nar hc2)
  have Q5q := R4q.run [(332, .dup, 333, 0), (333, .iconst 5, 334, 5), (334, .bipush 41, 336, 41)] (pe := 336) (by decide +kernel) rfl
  obtain ⟨G5q, R5q, J5q, T6q⟩ := Q5q.castore T5q (J4q.2 _ (J3q.2 _ (J2q.2 _ (J1q.2 _ (J0q.2 _ oaq))))) (by decide +kernel) (i := 5) rfl (by simp) (isC_nar (show isC 41 by decide))
  obtain ⟨_, HA1, qA1, A1, moA1, szA1⟩ := R5q.callI (argsL := [.ref caq]) rfl (wd_34 G) (wd_35 G) (wd_8 G) (wd_36 G) (c_sI1 G (cs := [40, c0, 44, 32, c2, 41]) T6q (c_sI4 G T6q (by simp) (by simp) (((((((Eq.ky K2q).ky J0q).ky J1q).ky J2q).ky J3q).ky J4q).ky J5q) ((((((((Dq (Or.inr (wd_29 G)) (t := .array .byte) (by decide)).ky K2q).ky J0q hsq).ky J1q hsq).ky J2q hsq).ky J3q hsq).ky J4q hsq).ky J5q hsq) ((((((((Dq (Or.inr (wd_31 G)) (t := .byte) (by decide)).ky K2q).ky J0q hsq).ky J1q hsq).ky J2q hsq).ky J3q hsq).ky J4q hsq).ky J5q hsq) (J5q.2 _ (J4q.2 _ (J3q.2 _ (J2q.2 _ (J1q.2 _ (J0q.2 _ (K2q.2 _ o1q))))))))) (by decide) ⟨_, _, (by decide +kernel : parseMethodDescriptor "([C)V" = some ⟨[(.array .char)], none⟩), rfl⟩ (by decide +kernel) (Wd := 1) (by decide) (Nat.le_of_ble_eq_true rfl) (by decide) (by decide) (by decide)
  obtain ⟨rfl, K9q, Sq⟩ := qA1
  have Kq := (((((((K1q.tr K2q).trans J0q (fun y hy => by cases List.mem_singleton.mp hy; exact Or.inr (Nat.le_trans K1q.size gaq))).trans J1q (fun y hy => by cases List.mem_singleton.mp hy; exact Or.inr (Nat.le_trans K1q.size gaq))).trans J2q (fun y hy => by cases List.mem_singleton.mp hy; exact Or.inr (Nat.le_trans K1q.size gaq))).trans J3q (fun y hy => by cases List.mem_singleton.mp hy; exact Or.inr (Nat.le_trans K1q.size gaq))).trans J4q (fun y hy => by cases List.mem_singleton.mp hy; exact Or.inr (Nat.le_trans K1q.size gaq))).trans J5q (fun y hy => by cases List.mem_singleton.mp hy; exact Or.inr (Nat.le_trans K1q.size gaq))).trans K9q (fun y hy => by cases List.mem_singleton.mp hy; exact Or.inr gq)
  have A2 := A1.run [(340, .astore 13, 342, 0)] (pe := 342) (by decide +kernel) rfl
  exact ⟨sq, _, gq, Kq, Sq, A2.more (by decide) (by decide)⟩
theorem isB_and (x : Int32) : True := trivial
set_option maxRecDepth 65536 in
set_option maxHeartbeats 8000000 in
theorem c_law (G : Glb Z a0) (i0 i1 i2 i3 i4 : Int32) : Ct l Z EL0 x code maxLocals ret room_1 tables_1 [.int i0, .int i1, .int i2, .int i3, .int i4] H (fun v H' => v = some (.int 1)) := by
  refine Ct.in G (plainFor_of_name (by show plainName "com/example/rightful_roles/rightfulroles/core/PermissionToStringPinLaw" = true; simp [plainName, overriddenIn])) (ls := [.val (.int i0), .val (.int i1), .val (.int i2), .val (.int i3), .val (.int i4), .unset, .unset, .unset, .unset, .unset, .unset, .unset, .unset, .unset, .unset]) rfl rfl fun D A0 => ?_
  have lo := (wd_108 G)
  have lb := (wd_111 G)
  have wP := (wd_51 G)
  have A1 := A0.run [(0, .iload_n 0, 1, 0)] (pe := 1) (by decide +kernel) rfl
  obtain ⟨_, HA2, qA2, A2, moA2, szA2⟩ := A1.callS (argsL := [.int i0]) (wd_0 G) (wd_1 G) (wd_2 G) (wd_3 G) (c_ch G i0) (by decide) ⟨_, _, (by decide +kernel : parseMethodDescriptor "(I)C" = some ⟨[.int], some .char⟩), rfl⟩ (by decide +kernel) (Wd := 0) (by decide) (Nat.le_of_ble_eq_true rfl) (by decide) (by decide) (by decide)
  obtain ⟨c0, hc0, hs0, rfl, rfl⟩ := qA2
  have A3 := A2.run [(4, .istore 5, 6, 0), (6, .iload_n 1, 7, 0)] (pe := 7) (by decide +kernel) rfl
  obtain ⟨_, HA4, qA4, A4, moA4, szA4⟩ := A3.callS (argsL := [.int i1]) (wd_0 G) (wd_1 G) (wd_2 G) (wd_3 G) (c_ch G i1) (by decide) ⟨_, _, (by decide +kernel : parseMethodDescriptor "(I)C" = some ⟨[.int], some .char⟩), rfl⟩ (by decide +kernel) (Wd := 0) (by decide) (Nat.le_of_ble_eq_true rfl) (by decide) (by decide) (by decide)
  obtain ⟨c1, hc1, hs1, rfl, rfl⟩ := qA4
  have A5 := A4.run [(10, .istore 6, 12, 0), (12, .iload_n 2, 13, 0)] (pe := 13) (by decide +kernel) rfl
  obtain ⟨_, HA6, qA6, A6, moA6, szA6⟩ := A5.callS (argsL := [.int i2]) (wd_0 G) (wd_1 G) (wd_2 G) (wd_3 G) (c_ch G i2) (by decide) ⟨_, _, (by decide +kernel : parseMethodDescriptor "(I)C" = some ⟨[.int], some .char⟩), rfl⟩ (by decide +kernel) (Wd := 0) (by decide) (Nat.le_of_ble_eq_true rfl) (by decide) (by decide) (by decide)
  obtain ⟨c2, hc2, hs2, rfl, rfl⟩ := qA6
  have A7 := A6.run [(16, .istore 7, 18, 0), (18, .iload_n 3, 19, 0)] (pe := 19) (by decide +kernel) rfl
  obtain ⟨_, HA8, qA8, A8, moA8, szA8⟩ := A7.callS (argsL := [.int i3]) (wd_0 G) (wd_1 G) (wd_2 G) (wd_3 G) (c_ch G i3) (by decide) ⟨_, _, (by decide +kernel : parseMethodDescriptor "(I)C" = some ⟨[.int], some .char⟩), rfl⟩ (by decide +kernel) (Wd := 0) (by decide) (Nat.le_of_ble_eq_true rfl) (by decide) (by decide) (by decide)
  obtain ⟨c3, hc3, hs3, rfl, rfl⟩ := qA8
  have A9 := A8.run [(22, .istore 8, 24, 0), (24, .iload 4, 26, 0), (26, .iconst 1, 27, 1), (27, .iand, 28, 0)] (pe := 28) (by decide +kernel) rfl
  obtain ⟨e9, he9, A10⟩ : ∃ e, isB e ∧ Wk l Z a0 EL0 "com/example/rightful_roles/rightfulroles/core/PermissionToStringPinLaw" code maxLocals "law" ret room_1 D 36 [.val (.int i0), .val (.int i1), .val (.int i2), .val (.int i3), .val (.int i4), .val (.int c0), .val (.int c1), .val (.int c2), .val (.int c3), .unset, .unset, .unset, .unset, .unset, .unset] [.int e] H 0 0 := by
    by_cases h : i4 &&& 1 = 0
    · have B1 := A9.ifT (cd := .eq) (o := 7) (by decide +kernel) h (pe := 35) (by decide)
      exact ⟨0, Or.inl rfl, B1.run [(35, .iconst 0, 36, 0)] (pe := 36) (by decide +kernel) rfl⟩
    · have B1 := A9.ifF (cd := .eq) (o := 7) (by decide +kernel) h
      exact ⟨1, Or.inr rfl, B1.run [(31, .iconst 1, 32, 1), (32, .goto 4, 36, 0)] (pe := 36) (by decide +kernel) rfl⟩
  have A11 := A10.run [(36, .istore 9, 38, 0), (38, .iload 4, 40, 0), (40, .iconst 2, 41, 2), (41, .iand, 42, 0)] (pe := 42) (by decide +kernel) rfl
  obtain ⟨e10, he10, A12⟩ : ∃ e, isB e ∧ Wk l Z a0 EL0 "com/example/rightful_roles/rightfulroles/core/PermissionToStringPinLaw" code maxLocals "law" ret room_1 D 50 [.val (.int i0), .val (.int i1), .val (.int i2), .val (.int i3), .val (.int i4), .val (.int c0), .val (.int c1), .val (.int c2), .val (.int c3), .val (.int e9), .unset, .unset, .unset, .unset, .unset] [.int e] H 0 0 := by
    by_cases h : i4 &&& 2 = 0
    · have B1 := A11.ifT (cd := .eq) (o := 7) (by decide +kernel) h (pe := 49) (by decide)
      exact ⟨0, Or.inl rfl, B1.run [(49, .iconst 0, 50, 0)] (pe := 50) (by decide +kernel) rfl⟩
    · have B1 := A11.ifF (cd := .eq) (o := 7) (by decide +kernel) h
      exact ⟨1, Or.inr rfl, B1.run [(45, .iconst 1, 46, 1), (46, .goto 4, 50, 0)] (pe := 50) (by decide +kernel) rfl⟩
  have A13 := A12.run [(50, .istore 10, 52, 0)] (pe := 52) (by decide +kernel) rfl
  obtain ⟨cs, so, H1, hcs, g1, K1, S1, A14⟩ := l_op G hc0 hc1 he9 A13
  obtain ⟨ds, sb, H2, hds, g2, K2, S2, A15⟩ := l_ob G hc2 hc3 he10 A14
  have nc : cs ≠ [] ∧ cs.length ≤ 2 ∧ ∀ c ∈ cs, ¬ sur c := by
    rcases hcs with ⟨-, rfl⟩ | ⟨-, rfl⟩
    · exact ⟨by simp, by simp, fun c hc => by cases List.mem_singleton.mp hc; exact hs0⟩
    · exact ⟨by simp, by simp, fun c hc => by
        rcases List.mem_cons.mp hc with rfl | hc
        · exact hs0
        · cases List.mem_singleton.mp hc; exact hs1⟩
  have nd : ds ≠ [] ∧ ds.length ≤ 2 ∧ ∀ c ∈ ds, ¬ sur c := by
    rcases hds with ⟨-, rfl⟩ | ⟨-, rfl⟩
    · exact ⟨by simp, by simp, fun c hc => by cases List.mem_singleton.mp hc; exact hs2⟩
    · exact ⟨by simp, by simp, fun c hc => by
        rcases List.mem_cons.mp hc with rfl | hc
        · exact hs2
        · cases List.mem_singleton.mp hc; exact hs3⟩
  have A16 := A15.run [(122, .iload 9, 124, 0)] (pe := 124) (by decide +kernel) rfl
  obtain ⟨sx, H3, g3, K3, S3, A20⟩ : ∃ s H3, H2.1.size ≤ s ∧ Kp H2 H3 [] ∧ Str Z H3 s ([40] ++ cs ++ [44, 32] ++ ds ++ [41]) ∧ Wk l Z a0 EL0 "com/example/rightful_roles/rightfulroles/core/PermissionToStringPinLaw" code maxLocals "law" ret room_1 D 342 [.val (.int i0), .val (.int i1), .val (.int i2), .val (.int i3), .val (.int i4), .val (.int c0), .val (.int c1), .val (.int c2), .val (.int c3), .val (.int e9), .val (.int e10), .val (.ref so), .val (.ref sb), .val (.ref s), .unset] [] H3 12 240 := by
    rcases hcs with ⟨rfl, rfl⟩ | ⟨rfl, rfl⟩
    · have B1 := A16.ifT (cd := .eq) (o := 118) (by decide +kernel) rfl (pe := 242) (by decide)
      have B2 := B1.run [(242, .iload 10, 244, 0)] (pe := 244) (by decide +kernel) rfl
      rcases hds with ⟨rfl, rfl⟩ | ⟨rfl, rfl⟩
      · have B3 := B2.ifT (cd := .eq) (o := 55) (by decide +kernel) rfl (pe := 299) (by decide)
        exact l_x6 G hc0 hc1 hc2 hc3 B3
      · have B3 := B2.ifF (cd := .eq) (o := 55) (by decide +kernel) (by show ¬ _ = _; decide)
        exact l_y7 G hc0 hc1 hc2 hc3 B3
    · have B1 := A16.ifF (cd := .eq) (o := 118) (by decide +kernel) (by show ¬ _ = _; decide)
      have B2 := B1.run [(127, .iload 10, 129, 0)] (pe := 129) (by decide +kernel) rfl
      rcases hds with ⟨rfl, rfl⟩ | ⟨rfl, rfl⟩
      · have B3 := B2.ifT (cd := .eq) (o := 61) (by decide +kernel) rfl (pe := 190) (by decide)
        exact l_x7 G hc0 hc1 hc2 hc3 B3
      · have B3 := B2.ifF (cd := .eq) (o := 61) (by decide +kernel) (by show ¬ _ = _; decide)
        exact l_x8 G hc0 hc1 hc2 hc3 B3
  obtain ⟨r, H6, A21, g6, K6, E6, o6, D6⟩ := A20.newO (wd_50 G) wP (wd_52 G) (by decide +kernel) (by decide) (by decide)
  have A22 := A21.run [(345, .dup, 346, 0), (346, .aload 11, 348, 0), (348, .aload 12, 350, 0)] (pe := 350) (by decide +kernel) rfl
  have S1' := ((S1.ky K2).ky K3).ky K6
  have S2' := (S2.ky K3).ky K6
  obtain ⟨_, HA23, qA23, A23, moA23, szA23⟩ := A22.callI (argsL := [.ref so, .ref sb]) rfl (wd_53 G) (wd_54 G) (wd_52 G) (wd_55 G) (c_pI G S1' S2' (by omega) (by omega) nc.2.2 nd.2.2 nc.1 nd.1 E6 (D6 (Or.inr lo) (t := .object "java/lang/String") (by decide)) (D6 (Or.inr lb) (t := .object "java/lang/String") (by decide)) o6) (by decide) ⟨_, _, (by decide +kernel : parseMethodDescriptor "(Ljava/lang/String;Ljava/lang/String;)V" = some ⟨[(.object "java/lang/String"), (.object "java/lang/String")], none⟩), rfl⟩ (by decide +kernel) (Wd := 1) (by decide) (Nat.le_of_ble_eq_true rfl) (by decide) (by decide) (by decide)
  obtain ⟨rfl, K7, P7⟩ := qA23
  have T1 := S1'.kyE K7 E6 (by decide) wP
  have T2 := S2'.kyE K7 E6 (by decide) wP
  have T3 := (S3.ky K6).kyE K7 E6 (by decide) wP
  have A24 := A23.run [(353, .astore 14, 355, 0), (355, .aload 13, 357, 0), (357, .aload 14, 359, 0)] (pe := 359) (by decide +kernel) rfl
  obtain ⟨_, HA25, qA25, A25, moA25, szA25⟩ := A24.callV (argsL := []) (wd_112 G) (wd_113 G) (wd_115 G) rfl (wd_115 G) (wd_114 G) (wd_52 G) (wd_116 G) P7.1 (c_pts G P7 T1 T2 nc.2.1 nd.2.1) (by decide) ⟨_, _, (by decide +kernel : parseMethodDescriptor "()Ljava/lang/String;" = some ⟨[], some (.object "java/lang/String")⟩), rfl⟩ (by decide +kernel) (Wd := 1) (by decide) (Nat.le_of_ble_eq_true rfl) (by decide) (by decide) (by decide)
  obtain ⟨u, rfl, gu, K8, U⟩ := qA25
  have hne : sx ≠ u := Nat.ne_of_lt (Nat.lt_of_lt_of_le T3.lt gu)
  obtain ⟨_, HA26, qA26, A26, moA26, szA26⟩ := A25.callV (argsL := [.ref u]) (wd_221 G) (wd_222 G) (wd_224 G) rfl (wd_224 G) (wd_223 G) (wd_8 G) (wd_225 G) (T3.ky K8).1 (c_seqEq G hne (T3.ky K8) U) (by decide) ⟨_, _, (by decide +kernel : parseMethodDescriptor "(Ljava/lang/Object;)Z" = some ⟨[(.object "java/lang/Object")], some .boolean⟩), rfl⟩ (by decide +kernel) (Wd := 0) (by decide) (Nat.le_of_ble_eq_true rfl) (by decide) (by decide) (by decide)
  obtain ⟨rfl, rfl⟩ := qA26
  exact ⟨_, _, _, _, A26.retZ (by decide +kernel) rfl, rfl, by decide, by decide⟩
end LawP

set_option maxRecDepth 65536 in
theorem comes_1 {Post : Tables → Env → Array Value → State → Outcome → State → Prop} (hpost : ∀ tb e args s v u, (limb_1_1.after args s (.returned v) u = true ∧ limb_1_2.after args s (.returned v) u = true) → ReturnedEndW s (.returned v) u (Jvm.fieldLocs frame_1_writes args s ++ Jvm.arrayLocs frame_1_arrays args s ++ Jvm.staticLocs frame_1_statics s) 56 5504 → Post tb e args s (.returned v) u) :
    ArmFor flags0 classFile x code maxLocals ret World_1 tables_1 room_1 Calls_1 rest_1 Pre_1 Post := by
  intro l hfl _ _ p e ha hc hk s m args below hf hA hF happ hP
  obtain ⟨hcalls, hrest, hpre⟩ := hP
  obtain ⟨-, -, -, hnamed, -, -, -, hat⟩ := (Spec.applies_iff hf).mp happ
  obtain ⟨hg, hn⟩ := and_e (Cond.before_iff.mp (show (Jvm.Cond.and given_1 narrow_1).before args s = true from hpre))
  obtain ⟨h1, g0⟩ := and_e hg
  obtain ⟨f0, g1⟩ := and_e g0
  obtain ⟨f1, g2⟩ := and_e g1
  obtain ⟨f2, g3⟩ := and_e g2
  obtain ⟨f3, g4⟩ := and_e g3
  have f4 := g4
  obtain ⟨w0, w1, w2, w3, w4, rfl⟩ : ∃ w0 w1 w2 w3 w4 : Value, args = #[w0, w1, w2, w3, w4] := by
    have hs : args.size = 5 := by simpa [Cond.value, given_1] using h1
    obtain ⟨L⟩ := args
    match L, hs with
    | [w0, w1, w2, w3, w4], _ => exact ⟨w0, w1, w2, w3, w4, rfl⟩
  have hw := fun d (hd : d ∈ tables_1) => atoms_spec (ws := Jvm.Cond.code x code maxLocals ret :: tables_1) hat d (List.mem_cons_of_mem _ hd)
  obtain ⟨hsets, hown0⟩ := atoms_of _ (rest_1_c_eq ▸ (show rest_1_c.before _ s = true from hrest))
  have hfit : Fit s := fun {y c} hc i hi => by
    obtain ⟨ha, rfl⟩ := Array.getElem?_eq_some_iff.mp hc
    have q := List.all_eq_true.mp ((Array.all_eq_true_iff_forall_mem.mp hF) _ (Array.getElem_mem ha)) i (List.mem_range.mpr hi)
    simpa [Array.getElem?_eq_getElem hi] using q
  obtain ⟨i0, e0⟩ := is_v f0
  obtain rfl : w0 = .int i0 := Option.some.inj e0
  obtain ⟨i1, e1⟩ := is_v f1
  obtain rfl : w1 = .int i1 := Option.some.inj e1
  obtain ⟨i2, e2⟩ := is_v f2
  obtain rfl : w2 = .int i2 := Option.some.inj e2
  obtain ⟨i3, e3⟩ := is_v f3
  obtain rfl : w3 = .int i3 := Option.some.inj e3
  obtain ⟨i4, e4⟩ := is_v f4
  obtain rfl : w4 = .int i4 := Option.some.inj e4
  have G : Glb s #[.int i0, .int i1, .int i2, .int i3, .int i4] := ⟨hw, hsets, hfit, hn⟩
  have G_cw : Jvm.Lit.compactW.before _ s = true := (G.2.1 _ (List.mem_of_getElem? (i := 2) rfl))
  have G_wa := (wd_20 G)
  have G_wi := (wd_16 G)
  obtain ⟨n, o, h1, h2, h3, v, L, O, rfl, hv, -, -, N, hq⟩ := c_law (l := l) (H := (s.heap, fun _ => False)) G i0 i1 i2 i3 i4 p e ha hc hk s m _ below hf ((Spec.applies_iff_loose hf).mp happ).1 ⟨rfl, State.Warmed39.refl s, rfl, ⟨ext_refl _, fun _ q => q.elim, CHv.start (G_EL G) (fun p hp => hcalls.1 p hp) G_cw G_wa G_wi, fun _ _ q => q.elim⟩⟩ trivial
  subst hv
  refine ⟨n, _, h1, h2, h3, hpost _ _ _ _ _ _ ⟨Cond.after_iff.mpr rfl, Cond.after_iff.mpr (eq_i res_at (Term.int_eval (1)) rfl)⟩ ⟨hq.1, hq.2.1, hq.2.2.1, (hq.2.2.2.sift fun y hy => Or.inr (N y hy)).mono (by decide) (by decide)⟩⟩
theorem main_1_1 : Claimed_1_1 := comes_1 fun _ _ _ _ _ _ h hF => ⟨h.1, hF⟩
theorem main_1_2 : Claimed_1_2 := comes_1 fun _ _ _ _ _ _ h hF => ⟨h.2, hF⟩
end Jvm.Pilot.@@N@@
namespace Jvm.Pilot.@@N@@
open Jvm Jvm.ClassFile Sem Op Lib Jvm.Free Jvm.Stand Jvm.Pilot.@@N@@.Jvm.D
/-! MADE BY PROGRAM (witnessworld.py) out of the Statement's table words and the real class files: 29 classes; the members and pool entries that the words name. The judged class is class 1, her method 2. -/
namespace start1
open Jvm.ClassFile
def u (s : String) : CpInfo := .utf8 (stringToUtf16 s)
/-- a pool by its gaps: so many unusable entries, then the entry; so many at the end -/
def gap : Nat → List CpInfo → List CpInfo
  | 0, r => r
  | n + 1, r => .unusable :: gap n r
def poolList (es : List (Nat × CpInfo)) (last : Nat) : List CpInfo := es.foldr (fun e r => gap e.1 (e.2 :: r)) (gap last [])
def pool (es : List (Nat × CpInfo)) (last : Nat) : Array CpInfo := ⟨poolList es last⟩
def fileOf (pool : Array CpInfo) (this : Nat) (attrs : Array Attribute := #[]) (ms : Array MethodInfo := #[]) (fl : Nat := 33) (sup : Nat := 0) (ifs : Array Nat := #[]) (fds : Array FieldInfo := #[]) : ClassFile where
  minorVersion := 0
  majorVersion := 65
  constantPool := pool
  accessFlags := fl
  thisClass := this
  superClass := sup
  interfaces := ifs
  fields := fds
  methods := ms
  attributes := attrs
def plain (name : String) (sup : Option ClassId) : Class where
  name := name
  kind := .ordinary
  loader := none
  accessFlags := 33
  super := sup
  interfaces := #[]
  cf := none
  fields := #[]
  methods := #[]
  instanceTypes := #[]
  staticTypes := #[]
  resolved := #[]
  callSites := []
  init := .initialized
  statics := none
  mirror := none

def pool0 : Array CpInfo := pool [(5, u "<init>"), (0, u "()V"), (1, .class_ 10), (1, u "java/lang/Object")] 113

def k0c0 : Code := { maxStack := 0, maxLocals := 1, code := object_method_1_code, exceptionTable := #[], attributes := #[] }
def k0m0 : Method := { name := "<init>", desc := "()V", sig := { parameters := [], returnType := none }, accessFlags := 1, code := some k0c0 }
/-- java/lang/Object -/
def k0 : Class := { plain "java/lang/Object" none with
  accessFlags := 33
  interfaces := #[]
  cf := some (fileOf pool0 8 #[] #[{ accessFlags := 1, nameIndex := 5, descriptorIndex := 6, attributes := #[] }] 33 0 #[] #[])
  fields := #[]
  methods := #[k0m0]
  instanceTypes := #[]
  staticTypes := #[]
  resolved := Array.replicate 124 none
  statics := none }

def pool1 : Array CpInfo := pool [(2, .class_ 4), (1, u "java/lang/Object"), (0, u "<init>"), (0, u "()V"), (0, .integer 65535), (0, .integer 55296), (0, .integer 57343), (0, .integer 32768), (0, .methodref 12 13), (0, .class_ 14), (0, .nameAndType 15 16), (0, u "com/example/rightful_roles/rightfulroles/core/PermissionToStringPinLaw"), (0, u "ch"), (0, u "(I)C"), (0, .class_ 18), (0, u "java/lang/String"), (0, .methodref 17 20), (0, .nameAndType 5 21), (0, u "([C)V"), (0, .methodref 17 23), (0, .nameAndType 24 25), (0, u "valueOf"), (0, u "(C)Ljava/lang/String;"), (0, .class_ 27), (0, u "com/example/rightful_roles/rightfulroles/core/Permission"), (0, .methodref 26 29), (0, .nameAndType 5 30), (0, u "(Ljava/lang/String;Ljava/lang/String;)V"), (0, .methodref 26 32), (0, .nameAndType 33 34), (0, u "toString"), (0, u "()Ljava/lang/String;"), (0, .methodref 17 36), (0, .nameAndType 37 38), (0, u "equals"), (0, u "(Ljava/lang/Object;)Z"), (3, u "law"), (0, u "(IIIII)Z")] 2

def k1m0 : Method := { name := "<init>", desc := "()V", sig := { parameters := [], returnType := none }, accessFlags := 1, code := none }
def k1c1 : Code := { maxStack := 2, maxLocals := 2, code := method_2_code, exceptionTable := #[], attributes := #[] }
def k1m1 : Method := { name := "ch", desc := "(I)C", sig := { parameters := [.int], returnType := some .char }, accessFlags := 10, code := some k1c1 }
def k1c2 : Code := { maxStack := 6, maxLocals := 15, code := code, exceptionTable := #[], attributes := #[] }
def k1m2 : Method := { name := "law", desc := "(IIIII)Z", sig := { parameters := [.int, .int, .int, .int, .int], returnType := some .boolean }, accessFlags := 9, code := some k1c2 }
/-- com/example/rightful_roles/rightfulroles/core/PermissionToStringPinLaw -/
def k1 : Class := { plain "com/example/rightful_roles/rightfulroles/core/PermissionToStringPinLaw" (some 0) with
  accessFlags := 49
  interfaces := #[]
  cf := some (fileOf pool1 12 #[] #[{ accessFlags := 1, nameIndex := 5, descriptorIndex := 6, attributes := #[] }, { accessFlags := 10, nameIndex := 15, descriptorIndex := 16, attributes := #[] }, { accessFlags := 9, nameIndex := 42, descriptorIndex := 43, attributes := #[] }] 49 2 #[] #[])
  fields := #[]
  methods := #[k1m0, k1m1, k1m2]
  instanceTypes := #[]
  staticTypes := #[]
  resolved := Array.replicate 46 none
  statics := none }

def pool2 : Array CpInfo := pool [(1, .class_ 2), (0, u "java/io/Serializable"), (0, .class_ 4), (0, u "java/lang/Object")] 2

/-- java/io/Serializable -/
def k2 : Class := { plain "java/io/Serializable" (some 0) with
  accessFlags := 1537
  interfaces := #[]
  cf := some (fileOf pool2 1 #[] #[] 1537 3 #[] #[])
  fields := #[]
  methods := #[]
  instanceTypes := #[]
  staticTypes := #[]
  resolved := Array.replicate 7 none
  statics := none }

def pool3 : Array CpInfo := pool [(1, .class_ 2), (0, u "java/lang/Comparable"), (0, .class_ 4), (0, u "java/lang/Object")] 7

/-- java/lang/Comparable -/
def k3 : Class := { plain "java/lang/Comparable" (some 0) with
  accessFlags := 1537
  interfaces := #[]
  cf := some (fileOf pool3 1 #[] #[] 1537 3 #[] #[])
  fields := #[]
  methods := #[]
  instanceTypes := #[]
  staticTypes := #[]
  resolved := Array.replicate 12 none
  statics := none }

def pool4 : Array CpInfo := pool [(2, .class_ 4), (1, u "java/lang/CharSequence"), (42, .class_ 48), (0, u "java/lang/CharSequence$1CodePointIterator"), (10, .class_ 60), (0, u "java/lang/CharSequence$1CharIterator"), (5, .class_ 67), (0, u "java/lang/Object")] 63

/-- java/lang/CharSequence -/
def k4 : Class := { plain "java/lang/CharSequence" (some 0) with
  accessFlags := 1537
  interfaces := #[]
  cf := some (fileOf pool4 2 #[.nestMembers #[47, 59]] #[] 1537 66 #[] #[])
  fields := #[]
  methods := #[]
  instanceTypes := #[]
  staticTypes := #[]
  resolved := Array.replicate 131 none
  statics := none }

def pool5 : Array CpInfo := pool [(1, .class_ 2), (0, u "java/lang/constant/Constable"), (0, .class_ 4), (0, u "java/lang/Object")] 6

/-- java/lang/constant/Constable -/
def k5 : Class := { plain "java/lang/constant/Constable" (some 0) with
  accessFlags := 1537
  interfaces := #[]
  cf := some (fileOf pool5 1 #[] #[] 1537 3 #[] #[])
  fields := #[]
  methods := #[]
  instanceTypes := #[]
  staticTypes := #[]
  resolved := Array.replicate 11 none
  statics := none }

def pool6 : Array CpInfo := pool [(1, .class_ 2), (0, u "java/lang/constant/ConstantDesc"), (0, .class_ 4), (0, u "java/lang/Object")] 32

/-- java/lang/constant/ConstantDesc -/
def k6 : Class := { plain "java/lang/constant/ConstantDesc" (some 0) with
  accessFlags := 1537
  interfaces := #[]
  cf := some (fileOf pool6 1 #[] #[] 1537 3 #[] #[])
  fields := #[]
  methods := #[]
  instanceTypes := #[]
  staticTypes := #[]
  resolved := Array.replicate 37 none
  statics := none }

def pool7 : Array CpInfo := pool [(1, .methodref 2 3), (0, .class_ 4), (0, .nameAndType 5 6), (0, u "java/lang/Object"), (0, u "<init>"), (0, u "()V"), (2, .fieldref 10 11), (0, .class_ 12), (0, .nameAndType 13 14), (0, u "java/lang/String"), (0, u "value"), (0, u "[B"), (0, .fieldref 10 16), (0, .nameAndType 17 18), (0, u "coder"), (0, u "B"), (2, u "hash"), (0, u "I"), (2, u "hashIsZero"), (0, u "Z"), (0, .methodref 10 28), (0, .nameAndType 5 29), (0, u "([CIILjava/lang/Void;)V"), (6, u "checkBoundsOffCount"), (0, u "(III)I"), (0, .fieldref 10 39), (0, .nameAndType 40 26), (0, u "COMPACT_STRINGS"), (1, .class_ 44), (1, u "java/lang/StringUTF16"), (0, u "compress"), (1, .methodref 42 48), (0, .nameAndType 49 50), (0, u "coderFromArrayLen"), (0, u "([BI)B"), (2, u "toBytes"), (0, .methodref 55 56), (0, .class_ 57), (0, .nameAndType 58 59), (0, u "java/util/Arrays"), (0, u "copyOfRange"), (0, u "([BII)[B"), (37, u "([BII)I"), (8, .methodref 107 108), (0, .class_ 109), (0, .nameAndType 110 111), (0, u "java/lang/StringLatin1"), (0, u "inflate"), (0, u "([BI[BII)V"), (30, u "()Z"), (34, .methodref 42 178), (0, .nameAndType 45 179), (0, u "([CII)[B"), (13, .class_ 195), (1, u "java/lang/System"), (13, .methodref 10 210), (0, .nameAndType 5 211), (0, u "([BB)V"), (0, .methodref 193 213), (0, .nameAndType 214 215), (0, u "arraycopy"), (0, u "(Ljava/lang/Object;ILjava/lang/Object;II)V"), (118, u "()I"), (0, .methodref 10 336), (0, .nameAndType 17 337), (0, u "()B"), (2, u "()[B"), (28, u "(C)Z"), (21, u "(II)V"), (97, .methodref 10 490), (0, .nameAndType 5 491), (0, u "(Ljava/lang/AbstractStringBuilder;Ljava/lang/Void;)V"), (0, .methodref 10 493), (0, .nameAndType 494 142), (0, u "isLatin1"), (4, .methodref 10 500), (0, .nameAndType 501 391), (0, u "checkIndex"), (0, .methodref 42 503), (0, .nameAndType 504 97), (0, u "codePointAt"), (1, .nameAndType 507 334), (0, u "length"), (24, u "getBytes"), (8, .methodref 107 542), (0, .nameAndType 543 544), (0, u "equals"), (0, u "([B[B)Z"), (4, .methodref 550 506), (0, .class_ 551), (0, u "java/lang/AbstractStringBuilder"), (0, .methodref 550 553), (0, .nameAndType 554 340), (0, u "getValue"), (18, u "(Ljava/lang/Object;)Z"), (1, .class_ 576), (0, u "java/lang/CharSequence"), (22, u "CASE_INSENSITIVE_ORDER"), (0, u "Ljava/util/Comparator;"), (91, u "isEmpty"), (72, u "(I)I"), (16, u "valueOf"), (0, u "(C)Ljava/lang/String;"), (37, u "([BIB)V"), (188, u "([C)V"), (4, .methodref 107 1016), (0, .nameAndType 1017 369), (0, u "canEncode"), (0, .methodref 107 1019), (0, .nameAndType 53 1020), (0, u "(C)[B"), (0, .methodref 42 1019), (25, .methodref 550 493), (0, .fieldref 550 1049), (0, .nameAndType 1050 26), (0, u "maybeLatin1"), (2, .fieldref 1054 1055), (0, .class_ 1056), (0, .nameAndType 1057 1058), (0, u "jdk/internal/util/Preconditions"), (0, u "SIOOBE_FORMATTER"), (0, u "Ljava/util/function/BiFunction;"), (0, .methodref 1054 1060), (0, .nameAndType 501 1061), (0, u "(IILjava/util/function/BiFunction;)I"), (2, u "(IIILjava/util/function/BiFunction;)I"), (0, .methodref 1054 1066), (0, .nameAndType 1067 1064), (0, u "checkFromIndexSize"), (33, u "serialPersistentFields"), (0, u "[Ljava/io/ObjectStreamField;"), (0, .class_ 1104), (0, u "java/lang/String$CaseInsensitiveComparator"), (1, .class_ 1107), (0, u "java/io/Serializable"), (0, .class_ 1109), (0, u "java/lang/Comparable"), (0, .class_ 1111), (0, u "java/lang/constant/Constable"), (0, .class_ 1113), (0, u "java/lang/constant/ConstantDesc"), (2, u "serialVersionUID"), (0, u "J"), (3, u "REPL"), (0, u "C"), (2, u "LATIN1"), (1, u "UTF16"), (105, u "(Ljava/lang/StringBuilder;)V")] 217

def k7m0 : Method := { name := "<init>", desc := "()V", sig := { parameters := [], returnType := none }, accessFlags := 1, code := none }
def k7c1 : Code := { maxStack := 5, maxLocals := 2, code := jdk_42_method_3_code, exceptionTable := #[], attributes := #[] }
def k7m1 : Method := { name := "<init>", desc := "([C)V", sig := { parameters := [(.array .char)], returnType := none }, accessFlags := 1, code := some k7c1 }
def k7c2 : Code := { maxStack := 3, maxLocals := 2, code := jdk_42_method_53_code, exceptionTable := #[], attributes := #[] }
def k7m2 : Method := { name := "<init>", desc := "(Ljava/lang/StringBuilder;)V", sig := { parameters := [(.object "java/lang/StringBuilder")], returnType := none }, accessFlags := 1, code := some k7c2 }
def k7c3 : Code := { maxStack := 2, maxLocals := 1, code := jdk_42_method_54_code, exceptionTable := #[], attributes := #[] }
def k7m3 : Method := { name := "length", desc := "()I", sig := { parameters := [], returnType := some .int }, accessFlags := 1, code := some k7c3 }
def k7c4 : Code := { maxStack := 1, maxLocals := 1, code := jdk_42_method_55_code, exceptionTable := #[], attributes := #[] }
def k7m4 : Method := { name := "isEmpty", desc := "()Z", sig := { parameters := [], returnType := some .boolean }, accessFlags := 1, code := some k7c4 }
def k7c5 : Code := { maxStack := 3, maxLocals := 3, code := jdk_42_method_57_code, exceptionTable := #[], attributes := #[] }
def k7m5 : Method := { name := "codePointAt", desc := "(I)I", sig := { parameters := [.int], returnType := some .int }, accessFlags := 1, code := some k7c5 }
def k7c6 : Code := { maxStack := 2, maxLocals := 3, code := jdk_42_method_66_code, exceptionTable := #[], attributes := #[] }
def k7m6 : Method := { name := "equals", desc := "(Ljava/lang/Object;)Z", sig := { parameters := [(.object "java/lang/Object")], returnType := some .boolean }, accessFlags := 1, code := some k7c6 }
def k7c7 : Code := { maxStack := 4, maxLocals := 1, code := jdk_42_method_139_code, exceptionTable := #[], attributes := #[] }
def k7m7 : Method := { name := "valueOf", desc := "(C)Ljava/lang/String;", sig := { parameters := [.char], returnType := some (.object "java/lang/String") }, accessFlags := 9, code := some k7c7 }
def k7c8 : Code := { maxStack := 5, maxLocals := 4, code := jdk_42_method_147_code, exceptionTable := #[], attributes := #[] }
def k7m8 : Method := { name := "getBytes", desc := "([BIB)V", sig := { parameters := [(.array .byte), .int, .byte], returnType := none }, accessFlags := 0, code := some k7c8 }
def k7c9 : Code := { maxStack := 4, maxLocals := 6, code := jdk_42_method_149_code, exceptionTable := #[], attributes := #[] }
def k7m9 : Method := { name := "<init>", desc := "([CIILjava/lang/Void;)V", sig := { parameters := [(.array .char), .int, .int, (.object "java/lang/Void")], returnType := none }, accessFlags := 2, code := some k7c9 }
def k7c10 : Code := { maxStack := 5, maxLocals := 5, code := jdk_42_method_150_code, exceptionTable := #[], attributes := #[] }
def k7m10 : Method := { name := "<init>", desc := "(Ljava/lang/AbstractStringBuilder;Ljava/lang/Void;)V", sig := { parameters := [(.object "java/lang/AbstractStringBuilder"), (.object "java/lang/Void")], returnType := none }, accessFlags := 0, code := some k7c10 }
def k7c11 : Code := { maxStack := 2, maxLocals := 3, code := jdk_42_method_151_code, exceptionTable := #[], attributes := #[] }
def k7m11 : Method := { name := "<init>", desc := "([BB)V", sig := { parameters := [(.array .byte), .byte], returnType := none }, accessFlags := 0, code := some k7c11 }
def k7c12 : Code := { maxStack := 1, maxLocals := 1, code := jdk_42_method_152_code, exceptionTable := #[], attributes := #[] }
def k7m12 : Method := { name := "coder", desc := "()B", sig := { parameters := [], returnType := some .byte }, accessFlags := 0, code := some k7c12 }
def k7c13 : Code := { maxStack := 1, maxLocals := 1, code := jdk_42_method_154_code, exceptionTable := #[], attributes := #[] }
def k7m13 : Method := { name := "isLatin1", desc := "()Z", sig := { parameters := [], returnType := some .boolean }, accessFlags := 0, code := some k7c13 }
def k7c14 : Code := { maxStack := 3, maxLocals := 2, code := jdk_42_method_155_code, exceptionTable := #[], attributes := #[] }
def k7m14 : Method := { name := "checkIndex", desc := "(II)V", sig := { parameters := [.int, .int], returnType := none }, accessFlags := 8, code := some k7c14 }
def k7c15 : Code := { maxStack := 4, maxLocals := 3, code := jdk_42_method_157_code, exceptionTable := #[], attributes := #[] }
def k7m15 : Method := { name := "checkBoundsOffCount", desc := "(III)I", sig := { parameters := [.int, .int, .int], returnType := some .int }, accessFlags := 8, code := some k7c15 }
/-- java/lang/String -/
def k7 : Class := { plain "java/lang/String" (some 0) with
  accessFlags := 49
  interfaces := #[2, 3, 4, 5, 6]
  cf := some (fileOf pool7 10 #[.nestMembers #[1103]] #[{ accessFlags := 1, nameIndex := 5, descriptorIndex := 6, attributes := #[] }, { accessFlags := 1, nameIndex := 5, descriptorIndex := 1010, attributes := #[] }, { accessFlags := 1, nameIndex := 5, descriptorIndex := 1233, attributes := #[] }, { accessFlags := 1, nameIndex := 507, descriptorIndex := 334, attributes := #[] }, { accessFlags := 1, nameIndex := 692, descriptorIndex := 142, attributes := #[] }, { accessFlags := 1, nameIndex := 504, descriptorIndex := 765, attributes := #[] }, { accessFlags := 1, nameIndex := 543, descriptorIndex := 573, attributes := #[] }, { accessFlags := 9, nameIndex := 782, descriptorIndex := 783, attributes := #[] }, { accessFlags := 0, nameIndex := 532, descriptorIndex := 821, attributes := #[] }, { accessFlags := 2, nameIndex := 5, descriptorIndex := 29, attributes := #[] }, { accessFlags := 0, nameIndex := 5, descriptorIndex := 491, attributes := #[] }, { accessFlags := 0, nameIndex := 5, descriptorIndex := 211, attributes := #[] }, { accessFlags := 0, nameIndex := 17, descriptorIndex := 337, attributes := #[] }, { accessFlags := 0, nameIndex := 494, descriptorIndex := 142, attributes := #[] }, { accessFlags := 8, nameIndex := 501, descriptorIndex := 391, attributes := #[] }, { accessFlags := 8, nameIndex := 36, descriptorIndex := 37, attributes := #[] }] 49 2 #[1106, 1108, 575, 1110, 1112] #[{ accessFlags := 18, nameIndex := 13, descriptorIndex := 14, attributes := #[] }, { accessFlags := 18, nameIndex := 17, descriptorIndex := 18, attributes := #[] }, { accessFlags := 2, nameIndex := 21, descriptorIndex := 22, attributes := #[] }, { accessFlags := 2, nameIndex := 25, descriptorIndex := 26, attributes := #[] }, { accessFlags := 26, nameIndex := 1116, descriptorIndex := 1117, attributes := #[] }, { accessFlags := 24, nameIndex := 40, descriptorIndex := 26, attributes := #[] }, { accessFlags := 26, nameIndex := 1101, descriptorIndex := 1102, attributes := #[] }, { accessFlags := 26, nameIndex := 1121, descriptorIndex := 1122, attributes := #[] }, { accessFlags := 25, nameIndex := 599, descriptorIndex := 600, attributes := #[] }, { accessFlags := 24, nameIndex := 1125, descriptorIndex := 18, attributes := #[] }, { accessFlags := 24, nameIndex := 1127, descriptorIndex := 18, attributes := #[] }])
  fields := #[{ name := "value", type := (.array .byte), accessFlags := 18, slot := 0, constantValue := 0 }, { name := "coder", type := .byte, accessFlags := 18, slot := 1, constantValue := 0 }, { name := "hash", type := .int, accessFlags := 2, slot := 2, constantValue := 0 }, { name := "hashIsZero", type := .boolean, accessFlags := 2, slot := 3, constantValue := 0 }, { name := "serialVersionUID", type := .long, accessFlags := 26, slot := 0, constantValue := 0 }, { name := "COMPACT_STRINGS", type := .boolean, accessFlags := 24, slot := 1, constantValue := 0 }, { name := "serialPersistentFields", type := (.array (.object "java/io/ObjectStreamField")), accessFlags := 26, slot := 2, constantValue := 0 }, { name := "REPL", type := .char, accessFlags := 26, slot := 3, constantValue := 0 }, { name := "CASE_INSENSITIVE_ORDER", type := (.object "java/util/Comparator"), accessFlags := 25, slot := 4, constantValue := 0 }, { name := "LATIN1", type := .byte, accessFlags := 24, slot := 5, constantValue := 0 }, { name := "UTF16", type := .byte, accessFlags := 24, slot := 6, constantValue := 0 }]
  methods := #[k7m0, k7m1, k7m2, k7m3, k7m4, k7m5, k7m6, k7m7, k7m8, k7m9, k7m10, k7m11, k7m12, k7m13, k7m14, k7m15]
  instanceTypes := #[(.array .byte), .byte, .int, .boolean]
  staticTypes := #[.long, .boolean, (.array (.object "java/io/ObjectStreamField")), .char, (.object "java/util/Comparator"), .byte, .byte]
  resolved := Array.replicate 1451 none
  statics := some 0 }

def pool8 : Array CpInfo := pool [(4, .class_ 6), (1, u "java/lang/Object"), (0, u "<init>"), (0, u "()V"), (5, .class_ 16), (1, u "java/lang/StringLatin1"), (0, u "inflate"), (2, .class_ 22), (1, u "java/lang/StringUTF16"), (3, .nameAndType 17 27), (0, u "([BI[BII)V"), (62, u "canEncode"), (14, u "(C)Z"), (15, u "$assertionsDisabled"), (0, u "Z"), (98, .class_ 223), (1, u "java/lang/StringLatin1$LinesSpliterator"), (16, .methodref 20 26), (40, u "equals"), (0, u "([B[B)Z"), (97, u "toBytes"), (1, u "(C)[B"), (7, .class_ 391), (0, u "java/lang/StringLatin1$CharsSpliterator")] 3

def k8m0 : Method := { name := "<init>", desc := "()V", sig := { parameters := [], returnType := none }, accessFlags := 0, code := none }
def k8c1 : Code := { maxStack := 2, maxLocals := 1, code := jdk_43_method_3_code, exceptionTable := #[], attributes := #[] }
def k8m1 : Method := { name := "canEncode", desc := "(C)Z", sig := { parameters := [.char], returnType := some .boolean }, accessFlags := 9, code := some k8c1 }
def k8c2 : Code := { maxStack := 3, maxLocals := 3, code := jdk_43_method_13_code, exceptionTable := #[], attributes := #[] }
def k8m2 : Method := { name := "equals", desc := "([B[B)Z", sig := { parameters := [(.array .byte), (.array .byte)], returnType := some .boolean }, accessFlags := 9, code := some k8c2 }
def k8c3 : Code := { maxStack := 4, maxLocals := 1, code := jdk_43_method_46_code, exceptionTable := #[], attributes := #[] }
def k8m3 : Method := { name := "toBytes", desc := "(C)[B", sig := { parameters := [.char], returnType := some (.array .byte) }, accessFlags := 9, code := some k8c3 }
def k8c4 : Code := { maxStack := 5, maxLocals := 5, code := jdk_43_method_50_code, exceptionTable := #[], attributes := #[] }
def k8m4 : Method := { name := "inflate", desc := "([BI[BII)V", sig := { parameters := [(.array .byte), .int, (.array .byte), .int, .int], returnType := none }, accessFlags := 9, code := some k8c4 }
/-- java/lang/StringLatin1 -/
def k8 : Class := { plain "java/lang/StringLatin1" (some 0) with
  accessFlags := 48
  interfaces := #[]
  cf := some (fileOf pool8 14 #[.nestMembers #[390, 221]] #[{ accessFlags := 0, nameIndex := 7, descriptorIndex := 8, attributes := #[] }, { accessFlags := 9, nameIndex := 90, descriptorIndex := 105, attributes := #[] }, { accessFlags := 9, nameIndex := 281, descriptorIndex := 282, attributes := #[] }, { accessFlags := 9, nameIndex := 380, descriptorIndex := 382, attributes := #[] }, { accessFlags := 9, nameIndex := 17, descriptorIndex := 27, attributes := #[] }] 48 4 #[] #[{ accessFlags := 4120, nameIndex := 121, descriptorIndex := 122, attributes := #[] }])
  fields := #[{ name := "$assertionsDisabled", type := .boolean, accessFlags := 4120, slot := 0, constantValue := 0 }]
  methods := #[k8m0, k8m1, k8m2, k8m3, k8m4]
  instanceTypes := #[]
  staticTypes := #[.boolean]
  resolved := Array.replicate 395 none
  statics := none }

def pool9 : Array CpInfo := pool [(3, .class_ 4), (0, u "java/lang/String"), (1, .class_ 8), (1, u "java/lang/Object"), (0, u "<init>"), (0, u "()V"), (0, .methodref 12 13), (0, .class_ 14), (0, .nameAndType 15 16), (0, u "java/lang/StringUTF16"), (0, u "newBytesLength"), (0, u "(I)I"), (3, .integer 1073741823), (23, .fieldref 12 45), (0, .nameAndType 46 47), (0, u "$assertionsDisabled"), (0, u "Z"), (0, .methodref 12 49), (0, .nameAndType 50 51), (0, u "length"), (0, u "([B)I"), (7, .fieldref 12 60), (0, .nameAndType 61 62), (0, u "HI_BYTE_SHIFT"), (0, u "I"), (0, .fieldref 12 64), (0, .nameAndType 65 62), (0, u "LO_BYTE_SHIFT"), (5, .methodref 12 72), (0, .nameAndType 73 74), (0, u "getChar"), (0, u "([BI)C"), (0, .methodref 76 77), (0, .class_ 78), (0, .nameAndType 79 80), (0, u "java/lang/Character"), (0, u "isHighSurrogate"), (0, u "(C)Z"), (7, .methodref 12 89), (0, .nameAndType 90 91), (0, u "codePointAt"), (0, u "([BIIZ)I"), (7, u "(II[B)V"), (7, .methodref 12 108), (0, .nameAndType 109 110), (0, u "newBytesFor"), (0, u "(I)[B"), (0, .methodref 12 112), (0, .nameAndType 113 114), (0, u "putChar"), (0, u "([BII)V"), (0, .methodref 12 116), (0, .nameAndType 117 118), (0, u "compress"), (0, u "([CI[BII)I"), (0, .methodref 12 120), (0, .nameAndType 121 122), (0, u "toBytes"), (0, u "([CII)[B"), (17, u "inflate"), (0, u "([BI[BII)V"), (31, .methodref 12 174), (0, .nameAndType 175 99), (0, u "checkBoundsOffCount"), (74, u "([BII)I"), (10, u "coderFromArrayLen"), (0, u "([BI)B"), (18, u "(III)I"), (87, .class_ 371), (1, u "java/lang/StringUTF16$LinesSpliterator"), (47, .methodref 3 420), (0, .nameAndType 175 281), (9, u "MAX_LENGTH"), (44, u "(C)[B"), (151, .class_ 628), (0, u "java/lang/StringUTF16$CodePointsSpliterator"), (0, .class_ 630), (0, u "java/lang/StringUTF16$CharsSpliterator")] 4

def k9m0 : Method := { name := "<init>", desc := "()V", sig := { parameters := [], returnType := none }, accessFlags := 0, code := none }
def k9c1 : Code := { maxStack := 1, maxLocals := 1, code := jdk_52_method_2_code, exceptionTable := #[], attributes := #[] }
def k9m1 : Method := { name := "newBytesFor", desc := "(I)[B", sig := { parameters := [.int], returnType := some (.array .byte) }, accessFlags := 9, code := some k9c1 }
def k9c2 : Code := { maxStack := 4, maxLocals := 1, code := jdk_52_method_3_code, exceptionTable := #[], attributes := #[] }
def k9m2 : Method := { name := "newBytesLength", desc := "(I)I", sig := { parameters := [.int], returnType := some .int }, accessFlags := 9, code := some k9c2 }
def k9c3 : Code := { maxStack := 4, maxLocals := 3, code := jdk_52_method_4_code, exceptionTable := #[], attributes := #[] }
def k9m3 : Method := { name := "putChar", desc := "([BII)V", sig := { parameters := [(.array .byte), .int, .int], returnType := none }, accessFlags := 8, code := some k9c3 }
def k9c4 : Code := { maxStack := 3, maxLocals := 2, code := jdk_52_method_5_code, exceptionTable := #[], attributes := #[] }
def k9m4 : Method := { name := "getChar", desc := "([BI)C", sig := { parameters := [(.array .byte), .int], returnType := some .char }, accessFlags := 8, code := some k9c4 }
def k9c5 : Code := { maxStack := 2, maxLocals := 1, code := jdk_52_method_6_code, exceptionTable := #[], attributes := #[] }
def k9m5 : Method := { name := "length", desc := "([B)I", sig := { parameters := [(.array .byte)], returnType := some .int }, accessFlags := 9, code := some k9c5 }
def k9c6 : Code := { maxStack := 2, maxLocals := 6, code := jdk_52_method_7_code, exceptionTable := #[], attributes := #[] }
def k9m6 : Method := { name := "codePointAt", desc := "([BIIZ)I", sig := { parameters := [(.array .byte), .int, .int, .boolean], returnType := some .int }, accessFlags := 10, code := some k9c6 }
def k9c7 : Code := { maxStack := 4, maxLocals := 3, code := jdk_52_method_8_code, exceptionTable := #[], attributes := #[] }
def k9m7 : Method := { name := "codePointAt", desc := "([BII)I", sig := { parameters := [(.array .byte), .int, .int], returnType := some .int }, accessFlags := 9, code := some k9c7 }
def k9c8 : Code := { maxStack := 4, maxLocals := 5, code := jdk_52_method_14_code, exceptionTable := #[], attributes := #[] }
def k9m8 : Method := { name := "toBytes", desc := "([CII)[B", sig := { parameters := [(.array .char), .int, .int], returnType := some (.array .byte) }, accessFlags := 9, code := some k9c8 }
def k9c9 : Code := { maxStack := 2, maxLocals := 2, code := jdk_52_method_15_code, exceptionTable := #[], attributes := #[] }
def k9m9 : Method := { name := "coderFromArrayLen", desc := "([BI)B", sig := { parameters := [(.array .byte), .int], returnType := some .byte }, accessFlags := 8, code := some k9c9 }
def k9c10 : Code := { maxStack := 5, maxLocals := 6, code := jdk_52_method_16_code, exceptionTable := #[], attributes := #[] }
def k9m10 : Method := { name := "compress", desc := "([CII)[B", sig := { parameters := [(.array .char), .int, .int], returnType := some (.array .byte) }, accessFlags := 9, code := some k9c10 }
def k9c11 : Code := { maxStack := 3, maxLocals := 7, code := jdk_52_method_21_code, exceptionTable := #[], attributes := #[] }
def k9m11 : Method := { name := "compress", desc := "([CI[BII)I", sig := { parameters := [(.array .char), .int, (.array .byte), .int, .int], returnType := some .int }, accessFlags := 9, code := some k9c11 }
def k9c12 : Code := { maxStack := 3, maxLocals := 2, code := jdk_52_method_24_code, exceptionTable := #[], attributes := #[] }
def k9m12 : Method := { name := "toBytes", desc := "(C)[B", sig := { parameters := [.char], returnType := some (.array .byte) }, accessFlags := 9, code := some k9c12 }
def k9c13 : Code := { maxStack := 4, maxLocals := 6, code := jdk_52_method_86_code, exceptionTable := #[], attributes := #[] }
def k9m13 : Method := { name := "inflate", desc := "([BI[BII)V", sig := { parameters := [(.array .byte), .int, (.array .byte), .int, .int], returnType := none }, accessFlags := 9, code := some k9c13 }
def k9c14 : Code := { maxStack := 3, maxLocals := 3, code := jdk_52_method_94_code, exceptionTable := #[], attributes := #[] }
def k9m14 : Method := { name := "checkBoundsOffCount", desc := "(II[B)V", sig := { parameters := [.int, .int, (.array .byte)], returnType := none }, accessFlags := 9, code := some k9c14 }
/-- java/lang/StringUTF16 -/
def k9 : Class := { plain "java/lang/StringUTF16" (some 0) with
  accessFlags := 48
  interfaces := #[]
  cf := some (fileOf pool9 12 #[.nestMembers #[627, 629, 369]] #[{ accessFlags := 0, nameIndex := 9, descriptorIndex := 10, attributes := #[] }, { accessFlags := 9, nameIndex := 109, descriptorIndex := 110, attributes := #[] }, { accessFlags := 9, nameIndex := 15, descriptorIndex := 16, attributes := #[] }, { accessFlags := 8, nameIndex := 113, descriptorIndex := 114, attributes := #[] }, { accessFlags := 8, nameIndex := 73, descriptorIndex := 74, attributes := #[] }, { accessFlags := 9, nameIndex := 50, descriptorIndex := 51, attributes := #[] }, { accessFlags := 10, nameIndex := 90, descriptorIndex := 91, attributes := #[] }, { accessFlags := 9, nameIndex := 90, descriptorIndex := 250, attributes := #[] }, { accessFlags := 9, nameIndex := 121, descriptorIndex := 122, attributes := #[] }, { accessFlags := 8, nameIndex := 261, descriptorIndex := 262, attributes := #[] }, { accessFlags := 9, nameIndex := 117, descriptorIndex := 122, attributes := #[] }, { accessFlags := 9, nameIndex := 117, descriptorIndex := 118, attributes := #[] }, { accessFlags := 9, nameIndex := 121, descriptorIndex := 475, attributes := #[] }, { accessFlags := 9, nameIndex := 140, descriptorIndex := 141, attributes := #[] }, { accessFlags := 9, nameIndex := 175, descriptorIndex := 99, attributes := #[] }] 48 6 #[] #[{ accessFlags := 26, nameIndex := 61, descriptorIndex := 62, attributes := #[] }, { accessFlags := 26, nameIndex := 65, descriptorIndex := 62, attributes := #[] }, { accessFlags := 24, nameIndex := 430, descriptorIndex := 62, attributes := #[] }, { accessFlags := 4120, nameIndex := 46, descriptorIndex := 47, attributes := #[] }])
  fields := #[{ name := "HI_BYTE_SHIFT", type := .int, accessFlags := 26, slot := 0, constantValue := 0 }, { name := "LO_BYTE_SHIFT", type := .int, accessFlags := 26, slot := 1, constantValue := 0 }, { name := "MAX_LENGTH", type := .int, accessFlags := 24, slot := 2, constantValue := 0 }, { name := "$assertionsDisabled", type := .boolean, accessFlags := 4120, slot := 3, constantValue := 0 }]
  methods := #[k9m0, k9m1, k9m2, k9m3, k9m4, k9m5, k9m6, k9m7, k9m8, k9m9, k9m10, k9m11, k9m12, k9m13, k9m14]
  instanceTypes := #[]
  staticTypes := #[.int, .int, .int, .boolean]
  resolved := Array.replicate 635 none
  statics := some 1 }

def pool10 : Array CpInfo := pool [(1, .methodref 2 3), (0, .class_ 4), (0, .nameAndType 5 6), (0, u "java/lang/Object"), (0, u "<init>"), (0, u "()V"), (0, .string 8), (0, u "operation"), (0, .methodref 10 11), (0, .class_ 12), (0, .nameAndType 13 14), (0, u "com/example/rightful_roles/rightfulroles/core/Names"), (0, u "requireName"), (0, u "(Ljava/lang/String;Ljava/lang/String;)Ljava/lang/String;"), (0, .fieldref 16 17), (0, .class_ 18), (0, .nameAndType 8 19), (0, u "com/example/rightful_roles/rightfulroles/core/Permission"), (0, u "Ljava/lang/String;"), (0, .string 21), (0, u "object"), (0, .fieldref 16 23), (0, .nameAndType 21 19), (12, .class_ 37), (0, u "java/lang/StringBuilder"), (0, .methodref 36 3), (4, .methodref 36 44), (0, .nameAndType 45 46), (0, u "append"), (0, u "(Ljava/lang/String;)Ljava/lang/StringBuilder;"), (2, .methodref 36 50), (0, .nameAndType 51 52), (0, u "toString"), (0, u "()Ljava/lang/String;"), (0, .string 54), (0, u "("), (0, .string 56), (0, u ", "), (0, .string 58), (0, u ")"), (0, u "(Ljava/lang/String;Ljava/lang/String;)V")] 10

def k10c0 : Code := { maxStack := 3, maxLocals := 3, code := prog_12_method_1_code, exceptionTable := #[], attributes := #[] }
def k10m0 : Method := { name := "<init>", desc := "(Ljava/lang/String;Ljava/lang/String;)V", sig := { parameters := [(.object "java/lang/String"), (.object "java/lang/String")], returnType := none }, accessFlags := 1, code := some k10c0 }
def k10c1 : Code := { maxStack := 2, maxLocals := 1, code := prog_12_method_7_code, exceptionTable := #[], attributes := #[] }
def k10m1 : Method := { name := "toString", desc := "()Ljava/lang/String;", sig := { parameters := [], returnType := some (.object "java/lang/String") }, accessFlags := 1, code := some k10c1 }
/-- com/example/rightful_roles/rightfulroles/core/Permission -/
def k10 : Class := { plain "com/example/rightful_roles/rightfulroles/core/Permission" (some 0) with
  accessFlags := 49
  interfaces := #[]
  cf := some (fileOf pool10 16 #[] #[{ accessFlags := 1, nameIndex := 5, descriptorIndex := 59, attributes := #[] }, { accessFlags := 1, nameIndex := 51, descriptorIndex := 52, attributes := #[] }] 49 2 #[] #[{ accessFlags := 18, nameIndex := 8, descriptorIndex := 19, attributes := #[] }, { accessFlags := 18, nameIndex := 21, descriptorIndex := 19, attributes := #[] }])
  fields := #[{ name := "operation", type := (.object "java/lang/String"), accessFlags := 18, slot := 0, constantValue := 0 }, { name := "object", type := (.object "java/lang/String"), accessFlags := 18, slot := 1, constantValue := 0 }]
  methods := #[k10m0, k10m1]
  instanceTypes := #[(.object "java/lang/String"), (.object "java/lang/String")]
  staticTypes := #[]
  resolved := Array.replicate 70 none
  statics := none }

def pool11 : Array CpInfo := pool [(2, .class_ 4), (1, u "java/lang/Object"), (0, u "<init>"), (0, u "()V"), (0, .methodref 8 9), (0, .class_ 10), (0, .nameAndType 11 12), (0, u "java/util/Objects"), (0, u "requireNonNull"), (0, u "(Ljava/lang/Object;Ljava/lang/String;)Ljava/lang/Object;"), (0, .methodref 14 15), (0, .class_ 16), (0, .nameAndType 17 18), (0, u "java/lang/String"), (0, u "isEmpty"), (0, u "()Z"), (20, .methodref 14 40), (0, .nameAndType 41 42), (0, u "length"), (0, u "()I"), (0, .methodref 14 44), (0, .nameAndType 45 46), (0, u "codePointAt"), (0, u "(I)I"), (0, .class_ 48), (0, u "java/lang/Character"), (0, .integer 55296), (0, .integer 57343), (5, .methodref 47 57), (0, .nameAndType 58 46), (0, u "charCount"), (6, .class_ 67), (1, u "com/example/rightful_roles/rightfulroles/core/Names"), (0, u "CODE_POINT_ORDER"), (0, u "Ljava/util/Comparator;"), (57, u "requireName"), (0, u "(Ljava/lang/String;Ljava/lang/String;)Ljava/lang/String;")] 32

def k11m0 : Method := { name := "<init>", desc := "()V", sig := { parameters := [], returnType := none }, accessFlags := 2, code := none }
def k11c1 : Code := { maxStack := 4, maxLocals := 4, code := prog_11_method_2_code, exceptionTable := #[], attributes := #[] }
def k11m1 : Method := { name := "requireName", desc := "(Ljava/lang/String;Ljava/lang/String;)Ljava/lang/String;", sig := { parameters := [(.object "java/lang/String"), (.object "java/lang/String")], returnType := some (.object "java/lang/String") }, accessFlags := 8, code := some k11c1 }
/-- com/example/rightful_roles/rightfulroles/core/Names -/
def k11 : Class := { plain "com/example/rightful_roles/rightfulroles/core/Names" (some 0) with
  accessFlags := 49
  interfaces := #[]
  cf := some (fileOf pool11 65 #[] #[{ accessFlags := 2, nameIndex := 5, descriptorIndex := 6, attributes := #[] }, { accessFlags := 8, nameIndex := 127, descriptorIndex := 128, attributes := #[] }] 49 2 #[] #[{ accessFlags := 25, nameIndex := 68, descriptorIndex := 69, attributes := #[] }])
  fields := #[{ name := "CODE_POINT_ORDER", type := (.object "java/util/Comparator"), accessFlags := 25, slot := 0, constantValue := 0 }]
  methods := #[k11m0, k11m1]
  instanceTypes := #[]
  staticTypes := #[(.object "java/util/Comparator")]
  resolved := Array.replicate 161 none
  statics := none }

def pool12 : Array CpInfo := pool [(2, .class_ 4), (1, u "java/lang/Object"), (0, u "<init>"), (0, u "()V"), (35, .class_ 44), (1, u "java/util/Objects"), (0, u "requireNonNull"), (48, u "(Ljava/lang/Object;Ljava/lang/String;)Ljava/lang/Object;")] 89

def k12m0 : Method := { name := "<init>", desc := "()V", sig := { parameters := [], returnType := none }, accessFlags := 2, code := none }
def k12c1 : Code := { maxStack := 3, maxLocals := 2, code := jdk_31_method_11_code, exceptionTable := #[], attributes := #[] }
def k12m1 : Method := { name := "requireNonNull", desc := "(Ljava/lang/Object;Ljava/lang/String;)Ljava/lang/Object;", sig := { parameters := [(.object "java/lang/Object"), (.object "java/lang/String")], returnType := some (.object "java/lang/Object") }, accessFlags := 9, code := some k12c1 }
/-- java/util/Objects -/
def k12 : Class := { plain "java/util/Objects" (some 0) with
  accessFlags := 49
  interfaces := #[]
  cf := some (fileOf pool12 42 #[] #[{ accessFlags := 2, nameIndex := 5, descriptorIndex := 6, attributes := #[] }, { accessFlags := 9, nameIndex := 45, descriptorIndex := 94, attributes := #[] }] 49 2 #[] #[])
  fields := #[]
  methods := #[k12m0, k12m1]
  instanceTypes := #[]
  staticTypes := #[]
  resolved := Array.replicate 184 none
  statics := none }

def pool13 : Array CpInfo := pool [(2, .class_ 4), (1, u "java/lang/Object"), (0, u "<init>"), (0, u "()V"), (17, .class_ 26), (1, u "jdk/internal/util/Preconditions"), (6, u "checkIndex"), (15, u "checkFromIndexSize"), (5, .class_ 56), (0, u "jdk/internal/util/Preconditions$4"), (57, .class_ 115), (0, u "jdk/internal/util/Preconditions$1"), (7, u "SIOOBE_FORMATTER"), (0, u "Ljava/util/function/BiFunction;"), (0, .class_ 126), (0, u "jdk/internal/util/Preconditions$2"), (3, u "AIOOBE_FORMATTER"), (0, .class_ 132), (0, u "jdk/internal/util/Preconditions$3"), (3, u "IOOBE_FORMATTER"), (41, u "(IILjava/util/function/BiFunction;)I"), (4, u "(IIILjava/util/function/BiFunction;)I")] 10

def k13m0 : Method := { name := "<init>", desc := "()V", sig := { parameters := [], returnType := none }, accessFlags := 1, code := none }
def k13c1 : Code := { maxStack := 3, maxLocals := 3, code := jdk_41_method_11_code, exceptionTable := #[], attributes := #[] }
def k13m1 : Method := { name := "checkIndex", desc := "(IILjava/util/function/BiFunction;)I", sig := { parameters := [.int, .int, (.object "java/util/function/BiFunction")], returnType := some .int }, accessFlags := 9, code := some k13c1 }
def k13c2 : Code := { maxStack := 4, maxLocals := 4, code := jdk_41_method_13_code, exceptionTable := #[], attributes := #[] }
def k13m2 : Method := { name := "checkFromIndexSize", desc := "(IIILjava/util/function/BiFunction;)I", sig := { parameters := [.int, .int, .int, (.object "java/util/function/BiFunction")], returnType := some .int }, accessFlags := 9, code := some k13c2 }
/-- jdk/internal/util/Preconditions -/
def k13 : Class := { plain "jdk/internal/util/Preconditions" (some 0) with
  accessFlags := 33
  interfaces := #[]
  cf := some (fileOf pool13 24 #[.nestMembers #[55, 131, 125, 114]] #[{ accessFlags := 1, nameIndex := 5, descriptorIndex := 6, attributes := #[] }, { accessFlags := 9, nameIndex := 33, descriptorIndex := 178, attributes := #[] }, { accessFlags := 9, nameIndex := 49, descriptorIndex := 183, attributes := #[] }] 33 2 #[] #[{ accessFlags := 25, nameIndex := 123, descriptorIndex := 124, attributes := #[] }, { accessFlags := 25, nameIndex := 130, descriptorIndex := 124, attributes := #[] }, { accessFlags := 25, nameIndex := 136, descriptorIndex := 124, attributes := #[] }])
  fields := #[{ name := "SIOOBE_FORMATTER", type := (.object "java/util/function/BiFunction"), accessFlags := 25, slot := 0, constantValue := 0 }, { name := "AIOOBE_FORMATTER", type := (.object "java/util/function/BiFunction"), accessFlags := 25, slot := 1, constantValue := 0 }, { name := "IOOBE_FORMATTER", type := (.object "java/util/function/BiFunction"), accessFlags := 25, slot := 2, constantValue := 0 }]
  methods := #[k13m0, k13m1, k13m2]
  instanceTypes := #[]
  staticTypes := #[(.object "java/util/function/BiFunction"), (.object "java/util/function/BiFunction"), (.object "java/util/function/BiFunction")]
  resolved := Array.replicate 194 none
  statics := some 2 }

def pool14 : Array CpInfo := pool [(1, .class_ 2), (0, u "java/lang/Character"), (18, u "value"), (0, u "C"), (19, .class_ 44), (1, u "java/lang/Object"), (3, .class_ 50), (1, u "java/lang/Character$CharacterCache"), (22, .integer 65536), (1, .integer 55296), (0, .integer 56320), (3, u "isHighSurrogate"), (0, u "(C)Z"), (92, u "(I)I"), (109, u "$assertionsDisabled"), (0, u "Z"), (21, .class_ 309), (1, u "java/lang/Character$UnicodeBlock"), (73, u "TYPE"), (0, u "Ljava/lang/Class;"), (0, .class_ 386), (0, u "java/io/Serializable"), (0, .class_ 388), (0, u "java/lang/Comparable"), (0, .class_ 390), (0, u "java/lang/constant/Constable"), (0, u "MIN_RADIX"), (0, u "I"), (2, u "MAX_RADIX"), (1, u "MIN_VALUE"), (1, u "MAX_VALUE"), (3, u "UNASSIGNED"), (0, u "B"), (0, u "UPPERCASE_LETTER"), (1, u "LOWERCASE_LETTER"), (0, u "TITLECASE_LETTER"), (1, u "MODIFIER_LETTER"), (1, u "OTHER_LETTER"), (1, u "NON_SPACING_MARK"), (1, u "ENCLOSING_MARK"), (1, u "COMBINING_SPACING_MARK"), (1, u "DECIMAL_DIGIT_NUMBER"), (1, u "LETTER_NUMBER"), (1, u "OTHER_NUMBER"), (1, u "SPACE_SEPARATOR"), (1, u "LINE_SEPARATOR"), (1, u "PARAGRAPH_SEPARATOR"), (1, u "CONTROL"), (1, u "FORMAT"), (1, u "PRIVATE_USE"), (1, u "SURROGATE"), (1, u "DASH_PUNCTUATION"), (1, u "START_PUNCTUATION"), (1, u "END_PUNCTUATION"), (1, u "CONNECTOR_PUNCTUATION"), (1, u "OTHER_PUNCTUATION"), (1, u "MATH_SYMBOL"), (1, u "CURRENCY_SYMBOL"), (1, u "MODIFIER_SYMBOL"), (1, u "OTHER_SYMBOL"), (1, u "INITIAL_QUOTE_PUNCTUATION"), (1, u "FINAL_QUOTE_PUNCTUATION"), (1, u "ERROR"), (1, u "DIRECTIONALITY_UNDEFINED"), (0, u "DIRECTIONALITY_LEFT_TO_RIGHT"), (0, u "DIRECTIONALITY_RIGHT_TO_LEFT"), (0, u "DIRECTIONALITY_RIGHT_TO_LEFT_ARABIC"), (0, u "DIRECTIONALITY_EUROPEAN_NUMBER"), (0, u "DIRECTIONALITY_EUROPEAN_NUMBER_SEPARATOR"), (0, u "DIRECTIONALITY_EUROPEAN_NUMBER_TERMINATOR"), (0, u "DIRECTIONALITY_ARABIC_NUMBER"), (0, u "DIRECTIONALITY_COMMON_NUMBER_SEPARATOR"), (0, u "DIRECTIONALITY_NONSPACING_MARK"), (0, u "DIRECTIONALITY_BOUNDARY_NEUTRAL"), (0, u "DIRECTIONALITY_PARAGRAPH_SEPARATOR"), (0, u "DIRECTIONALITY_SEGMENT_SEPARATOR"), (0, u "DIRECTIONALITY_WHITESPACE"), (0, u "DIRECTIONALITY_OTHER_NEUTRALS"), (0, u "DIRECTIONALITY_LEFT_TO_RIGHT_EMBEDDING"), (0, u "DIRECTIONALITY_LEFT_TO_RIGHT_OVERRIDE"), (0, u "DIRECTIONALITY_RIGHT_TO_LEFT_EMBEDDING"), (0, u "DIRECTIONALITY_RIGHT_TO_LEFT_OVERRIDE"), (1, u "DIRECTIONALITY_POP_DIRECTIONAL_FORMAT"), (0, u "DIRECTIONALITY_LEFT_TO_RIGHT_ISOLATE"), (0, u "DIRECTIONALITY_RIGHT_TO_LEFT_ISOLATE"), (0, u "DIRECTIONALITY_FIRST_STRONG_ISOLATE"), (0, u "DIRECTIONALITY_POP_DIRECTIONAL_ISOLATE"), (0, u "MIN_HIGH_SURROGATE"), (0, u "MAX_HIGH_SURROGATE"), (1, u "MIN_LOW_SURROGATE"), (0, u "MAX_LOW_SURROGATE"), (1, u "MIN_SURROGATE"), (0, u "MAX_SURROGATE"), (0, u "MIN_SUPPLEMENTARY_CODE_POINT"), (0, u "MIN_CODE_POINT"), (0, u "MAX_CODE_POINT"), (1, u "serialVersionUID"), (0, u "J"), (2, u "SIZE"), (0, u "BYTES"), (29, u "charCount"), (58, .class_ 596), (0, u "java/lang/Character$UnicodeScript"), (0, .class_ 598), (0, u "java/lang/Character$Subset")] 5

def k14c0 : Code := { maxStack := 2, maxLocals := 1, code := jdk_89_method_14_code, exceptionTable := #[], attributes := #[] }
def k14m0 : Method := { name := "isHighSurrogate", desc := "(C)Z", sig := { parameters := [.char], returnType := some .boolean }, accessFlags := 9, code := some k14c0 }
def k14c1 : Code := { maxStack := 2, maxLocals := 1, code := jdk_89_method_18_code, exceptionTable := #[], attributes := #[] }
def k14m1 : Method := { name := "charCount", desc := "(I)I", sig := { parameters := [.int], returnType := some .int }, accessFlags := 9, code := some k14c1 }
/-- java/lang/Character -/
def k14 : Class := { plain "java/lang/Character" (some 0) with
  accessFlags := 49
  interfaces := #[2, 3, 5]
  cf := some (fileOf pool14 1 #[.nestMembers #[48, 595, 307, 597]] #[{ accessFlags := 9, nameIndex := 80, descriptorIndex := 81, attributes := #[] }, { accessFlags := 9, nameIndex := 536, descriptorIndex := 174, attributes := #[] }] 49 42 #[385, 387, 389] #[{ accessFlags := 25, nameIndex := 391, descriptorIndex := 392, attributes := #[] }, { accessFlags := 25, nameIndex := 395, descriptorIndex := 392, attributes := #[] }, { accessFlags := 25, nameIndex := 397, descriptorIndex := 22, attributes := #[] }, { accessFlags := 25, nameIndex := 399, descriptorIndex := 22, attributes := #[] }, { accessFlags := 25, nameIndex := 383, descriptorIndex := 384, attributes := #[] }, { accessFlags := 25, nameIndex := 403, descriptorIndex := 404, attributes := #[] }, { accessFlags := 25, nameIndex := 405, descriptorIndex := 404, attributes := #[] }, { accessFlags := 25, nameIndex := 407, descriptorIndex := 404, attributes := #[] }, { accessFlags := 25, nameIndex := 408, descriptorIndex := 404, attributes := #[] }, { accessFlags := 25, nameIndex := 410, descriptorIndex := 404, attributes := #[] }, { accessFlags := 25, nameIndex := 412, descriptorIndex := 404, attributes := #[] }, { accessFlags := 25, nameIndex := 414, descriptorIndex := 404, attributes := #[] }, { accessFlags := 25, nameIndex := 416, descriptorIndex := 404, attributes := #[] }, { accessFlags := 25, nameIndex := 418, descriptorIndex := 404, attributes := #[] }, { accessFlags := 25, nameIndex := 420, descriptorIndex := 404, attributes := #[] }, { accessFlags := 25, nameIndex := 422, descriptorIndex := 404, attributes := #[] }, { accessFlags := 25, nameIndex := 424, descriptorIndex := 404, attributes := #[] }, { accessFlags := 25, nameIndex := 426, descriptorIndex := 404, attributes := #[] }, { accessFlags := 25, nameIndex := 428, descriptorIndex := 404, attributes := #[] }, { accessFlags := 25, nameIndex := 430, descriptorIndex := 404, attributes := #[] }, { accessFlags := 25, nameIndex := 432, descriptorIndex := 404, attributes := #[] }, { accessFlags := 25, nameIndex := 434, descriptorIndex := 404, attributes := #[] }, { accessFlags := 25, nameIndex := 436, descriptorIndex := 404, attributes := #[] }, { accessFlags := 25, nameIndex := 438, descriptorIndex := 404, attributes := #[] }, { accessFlags := 25, nameIndex := 440, descriptorIndex := 404, attributes := #[] }, { accessFlags := 25, nameIndex := 442, descriptorIndex := 404, attributes := #[] }, { accessFlags := 25, nameIndex := 444, descriptorIndex := 404, attributes := #[] }, { accessFlags := 25, nameIndex := 446, descriptorIndex := 404, attributes := #[] }, { accessFlags := 25, nameIndex := 448, descriptorIndex := 404, attributes := #[] }, { accessFlags := 25, nameIndex := 450, descriptorIndex := 404, attributes := #[] }, { accessFlags := 25, nameIndex := 452, descriptorIndex := 404, attributes := #[] }, { accessFlags := 25, nameIndex := 454, descriptorIndex := 404, attributes := #[] }, { accessFlags := 25, nameIndex := 456, descriptorIndex := 404, attributes := #[] }, { accessFlags := 25, nameIndex := 458, descriptorIndex := 404, attributes := #[] }, { accessFlags := 25, nameIndex := 460, descriptorIndex := 404, attributes := #[] }, { accessFlags := 24, nameIndex := 462, descriptorIndex := 392, attributes := #[] }, { accessFlags := 25, nameIndex := 464, descriptorIndex := 404, attributes := #[] }, { accessFlags := 25, nameIndex := 465, descriptorIndex := 404, attributes := #[] }, { accessFlags := 25, nameIndex := 466, descriptorIndex := 404, attributes := #[] }, { accessFlags := 25, nameIndex := 467, descriptorIndex := 404, attributes := #[] }, { accessFlags := 25, nameIndex := 468, descriptorIndex := 404, attributes := #[] }, { accessFlags := 25, nameIndex := 469, descriptorIndex := 404, attributes := #[] }, { accessFlags := 25, nameIndex := 470, descriptorIndex := 404, attributes := #[] }, { accessFlags := 25, nameIndex := 471, descriptorIndex := 404, attributes := #[] }, { accessFlags := 25, nameIndex := 472, descriptorIndex := 404, attributes := #[] }, { accessFlags := 25, nameIndex := 473, descriptorIndex := 404, attributes := #[] }, { accessFlags := 25, nameIndex := 474, descriptorIndex := 404, attributes := #[] }, { accessFlags := 25, nameIndex := 475, descriptorIndex := 404, attributes := #[] }, { accessFlags := 25, nameIndex := 476, descriptorIndex := 404, attributes := #[] }, { accessFlags := 25, nameIndex := 477, descriptorIndex := 404, attributes := #[] }, { accessFlags := 25, nameIndex := 478, descriptorIndex := 404, attributes := #[] }, { accessFlags := 25, nameIndex := 479, descriptorIndex := 404, attributes := #[] }, { accessFlags := 25, nameIndex := 480, descriptorIndex := 404, attributes := #[] }, { accessFlags := 25, nameIndex := 481, descriptorIndex := 404, attributes := #[] }, { accessFlags := 25, nameIndex := 482, descriptorIndex := 404, attributes := #[] }, { accessFlags := 25, nameIndex := 484, descriptorIndex := 404, attributes := #[] }, { accessFlags := 25, nameIndex := 485, descriptorIndex := 404, attributes := #[] }, { accessFlags := 25, nameIndex := 486, descriptorIndex := 404, attributes := #[] }, { accessFlags := 25, nameIndex := 487, descriptorIndex := 404, attributes := #[] }, { accessFlags := 25, nameIndex := 488, descriptorIndex := 404, attributes := #[] }, { accessFlags := 25, nameIndex := 489, descriptorIndex := 22, attributes := #[] }, { accessFlags := 25, nameIndex := 490, descriptorIndex := 22, attributes := #[] }, { accessFlags := 25, nameIndex := 492, descriptorIndex := 22, attributes := #[] }, { accessFlags := 25, nameIndex := 493, descriptorIndex := 22, attributes := #[] }, { accessFlags := 25, nameIndex := 495, descriptorIndex := 22, attributes := #[] }, { accessFlags := 25, nameIndex := 496, descriptorIndex := 22, attributes := #[] }, { accessFlags := 25, nameIndex := 497, descriptorIndex := 392, attributes := #[] }, { accessFlags := 25, nameIndex := 498, descriptorIndex := 392, attributes := #[] }, { accessFlags := 25, nameIndex := 499, descriptorIndex := 392, attributes := #[] }, { accessFlags := 18, nameIndex := 21, descriptorIndex := 22, attributes := #[] }, { accessFlags := 26, nameIndex := 501, descriptorIndex := 502, attributes := #[] }, { accessFlags := 25, nameIndex := 505, descriptorIndex := 392, attributes := #[] }, { accessFlags := 25, nameIndex := 506, descriptorIndex := 392, attributes := #[] }, { accessFlags := 4120, nameIndex := 284, descriptorIndex := 285, attributes := #[] }])
  fields := #[{ name := "MIN_RADIX", type := .int, accessFlags := 25, slot := 0, constantValue := 0 }, { name := "MAX_RADIX", type := .int, accessFlags := 25, slot := 1, constantValue := 0 }, { name := "MIN_VALUE", type := .char, accessFlags := 25, slot := 2, constantValue := 0 }, { name := "MAX_VALUE", type := .char, accessFlags := 25, slot := 3, constantValue := 0 }, { name := "TYPE", type := (.object "java/lang/Class"), accessFlags := 25, slot := 4, constantValue := 0 }, { name := "UNASSIGNED", type := .byte, accessFlags := 25, slot := 5, constantValue := 0 }, { name := "UPPERCASE_LETTER", type := .byte, accessFlags := 25, slot := 6, constantValue := 0 }, { name := "LOWERCASE_LETTER", type := .byte, accessFlags := 25, slot := 7, constantValue := 0 }, { name := "TITLECASE_LETTER", type := .byte, accessFlags := 25, slot := 8, constantValue := 0 }, { name := "MODIFIER_LETTER", type := .byte, accessFlags := 25, slot := 9, constantValue := 0 }, { name := "OTHER_LETTER", type := .byte, accessFlags := 25, slot := 10, constantValue := 0 }, { name := "NON_SPACING_MARK", type := .byte, accessFlags := 25, slot := 11, constantValue := 0 }, { name := "ENCLOSING_MARK", type := .byte, accessFlags := 25, slot := 12, constantValue := 0 }, { name := "COMBINING_SPACING_MARK", type := .byte, accessFlags := 25, slot := 13, constantValue := 0 }, { name := "DECIMAL_DIGIT_NUMBER", type := .byte, accessFlags := 25, slot := 14, constantValue := 0 }, { name := "LETTER_NUMBER", type := .byte, accessFlags := 25, slot := 15, constantValue := 0 }, { name := "OTHER_NUMBER", type := .byte, accessFlags := 25, slot := 16, constantValue := 0 }, { name := "SPACE_SEPARATOR", type := .byte, accessFlags := 25, slot := 17, constantValue := 0 }, { name := "LINE_SEPARATOR", type := .byte, accessFlags := 25, slot := 18, constantValue := 0 }, { name := "PARAGRAPH_SEPARATOR", type := .byte, accessFlags := 25, slot := 19, constantValue := 0 }, { name := "CONTROL", type := .byte, accessFlags := 25, slot := 20, constantValue := 0 }, { name := "FORMAT", type := .byte, accessFlags := 25, slot := 21, constantValue := 0 }, { name := "PRIVATE_USE", type := .byte, accessFlags := 25, slot := 22, constantValue := 0 }, { name := "SURROGATE", type := .byte, accessFlags := 25, slot := 23, constantValue := 0 }, { name := "DASH_PUNCTUATION", type := .byte, accessFlags := 25, slot := 24, constantValue := 0 }, { name := "START_PUNCTUATION", type := .byte, accessFlags := 25, slot := 25, constantValue := 0 }, { name := "END_PUNCTUATION", type := .byte, accessFlags := 25, slot := 26, constantValue := 0 }, { name := "CONNECTOR_PUNCTUATION", type := .byte, accessFlags := 25, slot := 27, constantValue := 0 }, { name := "OTHER_PUNCTUATION", type := .byte, accessFlags := 25, slot := 28, constantValue := 0 }, { name := "MATH_SYMBOL", type := .byte, accessFlags := 25, slot := 29, constantValue := 0 }, { name := "CURRENCY_SYMBOL", type := .byte, accessFlags := 25, slot := 30, constantValue := 0 }, { name := "MODIFIER_SYMBOL", type := .byte, accessFlags := 25, slot := 31, constantValue := 0 }, { name := "OTHER_SYMBOL", type := .byte, accessFlags := 25, slot := 32, constantValue := 0 }, { name := "INITIAL_QUOTE_PUNCTUATION", type := .byte, accessFlags := 25, slot := 33, constantValue := 0 }, { name := "FINAL_QUOTE_PUNCTUATION", type := .byte, accessFlags := 25, slot := 34, constantValue := 0 }, { name := "ERROR", type := .int, accessFlags := 24, slot := 35, constantValue := 0 }, { name := "DIRECTIONALITY_UNDEFINED", type := .byte, accessFlags := 25, slot := 36, constantValue := 0 }, { name := "DIRECTIONALITY_LEFT_TO_RIGHT", type := .byte, accessFlags := 25, slot := 37, constantValue := 0 }, { name := "DIRECTIONALITY_RIGHT_TO_LEFT", type := .byte, accessFlags := 25, slot := 38, constantValue := 0 }, { name := "DIRECTIONALITY_RIGHT_TO_LEFT_ARABIC", type := .byte, accessFlags := 25, slot := 39, constantValue := 0 }, { name := "DIRECTIONALITY_EUROPEAN_NUMBER", type := .byte, accessFlags := 25, slot := 40, constantValue := 0 }, { name := "DIRECTIONALITY_EUROPEAN_NUMBER_SEPARATOR", type := .byte, accessFlags := 25, slot := 41, constantValue := 0 }, { name := "DIRECTIONALITY_EUROPEAN_NUMBER_TERMINATOR", type := .byte, accessFlags := 25, slot := 42, constantValue := 0 }, { name := "DIRECTIONALITY_ARABIC_NUMBER", type := .byte, accessFlags := 25, slot := 43, constantValue := 0 }, { name := "DIRECTIONALITY_COMMON_NUMBER_SEPARATOR", type := .byte, accessFlags := 25, slot := 44, constantValue := 0 }, { name := "DIRECTIONALITY_NONSPACING_MARK", type := .byte, accessFlags := 25, slot := 45, constantValue := 0 }, { name := "DIRECTIONALITY_BOUNDARY_NEUTRAL", type := .byte, accessFlags := 25, slot := 46, constantValue := 0 }, { name := "DIRECTIONALITY_PARAGRAPH_SEPARATOR", type := .byte, accessFlags := 25, slot := 47, constantValue := 0 }, { name := "DIRECTIONALITY_SEGMENT_SEPARATOR", type := .byte, accessFlags := 25, slot := 48, constantValue := 0 }, { name := "DIRECTIONALITY_WHITESPACE", type := .byte, accessFlags := 25, slot := 49, constantValue := 0 }, { name := "DIRECTIONALITY_OTHER_NEUTRALS", type := .byte, accessFlags := 25, slot := 50, constantValue := 0 }, { name := "DIRECTIONALITY_LEFT_TO_RIGHT_EMBEDDING", type := .byte, accessFlags := 25, slot := 51, constantValue := 0 }, { name := "DIRECTIONALITY_LEFT_TO_RIGHT_OVERRIDE", type := .byte, accessFlags := 25, slot := 52, constantValue := 0 }, { name := "DIRECTIONALITY_RIGHT_TO_LEFT_EMBEDDING", type := .byte, accessFlags := 25, slot := 53, constantValue := 0 }, { name := "DIRECTIONALITY_RIGHT_TO_LEFT_OVERRIDE", type := .byte, accessFlags := 25, slot := 54, constantValue := 0 }, { name := "DIRECTIONALITY_POP_DIRECTIONAL_FORMAT", type := .byte, accessFlags := 25, slot := 55, constantValue := 0 }, { name := "DIRECTIONALITY_LEFT_TO_RIGHT_ISOLATE", type := .byte, accessFlags := 25, slot := 56, constantValue := 0 }, { name := "DIRECTIONALITY_RIGHT_TO_LEFT_ISOLATE", type := .byte, accessFlags := 25, slot := 57, constantValue := 0 }, { name := "DIRECTIONALITY_FIRST_STRONG_ISOLATE", type := .byte, accessFlags := 25, slot := 58, constantValue := 0 }, { name := "DIRECTIONALITY_POP_DIRECTIONAL_ISOLATE", type := .byte, accessFlags := 25, slot := 59, constantValue := 0 }, { name := "MIN_HIGH_SURROGATE", type := .char, accessFlags := 25, slot := 60, constantValue := 0 }, { name := "MAX_HIGH_SURROGATE", type := .char, accessFlags := 25, slot := 61, constantValue := 0 }, { name := "MIN_LOW_SURROGATE", type := .char, accessFlags := 25, slot := 62, constantValue := 0 }, { name := "MAX_LOW_SURROGATE", type := .char, accessFlags := 25, slot := 63, constantValue := 0 }, { name := "MIN_SURROGATE", type := .char, accessFlags := 25, slot := 64, constantValue := 0 }, { name := "MAX_SURROGATE", type := .char, accessFlags := 25, slot := 65, constantValue := 0 }, { name := "MIN_SUPPLEMENTARY_CODE_POINT", type := .int, accessFlags := 25, slot := 66, constantValue := 0 }, { name := "MIN_CODE_POINT", type := .int, accessFlags := 25, slot := 67, constantValue := 0 }, { name := "MAX_CODE_POINT", type := .int, accessFlags := 25, slot := 68, constantValue := 0 }, { name := "value", type := .char, accessFlags := 18, slot := 0, constantValue := 0 }, { name := "serialVersionUID", type := .long, accessFlags := 26, slot := 69, constantValue := 0 }, { name := "SIZE", type := .int, accessFlags := 25, slot := 70, constantValue := 0 }, { name := "BYTES", type := .int, accessFlags := 25, slot := 71, constantValue := 0 }, { name := "$assertionsDisabled", type := .boolean, accessFlags := 4120, slot := 72, constantValue := 0 }]
  methods := #[k14m0, k14m1]
  instanceTypes := #[.char]
  staticTypes := #[.int, .int, .char, .char, (.object "java/lang/Class"), .byte, .byte, .byte, .byte, .byte, .byte, .byte, .byte, .byte, .byte, .byte, .byte, .byte, .byte, .byte, .byte, .byte, .byte, .byte, .byte, .byte, .byte, .byte, .byte, .byte, .byte, .byte, .byte, .byte, .byte, .int, .byte, .byte, .byte, .byte, .byte, .byte, .byte, .byte, .byte, .byte, .byte, .byte, .byte, .byte, .byte, .byte, .byte, .byte, .byte, .byte, .byte, .byte, .byte, .byte, .char, .char, .char, .char, .char, .char, .int, .int, .int, .long, .int, .int, .boolean]
  resolved := Array.replicate 604 none
  statics := none }

def pool15 : Array CpInfo := pool [(1, .class_ 2), (0, u "java/lang/Appendable"), (0, .class_ 4), (0, u "java/lang/Object")] 9

/-- java/lang/Appendable -/
def k15 : Class := { plain "java/lang/Appendable" (some 0) with
  accessFlags := 1537
  interfaces := #[]
  cf := some (fileOf pool15 1 #[] #[] 1537 3 #[] #[])
  fields := #[]
  methods := #[]
  instanceTypes := #[]
  staticTypes := #[]
  resolved := Array.replicate 14 none
  statics := none }

def pool16 : Array CpInfo := pool [(1, .class_ 2), (0, u "java/lang/String"), (0, .methodref 4 5), (0, .class_ 6), (0, .nameAndType 7 8), (0, u "java/lang/Object"), (0, u "<init>"), (0, u "()V"), (1, .class_ 12), (1, u "java/lang/AbstractStringBuilder"), (0, u "EMPTYVALUE"), (0, u "[B"), (0, .fieldref 10 16), (0, .nameAndType 17 14), (0, u "value"), (0, .fieldref 1 19), (0, .nameAndType 20 21), (0, u "COMPACT_STRINGS"), (0, u "Z"), (0, .fieldref 10 23), (0, .nameAndType 24 25), (0, u "coder"), (0, u "B"), (0, .methodref 27 28), (0, .class_ 29), (0, .nameAndType 30 31), (0, u "java/lang/StringUTF16"), (0, u "newBytesFor"), (0, u "(I)[B"), (0, .methodref 1 33), (0, .nameAndType 34 35), (0, u "length"), (0, u "()I"), (4, .methodref 1 41), (0, .nameAndType 24 42), (0, u "()B"), (2, u "append"), (0, u "(Ljava/lang/String;)Ljava/lang/AbstractStringBuilder;"), (1, .class_ 49), (0, u "java/lang/CharSequence"), (19, u "(Ljava/lang/String;)V"), (5, u "maybeLatin1"), (3, .fieldref 10 80), (0, .nameAndType 81 82), (0, u "count"), (0, u "I"), (0, .methodref 10 84), (0, .nameAndType 85 86), (0, u "isLatin1"), (0, u "()Z"), (1, .class_ 90), (1, u "java/lang/StringLatin1"), (9, .methodref 10 101), (0, .nameAndType 102 103), (0, u "ensureCapacityInternal"), (0, u "(I)V"), (21, .methodref 88 126), (0, .nameAndType 127 128), (0, u "inflate"), (0, u "([BI[BII)V"), (66, .methodref 10 196), (0, .nameAndType 127 8), (11, .methodref 10 209), (0, .nameAndType 210 211), (0, u "putStringAt"), (0, u "(ILjava/lang/String;)V"), (5, u "inflateIfNeededFor"), (2, .nameAndType 221 222), (0, u "getBytes"), (0, u "([BIB)V"), (174, .methodref 10 398), (0, .nameAndType 217 69), (0, .methodref 1 220), (3, u "()[B"), (40, .class_ 445), (0, u "java/lang/Appendable"), (106, u "getValue")] 56

def k16m0 : Method := { name := "<init>", desc := "()V", sig := { parameters := [], returnType := none }, accessFlags := 0, code := none }
def k16c1 : Code := { maxStack := 2, maxLocals := 2, code := jdk_68_method_2_code, exceptionTable := #[], attributes := #[] }
def k16m1 : Method := { name := "<init>", desc := "(I)V", sig := { parameters := [.int], returnType := none }, accessFlags := 0, code := some k16c1 }
def k16c2 : Code := { maxStack := 1, maxLocals := 1, code := jdk_68_method_6_code, exceptionTable := #[], attributes := #[] }
def k16m2 : Method := { name := "length", desc := "()I", sig := { parameters := [], returnType := some .int }, accessFlags := 1, code := some k16c2 }
def k16c3 : Code := { maxStack := 4, maxLocals := 3, code := jdk_68_method_9_code, exceptionTable := #[], attributes := #[] }
def k16m3 : Method := { name := "ensureCapacityInternal", desc := "(I)V", sig := { parameters := [.int], returnType := none }, accessFlags := 2, code := some k16c3 }
def k16c4 : Code := { maxStack := 5, maxLocals := 2, code := jdk_68_method_11_code, exceptionTable := #[], attributes := #[] }
def k16m4 : Method := { name := "inflate", desc := "()V", sig := { parameters := [], returnType := none }, accessFlags := 2, code := some k16c4 }
def k16c5 : Code := { maxStack := 3, maxLocals := 3, code := jdk_68_method_22_code, exceptionTable := #[], attributes := #[] }
def k16m5 : Method := { name := "append", desc := "(Ljava/lang/String;)Ljava/lang/AbstractStringBuilder;", sig := { parameters := [(.object "java/lang/String")], returnType := some (.object "java/lang/AbstractStringBuilder") }, accessFlags := 1, code := some k16c5 }
def k16c6 : Code := { maxStack := 1, maxLocals := 1, code := jdk_68_method_64_code, exceptionTable := #[], attributes := #[] }
def k16m6 : Method := { name := "getValue", desc := "()[B", sig := { parameters := [], returnType := some (.array .byte) }, accessFlags := 16, code := some k16c6 }
def k16c7 : Code := { maxStack := 1, maxLocals := 1, code := jdk_68_method_68_code, exceptionTable := #[], attributes := #[] }
def k16m7 : Method := { name := "isLatin1", desc := "()Z", sig := { parameters := [], returnType := some .boolean }, accessFlags := 16, code := some k16c7 }
def k16c8 : Code := { maxStack := 2, maxLocals := 2, code := jdk_68_method_71_code, exceptionTable := #[], attributes := #[] }
def k16m8 : Method := { name := "inflateIfNeededFor", desc := "(Ljava/lang/String;)V", sig := { parameters := [(.object "java/lang/String")], returnType := none }, accessFlags := 2, code := some k16c8 }
def k16c9 : Code := { maxStack := 4, maxLocals := 3, code := jdk_68_method_73_code, exceptionTable := #[], attributes := #[] }
def k16m9 : Method := { name := "putStringAt", desc := "(ILjava/lang/String;)V", sig := { parameters := [.int, (.object "java/lang/String")], returnType := none }, accessFlags := 2, code := some k16c9 }
/-- java/lang/AbstractStringBuilder -/
def k16 : Class := { plain "java/lang/AbstractStringBuilder" (some 0) with
  accessFlags := 1056
  interfaces := #[15, 4]
  cf := some (fileOf pool16 10 #[] #[{ accessFlags := 0, nameIndex := 7, descriptorIndex := 8, attributes := #[] }, { accessFlags := 0, nameIndex := 7, descriptorIndex := 103, attributes := #[] }, { accessFlags := 1, nameIndex := 34, descriptorIndex := 35, attributes := #[] }, { accessFlags := 2, nameIndex := 102, descriptorIndex := 103, attributes := #[] }, { accessFlags := 2, nameIndex := 127, descriptorIndex := 8, attributes := #[] }, { accessFlags := 1, nameIndex := 45, descriptorIndex := 46, attributes := #[] }, { accessFlags := 16, nameIndex := 552, descriptorIndex := 403, attributes := #[] }, { accessFlags := 16, nameIndex := 85, descriptorIndex := 86, attributes := #[] }, { accessFlags := 2, nameIndex := 217, descriptorIndex := 69, attributes := #[] }, { accessFlags := 2, nameIndex := 210, descriptorIndex := 211, attributes := #[] }] 1056 4 #[444, 48] #[{ accessFlags := 0, nameIndex := 17, descriptorIndex := 14, attributes := #[] }, { accessFlags := 0, nameIndex := 24, descriptorIndex := 25, attributes := #[] }, { accessFlags := 0, nameIndex := 75, descriptorIndex := 21, attributes := #[] }, { accessFlags := 0, nameIndex := 81, descriptorIndex := 82, attributes := #[] }, { accessFlags := 26, nameIndex := 13, descriptorIndex := 14, attributes := #[] }])
  fields := #[{ name := "value", type := (.array .byte), accessFlags := 0, slot := 0, constantValue := 0 }, { name := "coder", type := .byte, accessFlags := 0, slot := 1, constantValue := 0 }, { name := "maybeLatin1", type := .boolean, accessFlags := 0, slot := 2, constantValue := 0 }, { name := "count", type := .int, accessFlags := 0, slot := 3, constantValue := 0 }, { name := "EMPTYVALUE", type := (.array .byte), accessFlags := 26, slot := 0, constantValue := 0 }]
  methods := #[k16m0, k16m1, k16m2, k16m3, k16m4, k16m5, k16m6, k16m7, k16m8, k16m9]
  instanceTypes := #[(.array .byte), .byte, .boolean, .int]
  staticTypes := #[(.array .byte)]
  resolved := Array.replicate 609 none
  statics := none }

def pool17 : Array CpInfo := pool [(1, .methodref 2 3), (0, .class_ 4), (0, .nameAndType 5 6), (0, u "java/lang/AbstractStringBuilder"), (0, u "<init>"), (0, u "(I)V"), (11, .class_ 20), (1, u "java/lang/String"), (3, .class_ 26), (1, u "java/lang/StringBuilder"), (0, u "append"), (0, u "(Ljava/lang/String;)Ljava/lang/StringBuilder;"), (0, .methodref 2 30), (0, .nameAndType 27 31), (0, u "(Ljava/lang/String;)Ljava/lang/AbstractStringBuilder;"), (105, .methodref 18 138), (0, .nameAndType 5 139), (0, u "(Ljava/lang/StringBuilder;)V"), (5, u "()V"), (10, u "()I"), (186, .methodref 2 344), (0, .nameAndType 345 156), (0, u "length"), (3, .class_ 350), (0, u "java/lang/Appendable"), (0, .class_ 352), (0, u "java/io/Serializable"), (0, .class_ 354), (0, u "java/lang/Comparable"), (0, .class_ 356), (0, u "java/lang/CharSequence"), (0, u "serialVersionUID"), (0, u "J"), (40, u "toString"), (0, u "()Ljava/lang/String;")] 21

def k17c0 : Code := { maxStack := 2, maxLocals := 1, code := jdk_67_method_1_code, exceptionTable := #[], attributes := #[] }
def k17m0 : Method := { name := "<init>", desc := "()V", sig := { parameters := [], returnType := none }, accessFlags := 1, code := some k17c0 }
def k17c1 : Code := { maxStack := 2, maxLocals := 2, code := jdk_67_method_7_code, exceptionTable := #[], attributes := #[] }
def k17m1 : Method := { name := "append", desc := "(Ljava/lang/String;)Ljava/lang/StringBuilder;", sig := { parameters := [(.object "java/lang/String")], returnType := some (.object "java/lang/StringBuilder") }, accessFlags := 1, code := some k17c1 }
def k17c2 : Code := { maxStack := 3, maxLocals := 1, code := jdk_67_method_42_code, exceptionTable := #[], attributes := #[] }
def k17m2 : Method := { name := "toString", desc := "()Ljava/lang/String;", sig := { parameters := [], returnType := some (.object "java/lang/String") }, accessFlags := 1, code := some k17c2 }
def k17c3 : Code := { maxStack := 1, maxLocals := 1, code := jdk_67_method_93_code, exceptionTable := #[], attributes := #[] }
def k17m3 : Method := { name := "length", desc := "()I", sig := { parameters := [], returnType := some .int }, accessFlags := 4161, code := some k17c3 }
/-- java/lang/StringBuilder -/
def k17 : Class := { plain "java/lang/StringBuilder" (some 16) with
  accessFlags := 49
  interfaces := #[15, 2, 3, 4]
  cf := some (fileOf pool17 24 #[] #[{ accessFlags := 1, nameIndex := 5, descriptorIndex := 145, attributes := #[] }, { accessFlags := 1, nameIndex := 27, descriptorIndex := 28, attributes := #[] }, { accessFlags := 1, nameIndex := 399, descriptorIndex := 400, attributes := #[] }, { accessFlags := 4161, nameIndex := 345, descriptorIndex := 156, attributes := #[] }] 49 2 #[349, 351, 353, 355] #[{ accessFlags := 24, nameIndex := 357, descriptorIndex := 358, attributes := #[] }])
  fields := #[{ name := "serialVersionUID", type := .long, accessFlags := 24, slot := 0, constantValue := 0 }]
  methods := #[k17m0, k17m1, k17m2, k17m3]
  instanceTypes := #[(.array .byte), .byte, .boolean, .int]
  staticTypes := #[.long]
  resolved := Array.replicate 422 none
  statics := none }

def pool18 : Array CpInfo := pool [(2, .class_ 4), (1, u "java/lang/Object"), (0, u "<init>"), (0, u "()V"), (1, .class_ 10), (1, u "java/lang/System"), (0, u "allowSecurityManager"), (0, u "I"), (16, u "cons"), (0, u "Ljava/io/Console;"), (77, .class_ 110), (1, u "java/lang/System$CallersHolder"), (43, u "initialErrStream"), (0, u "Ljava/io/PrintStream;"), (19, u "security"), (0, u "Ljava/lang/SecurityManager;"), (31, .class_ 209), (0, u "java/lang/System$1"), (7, u "props"), (0, u "Ljava/util/Properties;"), (2, u "lineSeparator"), (0, u "Ljava/lang/String;"), (96, .class_ 321), (1, u "java/lang/System$LoggerFinder"), (5, .class_ 328), (0, u "java/lang/System$Logger"), (67, u "err"), (2, u "out"), (91, u "notSupportedJnuEncoding"), (15, u "in"), (17, u "initialIn"), (0, u "Ljava/io/InputStream;"), (35, u "bootLayer"), (0, u "Ljava/lang/ModuleLayer;"), (99, .class_ 664), (0, u "java/lang/System$2"), (9, u "NEVER"), (2, u "MAYBE"), (49, u "arraycopy"), (0, u "(Ljava/lang/Object;ILjava/lang/Object;II)V"), (72, .class_ 802), (0, u "java/lang/System$Logger$Level")] 31

def k18m0 : Method := { name := "<init>", desc := "()V", sig := { parameters := [], returnType := none }, accessFlags := 2, code := none }
def k18m1 : Method := { name := "arraycopy", desc := "(Ljava/lang/Object;ILjava/lang/Object;II)V", sig := { parameters := [(.object "java/lang/Object"), .int, (.object "java/lang/Object"), .int, .int], returnType := none }, accessFlags := 265, code := none }
/-- java/lang/System -/
def k18 : Class := { plain "java/lang/System" (some 0) with
  accessFlags := 49
  interfaces := #[]
  cf := some (fileOf pool18 8 #[.nestMembers #[319, 327, 801, 108, 663, 208]] #[{ accessFlags := 2, nameIndex := 5, descriptorIndex := 6, attributes := #[] }, { accessFlags := 265, nameIndex := 727, descriptorIndex := 728, attributes := #[] }] 49 2 #[] #[{ accessFlags := 25, nameIndex := 507, descriptorIndex := 526, attributes := #[] }, { accessFlags := 25, nameIndex := 399, descriptorIndex := 155, attributes := #[] }, { accessFlags := 25, nameIndex := 396, descriptorIndex := 155, attributes := #[] }, { accessFlags := 10, nameIndex := 525, descriptorIndex := 526, attributes := #[] }, { accessFlags := 26, nameIndex := 674, descriptorIndex := 12, attributes := #[] }, { accessFlags := 26, nameIndex := 677, descriptorIndex := 12, attributes := #[] }, { accessFlags := 10, nameIndex := 11, descriptorIndex := 12, attributes := #[] }, { accessFlags := 74, nameIndex := 175, descriptorIndex := 176, attributes := #[] }, { accessFlags := 10, nameIndex := 491, descriptorIndex := 222, attributes := #[] }, { accessFlags := 74, nameIndex := 29, descriptorIndex := 30, attributes := #[] }, { accessFlags := 74, nameIndex := 154, descriptorIndex := 155, attributes := #[] }, { accessFlags := 10, nameIndex := 217, descriptorIndex := 218, attributes := #[] }, { accessFlags := 10, nameIndex := 221, descriptorIndex := 222, attributes := #[] }, { accessFlags := 8, nameIndex := 562, descriptorIndex := 563, attributes := #[] }])
  fields := #[{ name := "in", type := (.object "java/io/InputStream"), accessFlags := 25, slot := 0, constantValue := 0 }, { name := "out", type := (.object "java/io/PrintStream"), accessFlags := 25, slot := 1, constantValue := 0 }, { name := "err", type := (.object "java/io/PrintStream"), accessFlags := 25, slot := 2, constantValue := 0 }, { name := "initialIn", type := (.object "java/io/InputStream"), accessFlags := 10, slot := 3, constantValue := 0 }, { name := "NEVER", type := .int, accessFlags := 26, slot := 4, constantValue := 0 }, { name := "MAYBE", type := .int, accessFlags := 26, slot := 5, constantValue := 0 }, { name := "allowSecurityManager", type := .int, accessFlags := 10, slot := 6, constantValue := 0 }, { name := "security", type := (.object "java/lang/SecurityManager"), accessFlags := 74, slot := 7, constantValue := 0 }, { name := "notSupportedJnuEncoding", type := (.object "java/lang/String"), accessFlags := 10, slot := 8, constantValue := 0 }, { name := "cons", type := (.object "java/io/Console"), accessFlags := 74, slot := 9, constantValue := 0 }, { name := "initialErrStream", type := (.object "java/io/PrintStream"), accessFlags := 74, slot := 10, constantValue := 0 }, { name := "props", type := (.object "java/util/Properties"), accessFlags := 10, slot := 11, constantValue := 0 }, { name := "lineSeparator", type := (.object "java/lang/String"), accessFlags := 10, slot := 12, constantValue := 0 }, { name := "bootLayer", type := (.object "java/lang/ModuleLayer"), accessFlags := 8, slot := 13, constantValue := 0 }]
  methods := #[k18m0, k18m1]
  instanceTypes := #[]
  staticTypes := #[(.object "java/io/InputStream"), (.object "java/io/PrintStream"), (.object "java/io/PrintStream"), (.object "java/io/InputStream"), .int, .int, .int, (.object "java/lang/SecurityManager"), (.object "java/lang/String"), (.object "java/io/Console"), (.object "java/io/PrintStream"), (.object "java/util/Properties"), (.object "java/lang/String"), (.object "java/lang/ModuleLayer")]
  resolved := Array.replicate 834 none
  statics := none }

def pool19 : Array CpInfo := pool [(2, .class_ 4), (1, u "java/lang/Object"), (0, u "<init>"), (0, u "()V"), (7, .class_ 16), (1, u "java/util/Arrays"), (57, .class_ 76), (1, u "java/util/Arrays$NaturalOrder"), (36, .class_ 115), (1, u "java/util/Arrays$LegacyMergeSort"), (1, u "Z"), (21, u "copyOfRange"), (10, .methodref 151 152), (0, .class_ 153), (0, .nameAndType 154 155), (0, u "java/lang/System"), (0, u "arraycopy"), (0, u "(Ljava/lang/Object;ILjava/lang/Object;II)V"), (148, .methodref 305 306), (0, .class_ 307), (0, .nameAndType 308 309), (0, u "java/lang/Math"), (0, u "min"), (0, u "(II)I"), (29, .methodref 14 340), (0, .nameAndType 341 342), (0, u "copyOfRangeByte"), (0, u "([BII)[B"), (0, .methodref 14 344), (0, .nameAndType 345 346), (0, u "checkLength"), (0, u "(II)V"), (28, .class_ 376), (0, u "java/util/Arrays$ArrayList"), (68, u "$assertionsDisabled"), (269, u "MIN_ARRAY_SORT_GRAN"), (0, u "I"), (2, u "INSERTIONSORT_THRESHOLD"), (255, .class_ 976), (0, u "java/util/Arrays$ArrayItr")] 52

def k19m0 : Method := { name := "<init>", desc := "()V", sig := { parameters := [], returnType := none }, accessFlags := 2, code := none }
def k19c1 : Code := { maxStack := 4, maxLocals := 2, code := jdk_65_method_131_code, exceptionTable := #[], attributes := #[] }
def k19m1 : Method := { name := "checkLength", desc := "(II)V", sig := { parameters := [.int, .int], returnType := none }, accessFlags := 10, code := some k19c1 }
def k19c2 : Code := { maxStack := 3, maxLocals := 3, code := jdk_65_method_132_code, exceptionTable := #[], attributes := #[] }
def k19m2 : Method := { name := "copyOfRange", desc := "([BII)[B", sig := { parameters := [(.array .byte), .int, .int], returnType := some (.array .byte) }, accessFlags := 9, code := some k19c2 }
def k19c3 : Code := { maxStack := 6, maxLocals := 5, code := jdk_65_method_133_code, exceptionTable := #[], attributes := #[] }
def k19m3 : Method := { name := "copyOfRangeByte", desc := "([BII)[B", sig := { parameters := [(.array .byte), .int, .int], returnType := some (.array .byte) }, accessFlags := 10, code := some k19c3 }
/-- java/util/Arrays -/
def k19 : Class := { plain "java/util/Arrays" (some 0) with
  accessFlags := 49
  interfaces := #[]
  cf := some (fileOf pool19 14 #[.nestMembers #[975, 375, 113, 74]] #[{ accessFlags := 2, nameIndex := 5, descriptorIndex := 6, attributes := #[] }, { accessFlags := 10, nameIndex := 345, descriptorIndex := 346, attributes := #[] }, { accessFlags := 9, nameIndex := 139, descriptorIndex := 342, attributes := #[] }, { accessFlags := 10, nameIndex := 341, descriptorIndex := 342, attributes := #[] }] 49 2 #[] #[{ accessFlags := 26, nameIndex := 715, descriptorIndex := 716, attributes := #[] }, { accessFlags := 26, nameIndex := 719, descriptorIndex := 716, attributes := #[] }, { accessFlags := 4120, nameIndex := 445, descriptorIndex := 117, attributes := #[] }])
  fields := #[{ name := "MIN_ARRAY_SORT_GRAN", type := .int, accessFlags := 26, slot := 0, constantValue := 0 }, { name := "INSERTIONSORT_THRESHOLD", type := .int, accessFlags := 26, slot := 1, constantValue := 0 }, { name := "$assertionsDisabled", type := .boolean, accessFlags := 4120, slot := 2, constantValue := 0 }]
  methods := #[k19m0, k19m1, k19m2, k19m3]
  instanceTypes := #[]
  staticTypes := #[.int, .int, .boolean]
  resolved := Array.replicate 1029 none
  statics := none }

def pool20 : Array CpInfo := pool [(1, .class_ 2), (0, u "java/lang/Math"), (1, .class_ 6), (1, u "java/lang/Object"), (0, u "<init>"), (0, u "()V"), (89, .class_ 100), (1, u "java/lang/Math$RandomNumberGeneratorHolder"), (71, u "negativeZeroFloatBits"), (0, u "J"), (2, u "negativeZeroDoubleBits"), (24, u "min"), (43, u "$assertionsDisabled"), (0, u "Z"), (88, u "(II)I"), (2, u "twoToTheDoubleScaleDown"), (0, u "D"), (4, u "twoToTheDoubleScaleUp"), (9, u "E"), (3, u "PI"), (2, u "TAU"), (2, u "DEGREES_TO_RADIANS"), (0, u "RADIANS_TO_DEGREES")] 94

def k20m0 : Method := { name := "<init>", desc := "()V", sig := { parameters := [], returnType := none }, accessFlags := 2, code := none }
def k20c1 : Code := { maxStack := 2, maxLocals := 2, code := jdk_29_method_69_code, exceptionTable := #[], attributes := #[] }
def k20m1 : Method := { name := "min", desc := "(II)I", sig := { parameters := [.int, .int], returnType := some .int }, accessFlags := 9, code := some k20c1 }
/-- java/lang/Math -/
def k20 : Class := { plain "java/lang/Math" (some 0) with
  accessFlags := 49
  interfaces := #[]
  cf := some (fileOf pool20 1 #[.nestMembers #[98]] #[{ accessFlags := 2, nameIndex := 7, descriptorIndex := 8, attributes := #[] }, { accessFlags := 9, nameIndex := 201, descriptorIndex := 335, attributes := #[] }] 49 4 #[] #[{ accessFlags := 25, nameIndex := 354, descriptorIndex := 339, attributes := #[] }, { accessFlags := 25, nameIndex := 358, descriptorIndex := 339, attributes := #[] }, { accessFlags := 25, nameIndex := 361, descriptorIndex := 339, attributes := #[] }, { accessFlags := 26, nameIndex := 364, descriptorIndex := 339, attributes := #[] }, { accessFlags := 26, nameIndex := 365, descriptorIndex := 339, attributes := #[] }, { accessFlags := 26, nameIndex := 172, descriptorIndex := 173, attributes := #[] }, { accessFlags := 26, nameIndex := 176, descriptorIndex := 173, attributes := #[] }, { accessFlags := 8, nameIndex := 344, descriptorIndex := 339, attributes := #[] }, { accessFlags := 8, nameIndex := 338, descriptorIndex := 339, attributes := #[] }, { accessFlags := 4120, nameIndex := 245, descriptorIndex := 246, attributes := #[] }])
  fields := #[{ name := "E", type := .double, accessFlags := 25, slot := 0, constantValue := 0 }, { name := "PI", type := .double, accessFlags := 25, slot := 1, constantValue := 0 }, { name := "TAU", type := .double, accessFlags := 25, slot := 2, constantValue := 0 }, { name := "DEGREES_TO_RADIANS", type := .double, accessFlags := 26, slot := 3, constantValue := 0 }, { name := "RADIANS_TO_DEGREES", type := .double, accessFlags := 26, slot := 4, constantValue := 0 }, { name := "negativeZeroFloatBits", type := .long, accessFlags := 26, slot := 5, constantValue := 0 }, { name := "negativeZeroDoubleBits", type := .long, accessFlags := 26, slot := 6, constantValue := 0 }, { name := "twoToTheDoubleScaleUp", type := .double, accessFlags := 8, slot := 7, constantValue := 0 }, { name := "twoToTheDoubleScaleDown", type := .double, accessFlags := 8, slot := 8, constantValue := 0 }, { name := "$assertionsDisabled", type := .boolean, accessFlags := 4120, slot := 9, constantValue := 0 }]
  methods := #[k20m0, k20m1]
  instanceTypes := #[]
  staticTypes := #[.double, .double, .double, .double, .double, .long, .long, .double, .double, .boolean]
  resolved := Array.replicate 460 none
  statics := none }

def pool21 : Array CpInfo := pool [(9, u "<init>"), (6, .class_ 18), (1, u "java/lang/Object"), (0, u "()V"), (1, .class_ 23), (1, u "jdk/internal/util/ArraysSupport"), (0, u "LOG2_ARRAY_LONG_INDEX_SCALE"), (0, u "I"), (2, u "U"), (0, u "Ljdk/internal/misc/Unsafe;"), (8, u "BIG_ENDIAN"), (0, u "Z"), (8, u "LOG2_BYTE_BIT_SIZE"), (4, u "LOG2_ARRAY_INT_INDEX_SCALE"), (54, u "JLA"), (0, u "Ljdk/internal/access/JavaLangAccess;"), (11, u "LOG2_ARRAY_BOOLEAN_INDEX_SCALE"), (9, u "LOG2_ARRAY_BYTE_INDEX_SCALE"), (5, u "LOG2_ARRAY_CHAR_INDEX_SCALE"), (5, u "LOG2_ARRAY_SHORT_INDEX_SCALE"), (18, u "LOG2_ARRAY_FLOAT_INDEX_SCALE"), (24, u "LOG2_ARRAY_DOUBLE_INDEX_SCALE"), (89, u "T_BOOLEAN"), (2, u "T_CHAR"), (1, u "T_FLOAT"), (1, u "T_DOUBLE"), (1, u "T_BYTE"), (1, u "T_SHORT"), (1, u "T_INT"), (1, u "T_LONG"), (1, u "SOFT_MAX_ARRAY_LENGTH")] 83

def k21m0 : Method := { name := "<init>", desc := "()V", sig := { parameters := [], returnType := none }, accessFlags := 2, code := none }
/-- jdk/internal/util/ArraysSupport -/
def k21 : Class := { plain "jdk/internal/util/ArraysSupport" (some 0) with
  accessFlags := 33
  interfaces := #[]
  cf := some (fileOf pool21 21 #[] #[{ accessFlags := 2, nameIndex := 9, descriptorIndex := 19, attributes := #[] }] 33 16 #[] #[{ accessFlags := 24, nameIndex := 28, descriptorIndex := 29, attributes := #[] }, { accessFlags := 26, nameIndex := 38, descriptorIndex := 39, attributes := #[] }, { accessFlags := 25, nameIndex := 121, descriptorIndex := 25, attributes := #[] }, { accessFlags := 25, nameIndex := 131, descriptorIndex := 25, attributes := #[] }, { accessFlags := 25, nameIndex := 137, descriptorIndex := 25, attributes := #[] }, { accessFlags := 25, nameIndex := 143, descriptorIndex := 25, attributes := #[] }, { accessFlags := 25, nameIndex := 53, descriptorIndex := 25, attributes := #[] }, { accessFlags := 25, nameIndex := 24, descriptorIndex := 25, attributes := #[] }, { accessFlags := 25, nameIndex := 162, descriptorIndex := 25, attributes := #[] }, { accessFlags := 25, nameIndex := 187, descriptorIndex := 25, attributes := #[] }, { accessFlags := 26, nameIndex := 48, descriptorIndex := 25, attributes := #[] }, { accessFlags := 25, nameIndex := 277, descriptorIndex := 25, attributes := #[] }, { accessFlags := 25, nameIndex := 280, descriptorIndex := 25, attributes := #[] }, { accessFlags := 25, nameIndex := 282, descriptorIndex := 25, attributes := #[] }, { accessFlags := 25, nameIndex := 284, descriptorIndex := 25, attributes := #[] }, { accessFlags := 25, nameIndex := 286, descriptorIndex := 25, attributes := #[] }, { accessFlags := 25, nameIndex := 288, descriptorIndex := 25, attributes := #[] }, { accessFlags := 25, nameIndex := 290, descriptorIndex := 25, attributes := #[] }, { accessFlags := 25, nameIndex := 292, descriptorIndex := 25, attributes := #[] }, { accessFlags := 26, nameIndex := 108, descriptorIndex := 109, attributes := #[] }, { accessFlags := 25, nameIndex := 294, descriptorIndex := 25, attributes := #[] }])
  fields := #[{ name := "U", type := (.object "jdk/internal/misc/Unsafe"), accessFlags := 24, slot := 0, constantValue := 0 }, { name := "BIG_ENDIAN", type := .boolean, accessFlags := 26, slot := 1, constantValue := 0 }, { name := "LOG2_ARRAY_BOOLEAN_INDEX_SCALE", type := .int, accessFlags := 25, slot := 2, constantValue := 0 }, { name := "LOG2_ARRAY_BYTE_INDEX_SCALE", type := .int, accessFlags := 25, slot := 3, constantValue := 0 }, { name := "LOG2_ARRAY_CHAR_INDEX_SCALE", type := .int, accessFlags := 25, slot := 4, constantValue := 0 }, { name := "LOG2_ARRAY_SHORT_INDEX_SCALE", type := .int, accessFlags := 25, slot := 5, constantValue := 0 }, { name := "LOG2_ARRAY_INT_INDEX_SCALE", type := .int, accessFlags := 25, slot := 6, constantValue := 0 }, { name := "LOG2_ARRAY_LONG_INDEX_SCALE", type := .int, accessFlags := 25, slot := 7, constantValue := 0 }, { name := "LOG2_ARRAY_FLOAT_INDEX_SCALE", type := .int, accessFlags := 25, slot := 8, constantValue := 0 }, { name := "LOG2_ARRAY_DOUBLE_INDEX_SCALE", type := .int, accessFlags := 25, slot := 9, constantValue := 0 }, { name := "LOG2_BYTE_BIT_SIZE", type := .int, accessFlags := 26, slot := 10, constantValue := 0 }, { name := "T_BOOLEAN", type := .int, accessFlags := 25, slot := 11, constantValue := 0 }, { name := "T_CHAR", type := .int, accessFlags := 25, slot := 12, constantValue := 0 }, { name := "T_FLOAT", type := .int, accessFlags := 25, slot := 13, constantValue := 0 }, { name := "T_DOUBLE", type := .int, accessFlags := 25, slot := 14, constantValue := 0 }, { name := "T_BYTE", type := .int, accessFlags := 25, slot := 15, constantValue := 0 }, { name := "T_SHORT", type := .int, accessFlags := 25, slot := 16, constantValue := 0 }, { name := "T_INT", type := .int, accessFlags := 25, slot := 17, constantValue := 0 }, { name := "T_LONG", type := .int, accessFlags := 25, slot := 18, constantValue := 0 }, { name := "JLA", type := (.object "jdk/internal/access/JavaLangAccess"), accessFlags := 26, slot := 19, constantValue := 0 }, { name := "SOFT_MAX_ARRAY_LENGTH", type := .int, accessFlags := 25, slot := 20, constantValue := 0 }]
  methods := #[k21m0]
  instanceTypes := #[]
  staticTypes := #[(.object "jdk/internal/misc/Unsafe"), .boolean, .int, .int, .int, .int, .int, .int, .int, .int, .int, .int, .int, .int, .int, .int, .int, .int, .int, (.object "jdk/internal/access/JavaLangAccess"), .int]
  resolved := Array.replicate 378 none
  statics := none }

def pool22 : Array CpInfo := pool [(1, u "java/lang/Cloneable"), (0, .class_ 1), (0, u "java/lang/Object"), (0, .class_ 3)] 3

/-- java/lang/Cloneable -/
def k22 : Class := { plain "java/lang/Cloneable" (some 0) with
  accessFlags := 1537
  interfaces := #[]
  cf := some (fileOf pool22 2 #[] #[] 1537 4 #[] #[])
  fields := #[]
  methods := #[]
  instanceTypes := #[]
  staticTypes := #[]
  resolved := Array.replicate 8 none
  statics := none }

/-- the primitive byte -/
def k23 : Class := { plain "byte" none with kind := .primitive 'B', accessFlags := 0x411 }
/-- [B -/
def k24 : Class := { plain "[B" (some 0) with kind := .array 23 .byte, interfaces := #[22, 2], accessFlags := 1041 }

/-- the primitive char -/
def k25 : Class := { plain "char" none with kind := .primitive 'C', accessFlags := 0x411 }
/-- [C -/
def k26 : Class := { plain "[C" (some 0) with kind := .array 25 .char, interfaces := #[22, 2], accessFlags := 1041 }

/-- the primitive int -/
def k27 : Class := { plain "int" none with kind := .primitive 'I', accessFlags := 0x411 }
/-- [I -/
def k28 : Class := { plain "[I" (some 0) with kind := .array 27 .int, interfaces := #[22, 2], accessFlags := 1041 }

def heap : Heap := #[{ cls := 7, slots := #[.long 0, .int 1, .null, .int 0, .null, .int 0, .int 0], vm := .statics 7 },
  { cls := 9, slots := #[.int 0, .int 8, .int 0, .int 1], vm := .statics 9 },
  { cls := 13, slots := #[.null, .null, .null], vm := .statics 13 }]
def classes : Array Class := #[k0, k1, k2, k3, k4, k5, k6, k7, k8, k9, k10, k11, k12, k13, k14, k15, k16, k17, k18, k19, k20, k21, k22, k23, k24, k25, k26, k27, k28]
def interned : List (Array UInt16 × Addr) := []
def slotsUsed : Nat := 14
def theMethod : MethodId := ⟨1, 2⟩
def args0 : Array Value := #[.int 65, .int 66, .int 300, .int 67, .int 3]
def aboutOver (below : List Frame) : State where
  vm := { classes := classes, interned := interned.toArray }
  heap := heap
  slotsUsed := slotsUsed
  threads := #[{ frames := .invoking theMethod args0 :: below }]
def below0 : List Frame := [.native { method := ⟨0, 0⟩, args := #[] }]
def about1 : State := aboutOver below0
def p0 : Program := .bare "" "" ""
def e0 : Env := launch0.env 0 0 0
theorem w_frames : about1.frames = Frame.invoking theMethod args0 :: below0 := rfl
set_option maxRecDepth 65536 in
theorem w_args : argsFit about1.vm theMethod args0 = true := by decide +kernel
set_option maxRecDepth 65536 in
theorem w_heap : heapFits about1 = true := by decide +kernel
set_option maxRecDepth 65536 in
theorem w_runnable : about1.curStatus? = some .runnable := by decide +kernel
set_option maxRecDepth 65536 in
theorem w_alone : about1.alone = true := by decide +kernel
set_option maxRecDepth 65536 in
theorem w_named : about1.methodNamed? x = some theMethod := by decide +kernel
set_option maxRecDepth 65536 in
theorem w_hears : about1.hears theMethod below0 = true := by decide +kernel
set_option maxRecDepth 65536 in
theorem w_ripe : about1.ripe theMethod args0 below0 = true := by decide +kernel
theorem w_running : about1.status = .running := rfl
set_option maxRecDepth 65536 in
theorem w_room : about1.hasRoom e0.platform room_1 = true :=
  launch0.hasRoom_least _ room_1 (by decide +kernel) (by decide +kernel) (by decide +kernel) (by decide +kernel) (by decide +kernel) (by decide +kernel)
theorem allAtoms_all (ts : List Jvm.Cond) (a : Array Jvm.Value) (st : Jvm.State) : (allAtoms ts).before a st = ts.all (fun c => c.before a st) := by
  induction ts with
  | nil => rfl
  | cons c t ih =>
    show (Jvm.Cond.and c (allAtoms t)).before a st = _
    rw [Jvm.Cond.before_and, ih, List.all_cons]
def words1 : List Jvm.Cond := Jvm.Cond.code x code maxLocals ret :: tables_1
/-- a 'code' word, met by the world's own term for the bytes: nothing is compared byte by byte -/
theorem code_word {y : MethodName} {bytes : ByteArray} {mx : Nat} {rt : Option FieldType} {a : Array Value} {s : State} {m : MethodId} {meth : Method} {c : Code} (h1 : s.methodNamed? y = some m) (h2 : s.vm.method? m = some meth) (h3 : meth.code = some c) (h4 : c.code = bytes)
    (h5 : (c.maxLocals == mx && c.exceptionTable.isEmpty && decide (c.maxStack ≤ mostOperands) && decide (meth.sig.returnType = rt) && !meth.locks && decide (parseMethodDescriptor y.desc = some meth.sig)) = true) : (Jvm.Cond.code y bytes mx rt).before a s = true := by
  simp only [Bool.and_eq_true, beq_iff_eq, Bool.not_eq_true', decide_eq_true_eq] at h5
  obtain ⟨⟨⟨⟨⟨g1, g2⟩, g3⟩, g4⟩, g5⟩, g6⟩ := h5
  simp [Cond.before, Cond.holds, Cond.value, h1, h2, h3, h4, g1, g2, g3, g4, g5, g6]
def isCode : Jvm.Cond → Bool
  | .code _ _ _ _ => true
  | _ => false
theorem all_split {L : List Jvm.Cond} {P : Jvm.Cond → Bool} (h1 : L.all (fun c => isCode c || P c) = true) (h2 : ∀ c ∈ L.filter isCode, P c = true) : L.all P = true := by
  refine List.all_eq_true.mpr fun c hc => ?_
  have h := List.all_eq_true.mp h1 c hc
  rcases Bool.eq_false_or_eq_true (isCode c) with hi | hi
  · exact h2 c (List.mem_filter.mpr ⟨hc, hi⟩)
  · simpa [hi] using h
set_option maxRecDepth 65536 in
theorem w_c0 : (Jvm.Cond.code x code maxLocals ret).before args0 about1 = true := code_word (m := ⟨1, 2⟩) (meth := k1m2) (c := k1c2) (by decide +kernel) rfl rfl rfl (by decide +kernel)
set_option maxRecDepth 65536 in
theorem w_c1 : (Jvm.Cond.code ({ cls := "com/example/rightful_roles/rightfulroles/core/PermissionToStringPinLaw", name := "ch", desc := "(I)C" } : Jvm.MethodName) method_2_code (2 : Nat) (Option.some Jvm.ClassFile.FieldType.char)).before args0 about1 = true := code_word (m := ⟨1, 1⟩) (meth := k1m1) (c := k1c1) (by decide +kernel) rfl rfl rfl (by decide +kernel)
set_option maxRecDepth 65536 in
theorem w_c2 : (Jvm.Cond.code ({ cls := "java/lang/String", name := "valueOf", desc := "(C)Ljava/lang/String;" } : Jvm.MethodName) jdk_42_method_139_code (1 : Nat) (Option.some (Jvm.ClassFile.FieldType.object "java/lang/String"))).before args0 about1 = true := code_word (m := ⟨7, 7⟩) (meth := k7m7) (c := k7c7) (by decide +kernel) rfl rfl rfl (by decide +kernel)
set_option maxRecDepth 65536 in
theorem w_c3 : (Jvm.Cond.code ({ cls := "java/lang/StringLatin1", name := "canEncode", desc := "(C)Z" } : Jvm.MethodName) jdk_43_method_3_code (1 : Nat) (Option.some Jvm.ClassFile.FieldType.boolean)).before args0 about1 = true := code_word (m := ⟨8, 1⟩) (meth := k8m1) (c := k8c1) (by decide +kernel) rfl rfl rfl (by decide +kernel)
set_option maxRecDepth 65536 in
theorem w_c4 : (Jvm.Cond.code ({ cls := "java/lang/StringLatin1", name := "toBytes", desc := "(C)[B" } : Jvm.MethodName) jdk_43_method_46_code (1 : Nat) (Option.some (Jvm.ClassFile.FieldType.array Jvm.ClassFile.FieldType.byte))).before args0 about1 = true := code_word (m := ⟨8, 3⟩) (meth := k8m3) (c := k8c3) (by decide +kernel) rfl rfl rfl (by decide +kernel)
set_option maxRecDepth 65536 in
theorem w_c5 : (Jvm.Cond.code ({ cls := "java/lang/String", name := "<init>", desc := "([BB)V" } : Jvm.MethodName) jdk_42_method_151_code (3 : Nat) (Option.none : Option Jvm.ClassFile.FieldType)).before args0 about1 = true := code_word (m := ⟨7, 11⟩) (meth := k7m11) (c := k7c11) (by decide +kernel) rfl rfl rfl (by decide +kernel)
set_option maxRecDepth 65536 in
theorem w_c6 : (Jvm.Cond.code ({ cls := "java/lang/Object", name := "<init>", desc := "()V" } : Jvm.MethodName) object_method_1_code (1 : Nat) (Option.none : Option Jvm.ClassFile.FieldType)).before args0 about1 = true := code_word (m := ⟨0, 0⟩) (meth := k0m0) (c := k0c0) (by decide +kernel) rfl rfl rfl (by decide +kernel)
set_option maxRecDepth 65536 in
theorem w_c7 : (Jvm.Cond.code ({ cls := "java/lang/String", name := "<init>", desc := "([C)V" } : Jvm.MethodName) jdk_42_method_3_code (2 : Nat) (Option.none : Option Jvm.ClassFile.FieldType)).before args0 about1 = true := code_word (m := ⟨7, 1⟩) (meth := k7m1) (c := k7c1) (by decide +kernel) rfl rfl rfl (by decide +kernel)
set_option maxRecDepth 65536 in
theorem w_c8 : (Jvm.Cond.code ({ cls := "java/lang/String", name := "<init>", desc := "([CIILjava/lang/Void;)V" } : Jvm.MethodName) jdk_42_method_149_code (6 : Nat) (Option.none : Option Jvm.ClassFile.FieldType)).before args0 about1 = true := code_word (m := ⟨7, 9⟩) (meth := k7m9) (c := k7c9) (by decide +kernel) rfl rfl rfl (by decide +kernel)
set_option maxRecDepth 65536 in
theorem w_c9 : (Jvm.Cond.code ({ cls := "java/lang/StringUTF16", name := "compress", desc := "([CII)[B" } : Jvm.MethodName) jdk_52_method_16_code (6 : Nat) (Option.some (Jvm.ClassFile.FieldType.array Jvm.ClassFile.FieldType.byte))).before args0 about1 = true := code_word (m := ⟨9, 10⟩) (meth := k9m10) (c := k9c10) (by decide +kernel) rfl rfl rfl (by decide +kernel)
set_option maxRecDepth 65536 in
theorem w_c10 : (Jvm.Cond.code ({ cls := "java/lang/StringUTF16", name := "compress", desc := "([CI[BII)I" } : Jvm.MethodName) jdk_52_method_21_code (7 : Nat) (Option.some Jvm.ClassFile.FieldType.int)).before args0 about1 = true := code_word (m := ⟨9, 11⟩) (meth := k9m11) (c := k9c11) (by decide +kernel) rfl rfl rfl (by decide +kernel)
set_option maxRecDepth 65536 in
theorem w_c11 : (Jvm.Cond.code ({ cls := "java/lang/StringUTF16", name := "coderFromArrayLen", desc := "([BI)B" } : Jvm.MethodName) jdk_52_method_15_code (2 : Nat) (Option.some Jvm.ClassFile.FieldType.byte)).before args0 about1 = true := code_word (m := ⟨9, 9⟩) (meth := k9m9) (c := k9c9) (by decide +kernel) rfl rfl rfl (by decide +kernel)
set_option maxRecDepth 65536 in
theorem w_c12 : (Jvm.Cond.code ({ cls := "com/example/rightful_roles/rightfulroles/core/Permission", name := "<init>", desc := "(Ljava/lang/String;Ljava/lang/String;)V" } : Jvm.MethodName) prog_12_method_1_code (3 : Nat) (Option.none : Option Jvm.ClassFile.FieldType)).before args0 about1 = true := code_word (m := ⟨10, 0⟩) (meth := k10m0) (c := k10c0) (by decide +kernel) rfl rfl rfl (by decide +kernel)
set_option maxRecDepth 65536 in
theorem w_c13 : (Jvm.Cond.code ({ cls := "com/example/rightful_roles/rightfulroles/core/Names", name := "requireName", desc := "(Ljava/lang/String;Ljava/lang/String;)Ljava/lang/String;" } : Jvm.MethodName) prog_11_method_2_code (4 : Nat) (Option.some (Jvm.ClassFile.FieldType.object "java/lang/String"))).before args0 about1 = true := code_word (m := ⟨11, 1⟩) (meth := k11m1) (c := k11c1) (by decide +kernel) rfl rfl rfl (by decide +kernel)
set_option maxRecDepth 65536 in
theorem w_c14 : (Jvm.Cond.code ({ cls := "java/util/Objects", name := "requireNonNull", desc := "(Ljava/lang/Object;Ljava/lang/String;)Ljava/lang/Object;" } : Jvm.MethodName) jdk_31_method_11_code (2 : Nat) (Option.some (Jvm.ClassFile.FieldType.object "java/lang/Object"))).before args0 about1 = true := code_word (m := ⟨12, 1⟩) (meth := k12m1) (c := k12c1) (by decide +kernel) rfl rfl rfl (by decide +kernel)
set_option maxRecDepth 65536 in
theorem w_c15 : (Jvm.Cond.code ({ cls := "java/lang/String", name := "isEmpty", desc := "()Z" } : Jvm.MethodName) jdk_42_method_55_code (1 : Nat) (Option.some Jvm.ClassFile.FieldType.boolean)).before args0 about1 = true := code_word (m := ⟨7, 4⟩) (meth := k7m4) (c := k7c4) (by decide +kernel) rfl rfl rfl (by decide +kernel)
set_option maxRecDepth 65536 in
theorem w_c16 : (Jvm.Cond.code ({ cls := "java/lang/String", name := "length", desc := "()I" } : Jvm.MethodName) jdk_42_method_54_code (1 : Nat) (Option.some Jvm.ClassFile.FieldType.int)).before args0 about1 = true := code_word (m := ⟨7, 3⟩) (meth := k7m3) (c := k7c3) (by decide +kernel) rfl rfl rfl (by decide +kernel)
set_option maxRecDepth 65536 in
theorem w_c17 : (Jvm.Cond.code ({ cls := "java/lang/String", name := "coder", desc := "()B" } : Jvm.MethodName) jdk_42_method_152_code (1 : Nat) (Option.some Jvm.ClassFile.FieldType.byte)).before args0 about1 = true := code_word (m := ⟨7, 12⟩) (meth := k7m12) (c := k7c12) (by decide +kernel) rfl rfl rfl (by decide +kernel)
set_option maxRecDepth 65536 in
theorem w_c18 : (Jvm.Cond.code ({ cls := "java/lang/String", name := "codePointAt", desc := "(I)I" } : Jvm.MethodName) jdk_42_method_57_code (3 : Nat) (Option.some Jvm.ClassFile.FieldType.int)).before args0 about1 = true := code_word (m := ⟨7, 5⟩) (meth := k7m5) (c := k7c5) (by decide +kernel) rfl rfl rfl (by decide +kernel)
set_option maxRecDepth 65536 in
theorem w_c19 : (Jvm.Cond.code ({ cls := "java/lang/String", name := "isLatin1", desc := "()Z" } : Jvm.MethodName) jdk_42_method_154_code (1 : Nat) (Option.some Jvm.ClassFile.FieldType.boolean)).before args0 about1 = true := code_word (m := ⟨7, 13⟩) (meth := k7m13) (c := k7c13) (by decide +kernel) rfl rfl rfl (by decide +kernel)
set_option maxRecDepth 65536 in
theorem w_c20 : (Jvm.Cond.code ({ cls := "java/lang/String", name := "checkIndex", desc := "(II)V" } : Jvm.MethodName) jdk_42_method_155_code (2 : Nat) (Option.none : Option Jvm.ClassFile.FieldType)).before args0 about1 = true := code_word (m := ⟨7, 14⟩) (meth := k7m14) (c := k7c14) (by decide +kernel) rfl rfl rfl (by decide +kernel)
set_option maxRecDepth 65536 in
theorem w_c21 : (Jvm.Cond.code ({ cls := "jdk/internal/util/Preconditions", name := "checkIndex", desc := "(IILjava/util/function/BiFunction;)I" } : Jvm.MethodName) jdk_41_method_11_code (3 : Nat) (Option.some Jvm.ClassFile.FieldType.int)).before args0 about1 = true := code_word (m := ⟨13, 1⟩) (meth := k13m1) (c := k13c1) (by decide +kernel) rfl rfl rfl (by decide +kernel)
set_option maxRecDepth 65536 in
theorem w_c22 : (Jvm.Cond.code ({ cls := "java/lang/Character", name := "charCount", desc := "(I)I" } : Jvm.MethodName) jdk_89_method_18_code (1 : Nat) (Option.some Jvm.ClassFile.FieldType.int)).before args0 about1 = true := code_word (m := ⟨14, 1⟩) (meth := k14m1) (c := k14c1) (by decide +kernel) rfl rfl rfl (by decide +kernel)
set_option maxRecDepth 65536 in
theorem w_c23 : (Jvm.Cond.code ({ cls := "com/example/rightful_roles/rightfulroles/core/Permission", name := "toString", desc := "()Ljava/lang/String;" } : Jvm.MethodName) prog_12_method_7_code (1 : Nat) (Option.some (Jvm.ClassFile.FieldType.object "java/lang/String"))).before args0 about1 = true := code_word (m := ⟨10, 1⟩) (meth := k10m1) (c := k10c1) (by decide +kernel) rfl rfl rfl (by decide +kernel)
set_option maxRecDepth 65536 in
theorem w_c24 : (Jvm.Cond.code ({ cls := "java/lang/StringBuilder", name := "<init>", desc := "()V" } : Jvm.MethodName) jdk_67_method_1_code (1 : Nat) (Option.none : Option Jvm.ClassFile.FieldType)).before args0 about1 = true := code_word (m := ⟨17, 0⟩) (meth := k17m0) (c := k17c0) (by decide +kernel) rfl rfl rfl (by decide +kernel)
set_option maxRecDepth 65536 in
theorem w_c25 : (Jvm.Cond.code ({ cls := "java/lang/AbstractStringBuilder", name := "<init>", desc := "(I)V" } : Jvm.MethodName) jdk_68_method_2_code (2 : Nat) (Option.none : Option Jvm.ClassFile.FieldType)).before args0 about1 = true := code_word (m := ⟨16, 1⟩) (meth := k16m1) (c := k16c1) (by decide +kernel) rfl rfl rfl (by decide +kernel)
set_option maxRecDepth 65536 in
theorem w_c26 : (Jvm.Cond.code ({ cls := "java/lang/StringBuilder", name := "append", desc := "(Ljava/lang/String;)Ljava/lang/StringBuilder;" } : Jvm.MethodName) jdk_67_method_7_code (2 : Nat) (Option.some (Jvm.ClassFile.FieldType.object "java/lang/StringBuilder"))).before args0 about1 = true := code_word (m := ⟨17, 1⟩) (meth := k17m1) (c := k17c1) (by decide +kernel) rfl rfl rfl (by decide +kernel)
set_option maxRecDepth 65536 in
theorem w_c27 : (Jvm.Cond.code ({ cls := "java/lang/AbstractStringBuilder", name := "append", desc := "(Ljava/lang/String;)Ljava/lang/AbstractStringBuilder;" } : Jvm.MethodName) jdk_68_method_22_code (3 : Nat) (Option.some (Jvm.ClassFile.FieldType.object "java/lang/AbstractStringBuilder"))).before args0 about1 = true := code_word (m := ⟨16, 5⟩) (meth := k16m5) (c := k16c5) (by decide +kernel) rfl rfl rfl (by decide +kernel)
set_option maxRecDepth 65536 in
theorem w_c28 : (Jvm.Cond.code ({ cls := "java/lang/AbstractStringBuilder", name := "ensureCapacityInternal", desc := "(I)V" } : Jvm.MethodName) jdk_68_method_9_code (3 : Nat) (Option.none : Option Jvm.ClassFile.FieldType)).before args0 about1 = true := code_word (m := ⟨16, 3⟩) (meth := k16m3) (c := k16c3) (by decide +kernel) rfl rfl rfl (by decide +kernel)
set_option maxRecDepth 65536 in
theorem w_c29 : (Jvm.Cond.code ({ cls := "java/lang/AbstractStringBuilder", name := "putStringAt", desc := "(ILjava/lang/String;)V" } : Jvm.MethodName) jdk_68_method_73_code (3 : Nat) (Option.none : Option Jvm.ClassFile.FieldType)).before args0 about1 = true := code_word (m := ⟨16, 9⟩) (meth := k16m9) (c := k16c9) (by decide +kernel) rfl rfl rfl (by decide +kernel)
set_option maxRecDepth 65536 in
theorem w_c30 : (Jvm.Cond.code ({ cls := "java/lang/AbstractStringBuilder", name := "inflateIfNeededFor", desc := "(Ljava/lang/String;)V" } : Jvm.MethodName) jdk_68_method_71_code (2 : Nat) (Option.none : Option Jvm.ClassFile.FieldType)).before args0 about1 = true := code_word (m := ⟨16, 8⟩) (meth := k16m8) (c := k16c8) (by decide +kernel) rfl rfl rfl (by decide +kernel)
set_option maxRecDepth 65536 in
theorem w_c31 : (Jvm.Cond.code ({ cls := "java/lang/String", name := "getBytes", desc := "([BIB)V" } : Jvm.MethodName) jdk_42_method_147_code (4 : Nat) (Option.none : Option Jvm.ClassFile.FieldType)).before args0 about1 = true := code_word (m := ⟨7, 8⟩) (meth := k7m8) (c := k7c8) (by decide +kernel) rfl rfl rfl (by decide +kernel)
set_option maxRecDepth 65536 in
theorem w_c32 : (Jvm.Cond.code ({ cls := "java/lang/StringBuilder", name := "toString", desc := "()Ljava/lang/String;" } : Jvm.MethodName) jdk_67_method_42_code (1 : Nat) (Option.some (Jvm.ClassFile.FieldType.object "java/lang/String"))).before args0 about1 = true := code_word (m := ⟨17, 2⟩) (meth := k17m2) (c := k17c2) (by decide +kernel) rfl rfl rfl (by decide +kernel)
set_option maxRecDepth 65536 in
theorem w_c33 : (Jvm.Cond.code ({ cls := "java/lang/String", name := "<init>", desc := "(Ljava/lang/StringBuilder;)V" } : Jvm.MethodName) jdk_42_method_53_code (2 : Nat) (Option.none : Option Jvm.ClassFile.FieldType)).before args0 about1 = true := code_word (m := ⟨7, 2⟩) (meth := k7m2) (c := k7c2) (by decide +kernel) rfl rfl rfl (by decide +kernel)
set_option maxRecDepth 65536 in
theorem w_c34 : (Jvm.Cond.code ({ cls := "java/lang/String", name := "<init>", desc := "(Ljava/lang/AbstractStringBuilder;Ljava/lang/Void;)V" } : Jvm.MethodName) jdk_42_method_150_code (5 : Nat) (Option.none : Option Jvm.ClassFile.FieldType)).before args0 about1 = true := code_word (m := ⟨7, 10⟩) (meth := k7m10) (c := k7c10) (by decide +kernel) rfl rfl rfl (by decide +kernel)
set_option maxRecDepth 65536 in
theorem w_c35 : (Jvm.Cond.code ({ cls := "java/lang/AbstractStringBuilder", name := "getValue", desc := "()[B" } : Jvm.MethodName) jdk_68_method_64_code (1 : Nat) (Option.some (Jvm.ClassFile.FieldType.array Jvm.ClassFile.FieldType.byte))).before args0 about1 = true := code_word (m := ⟨16, 6⟩) (meth := k16m6) (c := k16c6) (by decide +kernel) rfl rfl rfl (by decide +kernel)
set_option maxRecDepth 65536 in
theorem w_c36 : (Jvm.Cond.code ({ cls := "java/lang/StringBuilder", name := "length", desc := "()I" } : Jvm.MethodName) jdk_67_method_93_code (1 : Nat) (Option.some Jvm.ClassFile.FieldType.int)).before args0 about1 = true := code_word (m := ⟨17, 3⟩) (meth := k17m3) (c := k17c3) (by decide +kernel) rfl rfl rfl (by decide +kernel)
set_option maxRecDepth 65536 in
theorem w_c37 : (Jvm.Cond.code ({ cls := "java/lang/AbstractStringBuilder", name := "length", desc := "()I" } : Jvm.MethodName) jdk_68_method_6_code (1 : Nat) (Option.some Jvm.ClassFile.FieldType.int)).before args0 about1 = true := code_word (m := ⟨16, 2⟩) (meth := k16m2) (c := k16c2) (by decide +kernel) rfl rfl rfl (by decide +kernel)
set_option maxRecDepth 65536 in
theorem w_c38 : (Jvm.Cond.code ({ cls := "java/lang/AbstractStringBuilder", name := "isLatin1", desc := "()Z" } : Jvm.MethodName) jdk_68_method_68_code (1 : Nat) (Option.some Jvm.ClassFile.FieldType.boolean)).before args0 about1 = true := code_word (m := ⟨16, 7⟩) (meth := k16m7) (c := k16c7) (by decide +kernel) rfl rfl rfl (by decide +kernel)
set_option maxRecDepth 65536 in
theorem w_c39 : (Jvm.Cond.code ({ cls := "java/util/Arrays", name := "copyOfRange", desc := "([BII)[B" } : Jvm.MethodName) jdk_65_method_132_code (3 : Nat) (Option.some (Jvm.ClassFile.FieldType.array Jvm.ClassFile.FieldType.byte))).before args0 about1 = true := code_word (m := ⟨19, 2⟩) (meth := k19m2) (c := k19c2) (by decide +kernel) rfl rfl rfl (by decide +kernel)
set_option maxRecDepth 65536 in
theorem w_c40 : (Jvm.Cond.code ({ cls := "java/util/Arrays", name := "copyOfRangeByte", desc := "([BII)[B" } : Jvm.MethodName) jdk_65_method_133_code (5 : Nat) (Option.some (Jvm.ClassFile.FieldType.array Jvm.ClassFile.FieldType.byte))).before args0 about1 = true := code_word (m := ⟨19, 3⟩) (meth := k19m3) (c := k19c3) (by decide +kernel) rfl rfl rfl (by decide +kernel)
set_option maxRecDepth 65536 in
theorem w_c41 : (Jvm.Cond.code ({ cls := "java/util/Arrays", name := "checkLength", desc := "(II)V" } : Jvm.MethodName) jdk_65_method_131_code (2 : Nat) (Option.none : Option Jvm.ClassFile.FieldType)).before args0 about1 = true := code_word (m := ⟨19, 1⟩) (meth := k19m1) (c := k19c1) (by decide +kernel) rfl rfl rfl (by decide +kernel)
set_option maxRecDepth 65536 in
theorem w_c42 : (Jvm.Cond.code ({ cls := "java/lang/Math", name := "min", desc := "(II)I" } : Jvm.MethodName) jdk_29_method_69_code (2 : Nat) (Option.some Jvm.ClassFile.FieldType.int)).before args0 about1 = true := code_word (m := ⟨20, 1⟩) (meth := k20m1) (c := k20c1) (by decide +kernel) rfl rfl rfl (by decide +kernel)
set_option maxRecDepth 65536 in
theorem w_c43 : (Jvm.Cond.code ({ cls := "java/lang/String", name := "equals", desc := "(Ljava/lang/Object;)Z" } : Jvm.MethodName) jdk_42_method_66_code (3 : Nat) (Option.some Jvm.ClassFile.FieldType.boolean)).before args0 about1 = true := code_word (m := ⟨7, 6⟩) (meth := k7m6) (c := k7c6) (by decide +kernel) rfl rfl rfl (by decide +kernel)
set_option maxRecDepth 65536 in
theorem w_c44 : (Jvm.Cond.code ({ cls := "java/lang/StringLatin1", name := "equals", desc := "([B[B)Z" } : Jvm.MethodName) jdk_43_method_13_code (3 : Nat) (Option.some Jvm.ClassFile.FieldType.boolean)).before args0 about1 = true := code_word (m := ⟨8, 2⟩) (meth := k8m2) (c := k8c2) (by decide +kernel) rfl rfl rfl (by decide +kernel)
set_option maxRecDepth 65536 in
theorem w_c45 : (Jvm.Cond.code ({ cls := "java/lang/StringUTF16", name := "toBytes", desc := "([CII)[B" } : Jvm.MethodName) jdk_52_method_14_code (5 : Nat) (Option.some (Jvm.ClassFile.FieldType.array Jvm.ClassFile.FieldType.byte))).before args0 about1 = true := code_word (m := ⟨9, 8⟩) (meth := k9m8) (c := k9c8) (by decide +kernel) rfl rfl rfl (by decide +kernel)
set_option maxRecDepth 65536 in
theorem w_c46 : (Jvm.Cond.code ({ cls := "java/lang/StringUTF16", name := "newBytesFor", desc := "(I)[B" } : Jvm.MethodName) jdk_52_method_2_code (1 : Nat) (Option.some (Jvm.ClassFile.FieldType.array Jvm.ClassFile.FieldType.byte))).before args0 about1 = true := code_word (m := ⟨9, 1⟩) (meth := k9m1) (c := k9c1) (by decide +kernel) rfl rfl rfl (by decide +kernel)
set_option maxRecDepth 65536 in
theorem w_c47 : (Jvm.Cond.code ({ cls := "java/lang/StringUTF16", name := "newBytesLength", desc := "(I)I" } : Jvm.MethodName) jdk_52_method_3_code (1 : Nat) (Option.some Jvm.ClassFile.FieldType.int)).before args0 about1 = true := code_word (m := ⟨9, 2⟩) (meth := k9m2) (c := k9c2) (by decide +kernel) rfl rfl rfl (by decide +kernel)
set_option maxRecDepth 65536 in
theorem w_c48 : (Jvm.Cond.code ({ cls := "java/lang/StringUTF16", name := "putChar", desc := "([BII)V" } : Jvm.MethodName) jdk_52_method_4_code (3 : Nat) (Option.none : Option Jvm.ClassFile.FieldType)).before args0 about1 = true := code_word (m := ⟨9, 3⟩) (meth := k9m3) (c := k9c3) (by decide +kernel) rfl rfl rfl (by decide +kernel)
set_option maxRecDepth 65536 in
theorem w_c49 : (Jvm.Cond.code ({ cls := "java/lang/StringUTF16", name := "getChar", desc := "([BI)C" } : Jvm.MethodName) jdk_52_method_5_code (2 : Nat) (Option.some Jvm.ClassFile.FieldType.char)).before args0 about1 = true := code_word (m := ⟨9, 4⟩) (meth := k9m4) (c := k9c4) (by decide +kernel) rfl rfl rfl (by decide +kernel)
set_option maxRecDepth 65536 in
theorem w_c50 : (Jvm.Cond.code ({ cls := "java/lang/StringUTF16", name := "codePointAt", desc := "([BII)I" } : Jvm.MethodName) jdk_52_method_8_code (3 : Nat) (Option.some Jvm.ClassFile.FieldType.int)).before args0 about1 = true := code_word (m := ⟨9, 7⟩) (meth := k9m7) (c := k9c7) (by decide +kernel) rfl rfl rfl (by decide +kernel)
set_option maxRecDepth 65536 in
theorem w_c51 : (Jvm.Cond.code ({ cls := "java/lang/StringUTF16", name := "codePointAt", desc := "([BIIZ)I" } : Jvm.MethodName) jdk_52_method_7_code (6 : Nat) (Option.some Jvm.ClassFile.FieldType.int)).before args0 about1 = true := code_word (m := ⟨9, 6⟩) (meth := k9m6) (c := k9c6) (by decide +kernel) rfl rfl rfl (by decide +kernel)
set_option maxRecDepth 65536 in
theorem w_c52 : (Jvm.Cond.code ({ cls := "java/lang/Character", name := "isHighSurrogate", desc := "(C)Z" } : Jvm.MethodName) jdk_89_method_14_code (1 : Nat) (Option.some Jvm.ClassFile.FieldType.boolean)).before args0 about1 = true := code_word (m := ⟨14, 0⟩) (meth := k14m0) (c := k14c0) (by decide +kernel) rfl rfl rfl (by decide +kernel)
set_option maxRecDepth 65536 in
theorem w_c53 : (Jvm.Cond.code ({ cls := "java/lang/AbstractStringBuilder", name := "inflate", desc := "()V" } : Jvm.MethodName) jdk_68_method_11_code (2 : Nat) (Option.none : Option Jvm.ClassFile.FieldType)).before args0 about1 = true := code_word (m := ⟨16, 4⟩) (meth := k16m4) (c := k16c4) (by decide +kernel) rfl rfl rfl (by decide +kernel)
set_option maxRecDepth 65536 in
theorem w_c54 : (Jvm.Cond.code ({ cls := "java/lang/StringLatin1", name := "inflate", desc := "([BI[BII)V" } : Jvm.MethodName) jdk_43_method_50_code (5 : Nat) (Option.none : Option Jvm.ClassFile.FieldType)).before args0 about1 = true := code_word (m := ⟨8, 4⟩) (meth := k8m4) (c := k8c4) (by decide +kernel) rfl rfl rfl (by decide +kernel)
set_option maxRecDepth 65536 in
theorem w_c55 : (Jvm.Cond.code ({ cls := "java/lang/StringUTF16", name := "inflate", desc := "([BI[BII)V" } : Jvm.MethodName) jdk_52_method_86_code (6 : Nat) (Option.none : Option Jvm.ClassFile.FieldType)).before args0 about1 = true := code_word (m := ⟨9, 13⟩) (meth := k9m13) (c := k9c13) (by decide +kernel) rfl rfl rfl (by decide +kernel)
set_option maxRecDepth 65536 in
theorem w_c56 : (Jvm.Cond.code ({ cls := "java/lang/StringUTF16", name := "checkBoundsOffCount", desc := "(II[B)V" } : Jvm.MethodName) jdk_52_method_94_code (3 : Nat) (Option.none : Option Jvm.ClassFile.FieldType)).before args0 about1 = true := code_word (m := ⟨9, 14⟩) (meth := k9m14) (c := k9c14) (by decide +kernel) rfl rfl rfl (by decide +kernel)
set_option maxRecDepth 65536 in
theorem w_c57 : (Jvm.Cond.code ({ cls := "java/lang/StringUTF16", name := "length", desc := "([B)I" } : Jvm.MethodName) jdk_52_method_6_code (1 : Nat) (Option.some Jvm.ClassFile.FieldType.int)).before args0 about1 = true := code_word (m := ⟨9, 5⟩) (meth := k9m5) (c := k9c5) (by decide +kernel) rfl rfl rfl (by decide +kernel)
set_option maxRecDepth 65536 in
theorem w_c58 : (Jvm.Cond.code ({ cls := "java/lang/String", name := "checkBoundsOffCount", desc := "(III)I" } : Jvm.MethodName) jdk_42_method_157_code (3 : Nat) (Option.some Jvm.ClassFile.FieldType.int)).before args0 about1 = true := code_word (m := ⟨7, 15⟩) (meth := k7m15) (c := k7c15) (by decide +kernel) rfl rfl rfl (by decide +kernel)
set_option maxRecDepth 65536 in
theorem w_c59 : (Jvm.Cond.code ({ cls := "jdk/internal/util/Preconditions", name := "checkFromIndexSize", desc := "(IIILjava/util/function/BiFunction;)I" } : Jvm.MethodName) jdk_41_method_13_code (4 : Nat) (Option.some Jvm.ClassFile.FieldType.int)).before args0 about1 = true := code_word (m := ⟨13, 2⟩) (meth := k13m2) (c := k13c2) (by decide +kernel) rfl rfl rfl (by decide +kernel)
set_option maxRecDepth 65536 in
theorem w_c60 : (Jvm.Cond.code ({ cls := "java/lang/StringUTF16", name := "toBytes", desc := "(C)[B" } : Jvm.MethodName) jdk_52_method_24_code (2 : Nat) (Option.some (Jvm.ClassFile.FieldType.array Jvm.ClassFile.FieldType.byte))).before args0 about1 = true := code_word (m := ⟨9, 12⟩) (meth := k9m12) (c := k9c12) (by decide +kernel) rfl rfl rfl (by decide +kernel)
def codes1 : List Jvm.Cond := [Jvm.Cond.code x code maxLocals ret, Jvm.Cond.code ({ cls := "com/example/rightful_roles/rightfulroles/core/PermissionToStringPinLaw", name := "ch", desc := "(I)C" } : Jvm.MethodName) method_2_code (2 : Nat) (Option.some Jvm.ClassFile.FieldType.char), Jvm.Cond.code ({ cls := "java/lang/String", name := "valueOf", desc := "(C)Ljava/lang/String;" } : Jvm.MethodName) jdk_42_method_139_code (1 : Nat) (Option.some (Jvm.ClassFile.FieldType.object "java/lang/String")), Jvm.Cond.code ({ cls := "java/lang/StringLatin1", name := "canEncode", desc := "(C)Z" } : Jvm.MethodName) jdk_43_method_3_code (1 : Nat) (Option.some Jvm.ClassFile.FieldType.boolean), Jvm.Cond.code ({ cls := "java/lang/StringLatin1", name := "toBytes", desc := "(C)[B" } : Jvm.MethodName) jdk_43_method_46_code (1 : Nat) (Option.some (Jvm.ClassFile.FieldType.array Jvm.ClassFile.FieldType.byte)), Jvm.Cond.code ({ cls := "java/lang/String", name := "<init>", desc := "([BB)V" } : Jvm.MethodName) jdk_42_method_151_code (3 : Nat) (Option.none : Option Jvm.ClassFile.FieldType), Jvm.Cond.code ({ cls := "java/lang/Object", name := "<init>", desc := "()V" } : Jvm.MethodName) object_method_1_code (1 : Nat) (Option.none : Option Jvm.ClassFile.FieldType), Jvm.Cond.code ({ cls := "java/lang/String", name := "<init>", desc := "([C)V" } : Jvm.MethodName) jdk_42_method_3_code (2 : Nat) (Option.none : Option Jvm.ClassFile.FieldType), Jvm.Cond.code ({ cls := "java/lang/String", name := "<init>", desc := "([CIILjava/lang/Void;)V" } : Jvm.MethodName) jdk_42_method_149_code (6 : Nat) (Option.none : Option Jvm.ClassFile.FieldType), Jvm.Cond.code ({ cls := "java/lang/StringUTF16", name := "compress", desc := "([CII)[B" } : Jvm.MethodName) jdk_52_method_16_code (6 : Nat) (Option.some (Jvm.ClassFile.FieldType.array Jvm.ClassFile.FieldType.byte)), Jvm.Cond.code ({ cls := "java/lang/StringUTF16", name := "compress", desc := "([CI[BII)I" } : Jvm.MethodName) jdk_52_method_21_code (7 : Nat) (Option.some Jvm.ClassFile.FieldType.int), Jvm.Cond.code ({ cls := "java/lang/StringUTF16", name := "coderFromArrayLen", desc := "([BI)B" } : Jvm.MethodName) jdk_52_method_15_code (2 : Nat) (Option.some Jvm.ClassFile.FieldType.byte), Jvm.Cond.code ({ cls := "com/example/rightful_roles/rightfulroles/core/Permission", name := "<init>", desc := "(Ljava/lang/String;Ljava/lang/String;)V" } : Jvm.MethodName) prog_12_method_1_code (3 : Nat) (Option.none : Option Jvm.ClassFile.FieldType), Jvm.Cond.code ({ cls := "com/example/rightful_roles/rightfulroles/core/Names", name := "requireName", desc := "(Ljava/lang/String;Ljava/lang/String;)Ljava/lang/String;" } : Jvm.MethodName) prog_11_method_2_code (4 : Nat) (Option.some (Jvm.ClassFile.FieldType.object "java/lang/String")), Jvm.Cond.code ({ cls := "java/util/Objects", name := "requireNonNull", desc := "(Ljava/lang/Object;Ljava/lang/String;)Ljava/lang/Object;" } : Jvm.MethodName) jdk_31_method_11_code (2 : Nat) (Option.some (Jvm.ClassFile.FieldType.object "java/lang/Object")), Jvm.Cond.code ({ cls := "java/lang/String", name := "isEmpty", desc := "()Z" } : Jvm.MethodName) jdk_42_method_55_code (1 : Nat) (Option.some Jvm.ClassFile.FieldType.boolean), Jvm.Cond.code ({ cls := "java/lang/String", name := "length", desc := "()I" } : Jvm.MethodName) jdk_42_method_54_code (1 : Nat) (Option.some Jvm.ClassFile.FieldType.int), Jvm.Cond.code ({ cls := "java/lang/String", name := "coder", desc := "()B" } : Jvm.MethodName) jdk_42_method_152_code (1 : Nat) (Option.some Jvm.ClassFile.FieldType.byte), Jvm.Cond.code ({ cls := "java/lang/String", name := "codePointAt", desc := "(I)I" } : Jvm.MethodName) jdk_42_method_57_code (3 : Nat) (Option.some Jvm.ClassFile.FieldType.int), Jvm.Cond.code ({ cls := "java/lang/String", name := "isLatin1", desc := "()Z" } : Jvm.MethodName) jdk_42_method_154_code (1 : Nat) (Option.some Jvm.ClassFile.FieldType.boolean), Jvm.Cond.code ({ cls := "java/lang/String", name := "checkIndex", desc := "(II)V" } : Jvm.MethodName) jdk_42_method_155_code (2 : Nat) (Option.none : Option Jvm.ClassFile.FieldType), Jvm.Cond.code ({ cls := "jdk/internal/util/Preconditions", name := "checkIndex", desc := "(IILjava/util/function/BiFunction;)I" } : Jvm.MethodName) jdk_41_method_11_code (3 : Nat) (Option.some Jvm.ClassFile.FieldType.int), Jvm.Cond.code ({ cls := "java/lang/Character", name := "charCount", desc := "(I)I" } : Jvm.MethodName) jdk_89_method_18_code (1 : Nat) (Option.some Jvm.ClassFile.FieldType.int), Jvm.Cond.code ({ cls := "com/example/rightful_roles/rightfulroles/core/Permission", name := "toString", desc := "()Ljava/lang/String;" } : Jvm.MethodName) prog_12_method_7_code (1 : Nat) (Option.some (Jvm.ClassFile.FieldType.object "java/lang/String")), Jvm.Cond.code ({ cls := "java/lang/StringBuilder", name := "<init>", desc := "()V" } : Jvm.MethodName) jdk_67_method_1_code (1 : Nat) (Option.none : Option Jvm.ClassFile.FieldType), Jvm.Cond.code ({ cls := "java/lang/AbstractStringBuilder", name := "<init>", desc := "(I)V" } : Jvm.MethodName) jdk_68_method_2_code (2 : Nat) (Option.none : Option Jvm.ClassFile.FieldType), Jvm.Cond.code ({ cls := "java/lang/StringBuilder", name := "append", desc := "(Ljava/lang/String;)Ljava/lang/StringBuilder;" } : Jvm.MethodName) jdk_67_method_7_code (2 : Nat) (Option.some (Jvm.ClassFile.FieldType.object "java/lang/StringBuilder")), Jvm.Cond.code ({ cls := "java/lang/AbstractStringBuilder", name := "append", desc := "(Ljava/lang/String;)Ljava/lang/AbstractStringBuilder;" } : Jvm.MethodName) jdk_68_method_22_code (3 : Nat) (Option.some (Jvm.ClassFile.FieldType.object "java/lang/AbstractStringBuilder")), Jvm.Cond.code ({ cls := "java/lang/AbstractStringBuilder", name := "ensureCapacityInternal", desc := "(I)V" } : Jvm.MethodName) jdk_68_method_9_code (3 : Nat) (Option.none : Option Jvm.ClassFile.FieldType), Jvm.Cond.code ({ cls := "java/lang/AbstractStringBuilder", name := "putStringAt", desc := "(ILjava/lang/String;)V" } : Jvm.MethodName) jdk_68_method_73_code (3 : Nat) (Option.none : Option Jvm.ClassFile.FieldType), Jvm.Cond.code ({ cls := "java/lang/AbstractStringBuilder", name := "inflateIfNeededFor", desc := "(Ljava/lang/String;)V" } : Jvm.MethodName) jdk_68_method_71_code (2 : Nat) (Option.none : Option Jvm.ClassFile.FieldType), Jvm.Cond.code ({ cls := "java/lang/String", name := "getBytes", desc := "([BIB)V" } : Jvm.MethodName) jdk_42_method_147_code (4 : Nat) (Option.none : Option Jvm.ClassFile.FieldType), Jvm.Cond.code ({ cls := "java/lang/StringBuilder", name := "toString", desc := "()Ljava/lang/String;" } : Jvm.MethodName) jdk_67_method_42_code (1 : Nat) (Option.some (Jvm.ClassFile.FieldType.object "java/lang/String")), Jvm.Cond.code ({ cls := "java/lang/String", name := "<init>", desc := "(Ljava/lang/StringBuilder;)V" } : Jvm.MethodName) jdk_42_method_53_code (2 : Nat) (Option.none : Option Jvm.ClassFile.FieldType), Jvm.Cond.code ({ cls := "java/lang/String", name := "<init>", desc := "(Ljava/lang/AbstractStringBuilder;Ljava/lang/Void;)V" } : Jvm.MethodName) jdk_42_method_150_code (5 : Nat) (Option.none : Option Jvm.ClassFile.FieldType), Jvm.Cond.code ({ cls := "java/lang/AbstractStringBuilder", name := "getValue", desc := "()[B" } : Jvm.MethodName) jdk_68_method_64_code (1 : Nat) (Option.some (Jvm.ClassFile.FieldType.array Jvm.ClassFile.FieldType.byte)), Jvm.Cond.code ({ cls := "java/lang/StringBuilder", name := "length", desc := "()I" } : Jvm.MethodName) jdk_67_method_93_code (1 : Nat) (Option.some Jvm.ClassFile.FieldType.int), Jvm.Cond.code ({ cls := "java/lang/AbstractStringBuilder", name := "length", desc := "()I" } : Jvm.MethodName) jdk_68_method_6_code (1 : Nat) (Option.some Jvm.ClassFile.FieldType.int), Jvm.Cond.code ({ cls := "java/lang/AbstractStringBuilder", name := "isLatin1", desc := "()Z" } : Jvm.MethodName) jdk_68_method_68_code (1 : Nat) (Option.some Jvm.ClassFile.FieldType.boolean), Jvm.Cond.code ({ cls := "java/util/Arrays", name := "copyOfRange", desc := "([BII)[B" } : Jvm.MethodName) jdk_65_method_132_code (3 : Nat) (Option.some (Jvm.ClassFile.FieldType.array Jvm.ClassFile.FieldType.byte)), Jvm.Cond.code ({ cls := "java/util/Arrays", name := "copyOfRangeByte", desc := "([BII)[B" } : Jvm.MethodName) jdk_65_method_133_code (5 : Nat) (Option.some (Jvm.ClassFile.FieldType.array Jvm.ClassFile.FieldType.byte)), Jvm.Cond.code ({ cls := "java/util/Arrays", name := "checkLength", desc := "(II)V" } : Jvm.MethodName) jdk_65_method_131_code (2 : Nat) (Option.none : Option Jvm.ClassFile.FieldType), Jvm.Cond.code ({ cls := "java/lang/Math", name := "min", desc := "(II)I" } : Jvm.MethodName) jdk_29_method_69_code (2 : Nat) (Option.some Jvm.ClassFile.FieldType.int), Jvm.Cond.code ({ cls := "java/lang/String", name := "equals", desc := "(Ljava/lang/Object;)Z" } : Jvm.MethodName) jdk_42_method_66_code (3 : Nat) (Option.some Jvm.ClassFile.FieldType.boolean), Jvm.Cond.code ({ cls := "java/lang/StringLatin1", name := "equals", desc := "([B[B)Z" } : Jvm.MethodName) jdk_43_method_13_code (3 : Nat) (Option.some Jvm.ClassFile.FieldType.boolean), Jvm.Cond.code ({ cls := "java/lang/StringUTF16", name := "toBytes", desc := "([CII)[B" } : Jvm.MethodName) jdk_52_method_14_code (5 : Nat) (Option.some (Jvm.ClassFile.FieldType.array Jvm.ClassFile.FieldType.byte)), Jvm.Cond.code ({ cls := "java/lang/StringUTF16", name := "newBytesFor", desc := "(I)[B" } : Jvm.MethodName) jdk_52_method_2_code (1 : Nat) (Option.some (Jvm.ClassFile.FieldType.array Jvm.ClassFile.FieldType.byte)), Jvm.Cond.code ({ cls := "java/lang/StringUTF16", name := "newBytesLength", desc := "(I)I" } : Jvm.MethodName) jdk_52_method_3_code (1 : Nat) (Option.some Jvm.ClassFile.FieldType.int), Jvm.Cond.code ({ cls := "java/lang/StringUTF16", name := "putChar", desc := "([BII)V" } : Jvm.MethodName) jdk_52_method_4_code (3 : Nat) (Option.none : Option Jvm.ClassFile.FieldType), Jvm.Cond.code ({ cls := "java/lang/StringUTF16", name := "getChar", desc := "([BI)C" } : Jvm.MethodName) jdk_52_method_5_code (2 : Nat) (Option.some Jvm.ClassFile.FieldType.char), Jvm.Cond.code ({ cls := "java/lang/StringUTF16", name := "codePointAt", desc := "([BII)I" } : Jvm.MethodName) jdk_52_method_8_code (3 : Nat) (Option.some Jvm.ClassFile.FieldType.int), Jvm.Cond.code ({ cls := "java/lang/StringUTF16", name := "codePointAt", desc := "([BIIZ)I" } : Jvm.MethodName) jdk_52_method_7_code (6 : Nat) (Option.some Jvm.ClassFile.FieldType.int), Jvm.Cond.code ({ cls := "java/lang/Character", name := "isHighSurrogate", desc := "(C)Z" } : Jvm.MethodName) jdk_89_method_14_code (1 : Nat) (Option.some Jvm.ClassFile.FieldType.boolean), Jvm.Cond.code ({ cls := "java/lang/AbstractStringBuilder", name := "inflate", desc := "()V" } : Jvm.MethodName) jdk_68_method_11_code (2 : Nat) (Option.none : Option Jvm.ClassFile.FieldType), Jvm.Cond.code ({ cls := "java/lang/StringLatin1", name := "inflate", desc := "([BI[BII)V" } : Jvm.MethodName) jdk_43_method_50_code (5 : Nat) (Option.none : Option Jvm.ClassFile.FieldType), Jvm.Cond.code ({ cls := "java/lang/StringUTF16", name := "inflate", desc := "([BI[BII)V" } : Jvm.MethodName) jdk_52_method_86_code (6 : Nat) (Option.none : Option Jvm.ClassFile.FieldType), Jvm.Cond.code ({ cls := "java/lang/StringUTF16", name := "checkBoundsOffCount", desc := "(II[B)V" } : Jvm.MethodName) jdk_52_method_94_code (3 : Nat) (Option.none : Option Jvm.ClassFile.FieldType), Jvm.Cond.code ({ cls := "java/lang/StringUTF16", name := "length", desc := "([B)I" } : Jvm.MethodName) jdk_52_method_6_code (1 : Nat) (Option.some Jvm.ClassFile.FieldType.int), Jvm.Cond.code ({ cls := "java/lang/String", name := "checkBoundsOffCount", desc := "(III)I" } : Jvm.MethodName) jdk_42_method_157_code (3 : Nat) (Option.some Jvm.ClassFile.FieldType.int), Jvm.Cond.code ({ cls := "jdk/internal/util/Preconditions", name := "checkFromIndexSize", desc := "(IIILjava/util/function/BiFunction;)I" } : Jvm.MethodName) jdk_41_method_13_code (4 : Nat) (Option.some Jvm.ClassFile.FieldType.int), Jvm.Cond.code ({ cls := "java/lang/StringUTF16", name := "toBytes", desc := "(C)[B" } : Jvm.MethodName) jdk_52_method_24_code (2 : Nat) (Option.some (Jvm.ClassFile.FieldType.array Jvm.ClassFile.FieldType.byte))]
set_option maxRecDepth 65536 in
theorem codes_eq : words1.filter isCode = codes1 := rfl
theorem w_codes : ∀ c ∈ words1.filter isCode, c.before args0 about1 = true := by
  rw [codes_eq]
  intro c hc
  simp only [codes1, List.mem_cons, List.not_mem_nil, or_false] at hc
  rcases hc with rfl | rfl | rfl | rfl | rfl | rfl | rfl | rfl | rfl | rfl | rfl | rfl | rfl | rfl | rfl | rfl | rfl | rfl | rfl | rfl | rfl | rfl | rfl | rfl | rfl | rfl | rfl | rfl | rfl | rfl | rfl | rfl | rfl | rfl | rfl | rfl | rfl | rfl | rfl | rfl | rfl | rfl | rfl | rfl | rfl | rfl | rfl | rfl | rfl | rfl | rfl | rfl | rfl | rfl | rfl | rfl | rfl | rfl | rfl | rfl | rfl
  · exact w_c0
  · exact w_c1
  · exact w_c2
  · exact w_c3
  · exact w_c4
  · exact w_c5
  · exact w_c6
  · exact w_c7
  · exact w_c8
  · exact w_c9
  · exact w_c10
  · exact w_c11
  · exact w_c12
  · exact w_c13
  · exact w_c14
  · exact w_c15
  · exact w_c16
  · exact w_c17
  · exact w_c18
  · exact w_c19
  · exact w_c20
  · exact w_c21
  · exact w_c22
  · exact w_c23
  · exact w_c24
  · exact w_c25
  · exact w_c26
  · exact w_c27
  · exact w_c28
  · exact w_c29
  · exact w_c30
  · exact w_c31
  · exact w_c32
  · exact w_c33
  · exact w_c34
  · exact w_c35
  · exact w_c36
  · exact w_c37
  · exact w_c38
  · exact w_c39
  · exact w_c40
  · exact w_c41
  · exact w_c42
  · exact w_c43
  · exact w_c44
  · exact w_c45
  · exact w_c46
  · exact w_c47
  · exact w_c48
  · exact w_c49
  · exact w_c50
  · exact w_c51
  · exact w_c52
  · exact w_c53
  · exact w_c54
  · exact w_c55
  · exact w_c56
  · exact w_c57
  · exact w_c58
  · exact w_c59
  · exact w_c60
set_option maxRecDepth 65536 in
theorem w_t1 : (words1.take 24).all (fun c => isCode c || c.before args0 about1) = true := by decide +kernel
set_option maxRecDepth 65536 in
theorem w_t2 : ((words1.drop 24).take 24).all (fun c => isCode c || c.before args0 about1) = true := by decide +kernel
set_option maxRecDepth 65536 in
theorem w_t3 : (((words1.drop 24).drop 24).take 24).all (fun c => isCode c || c.before args0 about1) = true := by decide +kernel
set_option maxRecDepth 65536 in
theorem w_t4 : ((((words1.drop 24).drop 24).drop 24).take 24).all (fun c => isCode c || c.before args0 about1) = true := by decide +kernel
set_option maxRecDepth 65536 in
theorem w_t5 : (((((words1.drop 24).drop 24).drop 24).drop 24).take 24).all (fun c => isCode c || c.before args0 about1) = true := by decide +kernel
set_option maxRecDepth 65536 in
theorem w_t6 : ((((((words1.drop 24).drop 24).drop 24).drop 24).drop 24).take 24).all (fun c => isCode c || c.before args0 about1) = true := by decide +kernel
set_option maxRecDepth 65536 in
theorem w_t7 : (((((((words1.drop 24).drop 24).drop 24).drop 24).drop 24).drop 24).take 24).all (fun c => isCode c || c.before args0 about1) = true := by decide +kernel
set_option maxRecDepth 65536 in
theorem w_t8 : ((((((((words1.drop 24).drop 24).drop 24).drop 24).drop 24).drop 24).drop 24).take 24).all (fun c => isCode c || c.before args0 about1) = true := by decide +kernel
set_option maxRecDepth 65536 in
theorem w_t9 : (((((((((words1.drop 24).drop 24).drop 24).drop 24).drop 24).drop 24).drop 24).drop 24).take 24).all (fun c => isCode c || c.before args0 about1) = true := by decide +kernel
set_option maxRecDepth 65536 in
theorem w_t10 : ((((((((((words1.drop 24).drop 24).drop 24).drop 24).drop 24).drop 24).drop 24).drop 24).drop 24).take 24).all (fun c => isCode c || c.before args0 about1) = true := by decide +kernel
set_option maxRecDepth 65536 in
theorem w_t11 : (((((((((((words1.drop 24).drop 24).drop 24).drop 24).drop 24).drop 24).drop 24).drop 24).drop 24).drop 24).take 24).all (fun c => isCode c || c.before args0 about1) = true := by decide +kernel
set_option maxRecDepth 65536 in
theorem w_t12 : ((((((((((((words1.drop 24).drop 24).drop 24).drop 24).drop 24).drop 24).drop 24).drop 24).drop 24).drop 24).drop 24).take 24).all (fun c => isCode c || c.before args0 about1) = true := by decide +kernel
set_option maxRecDepth 65536 in
theorem w_t13 : ((((((((((((words1.drop 24).drop 24).drop 24).drop 24).drop 24).drop 24).drop 24).drop 24).drop 24).drop 24).drop 24).drop 24).all (fun c => isCode c || c.before args0 about1) = true := by decide +kernel
theorem w_tables : (allAtoms (Jvm.Cond.code x code maxLocals ret :: tables_1)).before args0 about1 = true := by
  rw [allAtoms_all]
  show words1.all (fun c => c.before args0 about1) = true
  refine all_split ?_ w_codes
  rw [← List.take_append_drop 24 words1, List.all_append, w_t1, ← List.take_append_drop 24 (words1.drop 24), List.all_append, w_t2, ← List.take_append_drop 24 ((words1.drop 24).drop 24), List.all_append, w_t3, ← List.take_append_drop 24 (((words1.drop 24).drop 24).drop 24), List.all_append, w_t4, ← List.take_append_drop 24 ((((words1.drop 24).drop 24).drop 24).drop 24), List.all_append, w_t5, ← List.take_append_drop 24 (((((words1.drop 24).drop 24).drop 24).drop 24).drop 24), List.all_append, w_t6, ← List.take_append_drop 24 ((((((words1.drop 24).drop 24).drop 24).drop 24).drop 24).drop 24), List.all_append, w_t7, ← List.take_append_drop 24 (((((((words1.drop 24).drop 24).drop 24).drop 24).drop 24).drop 24).drop 24), List.all_append, w_t8, ← List.take_append_drop 24 ((((((((words1.drop 24).drop 24).drop 24).drop 24).drop 24).drop 24).drop 24).drop 24), List.all_append, w_t9, ← List.take_append_drop 24 (((((((((words1.drop 24).drop 24).drop 24).drop 24).drop 24).drop 24).drop 24).drop 24).drop 24), List.all_append, w_t10, ← List.take_append_drop 24 ((((((((((words1.drop 24).drop 24).drop 24).drop 24).drop 24).drop 24).drop 24).drop 24).drop 24).drop 24), List.all_append, w_t11, ← List.take_append_drop 24 (((((((((((words1.drop 24).drop 24).drop 24).drop 24).drop 24).drop 24).drop 24).drop 24).drop 24).drop 24).drop 24), List.all_append, w_t12, w_t13]
  rfl
set_option maxRecDepth 65536 in
theorem w_rest : rest_1_c.before args0 about1 = true := by decide +kernel
set_option maxRecDepth 65536 in
theorem w_case : (Jvm.Cond.and given_1 narrow_1).before args0 about1 = true := by decide +kernel
set_option maxRecDepth 65536 in
theorem w_consts : constsHeld consts_1 about1 := Jvm.Lit.constsHeldB_iff.mp (by decide +kernel)
theorem w_applies : (headSpec (Jvm.Cond.code x code maxLocals ret :: tables_1) room_1).applies x e0.platform about1 = true :=
  (Spec.applies_iff w_frames).mpr ⟨w_running, w_runnable, w_alone, w_named, w_hears, w_ripe, w_room, w_tables⟩
theorem atStart : AtStart classFile x code maxLocals ret World_1 tables_1 room_1 Calls_1 rest_1 Pre_1 launch0 p0 e0 about1 theMethod args0 below0 :=
  ⟨lists_1, trivial, launch0.admits_env _ _ _, launch0.least_env, fairChoices_fair.cas, fairChoices_fair.clock, w_frames, w_args, w_heap, w_applies, ⟨w_consts, trivial⟩, w_rest, w_case⟩
end start1
theorem witness_1 : WitnessClaimed_1 := ⟨start1.p0, start1.e0, start1.about1, start1.theMethod, start1.args0, start1.below0, start1.atStart⟩
end Jvm.Pilot.@@N@@
