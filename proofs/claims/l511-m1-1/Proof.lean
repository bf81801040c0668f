import JvmDerived
import JvmDerived.Pilot.@@N@@Statement
import JvmDerived.Pilot.@@N@@Code
set_option linter.unusedVariables false
set_option linter.unusedSimpArgs false
namespace Jvm.Pilot.@@N@@
open Jvm Jvm.ClassFile Sem Op Lib Jvm.Free Jvm.Stand Jvm.LawKit Jvm.RoadKit Bundle Jvm.Pilot.@@N@@.Jvm.D

/-! a segment of plain instructions, run by evaluation -/
abbrev PI := Nat × Instr × Nat × Int32
def getK {ρ : Type} : List Slot → Nat → (Slot → Option ρ) → Option ρ
  | [], _, _ => none
  | a :: _, 0, κ => κ a
  | _ :: l, i + 1, κ => getK l i κ
def setK {ρ : Type} : List Slot → Nat → Slot → (List Slot → Option ρ) → Option ρ
  | [], _, _, _ => none
  | _ :: l, 0, x, κ => κ (x :: l)
  | a :: l, i + 1, x, κ => setK l i x (fun l' => κ (a :: l'))
def stK {ρ : Type} (l : List Slot) (i : Nat) (v : Value) (κ : List Slot → Option ρ) : Option ρ :=
  getK l i fun
    | .unset => setK l i (.val v) κ
    | .val (.int _) => setK l i (.val v) κ
    | .val .null => setK l i (.val v) κ
    | .val (.ref _) => setK l i (.val v) κ
    | .val (.long _) => setK l (i + 1) .unset fun l' => setK l' i (.val v) κ
    | _ => none
def stKL {ρ : Type} (l : List Slot) (i : Nat) (v : Int64) (κ : List Slot → Option ρ) : Option ρ :=
  getK l i fun
    | .unset => getK l (i + 1) fun
      | .unset => setK l i (.val (.long v)) fun l' => setK l' (i + 1) .second κ
      | .val (.int _) => setK l i (.val (.long v)) fun l' => setK l' (i + 1) .second κ
      | .val .null => setK l i (.val (.long v)) fun l' => setK l' (i + 1) .second κ
      | .val (.ref _) => setK l i (.val (.long v)) fun l' => setK l' (i + 1) .second κ
      | _ => none
    | .val (.int _) => getK l (i + 1) fun
      | .unset => setK l i (.val (.long v)) fun l' => setK l' (i + 1) .second κ
      | .val (.int _) => setK l i (.val (.long v)) fun l' => setK l' (i + 1) .second κ
      | .val .null => setK l i (.val (.long v)) fun l' => setK l' (i + 1) .second κ
      | .val (.ref _) => setK l i (.val (.long v)) fun l' => setK l' (i + 1) .second κ
      | _ => none
    | .val (.ref _) => getK l (i + 1) fun
      | .unset => setK l i (.val (.long v)) fun l' => setK l' (i + 1) .second κ
      | .val (.int _) => setK l i (.val (.long v)) fun l' => setK l' (i + 1) .second κ
      | .val .null => setK l i (.val (.long v)) fun l' => setK l' (i + 1) .second κ
      | .val (.ref _) => setK l i (.val (.long v)) fun l' => setK l' (i + 1) .second κ
      | _ => none
    | .val (.long _) => getK l (i + 1) fun
      | .second => setK l i (.val (.long v)) κ
      | _ => none
    | _ => none
theorem dup2X2 {tb : Tables} [Ours tb] {e : Env} {below : List Frame} {T target : State} {m : MethodId} {c : Code} {g : JFrame} (h : At T m c below) (hx : tb.exec = Jvm.exec) (hg : g.method = m) {x : Int64} {y : Int32} {z : Addr} {rest : List Value} (hd : decode c.code g.pc = .ok (.dup2_x2, 1)) (hs : g.stack = .long x :: .int y :: .ref z :: rest)
    (hr : Steps tb e below (T.setTop { g with pc := g.pc + 1, stack := .long x :: .int y :: .ref z :: .long x :: rest }) target) : Steps tb e below (T.setTop g) target := by
  subst hg
  jvm_step h [h.top, hx, hd, hs, Value.category]
  exact hr
def pst {ρ : Type} (i : Instr) (v : Int32) (ls : List Slot) (st : List Value) (κ : List Slot → List Value → Option ρ) : Option ρ :=
  match i with
  | .aload_n k => getK ls k.val fun
    | .val (.ref a) => κ ls (.ref a :: st)
    | .val .null => κ ls (.null :: st)
    | _ => none
  | .aload k => getK ls k fun
    | .val (.ref a) => κ ls (.ref a :: st)
    | .val .null => κ ls (.null :: st)
    | _ => none
  | .iload_n k => getK ls k.val fun
    | .val (.int x) => κ ls (.int x :: st)
    | _ => none
  | .iload k => getK ls k fun
    | .val (.int x) => κ ls (.int x :: st)
    | _ => none
  | .lload_n k => getK ls k.val fun
    | .val (.long x) => κ ls (.long x :: st)
    | _ => none
  | .lload k => getK ls k fun
    | .val (.long x) => κ ls (.long x :: st)
    | _ => none
  | .iconst c => κ ls (.int v :: st)
  | .bipush c => κ ls (.int v :: st)
  | .sipush c => κ ls (.int v :: st)
  | .lconst c => κ ls (.long (Int64.ofNat c.val) :: st)
  | .aconst_null => κ ls (.null :: st)
  | .iadd => match st with
    | .int y :: .int x :: r => κ ls (.int (x + y) :: r)
    | _ => none
  | .isub => match st with
    | .int y :: .int x :: r => κ ls (.int (x - y) :: r)
    | _ => none
  | .imul => match st with
    | .int y :: .int x :: r => κ ls (.int (x * y) :: r)
    | _ => none
  | .iand => match st with
    | .int y :: .int x :: r => κ ls (.int (x &&& y) :: r)
    | _ => none
  | .ior => match st with
    | .int y :: .int x :: r => κ ls (.int (x ||| y) :: r)
    | _ => none
  | .ixor => match st with
    | .int y :: .int x :: r => κ ls (.int (x ^^^ y) :: r)
    | _ => none
  | .ishl => match st with
    | .int y :: .int x :: r => κ ls (.int (x <<< (y &&& 31)) :: r)
    | _ => none
  | .ishr => match st with
    | .int y :: .int x :: r => κ ls (.int (x >>> (y &&& 31)) :: r)
    | _ => none
  | .iushr => match st with
    | .int y :: .int x :: r => κ ls (.int (XT.ushr x y) :: r)
    | _ => none
  | .ladd => match st with
    | .long y :: .long x :: r => κ ls (.long (x + y) :: r)
    | _ => none
  | .lsub => match st with
    | .long y :: .long x :: r => κ ls (.long (x - y) :: r)
    | _ => none
  | .lmul => match st with
    | .long y :: .long x :: r => κ ls (.long (x * y) :: r)
    | _ => none
  | .land => match st with
    | .long y :: .long x :: r => κ ls (.long (x &&& y) :: r)
    | _ => none
  | .lor => match st with
    | .long y :: .long x :: r => κ ls (.long (x ||| y) :: r)
    | _ => none
  | .lxor => match st with
    | .long y :: .long x :: r => κ ls (.long (x ^^^ y) :: r)
    | _ => none
  | .lshl => match st with
    | .int y :: .long x :: r => κ ls (.long (x <<< (y.toInt64 &&& 63)) :: r)
    | _ => none
  | .lshr => match st with
    | .int y :: .long x :: r => κ ls (.long (x >>> (y.toInt64 &&& 63)) :: r)
    | _ => none
  | .lushr => match st with
    | .int y :: .long x :: r => κ ls (.long (XT.ushrL x y) :: r)
    | _ => none
  | .ineg => match st with
    | .int x :: r => κ ls (.int (-x) :: r)
    | _ => none
  | .lneg => match st with
    | .long x :: r => κ ls (.long (-x) :: r)
    | _ => none
  | .i2l => match st with
    | .int x :: r => κ ls (.long (x.toInt64) :: r)
    | _ => none
  | .l2i => match st with
    | .long x :: r => κ ls (.int (x.toInt32) :: r)
    | _ => none
  | .i2b => match st with
    | .int x :: r => κ ls (.int (x.toInt8.toInt32) :: r)
    | _ => none
  | .i2c => match st with
    | .int x :: r => κ ls (.int (x.toUInt32.toUInt16.toUInt32.toInt32) :: r)
    | _ => none
  | .i2s => match st with
    | .int x :: r => κ ls (.int (x.toInt16.toInt32) :: r)
    | _ => none
  | .lcmp => match st with
    | .long y :: .long x :: r => κ ls (.int (XT.cmpL x y) :: r)
    | _ => none
  | .pop => match st with
    | .int x :: r => κ ls (r)
    | .ref x :: r => κ ls (r)
    | .null :: r => κ ls (r)
    | _ => none
  | .dup => match st with
    | .int x :: r => κ ls (.int x :: .int x :: r)
    | .ref x :: r => κ ls (.ref x :: .ref x :: r)
    | .null :: r => κ ls (.null :: .null :: r)
    | _ => none
  | .dup_x1 => match st with
    | .int x :: .int y :: r => κ ls (.int x :: .int y :: .int x :: r)
    | .int x :: .ref y :: r => κ ls (.int x :: .ref y :: .int x :: r)
    | .int x :: .null :: r => κ ls (.int x :: .null :: .int x :: r)
    | .ref x :: .int y :: r => κ ls (.ref x :: .int y :: .ref x :: r)
    | .ref x :: .ref y :: r => κ ls (.ref x :: .ref y :: .ref x :: r)
    | .ref x :: .null :: r => κ ls (.ref x :: .null :: .ref x :: r)
    | .null :: .int y :: r => κ ls (.null :: .int y :: .null :: r)
    | .null :: .ref y :: r => κ ls (.null :: .ref y :: .null :: r)
    | .null :: .null :: r => κ ls (.null :: .null :: .null :: r)
    | _ => none
  | .dup2_x2 => match st with
    | .long x :: .int y :: .ref z :: r => κ ls (.long x :: .int y :: .ref z :: .long x :: r)
    | _ => none
  | .dup2 => match st with
    | .long x :: r => κ ls (.long x :: .long x :: r)
    | .int x :: .int y :: r => κ ls (.int x :: .int y :: .int x :: .int y :: r)
    | .int x :: .ref y :: r => κ ls (.int x :: .ref y :: .int x :: .ref y :: r)
    | .ref x :: .int y :: r => κ ls (.ref x :: .int y :: .ref x :: .int y :: r)
    | .ref x :: .ref y :: r => κ ls (.ref x :: .ref y :: .ref x :: .ref y :: r)
    | _ => none
  | .istore_n k => match st with
    | .int x :: r => stK ls k.val (.int x) fun ls' => κ ls' r
    | _ => none
  | .istore k => match st with
    | .int x :: r => stK ls k (.int x) fun ls' => κ ls' r
    | _ => none
  | .astore_n k => match st with
    | .ref x :: r => stK ls k.val (.ref x) fun ls' => κ ls' r
    | .null :: r => stK ls k.val .null fun ls' => κ ls' r
    | _ => none
  | .astore k => match st with
    | .ref x :: r => stK ls k (.ref x) fun ls' => κ ls' r
    | .null :: r => stK ls k .null fun ls' => κ ls' r
    | _ => none
  | .lstore_n k => match st with
    | .long x :: r => stKL ls k.val x fun ls' => κ ls' r
    | _ => none
  | .lstore k => match st with
    | .long x :: r => stKL ls k x fun ls' => κ ls' r
    | _ => none
  | .iinc k c => getK ls k fun
    | .val (.int x) => stK ls k (.int (x + v)) fun ls' => κ ls' st
    | _ => none
  | .goto _ => κ ls st
  | _ => none
def ilen : Instr → Nat
  | .aload _ => 2
  | .iload _ => 2
  | .lload _ => 2
  | .astore _ => 2
  | .istore _ => 2
  | .lstore _ => 2
  | .bipush _ => 2
  | .iinc _ _ => 3
  | .sipush _ => 3
  | .goto _ => 3
  | _ => 1
def ival (v : Int32) : Instr → Prop
  | .iconst c => Int32.ofInt c = v
  | .bipush c => (Int8.ofInt c).toInt32 = v
  | .sipush c => (Int16.ofInt c).toInt32 = v
  | .iinc _ c => Int32.ofInt c = v
  | _ => True
instance {v : Int32} {i : Instr} : Decidable (ival v i) := by unfold ival; split <;> infer_instance
def inxt (pc nx : Nat) : Instr → Prop
  | .goto o => 0 ≤ (pc : Int) + o ∧ ((pc : Int) + o).toNat = nx
  | i => pc + ilen i = nx
instance {pc nx : Nat} {i : Instr} : Decidable (inxt pc nx i) := by unfold inxt; split <;> infer_instance
def segOk (code : ByteArray) : Nat → List PI → Nat → Bool
  | pc, [], pe => decide (pc = pe)
  | pc, (q, i, nx, v) :: r, pe => decide (q = pc) && decide (decode code pc = .ok (i, ilen i)) && decide (ival v i) && decide (inxt pc nx i) && segOk code nx r pe
def prun : List PI → List Slot → List Value → Option (List Slot × List Value)
  | [], ls, st => some (ls, st)
  | (_, i, _, v) :: r, ls, st => pst i v ls st fun ls' st' => prun r ls' st'
theorem getK_some {ρ : Type} {κ : Slot → Option ρ} {r : ρ} : ∀ {l : List Slot} {i : Nat}, getK l i κ = some r → ∃ a, l[i]? = some a ∧ κ a = some r
  | [], _, h => by cases h
  | a :: _, 0, h => ⟨a, rfl, h⟩
  | _ :: l, i + 1, h => by obtain ⟨a, h1, h2⟩ := getK_some (l := l) h; exact ⟨a, by simpa using h1, h2⟩
theorem setK_some {ρ : Type} {x : Slot} {r : ρ} : ∀ {l : List Slot} {i : Nat} {κ : List Slot → Option ρ}, setK l i x κ = some r → i < l.length ∧ κ (l.set i x) = some r
  | [], _, _, h => by cases h
  | a :: _, 0, _, h => ⟨by simp, h⟩
  | _ :: l, i + 1, _, h => by obtain ⟨h1, h2⟩ := setK_some (l := l) h; exact ⟨by simpa using h1, by simpa using h2⟩
theorem setAt_list {l : List Slot} {i : Nat} {x : Slot} (h : i < l.length) : setAt l.toArray i x = some (l.set i x).toArray := by simp [setAt, h]
theorem cat_i (x : Int32) : (Value.int x).category = 1 := rfl
theorem cat_l (x : Int64) : (Value.long x).category = 2 := rfl
theorem cat_r (x : Addr) : (Value.ref x).category = 1 := rfl
theorem cat_n : Value.null.category = 1 := rfl
theorem stK_some {ρ : Type} {r : ρ} {v : Value} (hv : v.category = 1) {l : List Slot} {i : Nat} {κ : List Slot → Option ρ} (h : stK l i v κ = some r) : ∃ l', storeLocals l.toArray i v = some l'.toArray ∧ l'.length = l.length ∧ κ l' = some r := by
  obtain ⟨a, h1, h2⟩ := getK_some h
  have e : l.toArray[i]? = some a := by simpa using h1
  split at h2
  all_goals first
    | (cases h2; done)
    | (obtain ⟨h3, h4⟩ := setK_some h2; exact ⟨l.set i (.val v), by simp [storeLocals, storeSelf, e, h1, setAt_list h3, hv, cat_i, cat_l, cat_r, cat_n], by simp, h4⟩)
    | (obtain ⟨h3, h4⟩ := setK_some h2; obtain ⟨h5, h6⟩ := setK_some h4; exact ⟨(l.set (i + 1) .unset).set i (.val v), by simp [storeLocals, storeSelf, e, h1, setAt_list h3, setAt_list h5, hv, cat_i, cat_l, cat_r, cat_n], by simp, h6⟩)
theorem stKL_one {ρ : Type} {r : ρ} {v : Int64} {l : List Slot} {i : Nat} {κ : List Slot → Option ρ} {a : Slot} (h1 : l[i]? = some a) (ha : a = .unset ∨ ∃ w, a = .val w ∧ w.category = 1)
    (h2 : (getK l (i + 1) fun
      | .unset => setK l i (.val (.long v)) fun l' => setK l' (i + 1) .second κ
      | .val (.int _) => setK l i (.val (.long v)) fun l' => setK l' (i + 1) .second κ
      | .val .null => setK l i (.val (.long v)) fun l' => setK l' (i + 1) .second κ
      | .val (.ref _) => setK l i (.val (.long v)) fun l' => setK l' (i + 1) .second κ
      | _ => none) = some r) : ∃ l', storeLocals l.toArray i (.long v) = some l'.toArray ∧ l'.length = l.length ∧ κ l' = some r := by
  obtain ⟨b, h3, h4⟩ := getK_some h2
  have e : l.toArray[i]? = some a := by simpa using h1
  have e' : (l.set i (.val (.long v))).toArray[i + 1]? = some b := by simpa [List.getElem?_set] using h3
  have hs : storeSelf l.toArray i (.long v) = storeLocals l.toArray i (.long v) := by
    rcases ha with rfl | ⟨w, rfl, hw⟩ <;> simp [storeLocals, h1, *]
  rw [← hs]
  split at h4
  all_goals first
    | (cases h4; done)
    | (obtain ⟨h5, h6⟩ := setK_some h4; obtain ⟨h7, h8⟩ := setK_some h6
       refine ⟨(l.set i (.val (.long v))).set (i + 1) .second, ?_, by simp, h8⟩
       simp only [storeSelf, setAt_list h5, setAt_list h7, e', cat_i, cat_l, cat_r, cat_n, Option.bind_eq_bind, Option.bind_some, if_true, if_false, reduceIte, Nat.reduceEqDiff])
theorem stKL_some {ρ : Type} {r : ρ} {v : Int64} {l : List Slot} {i : Nat} {κ : List Slot → Option ρ} (h : stKL l i v κ = some r) : ∃ l', storeLocals l.toArray i (.long v) = some l'.toArray ∧ l'.length = l.length ∧ κ l' = some r := by
  obtain ⟨a, h1, h2⟩ := getK_some h
  have e : l.toArray[i]? = some a := by simpa using h1
  split at h2
  · exact stKL_one h1 (Or.inl rfl) h2
  · exact stKL_one h1 (Or.inr ⟨_, rfl, rfl⟩) h2
  · exact stKL_one h1 (Or.inr ⟨_, rfl, rfl⟩) h2
  · obtain ⟨b, h3, h4⟩ := getK_some h2
    split at h4
    · obtain ⟨h5, h6⟩ := setK_some h4
      have h7 : i + 1 < l.length := (List.getElem?_eq_some_iff.mp h3).1
      have q : ((l.set (i + 1) .unset).set i (.val (.long v))).set (i + 1) .second = l.set i (.val (.long v)) := by
        apply List.ext_getElem?; intro j
        simp only [List.getElem?_set, List.length_set]
        by_cases e1 : i + 1 = j
        · subst e1; obtain ⟨_, h8⟩ := List.getElem?_eq_some_iff.mp h3; simp [h7, h8]
        · simp [e1]
      refine ⟨l.set i (.val (.long v)), ?_, by simp, h6⟩
      rw [← q]
      have a1 : setAt l.toArray (i + 1) .unset = some (l.set (i + 1) .unset).toArray := setAt_list h7
      have a2 : setAt (l.set (i + 1) .unset).toArray i (.val (.long v)) = some ((l.set (i + 1) .unset).set i (.val (.long v))).toArray := setAt_list (by simpa using h5)
      have a3 : setAt ((l.set (i + 1) .unset).set i (.val (.long v))).toArray (i + 1) .second = some (((l.set (i + 1) .unset).set i (.val (.long v))).set (i + 1) .second).toArray := setAt_list (by simpa using h7)
      have a4 : ((l.set (i + 1) .unset).set i (.val (.long v))).toArray[i + 1]? = some .unset := by simp [List.getElem?_set, h7]
      simp only [storeLocals, storeSelf, e, a1, a2, a3, a4, cat_l, Option.bind_eq_bind, Option.bind_some, if_true]
    · cases h4
  · cases h2

theorem pst_sound {ρ : Type} {r : ρ} {tb : Tables} [Ours tb] {e : Env} {below : List Frame} {T : State} {m : MethodId} {c : Code} {code : ByteArray} (hA : At T m c below) (hx : tb.exec = Jvm.exec) (hc : c.code = code) {i : Instr} {v : Int32} {pc nx : Nat} {ls : List Slot} {st : List Value} {κ : List Slot → List Value → Option ρ}
    (hd : decode code pc = .ok (i, ilen i)) (hv : ival v i) (hn : inxt pc nx i) (h : pst i v ls st κ = some r) :
    ∃ ls' st', ls'.length = ls.length ∧ κ ls' st' = some r ∧ ∀ t, Steps tb e below (T.setTop (mkF m nx ls'.toArray st')) t → Steps tb e below (T.setTop (mkF m pc ls.toArray st)) t := by
  cases i
  case goto o => exact ⟨_, _, rfl, h, fun t hr => XS.goto hA hx rfl rfl (hb hc hd) hn.1 hn.2 hr⟩
  all_goals first
    | exact nomatch (show none = some _ from h)
    | (change _ = nx at hn; subst hn)
  case aload_n k => 
    obtain ⟨a, h1, h2⟩ := getK_some h
    split at h2
    · exact ⟨_, _, rfl, h2, fun t hr => XS.aloadN hA hx rfl (hb hc hd) (by simpa using h1) rfl hr⟩
    · exact ⟨_, _, rfl, h2, fun t hr => XS.aloadN hA hx rfl (hb hc hd) (by simpa using h1) rfl hr⟩
    · cases h2
  case aload k => 
    obtain ⟨a, h1, h2⟩ := getK_some h
    split at h2
    · exact ⟨_, _, rfl, h2, fun t hr => XS.aload hA hx rfl (hb hc hd) (by simpa using h1) rfl hr⟩
    · exact ⟨_, _, rfl, h2, fun t hr => XS.aload hA hx rfl (hb hc hd) (by simpa using h1) rfl hr⟩
    · cases h2
  case iload_n k => 
    obtain ⟨a, h1, h2⟩ := getK_some h
    split at h2
    · exact ⟨_, _, rfl, h2, fun t hr => XS.iloadN hA hx rfl (hb hc hd) (by simpa using h1) hr⟩
    · cases h2
  case iload k => 
    obtain ⟨a, h1, h2⟩ := getK_some h
    split at h2
    · exact ⟨_, _, rfl, h2, fun t hr => XS.iload hA hx rfl (hb hc hd) (by simpa using h1) hr⟩
    · cases h2
  case lload_n k => 
    obtain ⟨a, h1, h2⟩ := getK_some h
    split at h2
    · exact ⟨_, _, rfl, h2, fun t hr => XT.lloadN hA hx rfl (hb hc hd) (by simpa using h1) hr⟩
    · cases h2
  case lload k => 
    obtain ⟨a, h1, h2⟩ := getK_some h
    split at h2
    · exact ⟨_, _, rfl, h2, fun t hr => XT.lload hA hx rfl (hb hc hd) (by simpa using h1) hr⟩
    · cases h2
  case iconst c => exact ⟨_, _, rfl, h, fun t hr => XS.iconst hA hx rfl (hb hc hd) (by rw [hv]; exact hr)⟩
  case bipush c => exact ⟨_, _, rfl, h, fun t hr => XS.bipush hA hx rfl (hb hc hd) (by rw [hv]; exact hr)⟩
  case sipush c => exact ⟨_, _, rfl, h, fun t hr => XS.sipush hA hx rfl (hb hc hd) (by rw [hv]; exact hr)⟩
  case lconst c => exact ⟨_, _, rfl, h, fun t hr => XT.lconst hA hx rfl (hb hc hd) hr⟩
  case aconst_null => exact ⟨_, _, rfl, h, fun t hr => XS.aconstNull hA hx rfl (hb hc hd) hr⟩
  case iadd => 
    simp only [pst] at h
    split at h
    · exact ⟨_, _, rfl, h, fun t hr => XS.iadd hA hx rfl (hb hc hd) rfl hr⟩
    · cases h
  case isub => 
    simp only [pst] at h
    split at h
    · exact ⟨_, _, rfl, h, fun t hr => XS.isub hA hx rfl (hb hc hd) rfl hr⟩
    · cases h
  case imul => 
    simp only [pst] at h
    split at h
    · exact ⟨_, _, rfl, h, fun t hr => XS.imul hA hx rfl (hb hc hd) rfl hr⟩
    · cases h
  case iand => 
    simp only [pst] at h
    split at h
    · exact ⟨_, _, rfl, h, fun t hr => XS.iand hA hx rfl (hb hc hd) rfl hr⟩
    · cases h
  case ior => 
    simp only [pst] at h
    split at h
    · exact ⟨_, _, rfl, h, fun t hr => XT.ior hA hx rfl (hb hc hd) rfl hr⟩
    · cases h
  case ixor => 
    simp only [pst] at h
    split at h
    · exact ⟨_, _, rfl, h, fun t hr => XT.ixor hA hx rfl (hb hc hd) rfl hr⟩
    · cases h
  case ishl => 
    simp only [pst] at h
    split at h
    · exact ⟨_, _, rfl, h, fun t hr => XT.ishl hA hx rfl (hb hc hd) rfl hr⟩
    · cases h
  case ishr => 
    simp only [pst] at h
    split at h
    · exact ⟨_, _, rfl, h, fun t hr => XT.ishr hA hx rfl (hb hc hd) rfl hr⟩
    · cases h
  case iushr => 
    simp only [pst] at h
    split at h
    · exact ⟨_, _, rfl, h, fun t hr => XT.iushr hA hx rfl (hb hc hd) rfl hr⟩
    · cases h
  case ladd => 
    simp only [pst] at h
    split at h
    · exact ⟨_, _, rfl, h, fun t hr => XT.ladd hA hx rfl (hb hc hd) rfl hr⟩
    · cases h
  case lsub => 
    simp only [pst] at h
    split at h
    · exact ⟨_, _, rfl, h, fun t hr => XT.lsub hA hx rfl (hb hc hd) rfl hr⟩
    · cases h
  case lmul => 
    simp only [pst] at h
    split at h
    · exact ⟨_, _, rfl, h, fun t hr => XT.lmul hA hx rfl (hb hc hd) rfl hr⟩
    · cases h
  case land => 
    simp only [pst] at h
    split at h
    · exact ⟨_, _, rfl, h, fun t hr => XT.land hA hx rfl (hb hc hd) rfl hr⟩
    · cases h
  case lor => 
    simp only [pst] at h
    split at h
    · exact ⟨_, _, rfl, h, fun t hr => XT.lor hA hx rfl (hb hc hd) rfl hr⟩
    · cases h
  case lxor => 
    simp only [pst] at h
    split at h
    · exact ⟨_, _, rfl, h, fun t hr => XT.lxor hA hx rfl (hb hc hd) rfl hr⟩
    · cases h
  case lshl => 
    simp only [pst] at h
    split at h
    · exact ⟨_, _, rfl, h, fun t hr => XT.lshl hA hx rfl (hb hc hd) rfl hr⟩
    · cases h
  case lshr => 
    simp only [pst] at h
    split at h
    · exact ⟨_, _, rfl, h, fun t hr => XT.lshr hA hx rfl (hb hc hd) rfl hr⟩
    · cases h
  case lushr => 
    simp only [pst] at h
    split at h
    · exact ⟨_, _, rfl, h, fun t hr => XT.lushr hA hx rfl (hb hc hd) rfl hr⟩
    · cases h
  case ineg => 
    simp only [pst] at h
    split at h
    · exact ⟨_, _, rfl, h, fun t hr => XS.ineg hA hx rfl (hb hc hd) rfl hr⟩
    · cases h
  case lneg => 
    simp only [pst] at h
    split at h
    · exact ⟨_, _, rfl, h, fun t hr => XT.lneg hA hx rfl (hb hc hd) rfl hr⟩
    · cases h
  case i2l => 
    simp only [pst] at h
    split at h
    · exact ⟨_, _, rfl, h, fun t hr => XT.i2l hA hx rfl (hb hc hd) rfl hr⟩
    · cases h
  case l2i => 
    simp only [pst] at h
    split at h
    · exact ⟨_, _, rfl, h, fun t hr => XT.l2i hA hx rfl (hb hc hd) rfl hr⟩
    · cases h
  case i2b => 
    simp only [pst] at h
    split at h
    · exact ⟨_, _, rfl, h, fun t hr => XT.i2b hA hx rfl (hb hc hd) rfl hr⟩
    · cases h
  case i2c => 
    simp only [pst] at h
    split at h
    · exact ⟨_, _, rfl, h, fun t hr => XT.i2c hA hx rfl (hb hc hd) rfl hr⟩
    · cases h
  case i2s => 
    simp only [pst] at h
    split at h
    · exact ⟨_, _, rfl, h, fun t hr => XT.i2s hA hx rfl (hb hc hd) rfl hr⟩
    · cases h
  case lcmp => 
    simp only [pst] at h
    split at h
    · exact ⟨_, _, rfl, h, fun t hr => XT.lcmp hA hx rfl (hb hc hd) rfl hr⟩
    · cases h
  case pop => 
    simp only [pst] at h
    split at h
    · exact ⟨_, _, rfl, h, fun t hr => XT.pop hA hx rfl (hb hc hd) rfl rfl hr⟩
    · exact ⟨_, _, rfl, h, fun t hr => XT.pop hA hx rfl (hb hc hd) rfl rfl hr⟩
    · exact ⟨_, _, rfl, h, fun t hr => XT.pop hA hx rfl (hb hc hd) rfl rfl hr⟩
    · cases h
  case dup => 
    simp only [pst] at h
    split at h
    · exact ⟨_, _, rfl, h, fun t hr => XS.dup hA hx rfl (hb hc hd) rfl rfl hr⟩
    · exact ⟨_, _, rfl, h, fun t hr => XS.dup hA hx rfl (hb hc hd) rfl rfl hr⟩
    · exact ⟨_, _, rfl, h, fun t hr => XS.dup hA hx rfl (hb hc hd) rfl rfl hr⟩
    · cases h
  case dup_x1 => 
    simp only [pst] at h
    split at h
    · exact ⟨_, _, rfl, h, fun t hr => XT.dupX1 hA hx rfl (hb hc hd) rfl rfl rfl hr⟩
    · exact ⟨_, _, rfl, h, fun t hr => XT.dupX1 hA hx rfl (hb hc hd) rfl rfl rfl hr⟩
    · exact ⟨_, _, rfl, h, fun t hr => XT.dupX1 hA hx rfl (hb hc hd) rfl rfl rfl hr⟩
    · exact ⟨_, _, rfl, h, fun t hr => XT.dupX1 hA hx rfl (hb hc hd) rfl rfl rfl hr⟩
    · exact ⟨_, _, rfl, h, fun t hr => XT.dupX1 hA hx rfl (hb hc hd) rfl rfl rfl hr⟩
    · exact ⟨_, _, rfl, h, fun t hr => XT.dupX1 hA hx rfl (hb hc hd) rfl rfl rfl hr⟩
    · exact ⟨_, _, rfl, h, fun t hr => XT.dupX1 hA hx rfl (hb hc hd) rfl rfl rfl hr⟩
    · exact ⟨_, _, rfl, h, fun t hr => XT.dupX1 hA hx rfl (hb hc hd) rfl rfl rfl hr⟩
    · exact ⟨_, _, rfl, h, fun t hr => XT.dupX1 hA hx rfl (hb hc hd) rfl rfl rfl hr⟩
    · cases h
  case dup2_x2 => 
    simp only [pst] at h
    split at h
    · exact ⟨_, _, rfl, h, fun t hr => dup2X2 hA hx rfl (hb hc hd) rfl hr⟩
    · cases h
  case dup2 => 
    simp only [pst] at h
    split at h
    · exact ⟨_, _, rfl, h, fun t hr => XT.dup2L hA hx rfl (hb hc hd) rfl hr⟩
    · exact ⟨_, _, rfl, h, fun t hr => XT.dup2 hA hx rfl (hb hc hd) rfl rfl rfl hr⟩
    · exact ⟨_, _, rfl, h, fun t hr => XT.dup2 hA hx rfl (hb hc hd) rfl rfl rfl hr⟩
    · exact ⟨_, _, rfl, h, fun t hr => XT.dup2 hA hx rfl (hb hc hd) rfl rfl rfl hr⟩
    · exact ⟨_, _, rfl, h, fun t hr => XT.dup2 hA hx rfl (hb hc hd) rfl rfl rfl hr⟩
    · cases h
  case istore_n k => 
    simp only [pst] at h
    split at h
    · obtain ⟨l', h1, h2, h3⟩ := stK_some rfl h
      exact ⟨_, _, h2, h3, fun t hr => XS.istoreN hA hx rfl (hb hc hd) rfl h1 hr⟩
    · cases h
  case istore k => 
    simp only [pst] at h
    split at h
    · obtain ⟨l', h1, h2, h3⟩ := stK_some rfl h
      exact ⟨_, _, h2, h3, fun t hr => XS.istore hA hx rfl (hb hc hd) rfl h1 hr⟩
    · cases h
  case astore_n k => 
    simp only [pst] at h
    split at h
    · obtain ⟨l', h1, h2, h3⟩ := stK_some rfl h
      exact ⟨_, _, h2, h3, fun t hr => XS.astoreN hA hx rfl (hb hc hd) rfl rfl h1 hr⟩
    · obtain ⟨l', h1, h2, h3⟩ := stK_some rfl h
      exact ⟨_, _, h2, h3, fun t hr => XS.astoreN hA hx rfl (hb hc hd) rfl rfl h1 hr⟩
    · cases h
  case astore k => 
    simp only [pst] at h
    split at h
    · obtain ⟨l', h1, h2, h3⟩ := stK_some rfl h
      exact ⟨_, _, h2, h3, fun t hr => XS.astore hA hx rfl (hb hc hd) rfl rfl h1 hr⟩
    · obtain ⟨l', h1, h2, h3⟩ := stK_some rfl h
      exact ⟨_, _, h2, h3, fun t hr => XS.astore hA hx rfl (hb hc hd) rfl rfl h1 hr⟩
    · cases h
  case lstore_n k => 
    simp only [pst] at h
    split at h
    · obtain ⟨l', h1, h2, h3⟩ := stKL_some h
      exact ⟨_, _, h2, h3, fun t hr => XT.lstoreN hA hx rfl (hb hc hd) rfl h1 hr⟩
    · cases h
  case lstore k => 
    simp only [pst] at h
    split at h
    · obtain ⟨l', h1, h2, h3⟩ := stKL_some h
      exact ⟨_, _, h2, h3, fun t hr => XT.lstore hA hx rfl (hb hc hd) rfl h1 hr⟩
    · cases h
  case iinc k c => 
    obtain ⟨a, h1, h2⟩ := getK_some h
    split at h2
    · obtain ⟨l', h3, h4, h5⟩ := stK_some rfl h2
      exact ⟨_, _, h4, h5, fun t hr => XS.iinc hA hx rfl (hb hc hd) (by simpa using h1) (by rw [hv]; exact h3) hr⟩
    · cases h2
theorem prun_sound {tb : Tables} [Ours tb] {e : Env} {below : List Frame} {T : State} {m : MethodId} {c : Code} {code : ByteArray} (hA : At T m c below) (hx : tb.exec = Jvm.exec) (hc : c.code = code) : ∀ (seg : List PI) {pc pe : Nat} {ls ls' : List Slot} {st st' : List Value}, segOk code pc seg pe = true → prun seg ls st = some (ls', st') →
    ls'.length = ls.length ∧ ∀ t, Steps tb e below (T.setTop (mkF m pe ls'.toArray st')) t → Steps tb e below (T.setTop (mkF m pc ls.toArray st)) t
  | [], pc, pe, ls, ls', st, st', h1, h2 => by
    have e1 : pc = pe := by simpa [segOk] using h1
    have e2 : (ls, st) = (ls', st') := Option.some.inj h2
    cases e1; cases e2
    exact ⟨rfl, fun t hr => hr⟩
  | (q, i, nx, v) :: r, pc, pe, ls, ls', st, st', h1, h2 => by
    simp only [segOk, Bool.and_eq_true, decide_eq_true_eq] at h1
    obtain ⟨⟨⟨⟨rfl, hd⟩, hv⟩, hn⟩, hr⟩ := h1
    obtain ⟨l1, s1, e1, h3, k1⟩ := pst_sound (κ := fun ls' st' => prun r ls' st') hA hx hc hd hv hn h2
    obtain ⟨e2, k2⟩ := prun_sound hA hx hc r hr h3
    exact ⟨e2.trans e1, fun t ht => k1 _ (k2 _ ht)⟩

abbrev HP := Heap × (Addr → Prop)
abbrev Dyn := Program × Env × State × MethodId × Array Value × List Frame × Method × Code × State × HP
def GI (Z : State) (EL : List (String × Nat)) (vm : Vm) (H : HP) : Prop :=
  Ext Z.heap H.1 ∧ ∀ y, H.2 y → Z.heap.size ≤ y ∧ y < H.1.size
def Kp (H H' : HP) (ws : List Addr) : Prop := Keep H.1 H'.1 ws ∧ ∀ x, H.2 x → H'.2 x
def Wk (l : Launch) (Z : State) (a0 : Array Value) (EL : List (String × Nat)) (own : String) (code : ByteArray) (ml : Nat) (nm : String) (rt : Option FieldType) (R : Room) (D : Dyn) (pc : Nat) (ls : List Slot) (st : List Value) (H : HP) (k n : Nat) : Prop :=
  D.1.tables.exec = Jvm.exec ∧ D.2.2.1.vm.findClass own = some D.2.2.2.1.cls ∧ D.2.2.2.2.2.2.2.1.code = code ∧ D.2.2.2.2.2.2.2.1.maxLocals = ml ∧ D.2.2.2.2.2.2.1.name = nm ∧ D.2.2.2.2.2.2.1.sig.returnType = rt ∧ D.2.2.2.2.2.2.1.locks = false ∧ ls.length = ml ∧
  ∃ T L, Stand D.1 l D.2.1 R D.2.2.1 D.2.2.2.1 D.2.2.2.2.1 D.2.2.2.2.2.1 D.2.2.2.2.2.2.1 D.2.2.2.2.2.2.2.1 T L k n ∧ T.heap = H.1 ∧ Z.Warmed39 D.2.2.1.vm ∧ GI Z EL D.2.2.1.vm H ∧ Fr Z.heap.size L ∧
    ((∀ x, D.2.2.2.2.2.2.2.2.2.2 x → H.2 x) ∧ D.2.2.2.2.2.2.2.2.2.1.size ≤ H.1.size) ∧ Steps D.1.tables D.2.1 D.2.2.2.2.2.1 D.2.2.2.2.2.2.2.2.1 (T.setTop (mkF D.2.2.2.1 pc ls.toArray st))
/-- the method has returned v -/
def Rt (Z : State) (EL : List (String × Nat)) (D : Dyn) (v : Option Value) (H : HP) (k n : Nat) : Prop :=
  ∃ s₂ L, Steps D.1.tables D.2.1 D.2.2.2.2.2.1 D.2.2.2.2.2.2.2.2.1 s₂ ∧ s₂.status = .running ∧ Ended s₂ D.2.2.2.2.2.1 (.returned v) ∧ s₂.heap = H.1 ∧ ((∀ x, D.2.2.2.2.2.2.2.2.2.2 x → H.2 x) ∧ D.2.2.2.2.2.2.2.2.2.1.size ≤ H.1.size) ∧ GI Z EL s₂.vm H ∧ Fr Z.heap.size L ∧ FrameEnd D.2.2.1 (.returned v) s₂ L k n
/-- a contract: y, called with as in the heap H, comes back with Q -/
def Ct (l : Launch) (Z : State) (EL : List (String × Nat)) (y : MethodName) (bytes : ByteArray) (ml : Nat) (ret : Option FieldType) (rm : Room) (ws : List Jvm.Cond) (as : List Value) (H : HP) (Q : Option Value → HP → Prop) : Prop :=
  MetFree l y (head1 (Jvm.Cond.code y bytes ml ret :: ws) rm) (fun a U => a = as.toArray ∧ Z.Warmed39 U.vm ∧ U.heap = H.1 ∧ GI Z EL U.vm H) (fun _ _ _ _ _ => True)
    (fun _ U o U' => ∃ v L O, o = .returned v ∧ Q v (U'.heap, O) ∧ ((∀ x, H.2 x → O x) ∧ H.1.size ≤ U'.heap.size) ∧ GI Z EL U'.vm (U'.heap, O) ∧ Fr Z.heap.size L ∧ FrameEnd U o U' L rm.cells rm.slots)
def locsOf : List Value → Nat → List Slot
  | [], n => List.replicate n .unset
  | v :: r, n => match v with
    | .long x => .val (.long x) :: .second :: locsOf r (n - 2)
    | .double x => .val (.double x) :: .second :: locsOf r (n - 2)
    | .int x => .val (.int x) :: locsOf r (n - 1)
    | .float x => .val (.float x) :: locsOf r (n - 1)
    | .null => .val .null :: locsOf r (n - 1)
    | .ref x => .val (.ref x) :: locsOf r (n - 1)
    | .retAddr x => .val (.retAddr x) :: locsOf r (n - 1)
def slotsOf : List Value → List Slot
  | [] => []
  | v :: r => if v.category = 2 then .val v :: .second :: slotsOf r else .val v :: slotsOf r
theorem locsOf_eq : ∀ (as : List Value) (n : Nat), locsOf as n = slotsOf as ++ List.replicate (n - (slotsOf as).length) .unset
  | [], n => by simp [locsOf, slotsOf]
  | v :: r, n => by
    have e1 : n - 1 - (slotsOf r).length = n - ((slotsOf r).length + 1) := by omega
    have e2 : n - 2 - (slotsOf r).length = n - ((slotsOf r).length + 1 + 1) := by omega
    cases v <;> simp [locsOf, slotsOf, Value.category, locsOf_eq r, e1, e2]
theorem fold_slots : ∀ (as : List Value) (acc : Array Slot), as.foldl (fun acc v => if v.category = 2 then (acc.push (.val v)).push .second else acc.push (.val v)) acc = acc ++ (slotsOf as).toArray
  | [], acc => by simp [slotsOf]
  | v :: r, acc => by
    rw [List.foldl_cons, fold_slots r]
    by_cases h : v.category = 2
    · simp only [h, if_true, slotsOf]; apply Array.ext'; simp
    · simp only [h, if_false, slotsOf]; apply Array.ext'; simp
theorem entry_locs (m : MethodId) (as : List Value) (ml : Nat) : entryFrame m as.toArray ml = mkF m 0 (locsOf as ml).toArray [] := by
  have q : argsToLocals as.toArray ml = (locsOf as ml).toArray := by
    unfold argsToLocals
    simp only [List.foldl_toArray, fold_slots]
    rw [locsOf_eq]
    apply Array.ext'; simp
  simp only [entryFrame, q]
theorem retV {p : Program} {l : Launch} {e : Env} {R : Room} {s : State} {m : MethodId} {args : Array Value} {below : List Frame} {meth : Method} {c : Code} {T : State} {locs : List Loc} {cells slots : Nat} (X : Stand p l e R s m args below meth c T locs cells slots) (hx : p.tables.exec = Jvm.exec) {pc : Nat} {Ls : Array Slot} {st : List Value} (hret : meth.sig.returnType = none) (hd : decode c.code pc = .ok (.return_, 1)) {fs : List Frame}
    (hl : ∀ (f : JFrame) (acts : List Action), f.method = m → f.locked = none → f.entered = [] → (doReturn e (T.setTop f) acts none).1 = T.setFrames fs) : Steps p.tables e below (T.setTop (mkF m pc Ls st)) (T.setFrames fs) := by
  have hm' : T.vm.method? m = some meth := X.method'
  show Steps p.tables e below (T.setTop { method := m, pc := pc, locals := Ls, stack := st, locked := none }) _
  jvm_step X.here [X.here.top, hx, hd, hm', hret]
  first | (intro acts; rw [hl _ acts rfl rfl rfl]) | rw [hl _ _ rfl rfl rfl]
  exact Steps.refl _
section Laws
variable {l : Launch} {Z : State} {a0 : Array Value} {EL : List (String × Nat)} {own : String} {code : ByteArray} {ml : Nat} {nm : String} {rt : Option FieldType} {R : Room} {D : Dyn} {pc : Nat} {ls : List Slot} {st : List Value} {H H' : HP} {k n : Nat} {vm vm0 : Vm} {ws ws' : List Addr} {a b : Addr} {C nn d : String} {v w : Value} {sl : Nat} {ty : FieldType} {vs : List Value}
theorem Kp.refl (H : HP) : Kp H H [] := ⟨Keep.refl _ _, fun _ h => h⟩
theorem Kp.size (K : Kp H H' ws) : H.1.size ≤ H'.1.size := K.1.1
theorem Kp.trans {H2 : HP} (K : Kp H H' ws) (K' : Kp H' H2 ws') (q : ∀ x ∈ ws', x ∈ ws ∨ H.1.size ≤ x) : Kp H H2 ws := ⟨K.1.trans K'.1 q, fun x h => K'.2 x (K.2 x h)⟩
theorem Kp.tr {H2 : HP} (K : Kp H H' []) (K' : Kp H' H2 []) : Kp H H2 [] := K.trans K' (fun x h => nomatch h)
theorem Kp.wide (K : Kp H H' ws) (q : ∀ x ∈ ws, x ∈ ws' ∨ H.1.size ≤ x) : Kp H H' ws' := Kp.trans (H' := H) ⟨Keep.refl _ _, fun _ h => h⟩ K q
/-- all that was written is new since H: so H stands whole -/
theorem Kp.new (K : Kp H H' ws) (q : ∀ x ∈ ws, H.1.size ≤ x) : Kp H H' [] := K.wide fun x h => Or.inr (q x h)
end Laws
end Jvm.Pilot.@@N@@
namespace Jvm.RoadKit
open Jvm.Pilot.@@N@@
theorem Fld.ky {Z : State} {H H' : HP} {ws : List Addr} {a : Addr} {C nn d : String} {v : Value} (F : Fld Z H.1 a C nn d v) (K : Jvm.Pilot.@@N@@.Kp H H' ws) (q : a ∉ ws := by exact List.not_mem_nil) : Fld Z H'.1 a C nn d v := F.keep K.1 q
theorem Exa.ky {Z : State} {H H' : HP} {ws : List Addr} {a : Addr} {C : String} (F : Exa Z H.1 a C) (K : Jvm.Pilot.@@N@@.Kp H H' ws) : Exa Z H'.1 a C := F.keep K.1
end Jvm.RoadKit
namespace Jvm.Pilot.@@N@@
open Jvm Jvm.ClassFile Sem Op Lib Jvm.Free Jvm.Stand Jvm.LawKit Jvm.RoadKit Bundle Jvm.Pilot.@@N@@.Jvm.D
section Laws
variable {l : Launch} {Z : State} {a0 : Array Value} {EL : List (String × Nat)} {own : String} {code : ByteArray} {ml : Nat} {nm : String} {rt : Option FieldType} {R : Room} {D : Dyn} {pc : Nat} {ls : List Slot} {st : List Value} {H H' : HP} {k n : Nat} {vm vm0 : Vm} {ws ws' : List Addr} {a b : Addr} {C nn d : String} {v w : Value} {sl : Nat} {ty : FieldType} {vs : List Value}
def Ar (Z : State) (H : HP) (a : Addr) (ty : FieldType) (vs : List Value) : Prop := ∃ c : Cell, Arr Z H.1 a c ty ∧ c.slots = vs.toArray ∧ vs.length < 2 ^ 31 ∧ ∀ v ∈ vs, fits ty v = true
theorem Ar.ky (F : Ar Z H a ty vs) (K : Kp H H' ws) (q : a ∉ ws := by exact List.not_mem_nil) : Ar Z H' a ty vs := by
  obtain ⟨c, A, r⟩ := F; exact ⟨c, ⟨K.1.2.1 a c A.1 q, A.2⟩, r⟩
theorem Ar.lt (F : Ar Z H a ty vs) : a < H.1.size := by obtain ⟨c, A, -⟩ := F; exact A.lt
theorem Ar.len (F : Ar Z H a ty vs) : vs.length < 2 ^ 31 := by obtain ⟨c, A, -, h, -⟩ := F; exact h
theorem Ar.fits (F : Ar Z H a ty vs) : ∀ v ∈ vs, fits ty v = true := by obtain ⟨c, A, -, -, h⟩ := F; exact h
theorem clamp_nat {i : Nat} (h : i < 2 ^ 31) : i.toInt32.toNatClampNeg = i := by
  have h1 : (i.toInt32).toInt = i := by simp [Nat.toInt32, Int32.toInt_ofNat_of_lt h]
  simp [Int32.toNatClampNeg, h1]
theorem nonneg_nat {i : Nat} (h : i < 2 ^ 31) : ¬ i.toInt32 < 0 := by
  have h1 : (i.toInt32).toInt = i := by simp [Nat.toInt32, Int32.toInt_ofNat_of_lt h]
  rw [Int32.lt_iff_toInt_lt, h1]; simp
theorem Ar.arv (F : Ar Z H a ty vs) (dv : Value) : ∃ kc, Arv Z H.1 a kc ty vs.length.toInt32 vs dv := by
  obtain ⟨c, A, e, h, g⟩ := F
  have hs : c.slots.size = vs.length := by rw [e]; simp
  refine ⟨c.cls, c, A, rfl, by rw [hs, clamp_nat h], nonneg_nat h, fun k hk => ?_, fun i hi => ?_⟩
  · rw [hs] at hk; rw [e]; simp [hk]
  · rw [hs] at hi
    have : vs.getD i dv = vs[i] := by simp [hi]
    rw [this]; exact g _ (List.getElem_mem hi)
theorem Ar.of_arv {kc : ClassId} {z : Int32} {dv : Value} (F : Arv Z H.1 a kc ty z vs dv) (hl : z.toNatClampNeg = vs.length) : Ar Z H a ty vs := by
  obtain ⟨c, A, -, S, M, Hs, G⟩ := F
  have hs : c.slots.size = vs.length := by rw [S, hl]
  have hb : vs.length < 2 ^ 31 := by rw [← hl]; exact (back32 M).2
  refine ⟨c, A, ?_, hb, fun v hv => ?_⟩
  · apply Array.ext_getElem?; intro i
    by_cases hi : i < c.slots.size
    · rw [Hs i hi]; have hi' := hi; rw [hs] at hi'; simp [hi']
    · rw [Array.getElem?_eq_none (Nat.le_of_not_lt hi)]; rw [hs] at hi; simp; omega
  · obtain ⟨i, hi, rfl⟩ := List.getElem_of_mem hv
    have := G i (by rw [hs]; exact hi)
    rw [show vs.getD i dv = vs[i] by simp [hi]] at this
    exact this
theorem GI.wr (G : GI Z EL vm H) {h' : Heap} (W : Wr H.1 h' a sl v) (o : H.2 a) : GI Z EL vm (h', H.2) := by
  obtain ⟨g1, g2⟩ := G
  refine ⟨?_, fun y hy => ?_⟩
  · obtain ⟨cell, h1, h2, h3, e⟩ := W
    refine ⟨by rw [show (h', H.2).1 = h' from rfl, e]; simpa using g1.1, fun x cx q => ?_⟩
    have hx := (Array.getElem?_eq_some_iff.mp q).1
    have hne : a ≠ x := fun e1 => by subst e1; have := (g2 a o).1; omega
    show h'[x]? = _
    rw [e, Array.getElem?_setIfInBounds_ne hne]; exact g1.2 x cx q
  · have := g2 y hy; exact ⟨this.1, by rw [show (h', H.2).1 = h' from rfl, W.size]; exact this.2⟩
theorem GI.ext (G : GI Z EL vm H) {h' : Heap} (E : Ext H.1 h') (hlt : H.1.size < h'.size) : GI Z EL vm (h', fun y => H.2 y ∨ y = H.1.size) := by
  obtain ⟨g1, g2⟩ := G
  refine ⟨⟨Nat.le_trans g1.1 E.1, fun x cx q => E.2 x cx (g1.2 x cx q)⟩, fun y hy => ?_⟩
  rcases hy with hy | rfl
  · have := g2 y hy; exact ⟨this.1, Nat.lt_of_lt_of_le this.2 E.1⟩
  · exact ⟨g1.1, hlt⟩
theorem GI.keep (G : GI Z EL vm H) {h' : Heap} (K : Keep H.1 h' ws) (o : ∀ x ∈ ws, H.2 x) : GI Z EL vm (h', H.2) := by
  obtain ⟨g1, g2⟩ := G
  refine ⟨⟨Nat.le_trans g1.1 K.1, fun x cx q => K.2.1 x cx (g1.2 x cx q) fun hx => ?_⟩, fun y hy => ?_⟩
  · have := (g2 x (o x hx)).1; have := (Array.getElem?_eq_some_iff.mp q).1; omega
  · have := g2 y hy; exact ⟨this.1, Nat.lt_of_lt_of_le this.2 K.1⟩
theorem ext_refl (h : Heap) : Ext h h := ⟨Nat.le_refl _, fun _ _ q => q⟩
theorem notFace_cls {args : Array Value} {s : State} {C : String} {y y2 : MethodName} (h : (Jvm.Cond.selects C y2 y2).before args s = true) (e : y2.cls = y.cls) : NotFace s y := fun r0 h0 => by
  obtain ⟨c2, r2, m2, -, -, q3, -, kP, hkP, hkPi⟩ := Cond.selects_spec h
  have a := findClass_of_methodNamed h0
  have b := findClass_of_methodNamed q3
  rw [e, a] at b
  exact ⟨kP, by rw [Option.some.inj b]; exact hkP, hkPi⟩
theorem decl_of {y : MethodName} {bytes : ByteArray} {cml : Nat} {ret : Option FieldType} (w : (Jvm.Cond.instanceMethod y).before a0 Z = true) (wc : (Jvm.Cond.code y bytes cml ret).before a0 Z = true) : (Jvm.Cond.declares y).before a0 Z = true := by
  obtain ⟨m, meth, h1, h2, h3, h4⟩ := Cond.instanceMethod_spec w
  obtain ⟨m2, c, q1, -, -, -, -, -, -, q8⟩ := Cond.code_spec h1 wc
  cases h2.symm.trans q1
  simp [Cond.before, Cond.holds, Cond.value, h1, h2, h3, q8]
theorem same_of {C : String} {y y2 : MethodName} (w : (Jvm.Cond.declares y).before a0 Z = true) (h : (Jvm.Cond.selects C y2 y2).before a0 Z = true) (e : y2.cls = y.cls) (hy : y.cls ≠ "java/lang/invoke/MethodHandle" ∧ y.cls ≠ "java/lang/invoke/VarHandle") : (Jvm.Cond.sameMethod y.cls y.cls y.name y.desc).before a0 Z = true := by
  obtain ⟨m, meth, h1, h2, h3, h4⟩ := Cond.declares_spec w
  obtain ⟨c2, r2, m2, -, -, q3, -, kP, hkP, hkPi⟩ := Cond.selects_spec h
  have f1 := findClass_of_methodNamed h1
  have f2 := findClass_of_methodNamed q3
  rw [e, f1] at f2
  have hm := Option.some.inj f2
  simp only [Cond.before, Cond.holds, Cond.value, f1, State.methodFound?_of_named h1 hy]
  rw [show ({ cls := y.cls, name := y.name, desc := y.desc } : MethodName) = y from rfl, h1]
  simp [hm, hkP, hkPi]
theorem range_take {vs : List Value} {i q : Nat} {d : Value} (h : i + q ≤ vs.length) : ((List.range q).map fun t => vs.getD (i + t) d) = (vs.drop i).take q := by
  apply List.ext_getElem
  · simp; omega
  · intro t h1 h2
    simp at h1
    simp [List.getD_eq_getElem?_getD, show i + t < vs.length by omega]
theorem Wk.run (A : Wk l Z a0 EL own code ml nm rt R D pc ls st H k n) (seg : List PI) {pe : Nat} (hok : segOk code pc seg pe = true) {ls' : List Slot} {st' : List Value} (hr : prun seg ls st = some (ls', st')) :
    Wk l Z a0 EL own code ml nm rt R D pe ls' st' H k n := by
  obtain ⟨p, e, s, m, args, below, meth, c, s0, H0⟩ := D
  obtain ⟨hx, hown, hc, hml, hnm, hrt, hlk, hls, T, L, X, eT, hZ, hG, hF, hMo, hst⟩ := A
  dsimp only at hx hown hc hml hnm hrt hlk X hZ hG hMo hst
  have hown' := hown
  have hZ' := hZ
  obtain ⟨h1, h2⟩ := prun_sound (e := e) X.here hx hc seg hok hr
  exact ⟨hx, hown, hc, hml, hnm, hrt, hlk, (h1.trans hls), T, L, X, eT, hZ, hG, hF, hMo, hst.trans (h2 _ (Steps.refl _))⟩
theorem Wk.idiv {x y : Int32} (A : Wk l Z a0 EL own code ml nm rt R D pc ls (.int y :: .int x :: st) H k n) (hd : decode code pc = .ok (.idiv, 1)) (hy : y ≠ 0) :
    Wk l Z a0 EL own code ml nm rt R D (pc + 1) ls (.int (x / y) :: st) H k n := by
  obtain ⟨p, e, s, m, args, below, meth, c, s0, H0⟩ := D
  obtain ⟨hx, hown, hc, hml, hnm, hrt, hlk, hls, T, L, X, eT, hZ, hG, hF, hMo, hst⟩ := A
  dsimp only at hx hown hc hml hnm hrt hlk X hZ hG hMo hst
  have hown' := hown
  have hZ' := hZ
  exact ⟨hx, hown, hc, hml, hnm, hrt, hlk, hls, T, L, X, eT, hZ, hG, hF, hMo, hst.trans (XS.idiv X.here hx rfl (hb hc hd) rfl hy (Steps.refl _))⟩
theorem Wk.irem {x y : Int32} (A : Wk l Z a0 EL own code ml nm rt R D pc ls (.int y :: .int x :: st) H k n) (hd : decode code pc = .ok (.irem, 1)) (hy : y ≠ 0) :
    Wk l Z a0 EL own code ml nm rt R D (pc + 1) ls (.int (x % y) :: st) H k n := by
  obtain ⟨p, e, s, m, args, below, meth, c, s0, H0⟩ := D
  obtain ⟨hx, hown, hc, hml, hnm, hrt, hlk, hls, T, L, X, eT, hZ, hG, hF, hMo, hst⟩ := A
  dsimp only at hx hown hc hml hnm hrt hlk X hZ hG hMo hst
  have hown' := hown
  have hZ' := hZ
  exact ⟨hx, hown, hc, hml, hnm, hrt, hlk, hls, T, L, X, eT, hZ, hG, hF, hMo, hst.trans (iremM X hx rfl (hb hc hd) rfl hy (Steps.refl _))⟩
theorem Wk.ldiv {x y : Int64} (A : Wk l Z a0 EL own code ml nm rt R D pc ls (.long y :: .long x :: st) H k n) (hd : decode code pc = .ok (.ldiv, 1)) (hy : y ≠ 0) :
    Wk l Z a0 EL own code ml nm rt R D (pc + 1) ls (.long (x / y) :: st) H k n := by
  obtain ⟨p, e, s, m, args, below, meth, c, s0, H0⟩ := D
  obtain ⟨hx, hown, hc, hml, hnm, hrt, hlk, hls, T, L, X, eT, hZ, hG, hF, hMo, hst⟩ := A
  dsimp only at hx hown hc hml hnm hrt hlk X hZ hG hMo hst
  have hown' := hown
  have hZ' := hZ
  exact ⟨hx, hown, hc, hml, hnm, hrt, hlk, hls, T, L, X, eT, hZ, hG, hF, hMo, hst.trans (XT.ldiv X.here hx rfl (hb hc hd) rfl hy (Steps.refl _))⟩
theorem Wk.lrem {x y : Int64} (A : Wk l Z a0 EL own code ml nm rt R D pc ls (.long y :: .long x :: st) H k n) (hd : decode code pc = .ok (.lrem, 1)) (hy : y ≠ 0) :
    Wk l Z a0 EL own code ml nm rt R D (pc + 1) ls (.long (x % y) :: st) H k n := by
  obtain ⟨p, e, s, m, args, below, meth, c, s0, H0⟩ := D
  obtain ⟨hx, hown, hc, hml, hnm, hrt, hlk, hls, T, L, X, eT, hZ, hG, hF, hMo, hst⟩ := A
  dsimp only at hx hown hc hml hnm hrt hlk X hZ hG hMo hst
  have hown' := hown
  have hZ' := hZ
  exact ⟨hx, hown, hc, hml, hnm, hrt, hlk, hls, T, L, X, eT, hZ, hG, hF, hMo, hst.trans (XT.lrem X.here hx rfl (hb hc hd) rfl hy (by rw [lrem_mod]; exact Steps.refl _))⟩
/-- the condition of a comparison -/
def cP : ClassFile.Cond → Int32 → Int32 → Prop
  | .eq, x, y => x = y
  | .ne, x, y => ¬ x = y
  | .lt, x, y => x < y
  | .ge, x, y => ¬ x < y
  | .gt, x, y => y < x
  | .le, x, y => ¬ y < x
theorem cP_t {cd : ClassFile.Cond} {x y : Int32} (h : cP cd x y) : if_icmp.holds cd x y = true := by
  cases cd
  · exact (teq h).1
  · exact (feq h).2
  · exact (tlt h).1
  · exact (flt h).2.1
  · exact (tlt h).2.2.1
  · exact (flt h).2.2.2
theorem cP_f {cd : ClassFile.Cond} {x y : Int32} (h : ¬ cP cd x y) : if_icmp.holds cd x y = false := by
  cases cd
  · exact (feq h).1
  · exact (teq (Decidable.not_not.mp h)).2
  · exact (flt h).1
  · exact (tlt (Decidable.not_not.mp h)).2.1
  · exact (flt h).2.2.1
  · exact (tlt (Decidable.not_not.mp h)).2.2.2
theorem Wk.ifT {cd : ClassFile.Cond} {x : Int32} {o : Int} (A : Wk l Z a0 EL own code ml nm rt R D pc ls (.int x :: st) H k n) (hd : decode code pc = .ok (.ifCond cd o, 3)) (h : cP cd x 0) {pe : Nat} (hp : 0 ≤ (pc : Int) + o ∧ ((pc : Int) + o).toNat = pe) :
    Wk l Z a0 EL own code ml nm rt R D pe ls st H k n := by
  obtain ⟨p, e, s, m, args, below, meth, c, s0, H0⟩ := D
  obtain ⟨hx, hown, hc, hml, hnm, hrt, hlk, hls, T, L, X, eT, hZ, hG, hF, hMo, hst⟩ := A
  dsimp only at hx hown hc hml hnm hrt hlk X hZ hG hMo hst
  have hown' := hown
  have hZ' := hZ
  exact ⟨hx, hown, hc, hml, hnm, hrt, hlk, hls, T, L, X, eT, hZ, hG, hF, hMo, hst.trans (XS.ifYes X.here hx rfl rfl (hb hc hd) rfl (by rw [if0]; exact cP_t h) hp.1 hp.2 (Steps.refl _))⟩
theorem Wk.ifF {cd : ClassFile.Cond} {x : Int32} {o : Int} (A : Wk l Z a0 EL own code ml nm rt R D pc ls (.int x :: st) H k n) (hd : decode code pc = .ok (.ifCond cd o, 3)) (h : ¬ cP cd x 0) :
    Wk l Z a0 EL own code ml nm rt R D (pc + 3) ls st H k n := by
  obtain ⟨p, e, s, m, args, below, meth, c, s0, H0⟩ := D
  obtain ⟨hx, hown, hc, hml, hnm, hrt, hlk, hls, T, L, X, eT, hZ, hG, hF, hMo, hst⟩ := A
  dsimp only at hx hown hc hml hnm hrt hlk X hZ hG hMo hst
  have hown' := hown
  have hZ' := hZ
  exact ⟨hx, hown, hc, hml, hnm, hrt, hlk, hls, T, L, X, eT, hZ, hG, hF, hMo, hst.trans (XS.ifNo X.here hx rfl (hb hc hd) rfl (by rw [if0]; exact cP_f h) (Steps.refl _))⟩
theorem Wk.icT {cd : ClassFile.Cond} {x y : Int32} {o : Int} (A : Wk l Z a0 EL own code ml nm rt R D pc ls (.int y :: .int x :: st) H k n) (hd : decode code pc = .ok (.if_icmp cd o, 3)) (h : cP cd x y) {pe : Nat} (hp : 0 ≤ (pc : Int) + o ∧ ((pc : Int) + o).toNat = pe) :
    Wk l Z a0 EL own code ml nm rt R D pe ls st H k n := by
  obtain ⟨p, e, s, m, args, below, meth, c, s0, H0⟩ := D
  obtain ⟨hx, hown, hc, hml, hnm, hrt, hlk, hls, T, L, X, eT, hZ, hG, hF, hMo, hst⟩ := A
  dsimp only at hx hown hc hml hnm hrt hlk X hZ hG hMo hst
  have hown' := hown
  have hZ' := hZ
  exact ⟨hx, hown, hc, hml, hnm, hrt, hlk, hls, T, L, X, eT, hZ, hG, hF, hMo, hst.trans (XS.icmpYes X.here hx rfl rfl (hb hc hd) rfl (cP_t h) hp.1 hp.2 (Steps.refl _))⟩
theorem Wk.icF {cd : ClassFile.Cond} {x y : Int32} {o : Int} (A : Wk l Z a0 EL own code ml nm rt R D pc ls (.int y :: .int x :: st) H k n) (hd : decode code pc = .ok (.if_icmp cd o, 3)) (h : ¬ cP cd x y) :
    Wk l Z a0 EL own code ml nm rt R D (pc + 3) ls st H k n := by
  obtain ⟨p, e, s, m, args, below, meth, c, s0, H0⟩ := D
  obtain ⟨hx, hown, hc, hml, hnm, hrt, hlk, hls, T, L, X, eT, hZ, hG, hF, hMo, hst⟩ := A
  dsimp only at hx hown hc hml hnm hrt hlk X hZ hG hMo hst
  have hown' := hown
  have hZ' := hZ
  exact ⟨hx, hown, hc, hml, hnm, hrt, hlk, hls, T, L, X, eT, hZ, hG, hF, hMo, hst.trans (XS.icmpNo X.here hx rfl (hb hc hd) rfl (cP_f h) (Steps.refl _))⟩
theorem Wk.nullT {o : Int} (A : Wk l Z a0 EL own code ml nm rt R D pc ls (.null :: st) H k n) (hd : decode code pc = .ok (.ifnull o, 3)) {pe : Nat} (hp : 0 ≤ (pc : Int) + o ∧ ((pc : Int) + o).toNat = pe) :
    Wk l Z a0 EL own code ml nm rt R D pe ls st H k n := by
  obtain ⟨p, e, s, m, args, below, meth, c, s0, H0⟩ := D
  obtain ⟨hx, hown, hc, hml, hnm, hrt, hlk, hls, T, L, X, eT, hZ, hG, hF, hMo, hst⟩ := A
  dsimp only at hx hown hc hml hnm hrt hlk X hZ hG hMo hst
  have hown' := hown
  have hZ' := hZ
  exact ⟨hx, hown, hc, hml, hnm, hrt, hlk, hls, T, L, X, eT, hZ, hG, hF, hMo, hst.trans (XS.ifnullYes X.here hx rfl rfl (hb hc hd) rfl hp.1 hp.2 (Steps.refl _))⟩
theorem Wk.nullF {o : Int} (A : Wk l Z a0 EL own code ml nm rt R D pc ls (.ref a :: st) H k n) (hd : decode code pc = .ok (.ifnull o, 3)) :
    Wk l Z a0 EL own code ml nm rt R D (pc + 3) ls st H k n := by
  obtain ⟨p, e, s, m, args, below, meth, c, s0, H0⟩ := D
  obtain ⟨hx, hown, hc, hml, hnm, hrt, hlk, hls, T, L, X, eT, hZ, hG, hF, hMo, hst⟩ := A
  dsimp only at hx hown hc hml hnm hrt hlk X hZ hG hMo hst
  have hown' := hown
  have hZ' := hZ
  exact ⟨hx, hown, hc, hml, hnm, hrt, hlk, hls, T, L, X, eT, hZ, hG, hF, hMo, hst.trans (XS.ifnullNo X.here hx rfl (hb hc hd) rfl (Steps.refl _))⟩
theorem Wk.nnullT {o : Int} (A : Wk l Z a0 EL own code ml nm rt R D pc ls (.ref a :: st) H k n) (hd : decode code pc = .ok (.ifnonnull o, 3)) {pe : Nat} (hp : 0 ≤ (pc : Int) + o ∧ ((pc : Int) + o).toNat = pe) :
    Wk l Z a0 EL own code ml nm rt R D pe ls st H k n := by
  obtain ⟨p, e, s, m, args, below, meth, c, s0, H0⟩ := D
  obtain ⟨hx, hown, hc, hml, hnm, hrt, hlk, hls, T, L, X, eT, hZ, hG, hF, hMo, hst⟩ := A
  dsimp only at hx hown hc hml hnm hrt hlk X hZ hG hMo hst
  have hown' := hown
  have hZ' := hZ
  exact ⟨hx, hown, hc, hml, hnm, hrt, hlk, hls, T, L, X, eT, hZ, hG, hF, hMo, hst.trans (XT.ifnonnullYes X.here hx rfl rfl (hb hc hd) rfl hp.1 hp.2 (Steps.refl _))⟩
theorem Wk.nnullF {o : Int} (A : Wk l Z a0 EL own code ml nm rt R D pc ls (.null :: st) H k n) (hd : decode code pc = .ok (.ifnonnull o, 3)) :
    Wk l Z a0 EL own code ml nm rt R D (pc + 3) ls st H k n := by
  obtain ⟨p, e, s, m, args, below, meth, c, s0, H0⟩ := D
  obtain ⟨hx, hown, hc, hml, hnm, hrt, hlk, hls, T, L, X, eT, hZ, hG, hF, hMo, hst⟩ := A
  dsimp only at hx hown hc hml hnm hrt hlk X hZ hG hMo hst
  have hown' := hown
  have hZ' := hZ
  exact ⟨hx, hown, hc, hml, hnm, hrt, hlk, hls, T, L, X, eT, hZ, hG, hF, hMo, hst.trans (XT.ifnonnullNo X.here hx rfl (hb hc hd) rfl (Steps.refl _))⟩
theorem Wk.acmp (A : Wk l Z a0 EL own code ml nm rt R D pc ls (w :: v :: st) H k n) {cd : ClassFile.ACond} {o : Int} (hd : decode code pc = .ok (.if_acmp cd o, 3)) (h1 : v.isRef = true) (h2 : w.isRef = true) {same : Bool} (hq : decide (v = w) = same) {pe : Nat} (ho : 0 ≤ (pc : Int) + o) (hp : pe = if acV cd same = true then ((pc : Int) + o).toNat else pc + 3) :
    Wk l Z a0 EL own code ml nm rt R D pe ls st H k n := by
  obtain ⟨p, e, s, m, args, below, meth, c, s0, H0⟩ := D
  obtain ⟨hx, hown, hc, hml, hnm, hrt, hlk, hls, T, L, X, eT, hZ, hG, hF, hMo, hst⟩ := A
  dsimp only at hx hown hc hml hnm hrt hlk X hZ hG hMo hst
  have hown' := hown
  have hZ' := hZ
  exact ⟨hx, hown, hc, hml, hnm, hrt, hlk, hls, T, L, X, eT, hZ, hG, hF, hMo, hst.trans (acmp X hx rfl h1 h2 rfl (hb hc hd) rfl hq ho hp (Steps.refl _))⟩
theorem Wk.tsw {x : Int32} (A : Wk l Z a0 EL own code ml nm rt R D pc ls (.int x :: st) H k n) :
    Wk l Z a0 EL own code ml nm rt R D pc ls (.int x :: st) H k n := by
  obtain ⟨p, e, s, m, args, below, meth, c, s0, H0⟩ := D
  obtain ⟨hx, hown, hc, hml, hnm, hrt, hlk, hls, T, L, X, eT, hZ, hG, hF, hMo, hst⟩ := A
  dsimp only at hx hown hc hml hnm hrt hlk X hZ hG hMo hst
  have hown' := hown
  have hZ' := hZ
  exact ⟨hx, hown, hc, hml, hnm, hrt, hlk, hls, T, L, X, eT, hZ, hG, hF, hMo, hst⟩
theorem Wk.getF {R0 O : String} {index : Nat} (A : Wk l Z a0 EL own code ml nm rt R D pc ls (.ref a :: st) H k n) (w : (Jvm.Cond.fieldLink own index R0 nn d).before a0 Z = true) (F : Fld Z H.1 a O nn d v) (hd : decode code pc = .ok (.getfield index, 3)) (via : Via Z R0 O nn d := by exact Via.refl) :
    Wk l Z a0 EL own code ml nm rt R D (pc + 3) ls (v :: st) H k n := by
  obtain ⟨p, e, s, m, args, below, meth, c, s0, H0⟩ := D
  obtain ⟨hx, hown, hc, hml, hnm, hrt, hlk, hls, T, L, X, eT, hZ, hG, hF, hMo, hst⟩ := A
  dsimp only at hx hown hc hml hnm hrt hlk X hZ hG hMo hst
  have hown' := hown
  have hZ' := hZ
  obtain ⟨T', X', e', st'⟩ := RoadKit.getF (host := "") X hx hZ' hown' (Or.inl w) via eT F (g := mkF m pc ls.toArray (.ref a :: st)) rfl rfl (hb hc hd)
  exact ⟨hx, hown, hc, hml, hnm, hrt, hlk, hls, T', L, X', e', hZ, hG, hF, hMo, hst.trans (st' _ (Steps.refl _))⟩
theorem Wk.getFN {R0 O host : String} {index : Nat} (A : Wk l Z a0 EL own code ml nm rt R D pc ls (.ref a :: st) H k n) (w : (Jvm.Cond.fieldLinkNest own index R0 nn d host).before a0 Z = true) (F : Fld Z H.1 a O nn d v) (hd : decode code pc = .ok (.getfield index, 3)) (via : Via Z R0 O nn d := by exact Via.refl) :
    Wk l Z a0 EL own code ml nm rt R D (pc + 3) ls (v :: st) H k n := by
  obtain ⟨p, e, s, m, args, below, meth, c, s0, H0⟩ := D
  obtain ⟨hx, hown, hc, hml, hnm, hrt, hlk, hls, T, L, X, eT, hZ, hG, hF, hMo, hst⟩ := A
  dsimp only at hx hown hc hml hnm hrt hlk X hZ hG hMo hst
  have hown' := hown
  have hZ' := hZ
  obtain ⟨T', X', e', st'⟩ := RoadKit.getF X hx hZ' hown' (Or.inr w) via eT F (g := mkF m pc ls.toArray (.ref a :: st)) rfl rfl (hb hc hd)
  exact ⟨hx, hown, hc, hml, hnm, hrt, hlk, hls, T', L, X', e', hZ, hG, hF, hMo, hst.trans (st' _ (Steps.refl _))⟩
theorem Wk.getS {R0 O : String} {index : Nat} (A : Wk l Z a0 EL own code ml nm rt R D pc ls st H k n) (w : (Jvm.Cond.fieldLink own index R0 nn d).before a0 Z = true) (F : Sta Z Z.heap O nn d v) (hd : decode code pc = .ok (.getstatic index, 3)) (via : Via Z R0 O nn d := by exact Via.refl) :
    Wk l Z a0 EL own code ml nm rt R D (pc + 3) ls (v :: st) H k n := by
  obtain ⟨p, e, s, m, args, below, meth, c, s0, H0⟩ := D
  obtain ⟨hx, hown, hc, hml, hnm, hrt, hlk, hls, T, L, X, eT, hZ, hG, hF, hMo, hst⟩ := A
  dsimp only at hx hown hc hml hnm hrt hlk X hZ hG hMo hst
  have hown' := hown
  have hZ' := hZ
  obtain ⟨T', X', e', st'⟩ := RoadKit.getS (host := "") X hx hZ' hown' w via eT (F.ext hG.1) (g := mkF m pc ls.toArray st) rfl (hb hc hd)
  exact ⟨hx, hown, hc, hml, hnm, hrt, hlk, hls, T', L, X', e', hZ, hG, hF, hMo, hst.trans (st' _ (Steps.refl _))⟩
theorem Wk.putF {R0 O : String} {index kk : Nat} {old : Value} (A : Wk l Z a0 EL own code ml nm rt R D pc ls (v :: .ref a :: st) H k n) (w : (Jvm.Cond.fieldLink own index R0 nn d).before a0 Z = true) (F : Fld Z H.1 a O nn d old) (E : Exa Z H.1 a C) (wl : (Jvm.Cond.lays C O nn d).before a0 Z = true) (wi : (Jvm.Cond.instantiable C kk).before a0 Z = true) (o : H.2 a) (hd : decode code pc = .ok (.putfield index, 3)) (hty : parseFieldDescriptor d = some ty) (hn : narrow ty v = v) (hf : fits ty v = true) (via : Via Z R0 O nn d := by exact Via.refl) :
    ∃ H' : HP, Wk l Z a0 EL own code ml nm rt R D (pc + 3) ls st H' k n ∧ Kp H H' [a] ∧ Wr H.1 H'.1 a (Jvm.RoadKit.slotOf Z O nn d) v := by
  obtain ⟨p, e, s, m, args, below, meth, c, s0, H0⟩ := D
  obtain ⟨hx, hown, hc, hml, hnm, hrt, hlk, hls, T, L, X, eT, hZ, hG, hF, hMo, hst⟩ := A
  dsimp only at hx hown hc hml hnm hrt hlk X hZ hG hMo hst
  have hown' := hown
  have hZ' := hZ
  obtain ⟨T', h', X', e', Wr1, st'⟩ := RoadKit.putF (host := "") X hx hZ' hown' (Or.inl w) via eT F E (Or.inl wl) wi hty hn hf (g := mkF m pc ls.toArray (v :: .ref a :: st)) rfl rfl (hb hc hd)
  have o2 := hG.2 a o
  refine ⟨(h', H.2), ⟨hx, hown, hc, hml, hnm, hrt, hlk, hls, T', (L ++ [_]), X', e', hZ, (hG.wr Wr1 o), (hF.app fun y hy => by cases List.mem_singleton.mp hy; exact o2.1), ⟨hMo.1, by show _ ≤ h'.size; rw [Wr1.size]; exact hMo.2⟩, hst.trans (st' _ (Steps.refl _))⟩, ⟨Keep.of_wr Wr1, fun _ q => q⟩, Wr1⟩
theorem Wk.putFin {R0 O : String} {index kk : Nat} {old : Value} (A : Wk l Z a0 EL own code ml nm rt R D pc ls (v :: .ref a :: st) H k n) (w : (Jvm.Cond.fieldLink own index R0 nn d).before a0 Z = true) (F : Fld Z H.1 a O nn d old) (E : Exa Z H.1 a C) (wl : (Jvm.Cond.laysFinal C O nn d).before a0 Z = true) (ho : own = O) (hi : nm = "<init>") (wi : (Jvm.Cond.instantiable C kk).before a0 Z = true) (o : H.2 a) (hd : decode code pc = .ok (.putfield index, 3)) (hty : parseFieldDescriptor d = some ty) (hn : narrow ty v = v) (hf : fits ty v = true) (via : Via Z R0 O nn d := by exact Via.refl) :
    ∃ H' : HP, Wk l Z a0 EL own code ml nm rt R D (pc + 3) ls st H' k n ∧ Kp H H' [a] ∧ Wr H.1 H'.1 a (Jvm.RoadKit.slotOf Z O nn d) v := by
  obtain ⟨p, e, s, m, args, below, meth, c, s0, H0⟩ := D
  obtain ⟨hx, hown, hc, hml, hnm, hrt, hlk, hls, T, L, X, eT, hZ, hG, hF, hMo, hst⟩ := A
  dsimp only at hx hown hc hml hnm hrt hlk X hZ hG hMo hst
  have hown' := hown
  have hZ' := hZ
  obtain ⟨T', h', X', e', Wr1, st'⟩ := RoadKit.putF (host := "") X hx hZ' hown' (Or.inl w) via eT F E (Or.inr ⟨wl, ho, hnm.trans hi⟩) wi hty hn hf (g := mkF m pc ls.toArray (v :: .ref a :: st)) rfl rfl (hb hc hd)
  have o2 := hG.2 a o
  refine ⟨(h', H.2), ⟨hx, hown, hc, hml, hnm, hrt, hlk, hls, T', (L ++ [_]), X', e', hZ, (hG.wr Wr1 o), (hF.app fun y hy => by cases List.mem_singleton.mp hy; exact o2.1), ⟨hMo.1, by show _ ≤ h'.size; rw [Wr1.size]; exact hMo.2⟩, hst.trans (st' _ (Steps.refl _))⟩, ⟨Keep.of_wr Wr1, fun _ q => q⟩, Wr1⟩
theorem Wk.newO {index q : Nat} (A : Wk l Z a0 EL own code ml nm rt R D pc ls st H k n) (w : (Jvm.Cond.classLink own index C).before a0 Z = true) (wi : (Jvm.Cond.instantiable C q).before a0 Z = true) (wz : (Jvm.Cond.initialized C).before a0 Z = true) (hd : decode code pc = .ok (.new index, 3)) (hcl : k + 1 ≤ R.cells) (hsl : n + q ≤ R.slots) :
    ∃ (a : Addr) (H' : HP), Wk l Z a0 EL own code ml nm rt R D (pc + 3) ls (.ref a :: st) H' (k + 1) (n + q) ∧ H.1.size ≤ a ∧ Kp H H' [] ∧ Exa Z H'.1 a C ∧ H'.2 a ∧ ∀ {O fn fd : String} {t : FieldType}, Laid Z a0 C O fn fd → parseFieldDescriptor fd = some t → Fld Z H'.1 a O fn fd (defaultValue t) := by
  obtain ⟨p, e, s, m, args, below, meth, c, s0, H0⟩ := D
  obtain ⟨hx, hown, hc, hml, hnm, hrt, hlk, hls, T, L, X, eT, hZ, hG, hF, hMo, hst⟩ := A
  dsimp only at hx hown hc hml hnm hrt hlk X hZ hG hMo hst
  have hown' := hown
  have hZ' := hZ
  obtain ⟨T', h', X', e', E, Ex, Fl, -, st'⟩ := RoadKit.newO X hx hZ' hown' w wi wz eT (g := mkF m pc ls.toArray st) rfl (hb hc hd) hcl hsl
  exact ⟨H.1.size, (h', fun y => H.2 y ∨ y = H.1.size), ⟨hx, hown, hc, hml, hnm, hrt, hlk, hls, T', L, X', e', hZ, (hG.ext E Ex.lt), hF, ⟨fun x q => Or.inl (hMo.1 x q), Nat.le_trans hMo.2 E.1⟩, hst.trans (st' _ (Steps.refl _))⟩, Nat.le_refl _, ⟨(Keep.refl _ _).ext E, fun _ q => Or.inl q⟩, Ex, Or.inr rfl, Fl⟩
theorem Wk.newA {aty : ArrayType} {z : Int32} (A : Wk l Z a0 EL own code ml nm rt R D pc ls (.int z :: st) H k n) (w : (Jvm.Cond.arrayClass (newarray.typeOf aty)).before a0 Z = true) (hd : decode code pc = .ok (.newarray aty, 2)) {N : Nat} (hN : N.toInt32 = z) {cap : Nat} (hcap : N ≤ cap) (hbg : cap * 8 ≤ 536870912) (hcl : k + 1 ≤ R.cells) (hsl : n + cap ≤ R.slots) :
    ∃ (a : Addr) (H' : HP), Wk l Z a0 EL own code ml nm rt R D (pc + 2) ls (.ref a :: st) H' (k + 1) (n + cap) ∧ H.1.size ≤ a ∧ Kp H H' [] ∧ Ar Z H' a (newarray.typeOf aty) (List.replicate N (defaultValue (newarray.typeOf aty))) ∧ H'.2 a := by
  obtain ⟨p, e, s, m, args, below, meth, c, s0, H0⟩ := D
  obtain ⟨hx, hown, hc, hml, hnm, hrt, hlk, hls, T, L, X, eT, hZ, hG, hF, hMo, hst⟩ := A
  dsimp only at hx hown hc hml hnm hrt hlk X hZ hG hMo hst
  have hown' := hown
  have hZ' := hZ
  subst hN
  have hN2 : N < 2 ^ 31 := by omega
  obtain ⟨T', h', cA, X', e', E, Ex, st'⟩ := RoadKit.newP X hx hZ' w eT (g := mkF m pc ls.toArray (.int N.toInt32 :: st)) rfl (hb hc hd) rfl (nonneg_nat hN2) (cap := cap) (by rw [clamp_nat hN2]; exact hcap) hbg hcl hsl
  refine ⟨H.1.size, (h', fun y => H.2 y ∨ y = H.1.size), ⟨hx, hown, hc, hml, hnm, hrt, hlk, hls, T', L, X', e', hZ, (hG.ext E Ex.lt), hF, ⟨fun x q => Or.inl (hMo.1 x q), Nat.le_trans hMo.2 E.1⟩, hst.trans (st' _ (Steps.refl _))⟩, Nat.le_refl _, ⟨(Keep.refl _ _).ext E, fun _ q => Or.inl q⟩, ⟨_, Ex, by simp [newA, clamp_nat hN2], by simpa using hN2, fun v hv => ?_⟩, Or.inr rfl⟩
  obtain ⟨-, rfl⟩ := List.mem_replicate.mp hv
  cases aty <;> rfl
theorem Wk.alen (A : Wk l Z a0 EL own code ml nm rt R D pc ls (.ref a :: st) H k n) (F : Ar Z H a ty vs) (hd : decode code pc = .ok (.arraylength, 1)) {z : Int32} (hz : vs.length.toInt32 = z) :
    Wk l Z a0 EL own code ml nm rt R D (pc + 1) ls (.int z :: st) H k n := by
  obtain ⟨p, e, s, m, args, below, meth, c, s0, H0⟩ := D
  obtain ⟨hx, hown, hc, hml, hnm, hrt, hlk, hls, T, L, X, eT, hZ, hG, hF, hMo, hst⟩ := A
  dsimp only at hx hown hc hml hnm hrt hlk X hZ hG hMo hst
  have hown' := hown
  have hZ' := hZ
  obtain ⟨cl, Aq, hsl, -, -⟩ := F
  have hsz : cl.slots.size = vs.length := by rw [hsl]; simp
  exact ⟨hx, hown, hc, hml, hnm, hrt, hlk, hls, T, L, X, eT, hZ, hG, hF, hMo, hst.trans (X.arraylength hx (by rw [eT]; exact Aq.1) (State.isArrayOf_alike hZ'.alike Aq.2.1) (g := mkF m pc ls.toArray (.ref a :: st)) rfl rfl (hb hc hd) _ (by rw [hsz, hz]; exact Steps.refl _))⟩
theorem Wk.caload {i : Nat} {j : Int32} (A : Wk l Z a0 EL own code ml nm rt R D pc ls (.int j :: .ref a :: st) H k n) (F : Ar Z H a .char vs) (hd : decode code pc = .ok (.caload, 1)) (hj : i.toInt32 = j) (hv : vs[i]? = some v) :
    Wk l Z a0 EL own code ml nm rt R D (pc + 1) ls (v :: st) H k n := by
  obtain ⟨p, e, s, m, args, below, meth, c, s0, H0⟩ := D
  obtain ⟨hx, hown, hc, hml, hnm, hrt, hlk, hls, T, L, X, eT, hZ, hG, hF, hMo, hst⟩ := A
  dsimp only at hx hown hc hml hnm hrt hlk X hZ hG hMo hst
  have hown' := hown
  have hZ' := hZ
  subst hj
  obtain ⟨cl, Aq, hsl, hlen, -⟩ := F
  have hi : i < vs.length := (List.getElem?_eq_some_iff.mp hv).1
  have hsz : cl.slots.size = vs.length := by rw [hsl]; simp
  exact ⟨hx, hown, hc, hml, hnm, hrt, hlk, hls, T, L, X, eT, hZ, hG, hF, hMo, hst.trans (X.caload hx (by rw [eT]; exact Aq.1) (State.isArrayOf_alike hZ'.alike Aq.2.1) Aq.2.2 (by rw [hsz]; exact idx_in hi hlen) (by rw [clamp_nat (Nat.lt_trans hi hlen), hsl]; simpa using hv) (g := mkF m pc ls.toArray (.int i.toInt32 :: .ref a :: st)) rfl rfl (hb hc hd) _ (Steps.refl _))⟩
theorem Wk.baload {i : Nat} {j : Int32} (A : Wk l Z a0 EL own code ml nm rt R D pc ls (.int j :: .ref a :: st) H k n) (F : Ar Z H a .byte vs) (hd : decode code pc = .ok (.baload, 1)) (hj : i.toInt32 = j) (hv : vs[i]? = some v) :
    Wk l Z a0 EL own code ml nm rt R D (pc + 1) ls (v :: st) H k n := by
  obtain ⟨p, e, s, m, args, below, meth, c, s0, H0⟩ := D
  obtain ⟨hx, hown, hc, hml, hnm, hrt, hlk, hls, T, L, X, eT, hZ, hG, hF, hMo, hst⟩ := A
  dsimp only at hx hown hc hml hnm hrt hlk X hZ hG hMo hst
  have hown' := hown
  have hZ' := hZ
  subst hj
  obtain ⟨cl, Aq, hsl, hlen, -⟩ := F
  have hi : i < vs.length := (List.getElem?_eq_some_iff.mp hv).1
  have hsz : cl.slots.size = vs.length := by rw [hsl]; simp
  exact ⟨hx, hown, hc, hml, hnm, hrt, hlk, hls, T, L, X, eT, hZ, hG, hF, hMo, hst.trans (X.baloadBytes hx (by rw [eT]; exact Aq.1) (State.isArrayOf_alike hZ'.alike Aq.2.1) Aq.2.2 (by rw [hsz]; exact idx_in hi hlen) (by rw [clamp_nat (Nat.lt_trans hi hlen), hsl]; simpa using hv) (g := mkF m pc ls.toArray (.int i.toInt32 :: .ref a :: st)) rfl rfl (hb hc hd) _ (Steps.refl _))⟩
theorem Wk.zaload {i : Nat} {j : Int32} (A : Wk l Z a0 EL own code ml nm rt R D pc ls (.int j :: .ref a :: st) H k n) (F : Ar Z H a .boolean vs) (hd : decode code pc = .ok (.baload, 1)) (hj : i.toInt32 = j) (hv : vs[i]? = some v) :
    Wk l Z a0 EL own code ml nm rt R D (pc + 1) ls (v :: st) H k n := by
  obtain ⟨p, e, s, m, args, below, meth, c, s0, H0⟩ := D
  obtain ⟨hx, hown, hc, hml, hnm, hrt, hlk, hls, T, L, X, eT, hZ, hG, hF, hMo, hst⟩ := A
  dsimp only at hx hown hc hml hnm hrt hlk X hZ hG hMo hst
  have hown' := hown
  have hZ' := hZ
  subst hj
  obtain ⟨cl, Aq, hsl, hlen, -⟩ := F
  have hi : i < vs.length := (List.getElem?_eq_some_iff.mp hv).1
  have hsz : cl.slots.size = vs.length := by rw [hsl]; simp
  exact ⟨hx, hown, hc, hml, hnm, hrt, hlk, hls, T, L, X, eT, hZ, hG, hF, hMo, hst.trans (X.baloadBooleans hx (by rw [eT]; exact Aq.1) (State.isArrayOf_alike hZ'.alike Aq.2.1) Aq.2.2 (by rw [hsz]; exact idx_in hi hlen) (by rw [clamp_nat (Nat.lt_trans hi hlen), hsl]; simpa using hv) (g := mkF m pc ls.toArray (.int i.toInt32 :: .ref a :: st)) rfl rfl (hb hc hd) _ (Steps.refl _))⟩
theorem Wk.iaload {i : Nat} {j : Int32} (A : Wk l Z a0 EL own code ml nm rt R D pc ls (.int j :: .ref a :: st) H k n) (F : Ar Z H a .int vs) (hd : decode code pc = .ok (.iaload, 1)) (hj : i.toInt32 = j) (hv : vs[i]? = some v) :
    Wk l Z a0 EL own code ml nm rt R D (pc + 1) ls (v :: st) H k n := by
  obtain ⟨p, e, s, m, args, below, meth, c, s0, H0⟩ := D
  obtain ⟨hx, hown, hc, hml, hnm, hrt, hlk, hls, T, L, X, eT, hZ, hG, hF, hMo, hst⟩ := A
  dsimp only at hx hown hc hml hnm hrt hlk X hZ hG hMo hst
  have hown' := hown
  have hZ' := hZ
  subst hj
  obtain ⟨cl, Aq, hsl, hlen, -⟩ := F
  have hi : i < vs.length := (List.getElem?_eq_some_iff.mp hv).1
  have hsz : cl.slots.size = vs.length := by rw [hsl]; simp
  exact ⟨hx, hown, hc, hml, hnm, hrt, hlk, hls, T, L, X, eT, hZ, hG, hF, hMo, hst.trans (X.iaload hx (by rw [eT]; exact Aq.1) (State.isArrayOf_alike hZ'.alike Aq.2.1) Aq.2.2 (by rw [hsz]; exact idx_in hi hlen) (by rw [clamp_nat (Nat.lt_trans hi hlen), hsl]; simpa using hv) (g := mkF m pc ls.toArray (.int i.toInt32 :: .ref a :: st)) rfl rfl (hb hc hd) _ (Steps.refl _))⟩
theorem Wk.laload {i : Nat} {j : Int32} (A : Wk l Z a0 EL own code ml nm rt R D pc ls (.int j :: .ref a :: st) H k n) (F : Ar Z H a .long vs) (hd : decode code pc = .ok (.laload, 1)) (hj : i.toInt32 = j) (hv : vs[i]? = some v) :
    Wk l Z a0 EL own code ml nm rt R D (pc + 1) ls (v :: st) H k n := by
  obtain ⟨p, e, s, m, args, below, meth, c, s0, H0⟩ := D
  obtain ⟨hx, hown, hc, hml, hnm, hrt, hlk, hls, T, L, X, eT, hZ, hG, hF, hMo, hst⟩ := A
  dsimp only at hx hown hc hml hnm hrt hlk X hZ hG hMo hst
  have hown' := hown
  have hZ' := hZ
  subst hj
  obtain ⟨cl, Aq, hsl, hlen, -⟩ := F
  have hi : i < vs.length := (List.getElem?_eq_some_iff.mp hv).1
  have hsz : cl.slots.size = vs.length := by rw [hsl]; simp
  exact ⟨hx, hown, hc, hml, hnm, hrt, hlk, hls, T, L, X, eT, hZ, hG, hF, hMo, hst.trans (X.laload hx (by rw [eT]; exact Aq.1) (State.isArrayOf_alike hZ'.alike Aq.2.1) Aq.2.2 (by rw [hsz]; exact idx_in hi hlen) (by rw [clamp_nat (Nat.lt_trans hi hlen), hsl]; simpa using hv) (g := mkF m pc ls.toArray (.int i.toInt32 :: .ref a :: st)) rfl rfl (hb hc hd) _ (Steps.refl _))⟩
theorem Wk.aaload {i : Nat} {j : Int32} (A : Wk l Z a0 EL own code ml nm rt R D pc ls (.int j :: .ref a :: st) H k n) (F : Ar Z H a ty vs) (hd : decode code pc = .ok (.aaload, 1)) (hj : i.toInt32 = j) (hv : vs[i]? = some v) (hty : ty.isReference = true) :
    Wk l Z a0 EL own code ml nm rt R D (pc + 1) ls (v :: st) H k n := by
  obtain ⟨p, e, s, m, args, below, meth, c, s0, H0⟩ := D
  obtain ⟨hx, hown, hc, hml, hnm, hrt, hlk, hls, T, L, X, eT, hZ, hG, hF, hMo, hst⟩ := A
  dsimp only at hx hown hc hml hnm hrt hlk X hZ hG hMo hst
  have hown' := hown
  have hZ' := hZ
  subst hj
  obtain ⟨cl, Aq, hsl, hlen, -⟩ := F
  have hi : i < vs.length := (List.getElem?_eq_some_iff.mp hv).1
  have hsz : cl.slots.size = vs.length := by rw [hsl]; simp
  exact ⟨hx, hown, hc, hml, hnm, hrt, hlk, hls, T, L, X, eT, hZ, hG, hF, hMo, hst.trans (X.aaload hx (by rw [eT]; exact Aq.1) (State.isArrayOf_alike hZ'.alike Aq.2.1) hty Aq.2.2 (by rw [hsz]; exact idx_in hi hlen) (by rw [clamp_nat (Nat.lt_trans hi hlen), hsl]; simpa using hv) (g := mkF m pc ls.toArray (.int i.toInt32 :: .ref a :: st)) rfl rfl (hb hc hd) _ (Steps.refl _))⟩
theorem Wk.castore {i : Nat} {j : Int32} {x x2 : Int32} (A : Wk l Z a0 EL own code ml nm rt R D pc ls (.int x :: .int j :: .ref a :: st) H k n) (F : Ar Z H a .char vs) (o : H.2 a) (hd : decode code pc = .ok (.castore, 1)) (hj : i.toInt32 = j) (hi : i < vs.length) (hx2 : nar .char x = x2) :
    ∃ H' : HP, Wk l Z a0 EL own code ml nm rt R D (pc + 1) ls st H' k n ∧ Kp H H' [a] ∧ Ar Z H' a .char (vs.set i (.int x2)) := by
  obtain ⟨p, e, s, m, args, below, meth, c, s0, H0⟩ := D
  obtain ⟨hx, hown, hc, hml, hnm, hrt, hlk, hls, T, L, X, eT, hZ, hG, hF, hMo, hst⟩ := A
  dsimp only at hx hown hc hml hnm hrt hlk X hZ hG hMo hst
  have hown' := hown
  have hZ' := hZ
  subst hj
  obtain ⟨cl, Aq, hsl, hlen, hft⟩ := F
  have hsz : cl.slots.size = vs.length := by rw [hsl]; simp
  have hi2 : i < 2 ^ 31 := Nat.lt_trans hi hlen
  obtain ⟨T', h', X', e', Wr1, st'⟩ := stC X hx hZ' eT Aq (by rw [hsz]; exact idx_in hi hlen) (g := mkF m pc ls.toArray (.int x :: .int i.toInt32 :: .ref a :: st)) rfl rfl (hb hc hd)
  have o2 := hG.2 a o
  refine ⟨(h', H.2), ⟨hx, hown, hc, hml, hnm, hrt, hlk, hls, T', (L ++ [_]), X', e', hZ, (hG.wr Wr1 o), (hF.app fun y hy => by cases List.mem_singleton.mp hy; exact o2.1), ⟨hMo.1, by show _ ≤ h'.size; rw [Wr1.size]; exact hMo.2⟩, hst.trans (st' _ (Steps.refl _))⟩, ⟨Keep.of_wr Wr1, fun _ q => q⟩, ⟨_, Aq.same Wr1, ?_, by simpa using hlen, fun v hv => ?_⟩⟩
  · rw [clamp_nat hi2]; show cl.slots.setIfInBounds i _ = _; rw [hsl]; subst hx2; simp
  · rcases List.mem_or_eq_of_mem_set hv with q | rfl
    · exact hft v q
    · rw [← hx2]; exact fits_nar_char x
theorem Wk.bastore {i : Nat} {j : Int32} {x x2 : Int32} (A : Wk l Z a0 EL own code ml nm rt R D pc ls (.int x :: .int j :: .ref a :: st) H k n) (F : Ar Z H a .byte vs) (o : H.2 a) (hd : decode code pc = .ok (.bastore, 1)) (hj : i.toInt32 = j) (hi : i < vs.length) (hx2 : nar .byte x = x2) :
    ∃ H' : HP, Wk l Z a0 EL own code ml nm rt R D (pc + 1) ls st H' k n ∧ Kp H H' [a] ∧ Ar Z H' a .byte (vs.set i (.int x2)) := by
  obtain ⟨p, e, s, m, args, below, meth, c, s0, H0⟩ := D
  obtain ⟨hx, hown, hc, hml, hnm, hrt, hlk, hls, T, L, X, eT, hZ, hG, hF, hMo, hst⟩ := A
  dsimp only at hx hown hc hml hnm hrt hlk X hZ hG hMo hst
  have hown' := hown
  have hZ' := hZ
  subst hj
  obtain ⟨cl, Aq, hsl, hlen, hft⟩ := F
  have hsz : cl.slots.size = vs.length := by rw [hsl]; simp
  have hi2 : i < 2 ^ 31 := Nat.lt_trans hi hlen
  obtain ⟨T', h', X', e', Wr1, st'⟩ := stB X hx hZ' eT Aq (by rw [hsz]; exact idx_in hi hlen) (g := mkF m pc ls.toArray (.int x :: .int i.toInt32 :: .ref a :: st)) rfl rfl (hb hc hd)
  have o2 := hG.2 a o
  refine ⟨(h', H.2), ⟨hx, hown, hc, hml, hnm, hrt, hlk, hls, T', (L ++ [_]), X', e', hZ, (hG.wr Wr1 o), (hF.app fun y hy => by cases List.mem_singleton.mp hy; exact o2.1), ⟨hMo.1, by show _ ≤ h'.size; rw [Wr1.size]; exact hMo.2⟩, hst.trans (st' _ (Steps.refl _))⟩, ⟨Keep.of_wr Wr1, fun _ q => q⟩, ⟨_, Aq.same Wr1, ?_, by simpa using hlen, fun v hv => ?_⟩⟩
  · rw [clamp_nat hi2]; show cl.slots.setIfInBounds i _ = _; rw [hsl]; subst hx2; simp
  · rcases List.mem_or_eq_of_mem_set hv with q | rfl
    · exact hft v q
    · rw [← hx2]; exact fits_nar_byte x
theorem Wk.zastore {i : Nat} {j : Int32} {x x2 : Int32} (A : Wk l Z a0 EL own code ml nm rt R D pc ls (.int x :: .int j :: .ref a :: st) H k n) (F : Ar Z H a .boolean vs) (o : H.2 a) (hd : decode code pc = .ok (.bastore, 1)) (hj : i.toInt32 = j) (hi : i < vs.length) (hx2 : nar .boolean x = x2) :
    ∃ H' : HP, Wk l Z a0 EL own code ml nm rt R D (pc + 1) ls st H' k n ∧ Kp H H' [a] ∧ Ar Z H' a .boolean (vs.set i (.int x2)) := by
  obtain ⟨p, e, s, m, args, below, meth, c, s0, H0⟩ := D
  obtain ⟨hx, hown, hc, hml, hnm, hrt, hlk, hls, T, L, X, eT, hZ, hG, hF, hMo, hst⟩ := A
  dsimp only at hx hown hc hml hnm hrt hlk X hZ hG hMo hst
  have hown' := hown
  have hZ' := hZ
  subst hj
  obtain ⟨cl, Aq, hsl, hlen, hft⟩ := F
  have hsz : cl.slots.size = vs.length := by rw [hsl]; simp
  have hi2 : i < 2 ^ 31 := Nat.lt_trans hi hlen
  obtain ⟨T', h', X', e', Wr1, st'⟩ := stZ X hx hZ' eT Aq (by rw [hsz]; exact idx_in hi hlen) (g := mkF m pc ls.toArray (.int x :: .int i.toInt32 :: .ref a :: st)) rfl rfl (hb hc hd)
  have o2 := hG.2 a o
  refine ⟨(h', H.2), ⟨hx, hown, hc, hml, hnm, hrt, hlk, hls, T', (L ++ [_]), X', e', hZ, (hG.wr Wr1 o), (hF.app fun y hy => by cases List.mem_singleton.mp hy; exact o2.1), ⟨hMo.1, by show _ ≤ h'.size; rw [Wr1.size]; exact hMo.2⟩, hst.trans (st' _ (Steps.refl _))⟩, ⟨Keep.of_wr Wr1, fun _ q => q⟩, ⟨_, Aq.same Wr1, ?_, by simpa using hlen, fun v hv => ?_⟩⟩
  · rw [clamp_nat hi2]; show cl.slots.setIfInBounds i _ = _; rw [hsl]; subst hx2; simp
  · rcases List.mem_or_eq_of_mem_set hv with q | rfl
    · exact hft v q
    · rw [← hx2]; exact fits_nar_bool x
theorem Wk.iastore {i : Nat} {j : Int32} {x : Int32} (A : Wk l Z a0 EL own code ml nm rt R D pc ls (.int x :: .int j :: .ref a :: st) H k n) (F : Ar Z H a .int vs) (o : H.2 a) (hd : decode code pc = .ok (.iastore, 1)) (hj : i.toInt32 = j) (hi : i < vs.length) :
    ∃ H' : HP, Wk l Z a0 EL own code ml nm rt R D (pc + 1) ls st H' k n ∧ Kp H H' [a] ∧ Ar Z H' a .int (vs.set i (.int x)) := by
  obtain ⟨p, e, s, m, args, below, meth, c, s0, H0⟩ := D
  obtain ⟨hx, hown, hc, hml, hnm, hrt, hlk, hls, T, L, X, eT, hZ, hG, hF, hMo, hst⟩ := A
  dsimp only at hx hown hc hml hnm hrt hlk X hZ hG hMo hst
  have hown' := hown
  have hZ' := hZ
  subst hj
  obtain ⟨cl, Aq, hsl, hlen, hft⟩ := F
  have hsz : cl.slots.size = vs.length := by rw [hsl]; simp
  have hi2 : i < 2 ^ 31 := Nat.lt_trans hi hlen
  obtain ⟨T', h', X', e', Wr1, st'⟩ := stI X hx hZ' eT Aq (by rw [hsz]; exact idx_in hi hlen) (g := mkF m pc ls.toArray (.int x :: .int i.toInt32 :: .ref a :: st)) rfl rfl (hb hc hd)
  have o2 := hG.2 a o
  refine ⟨(h', H.2), ⟨hx, hown, hc, hml, hnm, hrt, hlk, hls, T', (L ++ [_]), X', e', hZ, (hG.wr Wr1 o), (hF.app fun y hy => by cases List.mem_singleton.mp hy; exact o2.1), ⟨hMo.1, by show _ ≤ h'.size; rw [Wr1.size]; exact hMo.2⟩, hst.trans (st' _ (Steps.refl _))⟩, ⟨Keep.of_wr Wr1, fun _ q => q⟩, ⟨_, Aq.same Wr1, ?_, by simpa using hlen, fun v hv => ?_⟩⟩
  · rw [clamp_nat hi2]; show cl.slots.setIfInBounds i _ = _; rw [hsl]; simp
  · rcases List.mem_or_eq_of_mem_set hv with q | rfl
    · exact hft v q
    · rfl
theorem Wk.lastore {i : Nat} {j : Int32} {x : Int64} (A : Wk l Z a0 EL own code ml nm rt R D pc ls (.long x :: .int j :: .ref a :: st) H k n) (F : Ar Z H a .long vs) (o : H.2 a) (hd : decode code pc = .ok (.lastore, 1)) (hj : i.toInt32 = j) (hi : i < vs.length) :
    ∃ H' : HP, Wk l Z a0 EL own code ml nm rt R D (pc + 1) ls st H' k n ∧ Kp H H' [a] ∧ Ar Z H' a .long (vs.set i (.long x)) := by
  obtain ⟨p, e, s, m, args, below, meth, c, s0, H0⟩ := D
  obtain ⟨hx, hown, hc, hml, hnm, hrt, hlk, hls, T, L, X, eT, hZ, hG, hF, hMo, hst⟩ := A
  dsimp only at hx hown hc hml hnm hrt hlk X hZ hG hMo hst
  have hown' := hown
  have hZ' := hZ
  subst hj
  obtain ⟨cl, Aq, hsl, hlen, hft⟩ := F
  have hsz : cl.slots.size = vs.length := by rw [hsl]; simp
  have hi2 : i < 2 ^ 31 := Nat.lt_trans hi hlen
  obtain ⟨T', h', X', e', Wr1, st'⟩ := stJ X hx hZ' eT Aq (by rw [hsz]; exact idx_in hi hlen) (g := mkF m pc ls.toArray (.long x :: .int i.toInt32 :: .ref a :: st)) rfl rfl (hb hc hd)
  have o2 := hG.2 a o
  refine ⟨(h', H.2), ⟨hx, hown, hc, hml, hnm, hrt, hlk, hls, T', (L ++ [_]), X', e', hZ, (hG.wr Wr1 o), (hF.app fun y hy => by cases List.mem_singleton.mp hy; exact o2.1), ⟨hMo.1, by show _ ≤ h'.size; rw [Wr1.size]; exact hMo.2⟩, hst.trans (st' _ (Steps.refl _))⟩, ⟨Keep.of_wr Wr1, fun _ q => q⟩, ⟨_, Aq.same Wr1, ?_, by simpa using hlen, fun v hv => ?_⟩⟩
  · rw [clamp_nat hi2]; show cl.slots.setIfInBounds i _ = _; rw [hsl]; simp
  · rcases List.mem_or_eq_of_mem_set hv with q | rfl
    · exact hft v q
    · rfl
theorem Wk.initO {idx Wd : Nat} (A : Wk l Z a0 EL own code ml nm rt R D pc ls (.ref a :: st) H k n) (w1 : (Jvm.Cond.methodLink own idx Lib.objectInit).before a0 Z = true) (w2 : (Jvm.Cond.instanceMethod Lib.objectInit).before a0 Z = true) (w3 : (Jvm.Cond.code Lib.objectInit ⟨#[0xb1]⟩ 1 none).before a0 Z = true) (hd : decode code pc = .ok (.invokespecial idx, 3)) (hf : 1 ≤ R.frames) (hW : (st.map fun v => v.category).sum ≤ Wd) (hlo : Wd + 12 ≤ R.locals) :
    Wk l Z a0 EL own code ml nm rt R D (pc + 3) ls st H k n := by
  obtain ⟨p, e, s, m, args, below, meth, c, s0, H0⟩ := D
  obtain ⟨hx, hown, hc, hml, hnm, hrt, hlk, hls, T, L, X, eT, hZ, hG, hF, hMo, hst⟩ := A
  dsimp only at hx hown hc hml hnm hrt hlk X hZ hG hMo hst
  have hown' := hown
  have hZ' := hZ
  obtain ⟨T', X', e', st'⟩ := RoadKit.initO X hx hZ' hown' w1 w2 w3 eT (g := mkF m pc ls.toArray (.ref a :: st)) rfl (by simp [hls, hml]) rfl (hb hc hd) hf (W := Wd) (by simpa using hW) hlo
  exact ⟨hx, hown, hc, hml, hnm, hrt, hlk, hls, T', L, X', e', hZ, hG, hF, hMo, hst.trans (st' _ (Steps.refl _))⟩
theorem Wk.instY {K : String} {index : Nat} (A : Wk l Z a0 EL own code ml nm rt R D pc ls (.ref a :: st) H k n) (w : (Jvm.Cond.classLink own index K).before a0 Z = true) (F : Ins Z H.1 a K true) (hd : decode code pc = .ok (.instanceof index, 3)) :
    Wk l Z a0 EL own code ml nm rt R D (pc + 3) ls (.int 1 :: st) H k n := by
  obtain ⟨p, e, s, m, args, below, meth, c, s0, H0⟩ := D
  obtain ⟨hx, hown, hc, hml, hnm, hrt, hlk, hls, T, L, X, eT, hZ, hG, hF, hMo, hst⟩ := A
  dsimp only at hx hown hc hml hnm hrt hlk X hZ hG hMo hst
  have hown' := hown
  have hZ' := hZ
  obtain ⟨T', X', e', st'⟩ := RoadKit.instY X hx hZ' hown' w eT F (g := mkF m pc ls.toArray (.ref a :: st)) rfl rfl (hb hc hd)
  exact ⟨hx, hown, hc, hml, hnm, hrt, hlk, hls, T', L, X', e', hZ, hG, hF, hMo, hst.trans (st' _ (Steps.refl _))⟩
theorem Wk.instN {K : String} {index : Nat} (A : Wk l Z a0 EL own code ml nm rt R D pc ls (.ref a :: st) H k n) (w : (Jvm.Cond.classLink own index K).before a0 Z = true) (E : Exa Z H.1 a C) (F : ∃ c t, Z.vm.findClass C = some c ∧ Z.vm.findClass K = some t ∧ Z.vm.assignable c t = false) (hd : decode code pc = .ok (.instanceof index, 3)) :
    Wk l Z a0 EL own code ml nm rt R D (pc + 3) ls (.int 0 :: st) H k n := by
  obtain ⟨p, e, s, m, args, below, meth, c, s0, H0⟩ := D
  obtain ⟨hx, hown, hc, hml, hnm, hrt, hlk, hls, T, L, X, eT, hZ, hG, hF, hMo, hst⟩ := A
  dsimp only at hx hown hc hml hnm hrt hlk X hZ hG hMo hst
  have hown' := hown
  have hZ' := hZ
  obtain ⟨T', X', e', st'⟩ := RoadKit.instNo X hx hZ' hown' w eT E F (g := mkF m pc ls.toArray (.ref a :: st)) rfl rfl (hb hc hd)
  exact ⟨hx, hown, hc, hml, hnm, hrt, hlk, hls, T', L, X', e', hZ, hG, hF, hMo, hst.trans (st' _ (Steps.refl _))⟩
theorem Wk.castY {K : String} {index : Nat} (A : Wk l Z a0 EL own code ml nm rt R D pc ls (.ref a :: st) H k n) (w : (Jvm.Cond.classLink own index K).before a0 Z = true) (F : Ins Z H.1 a K true) (hd : decode code pc = .ok (.checkcast index, 3)) :
    Wk l Z a0 EL own code ml nm rt R D (pc + 3) ls (.ref a :: st) H k n := by
  obtain ⟨p, e, s, m, args, below, meth, c, s0, H0⟩ := D
  obtain ⟨hx, hown, hc, hml, hnm, hrt, hlk, hls, T, L, X, eT, hZ, hG, hF, hMo, hst⟩ := A
  dsimp only at hx hown hc hml hnm hrt hlk X hZ hG hMo hst
  have hown' := hown
  have hZ' := hZ
  obtain ⟨T', X', e', st'⟩ := RoadKit.castY X hx hZ' hown' w eT F (g := mkF m pc ls.toArray (.ref a :: st)) rfl rfl (hb hc hd)
  exact ⟨hx, hown, hc, hml, hnm, hrt, hlk, hls, T', L, X', e', hZ, hG, hF, hMo, hst.trans (st' _ (Steps.refl _))⟩
theorem Wk.instNull {index : Nat} (A : Wk l Z a0 EL own code ml nm rt R D pc ls (.null :: st) H k n) (hd : decode code pc = .ok (.instanceof index, 3)) :
    Wk l Z a0 EL own code ml nm rt R D (pc + 3) ls (.int 0 :: st) H k n := by
  obtain ⟨p, e, s, m, args, below, meth, c, s0, H0⟩ := D
  obtain ⟨hx, hown, hc, hml, hnm, hrt, hlk, hls, T, L, X, eT, hZ, hG, hF, hMo, hst⟩ := A
  dsimp only at hx hown hc hml hnm hrt hlk X hZ hG hMo hst
  have hown' := hown
  have hZ' := hZ
  exact ⟨hx, hown, hc, hml, hnm, hrt, hlk, hls, T, L, X, eT, hZ, hG, hF, hMo, hst.trans (X.instanceofNull hx (g := mkF m pc ls.toArray (.null :: st)) rfl rfl (hb hc hd) _ (Steps.refl _))⟩
theorem Wk.castNull {index : Nat} (A : Wk l Z a0 EL own code ml nm rt R D pc ls (.null :: st) H k n) (hd : decode code pc = .ok (.checkcast index, 3)) :
    Wk l Z a0 EL own code ml nm rt R D (pc + 3) ls (.null :: st) H k n := by
  obtain ⟨p, e, s, m, args, below, meth, c, s0, H0⟩ := D
  obtain ⟨hx, hown, hc, hml, hnm, hrt, hlk, hls, T, L, X, eT, hZ, hG, hF, hMo, hst⟩ := A
  dsimp only at hx hown hc hml hnm hrt hlk X hZ hG hMo hst
  have hown' := hown
  have hZ' := hZ
  exact ⟨hx, hown, hc, hml, hnm, hrt, hlk, hls, T, L, X, eT, hZ, hG, hF, hMo, hst.trans (X.checkcastNull hx (g := mkF m pc ls.toArray (.null :: st)) rfl rfl (hb hc hd) _ (Steps.refl _))⟩
theorem no_asg {K : String} {q : Nat} (w : (Jvm.Cond.superclass C "java/lang/Object").before a0 Z = true) (w2 : (Jvm.Cond.noSuperclass "java/lang/Object").before a0 Z = true) (wi : (Jvm.Cond.instantiable K q).before a0 Z = true) (h1 : C ≠ K) (h2 : "java/lang/Object" ≠ K) : ∃ c t, Z.vm.findClass C = some c ∧ Z.vm.findClass K = some t ∧ Z.vm.assignable c t = false := by
  obtain ⟨co, ko, o1, o2, o3, -, -⟩ := Cond.noSuperclass_spec w2
  obtain ⟨t, kt, g0, g2, g5, g7, -⟩ := Cond.instantiable_spec wi
  obtain ⟨c, h0⟩ := found_sup w
  obtain ⟨p, k, kp, p1, p2, p3, p4, p5, -, -⟩ := Cond.superclass_spec h0 w
  cases o1.symm.trans p1
  have ne := ids_ne h0 g0 h1
  have ne2 := ids_ne o1 g0 h2
  have g8 : kt.isInterface = false := by cases hq : kt.isInterface <;> simp [hq] at g7 ⊢
  have n3 : ∀ fuel, Z.vm.isSubclassAux fuel co t = false := fun fuel => by
    cases fuel with
    | zero => rfl
    | succ f => simp [Vm.isSubclassAux, ne2, o2, o3]
  have n4 : ∀ fuel, Z.vm.isSubclassAux fuel c t = false := fun fuel => by
    cases fuel with
    | zero => rfl
    | succ f => simp [Vm.isSubclassAux, ne, p2, p4, n3]
  refine ⟨c, t, h0, g0, ?_⟩
  show Z.vm.assignableAux (255 + 1) c t = false
  simp [Vm.assignableAux, ne, p2, g2, p5, g5, g8, Vm.isSubclass, n4]
theorem Wk.ldcI {index : Nat} {x : Int32} (A : Wk l Z a0 EL own code ml nm rt R D pc ls st H k n) (w : (Jvm.Cond.constant own index x).before a0 Z = true) (hd : decode code pc = .ok (.ldc index, 2)) :
    Wk l Z a0 EL own code ml nm rt R D (pc + 2) ls (.int x :: st) H k n := by
  obtain ⟨p, e, s, m, args, below, meth, c, s0, H0⟩ := D
  obtain ⟨hx, hown, hc, hml, hnm, hrt, hlk, hls, T, L, X, eT, hZ, hG, hF, hMo, hst⟩ := A
  dsimp only at hx hown hc hml hnm hrt hlk X hZ hG hMo hst
  have hown' := hown
  have hZ' := hZ
  exact ⟨hx, hown, hc, hml, hnm, hrt, hlk, hls, T, L, X, eT, hZ, hG, hF, hMo, hst.trans (X.ldcI hx hown' (mvT hZ' w) (g := mkF m pc ls.toArray st) rfl (hb hc hd) (Steps.refl _))⟩
theorem Wk.ldcJ {index : Nat} {x : Int64} (A : Wk l Z a0 EL own code ml nm rt R D pc ls st H k n) (w : (Jvm.Cond.constantLong own index x).before a0 Z = true) (hd : decode code pc = .ok (.ldc2_w index, 3)) :
    Wk l Z a0 EL own code ml nm rt R D (pc + 3) ls (.long x :: st) H k n := by
  obtain ⟨p, e, s, m, args, below, meth, c, s0, H0⟩ := D
  obtain ⟨hx, hown, hc, hml, hnm, hrt, hlk, hls, T, L, X, eT, hZ, hG, hF, hMo, hst⟩ := A
  dsimp only at hx hown hc hml hnm hrt hlk X hZ hG hMo hst
  have hown' := hown
  have hZ' := hZ
  exact ⟨hx, hown, hc, hml, hnm, hrt, hlk, hls, T, L, X, eT, hZ, hG, hF, hMo, hst.trans (X.ldc2J hx hown' (mvT hZ' w) (g := mkF m pc ls.toArray st) rfl (hb hc hd) (Steps.refl _))⟩
theorem Wk.more (A : Wk l Z a0 EL own code ml nm rt R D pc ls st H k n) {k' n' : Nat} (h1 : k ≤ k') (h2 : n ≤ n') :
    Wk l Z a0 EL own code ml nm rt R D pc ls st H k' n' := by
  obtain ⟨p, e, s, m, args, below, meth, c, s0, H0⟩ := D
  obtain ⟨hx, hown, hc, hml, hnm, hrt, hlk, hls, T, L, X, eT, hZ, hG, hF, hMo, hst⟩ := A
  dsimp only at hx hown hc hml hnm hrt hlk X hZ hG hMo hst
  have hown' := hown
  have hZ' := hZ
  exact ⟨hx, hown, hc, hml, hnm, hrt, hlk, hls, T, L, (X.more h1 h2), eT, hZ, hG, hF, hMo, hst⟩
theorem Wk.ret  (A : Wk l Z a0 EL own code ml nm none R D pc ls st H k n) (hd : decode code pc = .ok (.return_, 1)) :
    Rt Z EL D none H k n := by
  obtain ⟨p, e, s, m, args, below, meth, c, s0, H0⟩ := D
  obtain ⟨hx, hown, hc, hml, hnm, hrt, hlk, hls, T, L, X, eT, hZ, hG, hF, hMo, hst⟩ := A
  dsimp only at hx hown hc hml hnm hrt hlk X hZ hG hMo hst
  have hown' := hown
  have hZ' := hZ
  obtain ⟨fs, hr, hrun, hended, hW, hsame⟩ := X.leave (v := none) (fun _ => rfl) hlk
  exact ⟨_, L, hst.trans (retV X hx hrt (hb hc hd) hr), hrun, hended, eT, hMo, hG, hF, ⟨_, rfl⟩, hW, hsame⟩
theorem Wk.retZ {x x2 : Int32} (A : Wk l Z a0 EL own code ml nm (some .boolean) R D pc ls (.int x :: st) H k n) (hd : decode code pc = .ok (.ireturn, 1)) (hx2 : nar .boolean x = x2) :
    Rt Z EL D (some (.int x2)) H k n := by
  obtain ⟨p, e, s, m, args, below, meth, c, s0, H0⟩ := D
  obtain ⟨hx, hown, hc, hml, hnm, hrt, hlk, hls, T, L, X, eT, hZ, hG, hF, hMo, hst⟩ := A
  dsimp only at hx hown hc hml hnm hrt hlk X hZ hG hMo hst
  have hown' := hown
  have hZ' := hZ
  subst hx2
  obtain ⟨fs, hr, hrun, hended, hW, hsame⟩ := X.leave (v := some (.int (nar .boolean x))) (fun h => by rw [hrt] at h; cases h) hlk
  exact ⟨_, L, hst.trans (retN X hx (t := .boolean) hrt (by simp) (hb hc hd) hr), hrun, hended, eT, hMo, hG, hF, ⟨_, rfl⟩, hW, hsame⟩
theorem Wk.retB {x x2 : Int32} (A : Wk l Z a0 EL own code ml nm (some .byte) R D pc ls (.int x :: st) H k n) (hd : decode code pc = .ok (.ireturn, 1)) (hx2 : nar .byte x = x2) :
    Rt Z EL D (some (.int x2)) H k n := by
  obtain ⟨p, e, s, m, args, below, meth, c, s0, H0⟩ := D
  obtain ⟨hx, hown, hc, hml, hnm, hrt, hlk, hls, T, L, X, eT, hZ, hG, hF, hMo, hst⟩ := A
  dsimp only at hx hown hc hml hnm hrt hlk X hZ hG hMo hst
  have hown' := hown
  have hZ' := hZ
  subst hx2
  obtain ⟨fs, hr, hrun, hended, hW, hsame⟩ := X.leave (v := some (.int (nar .byte x))) (fun h => by rw [hrt] at h; cases h) hlk
  exact ⟨_, L, hst.trans (retN X hx (t := .byte) hrt (by simp) (hb hc hd) hr), hrun, hended, eT, hMo, hG, hF, ⟨_, rfl⟩, hW, hsame⟩
theorem Wk.retC {x x2 : Int32} (A : Wk l Z a0 EL own code ml nm (some .char) R D pc ls (.int x :: st) H k n) (hd : decode code pc = .ok (.ireturn, 1)) (hx2 : nar .char x = x2) :
    Rt Z EL D (some (.int x2)) H k n := by
  obtain ⟨p, e, s, m, args, below, meth, c, s0, H0⟩ := D
  obtain ⟨hx, hown, hc, hml, hnm, hrt, hlk, hls, T, L, X, eT, hZ, hG, hF, hMo, hst⟩ := A
  dsimp only at hx hown hc hml hnm hrt hlk X hZ hG hMo hst
  have hown' := hown
  have hZ' := hZ
  subst hx2
  obtain ⟨fs, hr, hrun, hended, hW, hsame⟩ := X.leave (v := some (.int (nar .char x))) (fun h => by rw [hrt] at h; cases h) hlk
  exact ⟨_, L, hst.trans (retN X hx (t := .char) hrt (by simp) (hb hc hd) hr), hrun, hended, eT, hMo, hG, hF, ⟨_, rfl⟩, hW, hsame⟩
theorem Wk.retS {x x2 : Int32} (A : Wk l Z a0 EL own code ml nm (some .short) R D pc ls (.int x :: st) H k n) (hd : decode code pc = .ok (.ireturn, 1)) (hx2 : nar .short x = x2) :
    Rt Z EL D (some (.int x2)) H k n := by
  obtain ⟨p, e, s, m, args, below, meth, c, s0, H0⟩ := D
  obtain ⟨hx, hown, hc, hml, hnm, hrt, hlk, hls, T, L, X, eT, hZ, hG, hF, hMo, hst⟩ := A
  dsimp only at hx hown hc hml hnm hrt hlk X hZ hG hMo hst
  have hown' := hown
  have hZ' := hZ
  subst hx2
  obtain ⟨fs, hr, hrun, hended, hW, hsame⟩ := X.leave (v := some (.int (nar .short x))) (fun h => by rw [hrt] at h; cases h) hlk
  exact ⟨_, L, hst.trans (retN X hx (t := .short) hrt (by simp) (hb hc hd) hr), hrun, hended, eT, hMo, hG, hF, ⟨_, rfl⟩, hW, hsame⟩
theorem Wk.retI {x : Int32} (A : Wk l Z a0 EL own code ml nm (some .int) R D pc ls (.int x :: st) H k n) (hd : decode code pc = .ok (.ireturn, 1)) :
    Rt Z EL D (some (.int x)) H k n := by
  obtain ⟨p, e, s, m, args, below, meth, c, s0, H0⟩ := D
  obtain ⟨hx, hown, hc, hml, hnm, hrt, hlk, hls, T, L, X, eT, hZ, hG, hF, hMo, hst⟩ := A
  dsimp only at hx hown hc hml hnm hrt hlk X hZ hG hMo hst
  have hown' := hown
  have hZ' := hZ
  obtain ⟨fs, hr, hrun, hended, hW, hsame⟩ := X.leave (v := (some (.int x))) (fun h => by rw [hrt] at h; cases h) hlk
  exact ⟨_, L, hst.trans (retOut X hx hrt rfl (Or.inl ⟨rfl, Or.inl rfl, x, rfl⟩) (hb hc hd) hr), hrun, hended, eT, hMo, hG, hF, ⟨_, rfl⟩, hW, hsame⟩
theorem Wk.retJ {x : Int64} (A : Wk l Z a0 EL own code ml nm (some .long) R D pc ls (.long x :: st) H k n) (hd : decode code pc = .ok (.lreturn, 1)) :
    Rt Z EL D (some (.long x)) H k n := by
  obtain ⟨p, e, s, m, args, below, meth, c, s0, H0⟩ := D
  obtain ⟨hx, hown, hc, hml, hnm, hrt, hlk, hls, T, L, X, eT, hZ, hG, hF, hMo, hst⟩ := A
  dsimp only at hx hown hc hml hnm hrt hlk X hZ hG hMo hst
  have hown' := hown
  have hZ' := hZ
  obtain ⟨fs, hr, hrun, hended, hW, hsame⟩ := X.leave (v := (some (.long x))) (fun h => by rw [hrt] at h; cases h) hlk
  exact ⟨_, L, hst.trans (retOut X hx hrt rfl (Or.inr (Or.inl ⟨rfl, rfl, x, rfl⟩)) (hb hc hd) hr), hrun, hended, eT, hMo, hG, hF, ⟨_, rfl⟩, hW, hsame⟩
theorem Wk.retA {t : FieldType} (A : Wk l Z a0 EL own code ml nm (some t) R D pc ls (v :: st) H k n) (hd : decode code pc = .ok (.areturn, 1)) (ht : t.isReference = true) (hv : v.isRef = true) :
    Rt Z EL D (some v) H k n := by
  obtain ⟨p, e, s, m, args, below, meth, c, s0, H0⟩ := D
  obtain ⟨hx, hown, hc, hml, hnm, hrt, hlk, hls, T, L, X, eT, hZ, hG, hF, hMo, hst⟩ := A
  dsimp only at hx hown hc hml hnm hrt hlk X hZ hG hMo hst
  have hown' := hown
  have hZ' := hZ
  obtain ⟨fs, hr, hrun, hended, hW, hsame⟩ := X.leave (v := some v) (fun h => by rw [hrt] at h; cases h) hlk
  have hn : narrow t v = v := by rcases ref_cases hv with rfl | ⟨z, rfl⟩ <;> cases t <;> first | rfl | cases ht
  exact ⟨_, L, hst.trans (retOut X hx hrt hn (Or.inr (Or.inr (Or.inr (Or.inr ⟨rfl, ht, hv⟩)))) (hb hc hd) hr), hrun, hended, eT, hMo, hG, hF, ⟨_, rfl⟩, hW, hsame⟩
theorem Ct.intro {y : MethodName} {bytes : ByteArray} {ret : Option FieldType} {rm : Room} {wz : List Jvm.Cond} {as : List Value} {Q : Option Value → HP → Prop} (hpl : plainFor y = true) (hls : locsOf as ml = ls) (hlen : ls.length = ml)
    (body : ∀ D, Wk l Z a0 EL y.cls bytes ml y.name ret rm D 0 ls [] H 0 0 → ∃ v H' k n, Rt Z EL D v H' k n ∧ Q v H' ∧ k ≤ rm.cells ∧ n ≤ rm.slots) : Ct l Z EL y bytes ml ret rm wz as H Q := by
  refine MetFree.of_bodySF hpl hisR ?_
  intro p e s m args below meth c s₁ Bd hml0 hP hK
  obtain ⟨rfl, hZ, hh, hG⟩ := hP
  have hx := Bd.exec
  have hown : s.vm.findClass y.cls = some m.cls := findClass_of_methodNamed Bd.named
  have hnm := (name_of_methodNamed Bd.named Bd.method).1
  have X0 : Stand p l e rm s m as.toArray below meth c s₁ [] 0 0 := Stand.of_body Bd
  have e0 : s₁.heap = H.1 := by rw [← hh, Bd.state]; rfl
  have hst : Steps p.tables e below (s₁.setTop (entryFrame m as.toArray ml)) (s₁.setTop (mkF m 0 ls.toArray [])) := by rw [entry_locs, hls]; exact Steps.refl _
  obtain ⟨v, H', k, n, ⟨s₂, L, h1, h2, h3, h4, h5, h6, h7, h8⟩, hQ, hk, hn⟩ := body (p, e, s, m, as.toArray, below, meth, c, s₁.setTop (entryFrame m as.toArray ml), H) ⟨hx, hown, Bd.bytes, hml0, hnm, Bd.returns, Bd.notSynchronized, hlen, s₁, [], X0, e0, hZ, hG, Fr.nil _, ⟨fun _ q => q, Nat.le_refl _⟩, hst⟩
  obtain ⟨hp, O⟩ := H'
  have h4 : s₂.heap = hp := h4
  subst h4
  obtain ⟨g1, g2, g4⟩ := h8
  exact ⟨s₂, _, h1, h2, h3, v, L, O, rfl, hQ, h5, h6, h7, g1, g2, g4.mono hk hn⟩
theorem Ct.mono {y : MethodName} {bytes : ByteArray} {ret : Option FieldType} {rm : Room} {wz : List Jvm.Cond} {as : List Value} {Q Q' : Option Value → HP → Prop} (h : Ct l Z EL y bytes ml ret rm wz as H Q) (q : ∀ v H', Q v H' → Q' v H') : Ct l Z EL y bytes ml ret rm wz as H Q' :=
  MetFree.mono h (fun _ _ h => h) (fun _ _ _ _ _ h => h) fun _ _ _ _ _ ⟨v, L, O, h1, h2, h3⟩ => ⟨v, L, O, h1, q _ _ h2, h3⟩
theorem ctBack {p : Program} {e : Env} {s : State} {args : Array Value} {below : List Frame} {y : MethodName} {bytes : ByteArray} {ret : Option FieldType} {rm : Room} {as : List Value} {Q : Option Value → HP → Prop} {len Wd : Nat}
    (hM : Ct l Z EL y bytes ml ret rm [] as H Q) (hZ : Z.Warmed39 s.vm) (wc : (Jvm.Cond.code y bytes ml ret).before a0 Z = true) (wz : (Jvm.Cond.initialized y.cls).before a0 Z = true) (hf : rm.frames + 1 ≤ R.frames) (hl : Wd + (ml + 11) + rm.locals ≤ R.locals) (hG : GI Z EL s.vm H) :
    Back l R p e below s args y len Wd (fun A a => a = as.toArray ∧ A.U.heap = H.1 ∧ A.cells + rm.cells ≤ R.cells ∧ A.slots + rm.slots ≤ R.slots)
      (fun A _ v B => ∃ L O, Q v (B.U.heap, O) ∧ ((∀ x, H.2 x → O x) ∧ H.1.size ≤ B.U.heap.size) ∧ GI Z EL B.U.vm (B.U.heap, O) ∧ Fr Z.heap.size L ∧ B.locs = A.locs ++ L ∧ B.cells = A.cells + rm.cells ∧ B.slots = A.slots + rm.slots) :=
  Back.of_free (bytes := bytes) (maxL := ml) (ret := ret) (E := fun _ first o t L k n => k = rm.cells ∧ n = rm.slots ∧ ∃ v O, o = .returned v ∧ Q v (t.heap, O) ∧ ((∀ x, H.2 x → O x) ∧ H.1.size ≤ t.heap.size) ∧ GI Z EL t.vm (t.heap, O) ∧ Fr Z.heap.size L) hM hf hl
    (fun m meth c A a Y hp => have hU : Z.Warmed39 A.U.vm := wtrans (s := s) hZ Y.warmed
      ⟨by show (Jvm.Cond.and _ .tt).before a A.U = true; rw [Cond.before_and, mv hU wc]; rfl, mv hU wc, mv hU wz, hp.2.2.1, hp.2.2.2⟩)
    (fun m meth c A a g mk Y hp => ⟨hp.1, wtrans (s := s) hZ Y.warmed, hp.2.1, hG⟩) (fun _ _ _ _ _ _ _ _ _ => trivial)
    (fun _ _ _ _ ⟨v, L, O, h1, h2, h3, h4, h5, h6⟩ => ⟨L, _, _, h6, rfl, rfl, v, O, h1, h2, h3, h4, h5⟩)
    (fun m meth c A a g mk v t L k n Y hp _ _ ⟨e1, e2, v', O, e3, e4, e5, e6, e7⟩ => by cases e3; subst e1 e2; exact ⟨L, O, e4, e5, e6, e7, rfl, rfl, rfl⟩)
theorem Wk.callS {y : MethodName} {bytes : ByteArray} {ret : Option FieldType} {cml : Nat} {rm : Room} {Q : Option Value → HP → Prop} {argsL : List Value} {index Wd : Nat} (A : Wk l Z a0 EL own code ml nm rt R D pc ls (argsL.reverse ++ st) H k n) (w1 : (Jvm.Cond.methodLink own index y).before a0 Z = true) (w2 : (Jvm.Cond.static y).before a0 Z = true) (wz : (Jvm.Cond.initialized y.cls).before a0 Z = true) (wc : (Jvm.Cond.code y bytes cml ret).before a0 Z = true) (hM : Ct l Z EL y bytes cml ret rm [] argsL H Q) (hy : y.cls ≠ "java/lang/invoke/MethodHandle" ∧ y.cls ≠ "java/lang/invoke/VarHandle") (hlen : ∃ ps r, parseMethodDescriptor y.desc = some ⟨ps, r⟩ ∧ argsL.length = ps.length) (hd : decode code pc = .ok (.invokestatic index, 3)) (hf : rm.frames + 1 ≤ R.frames) (hW : (st.map fun v => v.category).sum ≤ Wd) (hlo : Wd + (cml + 11) + rm.locals ≤ R.locals) (hcl : k + rm.cells ≤ R.cells) (hsl : n + rm.slots ≤ R.slots) :
    ∃ (v : Option Value) (H' : HP), Q v H' ∧ Wk l Z a0 EL own code ml nm rt R D (pc + 3) ls (v.toList ++ st) H' (k + rm.cells) (n + rm.slots) ∧ (∀ x, H.2 x → H'.2 x) ∧ H.1.size ≤ H'.1.size := by
  obtain ⟨p, e, s, m, args, below, meth, c, s0, H0⟩ := D
  obtain ⟨hx, hown, hc, hml, hnm, hrt, hlk, hls, T, L, X, eT, hZ, hG, hF, hMo, hst⟩ := A
  dsimp only at hx hown hc hml hnm hrt hlk X hZ hG hMo hst
  have hown' := hown
  have hZ' := hZ
  obtain ⟨v, vm1, ⟨T', L', c', n'⟩, -, X', ⟨Lc, O, hQ, hmo, hG', hFc, l1, l2, l3⟩, st'⟩ := Jvm.LawKit.callS X hx hown' (mvT hZ' w1) (mvT hZ' w2) (mvT hZ' wz) (mvT hZ' wc) hy (ctBack hM hZ wc wz hf hlo hG) (g := mkF m pc ls.toArray (argsL.reverse ++ st)) rfl (by simp [hls, hml]) (by obtain ⟨ps, r, q1, q2⟩ := hlen; exact lenOf q1 q2) rfl (by simpa using hW) (hb hc hd) (fun _ _ => ⟨rfl, eT, hcl, hsl⟩)
  dsimp only [Pt.U, Pt.locs, Pt.cells, Pt.slots] at X' hQ hmo hG' l1 l2 l3 st'
  subst l1 l2 l3
  exact ⟨v, (T'.heap, O), hQ, ⟨hx, hown, hc, hml, hnm, hrt, hlk, hls, T', _, X', rfl, hZ, hG', (hF.app hFc), ⟨fun x q => hmo.1 x (hMo.1 x q), Nat.le_trans hMo.2 hmo.2⟩, hst.trans (st' _ (Steps.refl _))⟩, hmo.1, hmo.2⟩
theorem Wk.callI {y : MethodName} {bytes : ByteArray} {cml : Nat} {rm : Room} {Q : Option Value → HP → Prop} {argsL : List Value} {index Wd : Nat} (A : Wk l Z a0 EL own code ml nm rt R D pc ls (argsL.reverse ++ .ref a :: st) H k n) (hy1 : y.name = "<init>") (w1 : (Jvm.Cond.methodLink own index y).before a0 Z = true) (w2 : (Jvm.Cond.instanceMethod y).before a0 Z = true) (wz : (Jvm.Cond.initialized y.cls).before a0 Z = true) (wc : (Jvm.Cond.code y bytes cml none).before a0 Z = true) (hM : Ct l Z EL y bytes cml none rm [] (.ref a :: argsL) H Q) (hy : y.cls ≠ "java/lang/invoke/MethodHandle" ∧ y.cls ≠ "java/lang/invoke/VarHandle") (hlen : ∃ ps r, parseMethodDescriptor y.desc = some ⟨ps, r⟩ ∧ argsL.length = ps.length) (hd : decode code pc = .ok (.invokespecial index, 3)) (hf : rm.frames + 1 ≤ R.frames) (hW : (st.map fun v => v.category).sum ≤ Wd) (hlo : Wd + (cml + 11) + rm.locals ≤ R.locals) (hcl : k + rm.cells ≤ R.cells) (hsl : n + rm.slots ≤ R.slots) :
    ∃ (v : Option Value) (H' : HP), Q v H' ∧ Wk l Z a0 EL own code ml nm rt R D (pc + 3) ls (v.toList ++ st) H' (k + rm.cells) (n + rm.slots) ∧ (∀ x, H.2 x → H'.2 x) ∧ H.1.size ≤ H'.1.size := by
  obtain ⟨p, e, s, m, args, below, meth, c, s0, H0⟩ := D
  obtain ⟨hx, hown, hc, hml, hnm, hrt, hlk, hls, T, L, X, eT, hZ, hG, hF, hMo, hst⟩ := A
  dsimp only at hx hown hc hml hnm hrt hlk X hZ hG hMo hst
  have hown' := hown
  have hZ' := hZ
  obtain ⟨v, vm1, ⟨T', L', c', n'⟩, -, X', ⟨Lc, O, hQ, hmo, hG', hFc, l1, l2, l3⟩, st'⟩ := X.specialBack hx hy1 hown' (mvT hZ' w1) (mvT hZ' w2) (mvT hZ' wc) hy (ctBack hM hZ wc wz hf hlo hG) (g := mkF m pc ls.toArray (argsL.reverse ++ .ref a :: st)) rfl (by simp [hls, hml]) (Steps.refl _) (by obtain ⟨ps, r, q1, q2⟩ := hlen; exact lenOf q1 q2) rfl (by simpa using hW) (hb hc hd) (fun _ _ => ⟨rfl, eT, hcl, hsl⟩)
  dsimp only [Pt.U, Pt.locs, Pt.cells, Pt.slots] at X' hQ hmo hG' l1 l2 l3 st'
  subst l1 l2 l3
  exact ⟨v, (T'.heap, O), hQ, ⟨hx, hown, hc, hml, hnm, hrt, hlk, hls, T', _, X', rfl, hZ, hG', (hF.app hFc), ⟨fun x q => hmo.1 x (hMo.1 x q), Nat.le_trans hMo.2 hmo.2⟩, hst.trans st'⟩, hmo.1, hmo.2⟩
theorem Wk.callV {y z : MethodName} {bytes : ByteArray} {ret : Option FieldType} {cml : Nat} {rm : Room} {Q : Option Value → HP → Prop} {argsL : List Value} {index Wd : Nat} (A : Wk l Z a0 EL own code ml nm rt R D pc ls (argsL.reverse ++ .ref a :: st) H k n) (w1 : (Jvm.Cond.methodLink own index y).before a0 Z = true) (w2 : (Jvm.Cond.declares y).before a0 Z = true) {C' : String} {y2 : MethodName} (w3 : (Jvm.Cond.selects C' y2 y2).before a0 Z = true) (hc2 : y2.cls = y.cls) (w4 : (Jvm.Cond.selects C y z).before a0 Z = true) (w5 : (Jvm.Cond.instanceMethod z).before a0 Z = true) (wz : (Jvm.Cond.initialized z.cls).before a0 Z = true) (wc : (Jvm.Cond.code z bytes cml ret).before a0 Z = true) (E : Exa Z H.1 a C) (hM : Ct l Z EL z bytes cml ret rm [] (.ref a :: argsL) H Q) (hy : y.cls ≠ "java/lang/invoke/MethodHandle" ∧ y.cls ≠ "java/lang/invoke/VarHandle") (hlen : ∃ ps r, parseMethodDescriptor y.desc = some ⟨ps, r⟩ ∧ argsL.length = ps.length) (hd : decode code pc = .ok (.invokevirtual index, 3)) (hf : rm.frames + 1 ≤ R.frames) (hW : (st.map fun v => v.category).sum ≤ Wd) (hlo : Wd + (cml + 11) + rm.locals ≤ R.locals) (hcl : k + rm.cells ≤ R.cells) (hsl : n + rm.slots ≤ R.slots) :
    ∃ (v : Option Value) (H' : HP), Q v H' ∧ Wk l Z a0 EL own code ml nm rt R D (pc + 3) ls (v.toList ++ st) H' (k + rm.cells) (n + rm.slots) ∧ (∀ x, H.2 x → H'.2 x) ∧ H.1.size ≤ H'.1.size := by
  obtain ⟨p, e, s, m, args, below, meth, c, s0, H0⟩ := D
  obtain ⟨hx, hown, hc, hml, hnm, hrt, hlk, hls, T, L, X, eT, hZ, hG, hF, hMo, hst⟩ := A
  dsimp only at hx hown hc hml hnm hrt hlk X hZ hG hMo hst
  have hown' := hown
  have hZ' := hZ
  obtain ⟨cB, kB, i1, i2, i3⟩ := isOf (s := s) hZ' eT E
  obtain ⟨v, vm1, ⟨T', L', c', n'⟩, -, X', ⟨Lc, O, hQ, hmo, hG', hFc, l1, l2, l3⟩, st'⟩ := X.virtualBack hx hown' (mvT hZ' w1) (mvT hZ' w2) (notFace_cls (mvT hZ' (args := #[]) w3) hc2) (mvT hZ' w4) (mvT hZ' w5) hy (ctBack hM hZ wc wz hf hlo hG) i1 i3 (g := mkF m pc ls.toArray (argsL.reverse ++ .ref a :: st)) rfl (by simp [hls, hml]) (Steps.refl _) (by obtain ⟨ps, r, q1, q2⟩ := hlen; exact lenOf q1 q2) rfl (by simpa using hW) (hb hc hd) (fun _ _ => ⟨rfl, eT, hcl, hsl⟩)
  dsimp only [Pt.U, Pt.locs, Pt.cells, Pt.slots] at X' hQ hmo hG' l1 l2 l3 st'
  subst l1 l2 l3
  exact ⟨v, (T'.heap, O), hQ, ⟨hx, hown, hc, hml, hnm, hrt, hlk, hls, T', _, X', rfl, hZ, hG', (hF.app hFc), ⟨fun x q => hmo.1 x (hMo.1 x q), Nat.le_trans hMo.2 hmo.2⟩, hst.trans st'⟩, hmo.1, hmo.2⟩
theorem Wk.callF {xi y : MethodName} {bytes : ByteArray} {ret : Option FieldType} {cml : Nat} {rm : Room} {Q : Option Value → HP → Prop} {argsL : List Value} {index Wd : Nat} {count : Nat} (A : Wk l Z a0 EL own code ml nm rt R D pc ls (argsL.reverse ++ .ref a :: st) H k n) (w1 : (Jvm.Cond.methodLink own index xi).before a0 Z = true) (w2 : (Jvm.Cond.declares xi).before a0 Z = true) (w3 : (Jvm.Cond.interfaceMethod xi.cls xi.cls xi.name xi.desc).before a0 Z = true) (w4 : (Jvm.Cond.selects C xi y).before a0 Z = true) (w5 : (Jvm.Cond.instanceMethod y).before a0 Z = true) (w6 : (Jvm.Cond.publicMethod y).before a0 Z = true) (w7 : (Jvm.Cond.unhidden C xi.name xi.desc).before a0 Z = true) (w8 : (Jvm.Cond.castable C xi.cls).before a0 Z = true) (wz : (Jvm.Cond.initialized y.cls).before a0 Z = true) (wc : (Jvm.Cond.code y bytes cml ret).before a0 Z = true) (E : Exa Z H.1 a C) (hM : Ct l Z EL y bytes cml ret rm [] (.ref a :: argsL) H Q) (hy : xi.cls ≠ "java/lang/invoke/MethodHandle" ∧ xi.cls ≠ "java/lang/invoke/VarHandle") (hlen : ∃ ps r, parseMethodDescriptor xi.desc = some ⟨ps, r⟩ ∧ argsL.length = ps.length) (hd : decode code pc = .ok (.invokeinterface index count, 5)) (hf : rm.frames + 1 ≤ R.frames) (hW : (st.map fun v => v.category).sum ≤ Wd) (hlo : Wd + (cml + 11) + rm.locals ≤ R.locals) (hcl : k + rm.cells ≤ R.cells) (hsl : n + rm.slots ≤ R.slots) :
    ∃ (v : Option Value) (H' : HP), Q v H' ∧ Wk l Z a0 EL own code ml nm rt R D (pc + 5) ls (v.toList ++ st) H' (k + rm.cells) (n + rm.slots) ∧ (∀ x, H.2 x → H'.2 x) ∧ H.1.size ≤ H'.1.size := by
  obtain ⟨p, e, s, m, args, below, meth, c, s0, H0⟩ := D
  obtain ⟨hx, hown, hc, hml, hnm, hrt, hlk, hls, T, L, X, eT, hZ, hG, hF, hMo, hst⟩ := A
  dsimp only at hx hown hc hml hnm hrt hlk X hZ hG hMo hst
  have hown' := hown
  have hZ' := hZ
  obtain ⟨cB, kB, i1, i2, i3⟩ := isOf (s := s) hZ' eT E
  obtain ⟨v, vm1, ⟨T', L', c', n'⟩, -, X', ⟨Lc, O, hQ, hmo, hG', hFc, l1, l2, l3⟩, st'⟩ := X.interfaceBack hx hown' (mvT hZ' w1) (mvT hZ' w2) (mvT hZ' w3 (by simp [Cond.onTables, Cond.keepsFace, Cond.keeps, Cond.steady, Cond.faceAtom, hy.1, hy.2])) (mvT hZ' w4) (mvT hZ' w5) (mvT hZ' w6) (mvT hZ' w7) (mvT hZ' w8) hy (ctBack hM hZ wc wz hf hlo hG) i1 i2 i3 (g := mkF m pc ls.toArray (argsL.reverse ++ .ref a :: st)) rfl (by simp [hls, hml]) (Steps.refl _) (by obtain ⟨ps, r, q1, q2⟩ := hlen; exact lenOf q1 q2) rfl (by simpa using hW) (hb hc hd) (fun _ _ => ⟨rfl, eT, hcl, hsl⟩)
  dsimp only [Pt.U, Pt.locs, Pt.cells, Pt.slots] at X' hQ hmo hG' l1 l2 l3 st'
  subst l1 l2 l3
  exact ⟨v, (T'.heap, O), hQ, ⟨hx, hown, hc, hml, hnm, hrt, hlk, hls, T', _, X', rfl, hZ, hG', (hF.app hFc), ⟨fun x q => hmo.1 x (hMo.1 x q), Nat.le_trans hMo.2 hmo.2⟩, hst.trans st'⟩, hmo.1, hmo.2⟩
theorem Wk.copy {sp dp z : Int32} {i j q index Wd : Nat} {vd : List Value} (A : Wk l Z a0 EL own code ml nm rt R D pc ls (.int z :: .int dp :: .ref b :: .int sp :: .ref a :: st) H k n) (w1 : (Jvm.Cond.methodLink own index Jvm.Stand.acN).before a0 Z = true) (w2 : (Jvm.Cond.native Jvm.Stand.acN).before a0 Z = true) (w3 : (Jvm.Cond.static Jvm.Stand.acN).before a0 Z = true) (w4 : (Jvm.Cond.initialized "java/lang/System").before a0 Z = true) (Fa : Ar Z H a ty vs) (Fb : Ar Z H b ty vd) (hty : refKind ty = false) (o : H.2 b) (hi : i.toInt32 = sp) (hj : j.toInt32 = dp) (hq : q.toInt32 = z) (h4 : i + q ≤ vs.length) (h5 : j + q ≤ vd.length) (hd : decode code pc = .ok (.invokestatic index, 3)) (hf : 1 ≤ R.frames) (hW : (st.map fun v => v.category).sum ≤ Wd) (hlo : Wd + 18 ≤ R.locals) :
    ∃ H' : HP, Wk l Z a0 EL own code ml nm rt R D (pc + 3) ls st H' k n ∧ Kp H H' [b] ∧ Ar Z H' b ty (vd.take j ++ (vs.drop i).take q ++ vd.drop (j + q)) := by
  obtain ⟨p, e, s, m, args, below, meth, c, s0, H0⟩ := D
  obtain ⟨hx, hown, hc, hml, hnm, hrt, hlk, hls, T, L, X, eT, hZ, hG, hF, hMo, hst⟩ := A
  dsimp only at hx hown hc hml hnm hrt hlk X hZ hG hMo hst
  have hown' := hown
  have hZ' := hZ
  subst hi hj hq
  have la := Fa.len
  have lb := Fb.len
  obtain ⟨ka, Aa⟩ := Fa.arv (.int 0)
  obtain ⟨kb, Ab⟩ := Fb.arv (.int 0)
  have o2 := hG.2 b o
  have ci := clamp_nat (i := i) (by omega)
  have cj := clamp_nat (i := j) (by omega)
  have cq := clamp_nat (i := q) (by omega)
  obtain ⟨T', h', L', X', e', F', K', A', st'⟩ := RoadKit.cpA X hx hZ' hown' w1 w2 w3 w4 eT Aa Ab (us := (List.range q).map fun t => vs.getD (i + t) (.int 0)) (Or.inl ⟨rfl, hty⟩) (nonneg_nat (by omega)) (nonneg_nat (by omega)) (nonneg_nat (by omega)) (by rw [ci, cq, clamp_nat la]; exact h4) (by rw [cj, cq, clamp_nat lb]; exact h5) (by rw [ci, cq]) (by rw [cj, cq]; exact h5) hF o2.1 (g := mkF m pc ls.toArray (.int q.toInt32 :: .int j.toInt32 :: .ref b :: .int i.toInt32 :: .ref a :: st)) rfl (by simp [hls, hml]) rfl (hb hc hd) hf (by simpa using hW) hlo
  rw [cj, cq, range_take h4] at A'
  exact ⟨(h', H.2), ⟨hx, hown, hc, hml, hnm, hrt, hlk, hls, T', L', X', e', hZ, (hG.keep K' (fun x hx => by cases List.mem_singleton.mp hx; exact o)), F', ⟨hMo.1, Nat.le_trans hMo.2 K'.1⟩, hst.trans (st' _ (Steps.refl _))⟩, ⟨K', fun _ q => q⟩, Ar.of_arv (H := (h', H.2)) A' (by rw [clamp_nat lb]; simp; omega)⟩
theorem Wk.callU {y : MethodName} {bytes : ByteArray} {ret : Option FieldType} {cml : Nat} {rm : Room} {Q : Option Value → HP → Prop} {argsL : List Value} {index Wd : Nat} (A : Wk l Z a0 EL own code ml nm rt R D pc ls (argsL.reverse ++ .ref a :: st) H k n) (w1 : (Jvm.Cond.methodLink own index y).before a0 Z = true) (w2 : (Jvm.Cond.declares y).before a0 Z = true) {C' : String} {y2 : MethodName} (w3 : (Jvm.Cond.selects C' y2 y2).before a0 Z = true) (hc2 : y2.cls = y.cls) (w4 : (Jvm.Cond.superclass own y.cls).before a0 Z = true) (w5 : (Jvm.Cond.instanceMethod y).before a0 Z = true) (hni : y.name ≠ "<init>") (wz : (Jvm.Cond.initialized y.cls).before a0 Z = true) (wc : (Jvm.Cond.code y bytes cml ret).before a0 Z = true) (E : Exa Z H.1 a C) (hM : Ct l Z EL y bytes cml ret rm [] (.ref a :: argsL) H Q) (hy : y.cls ≠ "java/lang/invoke/MethodHandle" ∧ y.cls ≠ "java/lang/invoke/VarHandle") (hlen : ∃ ps r, parseMethodDescriptor y.desc = some ⟨ps, r⟩ ∧ argsL.length = ps.length) (hd : decode code pc = .ok (.invokespecial index, 3)) (hf : rm.frames + 1 ≤ R.frames) (hW : (st.map fun v => v.category).sum ≤ Wd) (hlo : Wd + (cml + 11) + rm.locals ≤ R.locals) (hcl : k + rm.cells ≤ R.cells) (hsl : n + rm.slots ≤ R.slots) :
    ∃ (v : Option Value) (H' : HP), Q v H' ∧ Wk l Z a0 EL own code ml nm rt R D (pc + 3) ls (v.toList ++ st) H' (k + rm.cells) (n + rm.slots) ∧ (∀ x, H.2 x → H'.2 x) ∧ H.1.size ≤ H'.1.size := by
  obtain ⟨p, e, s, m, args, below, meth, c, s0, H0⟩ := D
  obtain ⟨hx, hown, hc, hml, hnm, hrt, hlk, hls, T, L, X, eT, hZ, hG, hF, hMo, hst⟩ := A
  dsimp only at hx hown hc hml hnm hrt hlk X hZ hG hMo hst
  have hown' := hown
  have hZ' := hZ
  obtain ⟨v, vm1, ⟨T', L', c', n'⟩, -, X', ⟨Lc, O, hQ, hmo, hG', hFc, l1, l2, l3⟩, st'⟩ := RoadKit.superBack X hx hZ' hown' w1 (same_of w2 w3 hc2 hy) w5 w4 hni (ctBack hM hZ wc wz hf hlo hG) eT (Ins.self E) (g := mkF m pc ls.toArray (argsL.reverse ++ .ref a :: st)) rfl (by simp [hls, hml]) wc (by obtain ⟨ps, r, q1, q2⟩ := hlen; exact lenOf q1 q2) rfl (by simpa using hW) (hb hc hd) (fun _ _ => ⟨rfl, eT, hcl, hsl⟩)
  dsimp only [Pt.U, Pt.locs, Pt.cells, Pt.slots] at X' hQ hmo hG' l1 l2 l3 st'
  subst l1 l2 l3
  exact ⟨v, (T'.heap, O), hQ, ⟨hx, hown, hc, hml, hnm, hrt, hlk, hls, T', _, X', rfl, hZ, hG', (hF.app hFc), ⟨fun x q => hmo.1 x (hMo.1 x q), Nat.le_trans hMo.2 hmo.2⟩, hst.trans st'⟩, hmo.1, hmo.2⟩
theorem Wk.getSN {R0 O host : String} {index : Nat} (A : Wk l Z a0 EL own code ml nm rt R D pc ls st H k n) (w : (Jvm.Cond.fieldLinkNest own index R0 nn d host).before a0 Z = true) (F : Sta Z Z.heap O nn d v) (hd : decode code pc = .ok (.getstatic index, 3)) (via : Via Z R0 O nn d := by exact Via.refl) :
    Wk l Z a0 EL own code ml nm rt R D (pc + 3) ls (v :: st) H k n := by
  obtain ⟨p, e, s, m, args, below, meth, c, s0, H0⟩ := D
  obtain ⟨hx, hown, hc, hml, hnm, hrt, hlk, hls, T, L, X, eT, hZ, hG, hF, hMo, hst⟩ := A
  dsimp only at hx hown hc hml hnm hrt hlk X hZ hG hMo hst
  have hown' := hown
  have hZ' := hZ
  obtain ⟨T', X', e', st'⟩ := RoadKit.getS2 X hx hZ' hown' (Or.inr w) via eT (F.ext hG.1) (g := mkF m pc ls.toArray st) rfl (hb hc hd)
  exact ⟨hx, hown, hc, hml, hnm, hrt, hlk, hls, T', L, X', e', hZ, hG, hF, hMo, hst.trans (st' _ (Steps.refl _))⟩
theorem privS {p : Program} {e : Env} {R : Room} {s : State} {m : MethodId} {args : Array Value} {below : List Frame} {meth : Method} {c : Code} {T : State} {locs : List Loc} {cells slots : Nat} (X : Stand p l e R s m args below meth c T locs cells slots) (hexec : p.tables.exec = Jvm.exec) {own : String} {index : Nat} {y : MethodName} {bytes : ByteArray} {maxL : Nat} {ret : Option FieldType}
    (hown : s.vm.findClass own = some m.cls) (hlink : (Jvm.Cond.methodLink own index y).before args s = true) (hinst : (Jvm.Cond.instanceMethod y).before args s = true) (hnf : NotFace s y) (hpriv : s.PrivateAt y) (hcode : (Jvm.Cond.code y bytes maxL ret).before args s = true) (hy : y.cls ≠ "java/lang/invoke/MethodHandle" ∧ y.cls ≠ "java/lang/invoke/VarHandle")
    {W : Nat} {Pre : Pt → Array Value → Prop} {Post : Pt → Array Value → Option Value → Pt → Prop} (hK : Back l R p e below s args y 3 W Pre Post) {b : Addr} {cB : ClassId} (hrecv : IsOf cB T b)
    {g : JFrame} (hg : g.method = m) (hsize : g.locals.size = c.maxLocals) {argsL rest : List Value} (hlen : ∀ sig, parseMethodDescriptor y.desc = some sig → argsL.length = sig.parameters.length) (hstack : g.stack = argsL.reverse ++ .ref b :: rest) (hW : 2 * g.monitorRoom + (rest.map fun v => v.category).sum ≤ W) (hdg : decode c.code g.pc = .ok (.invokevirtual index, 3))
    (hpre : ∀ vm₁, s.WarmedH vm₁ → Pre ⟨T.setVm vm₁, locs, cells, slots⟩ (.ref b :: argsL).toArray) :
    ∃ (v : Option Value) (vm₁ : Vm) (B : Pt), s.WarmedH vm₁ ∧ Stand p l e R s m args below meth c B.U B.locs B.cells B.slots ∧ Post ⟨T.setVm vm₁, locs, cells, slots⟩ (.ref b :: argsL).toArray v B ∧ Steps p.tables e below (T.setTop g) (B.U.setTop { g with pc := g.pc + 3, stack := v.toList ++ rest }) := by
  obtain ⟨cl, h1, h2, h3⟩ := hrecv
  obtain ⟨mk, mm, n1, n2, n3, n4⟩ := Cond.instanceMethod_spec hinst
  obtain ⟨mm', cM, q1, -, -, -, -, -, -, hsig⟩ := Cond.code_spec n1 hcode
  cases n2.symm.trans q1
  obtain ⟨kr, k1, k2⟩ := hnf mk n1
  obtain ⟨vm₁, X₁, go⟩ := X.invokevirtual hexec hown hlink n1 n2 n3 k1 k2 hy (a := b) (cell := cl) h1 (fun z h => by rw [h] at h3; cases h3) (selectMethod_private n2 (hpriv mk mm n1 n2)) n2 n4 k1 k2 (g := g) hg (argsL := argsL) (rest := rest) (hlen _ hsig) hstack hdg
  obtain ⟨v, B, X', hpost, hst⟩ := hK m meth c ⟨T.setVm vm₁, locs, cells, slots⟩ { g with stack := rest } (.invokevirtual index) mk (.ref b :: argsL).toArray X₁ hg hsize hdg hW (X₁.named n1) (hpre vm₁ X₁.warmed)
  exact ⟨v, vm₁, B, X₁.warmed, X', hpost, (go _ fun acts => by rw [doInvoke_state]; exact Steps.refl _).trans hst⟩
theorem Wk.callP {y : MethodName} {bytes : ByteArray} {ret : Option FieldType} {cml : Nat} {rm : Room} {Q : Option Value → HP → Prop} {argsL : List Value} {index Wd : Nat} (A : Wk l Z a0 EL own code ml nm rt R D pc ls (argsL.reverse ++ .ref a :: st) H k n) (w1 : (Jvm.Cond.methodLink own index y).before a0 Z = true) {C' : String} {y2 : MethodName} (w3 : (Jvm.Cond.selects C' y2 y2).before a0 Z = true) (hc2 : y2.cls = y.cls) (w4 : (Jvm.Cond.privateMethod y).before a0 Z = true) (w5 : (Jvm.Cond.instanceMethod y).before a0 Z = true) (wz : (Jvm.Cond.initialized y.cls).before a0 Z = true) (wc : (Jvm.Cond.code y bytes cml ret).before a0 Z = true) (E : Exa Z H.1 a C) (hM : Ct l Z EL y bytes cml ret rm [] (.ref a :: argsL) H Q) (hy : y.cls ≠ "java/lang/invoke/MethodHandle" ∧ y.cls ≠ "java/lang/invoke/VarHandle") (hlen : ∃ ps r, parseMethodDescriptor y.desc = some ⟨ps, r⟩ ∧ argsL.length = ps.length) (hd : decode code pc = .ok (.invokevirtual index, 3)) (hf : rm.frames + 1 ≤ R.frames) (hW : (st.map fun v => v.category).sum ≤ Wd) (hlo : Wd + (cml + 11) + rm.locals ≤ R.locals) (hcl : k + rm.cells ≤ R.cells) (hsl : n + rm.slots ≤ R.slots) :
    ∃ (v : Option Value) (H' : HP), Q v H' ∧ Wk l Z a0 EL own code ml nm rt R D (pc + 3) ls (v.toList ++ st) H' (k + rm.cells) (n + rm.slots) ∧ (∀ x, H.2 x → H'.2 x) ∧ H.1.size ≤ H'.1.size := by
  obtain ⟨p, e, s, m, args, below, meth, c, s0, H0⟩ := D
  obtain ⟨hx, hown, hc, hml, hnm, hrt, hlk, hls, T, L, X, eT, hZ, hG, hF, hMo, hst⟩ := A
  dsimp only at hx hown hc hml hnm hrt hlk X hZ hG hMo hst
  have hown' := hown
  have hZ' := hZ
  obtain ⟨cB, kB, i1, i2, i3⟩ := isOf (s := s) hZ' eT E
  obtain ⟨v, vm1, ⟨T', L', c', n'⟩, -, X', ⟨Lc, O, hQ, hmo, hG', hFc, l1, l2, l3⟩, st'⟩ := privS X hx hown' (mvT hZ' w1) (mvT hZ' w5) (notFace_cls (mvT hZ' (args := #[]) w3) hc2) (Cond.privateMethod_at (mvT hZ' (args := #[]) w4)) (mvT hZ' wc) hy (ctBack hM hZ wc wz hf hlo hG) i3 (g := mkF m pc ls.toArray (argsL.reverse ++ .ref a :: st)) rfl (by simp [hls, hml]) (by obtain ⟨ps, r, q1, q2⟩ := hlen; exact lenOf q1 q2) rfl (by simpa using hW) (hb hc hd) (fun _ _ => ⟨rfl, eT, hcl, hsl⟩)
  dsimp only [Pt.U, Pt.locs, Pt.cells, Pt.slots] at X' hQ hmo hG' l1 l2 l3 st'
  subst l1 l2 l3
  exact ⟨v, (T'.heap, O), hQ, ⟨hx, hown, hc, hml, hnm, hrt, hlk, hls, T', _, X', rfl, hZ, hG', (hF.app hFc), ⟨fun x q => hmo.1 x (hMo.1 x q), Nat.le_trans hMo.2 hmo.2⟩, hst.trans st'⟩, hmo.1, hmo.2⟩
theorem Wk.anew {C0 : String} {index : Nat} {z : Int32} (A : Wk l Z a0 EL own code ml nm rt R D pc ls (.int z :: st) H k n) (w : (Jvm.Cond.classLink own index C0).before a0 Z = true) (w2 : (Jvm.Cond.arrayOver (.object C0)).before a0 Z = true) (hd : decode code pc = .ok (.anewarray index, 3)) {N : Nat} (hN : N.toInt32 = z) {cap : Nat} (hcap : N ≤ cap) (hbg : cap * 8 ≤ 536870912) (hcl : k + 1 ≤ R.cells) (hsl : n + cap ≤ R.slots) {ad : String} (had : "[" ++ (FieldType.object C0).toString = ad) :
    ∃ (a : Addr) (H' : HP), Wk l Z a0 EL own code ml nm rt R D (pc + 3) ls (.ref a :: st) H' (k + 1) (n + cap) ∧ H.1.size ≤ a ∧ Kp H H' [] ∧ Ar Z H' a (.object C0) (List.replicate N .null) ∧ H'.2 a ∧ Exa Z H'.1 a ad := by
  obtain ⟨p, e, s, m, args, below, meth, c, s0, H0⟩ := D
  obtain ⟨hx, hown, hc, hml, hnm, hrt, hlk, hls, T, L, X, eT, hZ, hG, hF, hMo, hst⟩ := A
  dsimp only at hx hown hc hml hnm hrt hlk X hZ hG hMo hst
  have hown' := hown
  have hZ' := hZ
  subst hN
  have hN2 : N < 2 ^ 31 := by omega
  obtain ⟨T', h', cA, X', e', E, Ex, Ea, -, st'⟩ := RoadKit.newRE X hx hZ' hown' w w2 eT (g := mkF m pc ls.toArray (.int N.toInt32 :: st)) rfl (hb hc hd) rfl (nonneg_nat hN2) (cap := cap) (by rw [clamp_nat hN2]; exact hcap) hbg hcl hsl had
  refine ⟨H.1.size, (h', fun y => H.2 y ∨ y = H.1.size), ⟨hx, hown, hc, hml, hnm, hrt, hlk, hls, T', L, X', e', hZ, (hG.ext E Ex.lt), hF, ⟨fun x q => Or.inl (hMo.1 x q), Nat.le_trans hMo.2 E.1⟩, hst.trans (st' _ (Steps.refl _))⟩, Nat.le_refl _, ⟨(Keep.refl _ _).ext E, fun _ q => Or.inl q⟩, ⟨_, Ex, by simp [Jvm.RoadKit.newA, clamp_nat hN2, defaultValue], by simpa using hN2, fun v hv => ?_⟩, Or.inr rfl, Ea⟩
  obtain ⟨-, rfl⟩ := List.mem_replicate.mp hv
  rfl
theorem Wk.aast {C0 ad : String} {i : Nat} {j : Int32} {y : Addr} (A : Wk l Z a0 EL own code ml nm rt R D pc ls (.ref y :: .int j :: .ref a :: st) H k n) (F : Ar Z H a (.object C0) vs) (E : Exa Z H.1 a ad) (had : "[" ++ (FieldType.object C0).toString = ad) (w2 : (Jvm.Cond.arrayOver (.object C0)).before a0 Z = true) (I : Ins Z H.1 y C0 true) (o : H.2 a) (hd : decode code pc = .ok (.aastore, 1)) (hj : i.toInt32 = j) (hi : i < vs.length) :
    ∃ H' : HP, Wk l Z a0 EL own code ml nm rt R D (pc + 1) ls st H' k n ∧ Kp H H' [a] ∧ Ar Z H' a (.object C0) (vs.set i (.ref y)) := by
  obtain ⟨p, e, s, m, args, below, meth, c, s0, H0⟩ := D
  obtain ⟨hx, hown, hc, hml, hnm, hrt, hlk, hls, T, L, X, eT, hZ, hG, hF, hMo, hst⟩ := A
  dsimp only at hx hown hc hml hnm hrt hlk X hZ hG hMo hst
  have hown' := hown
  have hZ' := hZ
  subst hj
  obtain ⟨cl, Aq, hsl, hlen, hft⟩ := F
  have hsz : cl.slots.size = vs.length := by rw [hsl]; simp
  have hi2 : i < 2 ^ 31 := Nat.lt_trans hi hlen
  have O : Ovr Z cl.cls C0 := by
    obtain ⟨cell, kc, h1, h2, -⟩ := E
    cases Aq.1.symm.trans h1
    obtain ⟨comp, cA, kA, q1, -, q3, q4, q5⟩ := Cond.arrayOver_spec w2
    rw [had] at q5
    cases h2.symm.trans q5
    exact ⟨kA, comp, q3, q4, q1⟩
  obtain ⟨T', h', X', e', Wr1, st'⟩ := RoadKit.stR X hx hZ' eT Aq (by rw [hsz]; exact idx_in hi hlen) rfl (Sto.of Aq O I) (g := mkF m pc ls.toArray (.ref y :: .int i.toInt32 :: .ref a :: st)) rfl rfl (hb hc hd)
  have o2 := hG.2 a o
  refine ⟨(h', H.2), ⟨hx, hown, hc, hml, hnm, hrt, hlk, hls, T', (L ++ [_]), X', e', hZ, (hG.wr Wr1 o), (hF.app fun y hy => by cases List.mem_singleton.mp hy; exact o2.1), ⟨hMo.1, by show _ ≤ h'.size; rw [Wr1.size]; exact hMo.2⟩, hst.trans (st' _ (Steps.refl _))⟩, ⟨Keep.of_wr Wr1, fun _ q => q⟩, ⟨_, Aq.same Wr1, ?_, by simpa using hlen, fun v hv => ?_⟩⟩
  · rw [clamp_nat hi2]; show cl.slots.setIfInBounds i _ = _; rw [hsl]; simp
  · rcases List.mem_or_eq_of_mem_set hv with q | rfl
    · exact hft v q
    · rfl
end Laws

abbrev EL0 : List (String × Nat) := []
def Glb (Z : State) (a0 : Array Value) : Prop := (∀ d ∈ tables_1, d.before a0 Z = true) ∧ (∀ d ∈ jdkStatics_1, d.before a0 Z = true) ∧ Fit Z ∧ narrow_1.value a0 Z none Z [] = some true
def txtAt (k : Nat) : String := match tables_1[k]? with
  | some (.stringLink _ _ t) => t
  | _ => ""
theorem wd_0 {Z : State} {a0 : Array Value} (G : Glb Z a0) : (Jvm.Cond.methodLink "com/example/onepass/onepass/model/WordsEmptyPinLaw" (19 : Nat) ({ cls := "com/example/onepass/onepass/model/WordsEmptyPinLaw", name := "line", desc := "(I)[B" } : Jvm.MethodName)).before a0 Z = true := G.1 _ (List.mem_of_getElem? (i := 0) rfl)
theorem wd_1 {Z : State} {a0 : Array Value} (G : Glb Z a0) : (Jvm.Cond.static ({ cls := "com/example/onepass/onepass/model/WordsEmptyPinLaw", name := "line", desc := "(I)[B" } : Jvm.MethodName)).before a0 Z = true := G.1 _ (List.mem_of_getElem? (i := 1) rfl)
theorem wd_2 {Z : State} {a0 : Array Value} (G : Glb Z a0) : (Jvm.Cond.initialized "com/example/onepass/onepass/model/WordsEmptyPinLaw").before a0 Z = true := G.1 _ (List.mem_of_getElem? (i := 2) rfl)
theorem wd_3 {Z : State} {a0 : Array Value} (G : Glb Z a0) : (Jvm.Cond.code ({ cls := "com/example/onepass/onepass/model/WordsEmptyPinLaw", name := "line", desc := "(I)[B" } : Jvm.MethodName) method_3_code (1 : Nat) (Option.some (Jvm.ClassFile.FieldType.array Jvm.ClassFile.FieldType.byte))).before a0 Z = true := G.1 _ (List.mem_of_getElem? (i := 3) rfl)
theorem wd_4 {Z : State} {a0 : Array Value} (G : Glb Z a0) : (Jvm.Cond.arrayClass Jvm.ClassFile.FieldType.byte).before a0 Z = true := G.1 _ (List.mem_of_getElem? (i := 4) rfl)
theorem wd_5 {Z : State} {a0 : Array Value} (G : Glb Z a0) : (Jvm.Cond.methodLink "com/example/onepass/onepass/model/WordsEmptyPinLaw" (7 : Nat) ({ cls := "com/example/onepass/onepass/model/WordsEmptyPinLaw", name := "pick", desc := "(I)B" } : Jvm.MethodName)).before a0 Z = true := G.1 _ (List.mem_of_getElem? (i := 5) rfl)
theorem wd_6 {Z : State} {a0 : Array Value} (G : Glb Z a0) : (Jvm.Cond.static ({ cls := "com/example/onepass/onepass/model/WordsEmptyPinLaw", name := "pick", desc := "(I)B" } : Jvm.MethodName)).before a0 Z = true := G.1 _ (List.mem_of_getElem? (i := 6) rfl)
theorem wd_7 {Z : State} {a0 : Array Value} (G : Glb Z a0) : (Jvm.Cond.code ({ cls := "com/example/onepass/onepass/model/WordsEmptyPinLaw", name := "pick", desc := "(I)B" } : Jvm.MethodName) method_2_code (3 : Nat) (Option.some Jvm.ClassFile.FieldType.byte)).before a0 Z = true := G.1 _ (List.mem_of_getElem? (i := 7) rfl)
theorem wd_8 {Z : State} {a0 : Array Value} (G : Glb Z a0) : (Jvm.Cond.classLink "com/example/onepass/onepass/model/WordsEmptyPinLaw" (14 : Nat) "com/example/onepass/onepass/model/Words").before a0 Z = true := G.1 _ (List.mem_of_getElem? (i := 8) rfl)
theorem wd_9 {Z : State} {a0 : Array Value} (G : Glb Z a0) : (Jvm.Cond.instantiable "com/example/onepass/onepass/model/Words" (13 : Nat)).before a0 Z = true := G.1 _ (List.mem_of_getElem? (i := 9) rfl)
theorem wd_10 {Z : State} {a0 : Array Value} (G : Glb Z a0) : (Jvm.Cond.initialized "com/example/onepass/onepass/model/Words").before a0 Z = true := G.1 _ (List.mem_of_getElem? (i := 10) rfl)
theorem wd_11 {Z : State} {a0 : Array Value} (G : Glb Z a0) : (Jvm.Cond.methodLink "com/example/onepass/onepass/model/WordsEmptyPinLaw" (23 : Nat) ({ cls := "com/example/onepass/onepass/model/Words", name := "<init>", desc := "()V" } : Jvm.MethodName)).before a0 Z = true := G.1 _ (List.mem_of_getElem? (i := 11) rfl)
theorem wd_12 {Z : State} {a0 : Array Value} (G : Glb Z a0) : (Jvm.Cond.instanceMethod ({ cls := "com/example/onepass/onepass/model/Words", name := "<init>", desc := "()V" } : Jvm.MethodName)).before a0 Z = true := G.1 _ (List.mem_of_getElem? (i := 12) rfl)
theorem wd_13 {Z : State} {a0 : Array Value} (G : Glb Z a0) : (Jvm.Cond.code ({ cls := "com/example/onepass/onepass/model/Words", name := "<init>", desc := "()V" } : Jvm.MethodName) prog_85_method_1_code (1 : Nat) (Option.none : Option Jvm.ClassFile.FieldType)).before a0 Z = true := G.1 _ (List.mem_of_getElem? (i := 13) rfl)
theorem wd_14 {Z : State} {a0 : Array Value} (G : Glb Z a0) : (Jvm.Cond.methodLink "com/example/onepass/onepass/model/Words" (1 : Nat) ({ cls := "java/lang/Object", name := "<init>", desc := "()V" } : Jvm.MethodName)).before a0 Z = true := G.1 _ (List.mem_of_getElem? (i := 14) rfl)
theorem wd_15 {Z : State} {a0 : Array Value} (G : Glb Z a0) : (Jvm.Cond.instanceMethod ({ cls := "java/lang/Object", name := "<init>", desc := "()V" } : Jvm.MethodName)).before a0 Z = true := G.1 _ (List.mem_of_getElem? (i := 15) rfl)
theorem wd_16 {Z : State} {a0 : Array Value} (G : Glb Z a0) : (Jvm.Cond.code ({ cls := "java/lang/Object", name := "<init>", desc := "()V" } : Jvm.MethodName) object_method_1_code (1 : Nat) (Option.none : Option Jvm.ClassFile.FieldType)).before a0 Z = true := G.1 _ (List.mem_of_getElem? (i := 16) rfl)
theorem wd_17 {Z : State} {a0 : Array Value} (G : Glb Z a0) : (Jvm.Cond.classLink "com/example/onepass/onepass/model/Words" (7 : Nat) "java/lang/String").before a0 Z = true := G.1 _ (List.mem_of_getElem? (i := 17) rfl)
theorem wd_18 {Z : State} {a0 : Array Value} (G : Glb Z a0) : (Jvm.Cond.arrayOver (Jvm.ClassFile.FieldType.object "java/lang/String")).before a0 Z = true := G.1 _ (List.mem_of_getElem? (i := 18) rfl)
theorem wd_19 {Z : State} {a0 : Array Value} (G : Glb Z a0) : (Jvm.Cond.fieldLink "com/example/onepass/onepass/model/Words" (9 : Nat) "com/example/onepass/onepass/model/Words" "words" "[Ljava/lang/String;").before a0 Z = true := G.1 _ (List.mem_of_getElem? (i := 19) rfl)
theorem wd_20 {Z : State} {a0 : Array Value} (G : Glb Z a0) : (Jvm.Cond.lays "com/example/onepass/onepass/model/Words" "com/example/onepass/onepass/model/Words" "words" "[Ljava/lang/String;").before a0 Z = true := G.1 _ (List.mem_of_getElem? (i := 20) rfl)
theorem wd_21 {Z : State} {a0 : Array Value} (G : Glb Z a0) : (Jvm.Cond.arrayClass Jvm.ClassFile.FieldType.long).before a0 Z = true := G.1 _ (List.mem_of_getElem? (i := 21) rfl)
theorem wd_22 {Z : State} {a0 : Array Value} (G : Glb Z a0) : (Jvm.Cond.fieldLink "com/example/onepass/onepass/model/Words" (15 : Nat) "com/example/onepass/onepass/model/Words" "packedSlots" "[J").before a0 Z = true := G.1 _ (List.mem_of_getElem? (i := 22) rfl)
theorem wd_23 {Z : State} {a0 : Array Value} (G : Glb Z a0) : (Jvm.Cond.lays "com/example/onepass/onepass/model/Words" "com/example/onepass/onepass/model/Words" "packedSlots" "[J").before a0 Z = true := G.1 _ (List.mem_of_getElem? (i := 23) rfl)
theorem wd_24 {Z : State} {a0 : Array Value} (G : Glb Z a0) : (Jvm.Cond.arrayClass Jvm.ClassFile.FieldType.int).before a0 Z = true := G.1 _ (List.mem_of_getElem? (i := 24) rfl)
theorem wd_25 {Z : State} {a0 : Array Value} (G : Glb Z a0) : (Jvm.Cond.fieldLink "com/example/onepass/onepass/model/Words" (19 : Nat) "com/example/onepass/onepass/model/Words" "packedIds" "[I").before a0 Z = true := G.1 _ (List.mem_of_getElem? (i := 25) rfl)
theorem wd_26 {Z : State} {a0 : Array Value} (G : Glb Z a0) : (Jvm.Cond.lays "com/example/onepass/onepass/model/Words" "com/example/onepass/onepass/model/Words" "packedIds" "[I").before a0 Z = true := G.1 _ (List.mem_of_getElem? (i := 26) rfl)
theorem wd_27 {Z : State} {a0 : Array Value} (G : Glb Z a0) : (Jvm.Cond.fieldLink "com/example/onepass/onepass/model/Words" (23 : Nat) "com/example/onepass/onepass/model/Words" "letters" "[B").before a0 Z = true := G.1 _ (List.mem_of_getElem? (i := 27) rfl)
theorem wd_28 {Z : State} {a0 : Array Value} (G : Glb Z a0) : (Jvm.Cond.lays "com/example/onepass/onepass/model/Words" "com/example/onepass/onepass/model/Words" "letters" "[B").before a0 Z = true := G.1 _ (List.mem_of_getElem? (i := 28) rfl)
theorem wd_29 {Z : State} {a0 : Array Value} (G : Glb Z a0) : (Jvm.Cond.fieldLink "com/example/onepass/onepass/model/Words" (27 : Nat) "com/example/onepass/onepass/model/Words" "starts" "[I").before a0 Z = true := G.1 _ (List.mem_of_getElem? (i := 29) rfl)
theorem wd_30 {Z : State} {a0 : Array Value} (G : Glb Z a0) : (Jvm.Cond.lays "com/example/onepass/onepass/model/Words" "com/example/onepass/onepass/model/Words" "starts" "[I").before a0 Z = true := G.1 _ (List.mem_of_getElem? (i := 30) rfl)
theorem wd_31 {Z : State} {a0 : Array Value} (G : Glb Z a0) : (Jvm.Cond.fieldLink "com/example/onepass/onepass/model/Words" (30 : Nat) "com/example/onepass/onepass/model/Words" "longIds" "[I").before a0 Z = true := G.1 _ (List.mem_of_getElem? (i := 31) rfl)
theorem wd_32 {Z : State} {a0 : Array Value} (G : Glb Z a0) : (Jvm.Cond.lays "com/example/onepass/onepass/model/Words" "com/example/onepass/onepass/model/Words" "longIds" "[I").before a0 Z = true := G.1 _ (List.mem_of_getElem? (i := 32) rfl)
theorem wd_33 {Z : State} {a0 : Array Value} (G : Glb Z a0) : (Jvm.Cond.fieldLink "com/example/onepass/onepass/model/Words" (33 : Nat) "com/example/onepass/onepass/model/Words" "longSlots" "[J").before a0 Z = true := G.1 _ (List.mem_of_getElem? (i := 33) rfl)
theorem wd_34 {Z : State} {a0 : Array Value} (G : Glb Z a0) : (Jvm.Cond.lays "com/example/onepass/onepass/model/Words" "com/example/onepass/onepass/model/Words" "longSlots" "[J").before a0 Z = true := G.1 _ (List.mem_of_getElem? (i := 34) rfl)
theorem wd_35 {Z : State} {a0 : Array Value} (G : Glb Z a0) : (Jvm.Cond.fieldLink "com/example/onepass/onepass/model/Words" (36 : Nat) "com/example/onepass/onepass/model/Words" "tally" "[J").before a0 Z = true := G.1 _ (List.mem_of_getElem? (i := 35) rfl)
theorem wd_36 {Z : State} {a0 : Array Value} (G : Glb Z a0) : (Jvm.Cond.lays "com/example/onepass/onepass/model/Words" "com/example/onepass/onepass/model/Words" "tally" "[J").before a0 Z = true := G.1 _ (List.mem_of_getElem? (i := 36) rfl)
theorem wd_37 {Z : State} {a0 : Array Value} (G : Glb Z a0) : (Jvm.Cond.fieldLink "com/example/onepass/onepass/model/Words" (39 : Nat) "com/example/onepass/onepass/model/Words" "tallied" "[I").before a0 Z = true := G.1 _ (List.mem_of_getElem? (i := 37) rfl)
theorem wd_38 {Z : State} {a0 : Array Value} (G : Glb Z a0) : (Jvm.Cond.lays "com/example/onepass/onepass/model/Words" "com/example/onepass/onepass/model/Words" "tallied" "[I").before a0 Z = true := G.1 _ (List.mem_of_getElem? (i := 38) rfl)
theorem wd_39 {Z : State} {a0 : Array Value} (G : Glb Z a0) : (Jvm.Cond.methodLink "com/example/onepass/onepass/model/WordsEmptyPinLaw" (24 : Nat) ({ cls := "com/example/onepass/onepass/model/Words", name := "read", desc := "([BII)V" } : Jvm.MethodName)).before a0 Z = true := G.1 _ (List.mem_of_getElem? (i := 39) rfl)
theorem wd_40 {Z : State} {a0 : Array Value} (G : Glb Z a0) : (Jvm.Cond.declares ({ cls := "com/example/onepass/onepass/model/Words", name := "read", desc := "([BII)V" } : Jvm.MethodName)).before a0 Z = true := G.1 _ (List.mem_of_getElem? (i := 40) rfl)
theorem wd_41 {Z : State} {a0 : Array Value} (G : Glb Z a0) : (Jvm.Cond.instanceMethod ({ cls := "com/example/onepass/onepass/model/Words", name := "read", desc := "([BII)V" } : Jvm.MethodName)).before a0 Z = true := G.1 _ (List.mem_of_getElem? (i := 41) rfl)
theorem wd_42 {Z : State} {a0 : Array Value} (G : Glb Z a0) : (Jvm.Cond.selects "com/example/onepass/onepass/model/Words" ({ cls := "com/example/onepass/onepass/model/Words", name := "read", desc := "([BII)V" } : Jvm.MethodName) ({ cls := "com/example/onepass/onepass/model/Words", name := "read", desc := "([BII)V" } : Jvm.MethodName)).before a0 Z = true := G.1 _ (List.mem_of_getElem? (i := 42) rfl)
theorem wd_43 {Z : State} {a0 : Array Value} (G : Glb Z a0) : (Jvm.Cond.code ({ cls := "com/example/onepass/onepass/model/Words", name := "read", desc := "([BII)V" } : Jvm.MethodName) prog_85_method_2_code (10 : Nat) (Option.none : Option Jvm.ClassFile.FieldType)).before a0 Z = true := G.1 _ (List.mem_of_getElem? (i := 43) rfl)
theorem wd_44 {Z : State} {a0 : Array Value} (G : Glb Z a0) : (Jvm.Cond.fieldLink "com/example/onepass/onepass/model/Words" (42 : Nat) "com/example/onepass/onepass/model/Words" "LETTER_NUMBERS" "[B").before a0 Z = true := G.1 _ (List.mem_of_getElem? (i := 44) rfl)
theorem wd_45 {Z : State} {a0 : Array Value} (G : Glb Z a0) : (Jvm.Cond.laysStatic "com/example/onepass/onepass/model/Words" "LETTER_NUMBERS" "[B").before a0 Z = true := G.1 _ (List.mem_of_getElem? (i := 45) rfl)
theorem wd_46 {Z : State} {a0 : Array Value} (G : Glb Z a0) : (Jvm.Cond.methodLink "com/example/onepass/onepass/model/Words" (45 : Nat) ({ cls := "com/example/onepass/onepass/model/Words", name := "packedNumber", desc := "(J)I" } : Jvm.MethodName)).before a0 Z = true := G.1 _ (List.mem_of_getElem? (i := 46) rfl)
theorem wd_47 {Z : State} {a0 : Array Value} (G : Glb Z a0) : (Jvm.Cond.instanceMethod ({ cls := "com/example/onepass/onepass/model/Words", name := "packedNumber", desc := "(J)I" } : Jvm.MethodName)).before a0 Z = true := G.1 _ (List.mem_of_getElem? (i := 47) rfl)
theorem wd_48 {Z : State} {a0 : Array Value} (G : Glb Z a0) : (Jvm.Cond.privateMethod ({ cls := "com/example/onepass/onepass/model/Words", name := "packedNumber", desc := "(J)I" } : Jvm.MethodName)).before a0 Z = true := G.1 _ (List.mem_of_getElem? (i := 48) rfl)
theorem wd_49 {Z : State} {a0 : Array Value} (G : Glb Z a0) : (Jvm.Cond.code ({ cls := "com/example/onepass/onepass/model/Words", name := "packedNumber", desc := "(J)I" } : Jvm.MethodName) prog_85_method_10_code (7 : Nat) (Option.some Jvm.ClassFile.FieldType.int)).before a0 Z = true := G.1 _ (List.mem_of_getElem? (i := 49) rfl)
theorem wd_50 {Z : State} {a0 : Array Value} (G : Glb Z a0) : (Jvm.Cond.methodLink "com/example/onepass/onepass/model/Words" (70 : Nat) ({ cls := "com/example/onepass/onepass/model/Words", name := "spread", desc := "(J)I" } : Jvm.MethodName)).before a0 Z = true := G.1 _ (List.mem_of_getElem? (i := 50) rfl)
theorem wd_51 {Z : State} {a0 : Array Value} (G : Glb Z a0) : (Jvm.Cond.static ({ cls := "com/example/onepass/onepass/model/Words", name := "spread", desc := "(J)I" } : Jvm.MethodName)).before a0 Z = true := G.1 _ (List.mem_of_getElem? (i := 51) rfl)
theorem wd_52 {Z : State} {a0 : Array Value} (G : Glb Z a0) : (Jvm.Cond.code ({ cls := "com/example/onepass/onepass/model/Words", name := "spread", desc := "(J)I" } : Jvm.MethodName) prog_85_method_20_code (2 : Nat) (Option.some Jvm.ClassFile.FieldType.int)).before a0 Z = true := G.1 _ (List.mem_of_getElem? (i := 52) rfl)
theorem wd_53 {Z : State} {a0 : Array Value} (G : Glb Z a0) : (Jvm.Cond.constantLong "com/example/onepass/onepass/model/Words" (179 : Nat) (-7046029254386353131 : Int64)).before a0 Z = true := G.1 _ (List.mem_of_getElem? (i := 53) rfl)
theorem wd_54 {Z : State} {a0 : Array Value} (G : Glb Z a0) : (Jvm.Cond.fieldLink "com/example/onepass/onepass/model/Words" (73 : Nat) "com/example/onepass/onepass/model/Words" "packedSize" "I").before a0 Z = true := G.1 _ (List.mem_of_getElem? (i := 54) rfl)
theorem wd_55 {Z : State} {a0 : Array Value} (G : Glb Z a0) : (Jvm.Cond.lays "com/example/onepass/onepass/model/Words" "com/example/onepass/onepass/model/Words" "packedSize" "I").before a0 Z = true := G.1 _ (List.mem_of_getElem? (i := 55) rfl)
theorem wd_56 {Z : State} {a0 : Array Value} (G : Glb Z a0) : (Jvm.Cond.methodLink "com/example/onepass/onepass/model/Words" (79 : Nat) ({ cls := "com/example/onepass/onepass/model/Words", name := "unpack", desc := "(J)Ljava/lang/String;" } : Jvm.MethodName)).before a0 Z = true := G.1 _ (List.mem_of_getElem? (i := 56) rfl)
theorem wd_57 {Z : State} {a0 : Array Value} (G : Glb Z a0) : (Jvm.Cond.static ({ cls := "com/example/onepass/onepass/model/Words", name := "unpack", desc := "(J)Ljava/lang/String;" } : Jvm.MethodName)).before a0 Z = true := G.1 _ (List.mem_of_getElem? (i := 57) rfl)
theorem wd_58 {Z : State} {a0 : Array Value} (G : Glb Z a0) : (Jvm.Cond.code ({ cls := "com/example/onepass/onepass/model/Words", name := "unpack", desc := "(J)Ljava/lang/String;" } : Jvm.MethodName) prog_85_method_19_code (5 : Nat) (Option.some (Jvm.ClassFile.FieldType.object "java/lang/String"))).before a0 Z = true := G.1 _ (List.mem_of_getElem? (i := 58) rfl)
theorem wd_59 {Z : State} {a0 : Array Value} (G : Glb Z a0) : (Jvm.Cond.classLink "com/example/onepass/onepass/model/Words" (159 : Nat) "java/lang/StringBuilder").before a0 Z = true := G.1 _ (List.mem_of_getElem? (i := 59) rfl)
theorem wd_60 {Z : State} {a0 : Array Value} (G : Glb Z a0) : (Jvm.Cond.instantiable "java/lang/StringBuilder" (4 : Nat)).before a0 Z = true := G.1 _ (List.mem_of_getElem? (i := 60) rfl)
theorem wd_61 {Z : State} {a0 : Array Value} (G : Glb Z a0) : (Jvm.Cond.initialized "java/lang/StringBuilder").before a0 Z = true := G.1 _ (List.mem_of_getElem? (i := 61) rfl)
theorem wd_62 {Z : State} {a0 : Array Value} (G : Glb Z a0) : (Jvm.Cond.methodLink "com/example/onepass/onepass/model/Words" (161 : Nat) ({ cls := "java/lang/StringBuilder", name := "<init>", desc := "(I)V" } : Jvm.MethodName)).before a0 Z = true := G.1 _ (List.mem_of_getElem? (i := 62) rfl)
theorem wd_63 {Z : State} {a0 : Array Value} (G : Glb Z a0) : (Jvm.Cond.instanceMethod ({ cls := "java/lang/StringBuilder", name := "<init>", desc := "(I)V" } : Jvm.MethodName)).before a0 Z = true := G.1 _ (List.mem_of_getElem? (i := 63) rfl)
theorem wd_64 {Z : State} {a0 : Array Value} (G : Glb Z a0) : (Jvm.Cond.code ({ cls := "java/lang/StringBuilder", name := "<init>", desc := "(I)V" } : Jvm.MethodName) jdk_67_method_2_code (2 : Nat) (Option.none : Option Jvm.ClassFile.FieldType)).before a0 Z = true := G.1 _ (List.mem_of_getElem? (i := 64) rfl)
theorem wd_65 {Z : State} {a0 : Array Value} (G : Glb Z a0) : (Jvm.Cond.methodLink "java/lang/StringBuilder" (1 : Nat) ({ cls := "java/lang/AbstractStringBuilder", name := "<init>", desc := "(I)V" } : Jvm.MethodName)).before a0 Z = true := G.1 _ (List.mem_of_getElem? (i := 65) rfl)
theorem wd_66 {Z : State} {a0 : Array Value} (G : Glb Z a0) : (Jvm.Cond.instanceMethod ({ cls := "java/lang/AbstractStringBuilder", name := "<init>", desc := "(I)V" } : Jvm.MethodName)).before a0 Z = true := G.1 _ (List.mem_of_getElem? (i := 66) rfl)
theorem wd_69 {Z : State} {a0 : Array Value} (G : Glb Z a0) : (Jvm.Cond.initialized "java/lang/AbstractStringBuilder").before a0 Z = true := G.1 _ (List.mem_of_getElem? (i := 69) rfl)
theorem wd_70 {Z : State} {a0 : Array Value} (G : Glb Z a0) : (Jvm.Cond.code ({ cls := "java/lang/AbstractStringBuilder", name := "<init>", desc := "(I)V" } : Jvm.MethodName) jdk_68_method_2_code (2 : Nat) (Option.none : Option Jvm.ClassFile.FieldType)).before a0 Z = true := G.1 _ (List.mem_of_getElem? (i := 70) rfl)
theorem wd_71 {Z : State} {a0 : Array Value} (G : Glb Z a0) : (Jvm.Cond.methodLink "java/lang/AbstractStringBuilder" (3 : Nat) ({ cls := "java/lang/Object", name := "<init>", desc := "()V" } : Jvm.MethodName)).before a0 Z = true := G.1 _ (List.mem_of_getElem? (i := 71) rfl)
theorem wd_72 {Z : State} {a0 : Array Value} (G : Glb Z a0) : (Jvm.Cond.fieldLink "java/lang/AbstractStringBuilder" (18 : Nat) "java/lang/String" "COMPACT_STRINGS" "Z").before a0 Z = true := G.1 _ (List.mem_of_getElem? (i := 72) rfl)
theorem wd_73 {Z : State} {a0 : Array Value} (G : Glb Z a0) : (Jvm.Cond.initialized "java/lang/String").before a0 Z = true := G.1 _ (List.mem_of_getElem? (i := 73) rfl)
theorem wd_74 {Z : State} {a0 : Array Value} (G : Glb Z a0) : (Jvm.Cond.fieldLink "java/lang/AbstractStringBuilder" (15 : Nat) "java/lang/AbstractStringBuilder" "value" "[B").before a0 Z = true := G.1 _ (List.mem_of_getElem? (i := 74) rfl)
theorem wd_75 {Z : State} {a0 : Array Value} (G : Glb Z a0) : (Jvm.Cond.lays "java/lang/StringBuilder" "java/lang/AbstractStringBuilder" "value" "[B").before a0 Z = true := G.1 _ (List.mem_of_getElem? (i := 75) rfl)
theorem wd_76 {Z : State} {a0 : Array Value} (G : Glb Z a0) : (Jvm.Cond.fieldLink "java/lang/AbstractStringBuilder" (22 : Nat) "java/lang/AbstractStringBuilder" "coder" "B").before a0 Z = true := G.1 _ (List.mem_of_getElem? (i := 76) rfl)
theorem wd_77 {Z : State} {a0 : Array Value} (G : Glb Z a0) : (Jvm.Cond.lays "java/lang/StringBuilder" "java/lang/AbstractStringBuilder" "coder" "B").before a0 Z = true := G.1 _ (List.mem_of_getElem? (i := 77) rfl)
theorem wd_78 {Z : State} {a0 : Array Value} (G : Glb Z a0) : (Jvm.Cond.constantLong "com/example/onepass/onepass/model/Words" (163 : Nat) (96 : Int64)).before a0 Z = true := G.1 _ (List.mem_of_getElem? (i := 78) rfl)
theorem wd_79 {Z : State} {a0 : Array Value} (G : Glb Z a0) : (Jvm.Cond.constantLong "com/example/onepass/onepass/model/Words" (165 : Nat) (31 : Int64)).before a0 Z = true := G.1 _ (List.mem_of_getElem? (i := 79) rfl)
theorem wd_80 {Z : State} {a0 : Array Value} (G : Glb Z a0) : (Jvm.Cond.methodLink "com/example/onepass/onepass/model/Words" (167 : Nat) ({ cls := "java/lang/StringBuilder", name := "append", desc := "(C)Ljava/lang/StringBuilder;" } : Jvm.MethodName)).before a0 Z = true := G.1 _ (List.mem_of_getElem? (i := 80) rfl)
theorem wd_81 {Z : State} {a0 : Array Value} (G : Glb Z a0) : (Jvm.Cond.declares ({ cls := "java/lang/StringBuilder", name := "append", desc := "(C)Ljava/lang/StringBuilder;" } : Jvm.MethodName)).before a0 Z = true := G.1 _ (List.mem_of_getElem? (i := 81) rfl)
theorem wd_82 {Z : State} {a0 : Array Value} (G : Glb Z a0) : (Jvm.Cond.instanceMethod ({ cls := "java/lang/StringBuilder", name := "append", desc := "(C)Ljava/lang/StringBuilder;" } : Jvm.MethodName)).before a0 Z = true := G.1 _ (List.mem_of_getElem? (i := 82) rfl)
theorem wd_83 {Z : State} {a0 : Array Value} (G : Glb Z a0) : (Jvm.Cond.selects "java/lang/StringBuilder" ({ cls := "java/lang/StringBuilder", name := "append", desc := "(C)Ljava/lang/StringBuilder;" } : Jvm.MethodName) ({ cls := "java/lang/StringBuilder", name := "append", desc := "(C)Ljava/lang/StringBuilder;" } : Jvm.MethodName)).before a0 Z = true := G.1 _ (List.mem_of_getElem? (i := 83) rfl)
theorem wd_84 {Z : State} {a0 : Array Value} (G : Glb Z a0) : (Jvm.Cond.code ({ cls := "java/lang/StringBuilder", name := "append", desc := "(C)Ljava/lang/StringBuilder;" } : Jvm.MethodName) jdk_67_method_14_code (2 : Nat) (Option.some (Jvm.ClassFile.FieldType.object "java/lang/StringBuilder"))).before a0 Z = true := G.1 _ (List.mem_of_getElem? (i := 84) rfl)
theorem wd_85 {Z : State} {a0 : Array Value} (G : Glb Z a0) : (Jvm.Cond.methodLink "java/lang/StringBuilder" (50 : Nat) ({ cls := "java/lang/AbstractStringBuilder", name := "append", desc := "(C)Ljava/lang/AbstractStringBuilder;" } : Jvm.MethodName)).before a0 Z = true := G.1 _ (List.mem_of_getElem? (i := 85) rfl)
theorem wd_86 {Z : State} {a0 : Array Value} (G : Glb Z a0) : (Jvm.Cond.instanceMethod ({ cls := "java/lang/AbstractStringBuilder", name := "append", desc := "(C)Ljava/lang/AbstractStringBuilder;" } : Jvm.MethodName)).before a0 Z = true := G.1 _ (List.mem_of_getElem? (i := 86) rfl)
theorem wd_87 {Z : State} {a0 : Array Value} (G : Glb Z a0) : (Jvm.Cond.superclass "java/lang/StringBuilder" "java/lang/AbstractStringBuilder").before a0 Z = true := G.1 _ (List.mem_of_getElem? (i := 87) rfl)
theorem wd_88 {Z : State} {a0 : Array Value} (G : Glb Z a0) : (Jvm.Cond.declares ({ cls := "java/lang/AbstractStringBuilder", name := "append", desc := "(C)Ljava/lang/AbstractStringBuilder;" } : Jvm.MethodName)).before a0 Z = true := G.1 _ (List.mem_of_getElem? (i := 88) rfl)
theorem wd_89 {Z : State} {a0 : Array Value} (G : Glb Z a0) : (Jvm.Cond.code ({ cls := "java/lang/AbstractStringBuilder", name := "append", desc := "(C)Ljava/lang/AbstractStringBuilder;" } : Jvm.MethodName) jdk_68_method_31_code (2 : Nat) (Option.some (Jvm.ClassFile.FieldType.object "java/lang/AbstractStringBuilder"))).before a0 Z = true := G.1 _ (List.mem_of_getElem? (i := 89) rfl)
theorem wd_90 {Z : State} {a0 : Array Value} (G : Glb Z a0) : (Jvm.Cond.fieldLink "java/lang/AbstractStringBuilder" (79 : Nat) "java/lang/AbstractStringBuilder" "count" "I").before a0 Z = true := G.1 _ (List.mem_of_getElem? (i := 90) rfl)
theorem wd_91 {Z : State} {a0 : Array Value} (G : Glb Z a0) : (Jvm.Cond.lays "java/lang/StringBuilder" "java/lang/AbstractStringBuilder" "count" "I").before a0 Z = true := G.1 _ (List.mem_of_getElem? (i := 91) rfl)
theorem wd_92 {Z : State} {a0 : Array Value} (G : Glb Z a0) : (Jvm.Cond.methodLink "java/lang/AbstractStringBuilder" (100 : Nat) ({ cls := "java/lang/AbstractStringBuilder", name := "ensureCapacityInternal", desc := "(I)V" } : Jvm.MethodName)).before a0 Z = true := G.1 _ (List.mem_of_getElem? (i := 92) rfl)
theorem wd_93 {Z : State} {a0 : Array Value} (G : Glb Z a0) : (Jvm.Cond.instanceMethod ({ cls := "java/lang/AbstractStringBuilder", name := "ensureCapacityInternal", desc := "(I)V" } : Jvm.MethodName)).before a0 Z = true := G.1 _ (List.mem_of_getElem? (i := 93) rfl)
theorem wd_95 {Z : State} {a0 : Array Value} (G : Glb Z a0) : (Jvm.Cond.selects "java/lang/StringBuilder" ({ cls := "java/lang/AbstractStringBuilder", name := "ensureCapacityInternal", desc := "(I)V" } : Jvm.MethodName) ({ cls := "java/lang/AbstractStringBuilder", name := "ensureCapacityInternal", desc := "(I)V" } : Jvm.MethodName)).before a0 Z = true := G.1 _ (List.mem_of_getElem? (i := 95) rfl)
theorem wd_96 {Z : State} {a0 : Array Value} (G : Glb Z a0) : (Jvm.Cond.code ({ cls := "java/lang/AbstractStringBuilder", name := "ensureCapacityInternal", desc := "(I)V" } : Jvm.MethodName) jdk_68_method_9_code (3 : Nat) (Option.none : Option Jvm.ClassFile.FieldType)).before a0 Z = true := G.1 _ (List.mem_of_getElem? (i := 96) rfl)
theorem wd_97 {Z : State} {a0 : Array Value} (G : Glb Z a0) : (Jvm.Cond.methodLink "java/lang/AbstractStringBuilder" (83 : Nat) ({ cls := "java/lang/AbstractStringBuilder", name := "isLatin1", desc := "()Z" } : Jvm.MethodName)).before a0 Z = true := G.1 _ (List.mem_of_getElem? (i := 97) rfl)
theorem wd_98 {Z : State} {a0 : Array Value} (G : Glb Z a0) : (Jvm.Cond.declares ({ cls := "java/lang/AbstractStringBuilder", name := "isLatin1", desc := "()Z" } : Jvm.MethodName)).before a0 Z = true := G.1 _ (List.mem_of_getElem? (i := 98) rfl)
theorem wd_99 {Z : State} {a0 : Array Value} (G : Glb Z a0) : (Jvm.Cond.instanceMethod ({ cls := "java/lang/AbstractStringBuilder", name := "isLatin1", desc := "()Z" } : Jvm.MethodName)).before a0 Z = true := G.1 _ (List.mem_of_getElem? (i := 99) rfl)
theorem wd_100 {Z : State} {a0 : Array Value} (G : Glb Z a0) : (Jvm.Cond.selects "java/lang/StringBuilder" ({ cls := "java/lang/AbstractStringBuilder", name := "isLatin1", desc := "()Z" } : Jvm.MethodName) ({ cls := "java/lang/AbstractStringBuilder", name := "isLatin1", desc := "()Z" } : Jvm.MethodName)).before a0 Z = true := G.1 _ (List.mem_of_getElem? (i := 100) rfl)
theorem wd_101 {Z : State} {a0 : Array Value} (G : Glb Z a0) : (Jvm.Cond.code ({ cls := "java/lang/AbstractStringBuilder", name := "isLatin1", desc := "()Z" } : Jvm.MethodName) jdk_68_method_68_code (1 : Nat) (Option.some Jvm.ClassFile.FieldType.boolean)).before a0 Z = true := G.1 _ (List.mem_of_getElem? (i := 101) rfl)
theorem wd_102 {Z : State} {a0 : Array Value} (G : Glb Z a0) : (Jvm.Cond.methodLink "java/lang/AbstractStringBuilder" (191 : Nat) ({ cls := "java/lang/StringLatin1", name := "canEncode", desc := "(C)Z" } : Jvm.MethodName)).before a0 Z = true := G.1 _ (List.mem_of_getElem? (i := 102) rfl)
theorem wd_103 {Z : State} {a0 : Array Value} (G : Glb Z a0) : (Jvm.Cond.static ({ cls := "java/lang/StringLatin1", name := "canEncode", desc := "(C)Z" } : Jvm.MethodName)).before a0 Z = true := G.1 _ (List.mem_of_getElem? (i := 103) rfl)
theorem wd_104 {Z : State} {a0 : Array Value} (G : Glb Z a0) : (Jvm.Cond.initialized "java/lang/StringLatin1").before a0 Z = true := G.1 _ (List.mem_of_getElem? (i := 104) rfl)
theorem wd_105 {Z : State} {a0 : Array Value} (G : Glb Z a0) : (Jvm.Cond.code ({ cls := "java/lang/StringLatin1", name := "canEncode", desc := "(C)Z" } : Jvm.MethodName) jdk_43_method_3_code (1 : Nat) (Option.some Jvm.ClassFile.FieldType.boolean)).before a0 Z = true := G.1 _ (List.mem_of_getElem? (i := 105) rfl)
theorem wd_106 {Z : State} {a0 : Array Value} (G : Glb Z a0) : (Jvm.Cond.methodLink "com/example/onepass/onepass/model/Words" (171 : Nat) ({ cls := "java/lang/StringBuilder", name := "reverse", desc := "()Ljava/lang/StringBuilder;" } : Jvm.MethodName)).before a0 Z = true := G.1 _ (List.mem_of_getElem? (i := 106) rfl)
theorem wd_107 {Z : State} {a0 : Array Value} (G : Glb Z a0) : (Jvm.Cond.declares ({ cls := "java/lang/StringBuilder", name := "reverse", desc := "()Ljava/lang/StringBuilder;" } : Jvm.MethodName)).before a0 Z = true := G.1 _ (List.mem_of_getElem? (i := 107) rfl)
theorem wd_108 {Z : State} {a0 : Array Value} (G : Glb Z a0) : (Jvm.Cond.instanceMethod ({ cls := "java/lang/StringBuilder", name := "reverse", desc := "()Ljava/lang/StringBuilder;" } : Jvm.MethodName)).before a0 Z = true := G.1 _ (List.mem_of_getElem? (i := 108) rfl)
theorem wd_109 {Z : State} {a0 : Array Value} (G : Glb Z a0) : (Jvm.Cond.selects "java/lang/StringBuilder" ({ cls := "java/lang/StringBuilder", name := "reverse", desc := "()Ljava/lang/StringBuilder;" } : Jvm.MethodName) ({ cls := "java/lang/StringBuilder", name := "reverse", desc := "()Ljava/lang/StringBuilder;" } : Jvm.MethodName)).before a0 Z = true := G.1 _ (List.mem_of_getElem? (i := 109) rfl)
theorem wd_110 {Z : State} {a0 : Array Value} (G : Glb Z a0) : (Jvm.Cond.code ({ cls := "java/lang/StringBuilder", name := "reverse", desc := "()Ljava/lang/StringBuilder;" } : Jvm.MethodName) jdk_67_method_39_code (1 : Nat) (Option.some (Jvm.ClassFile.FieldType.object "java/lang/StringBuilder"))).before a0 Z = true := G.1 _ (List.mem_of_getElem? (i := 110) rfl)
theorem wd_111 {Z : State} {a0 : Array Value} (G : Glb Z a0) : (Jvm.Cond.methodLink "java/lang/StringBuilder" (127 : Nat) ({ cls := "java/lang/AbstractStringBuilder", name := "reverse", desc := "()Ljava/lang/AbstractStringBuilder;" } : Jvm.MethodName)).before a0 Z = true := G.1 _ (List.mem_of_getElem? (i := 111) rfl)
theorem wd_112 {Z : State} {a0 : Array Value} (G : Glb Z a0) : (Jvm.Cond.instanceMethod ({ cls := "java/lang/AbstractStringBuilder", name := "reverse", desc := "()Ljava/lang/AbstractStringBuilder;" } : Jvm.MethodName)).before a0 Z = true := G.1 _ (List.mem_of_getElem? (i := 112) rfl)
theorem wd_113 {Z : State} {a0 : Array Value} (G : Glb Z a0) : (Jvm.Cond.declares ({ cls := "java/lang/AbstractStringBuilder", name := "reverse", desc := "()Ljava/lang/AbstractStringBuilder;" } : Jvm.MethodName)).before a0 Z = true := G.1 _ (List.mem_of_getElem? (i := 113) rfl)
theorem wd_114 {Z : State} {a0 : Array Value} (G : Glb Z a0) : (Jvm.Cond.code ({ cls := "java/lang/AbstractStringBuilder", name := "reverse", desc := "()Ljava/lang/AbstractStringBuilder;" } : Jvm.MethodName) jdk_68_method_60_code (7 : Nat) (Option.some (Jvm.ClassFile.FieldType.object "java/lang/AbstractStringBuilder"))).before a0 Z = true := G.1 _ (List.mem_of_getElem? (i := 114) rfl)
theorem wd_115 {Z : State} {a0 : Array Value} (G : Glb Z a0) : (Jvm.Cond.methodLink "com/example/onepass/onepass/model/Words" (175 : Nat) ({ cls := "java/lang/StringBuilder", name := "toString", desc := "()Ljava/lang/String;" } : Jvm.MethodName)).before a0 Z = true := G.1 _ (List.mem_of_getElem? (i := 115) rfl)
theorem wd_116 {Z : State} {a0 : Array Value} (G : Glb Z a0) : (Jvm.Cond.declares ({ cls := "java/lang/StringBuilder", name := "toString", desc := "()Ljava/lang/String;" } : Jvm.MethodName)).before a0 Z = true := G.1 _ (List.mem_of_getElem? (i := 116) rfl)
theorem wd_117 {Z : State} {a0 : Array Value} (G : Glb Z a0) : (Jvm.Cond.instanceMethod ({ cls := "java/lang/StringBuilder", name := "toString", desc := "()Ljava/lang/String;" } : Jvm.MethodName)).before a0 Z = true := G.1 _ (List.mem_of_getElem? (i := 117) rfl)
theorem wd_118 {Z : State} {a0 : Array Value} (G : Glb Z a0) : (Jvm.Cond.selects "java/lang/StringBuilder" ({ cls := "java/lang/StringBuilder", name := "toString", desc := "()Ljava/lang/String;" } : Jvm.MethodName) ({ cls := "java/lang/StringBuilder", name := "toString", desc := "()Ljava/lang/String;" } : Jvm.MethodName)).before a0 Z = true := G.1 _ (List.mem_of_getElem? (i := 118) rfl)
theorem wd_119 {Z : State} {a0 : Array Value} (G : Glb Z a0) : (Jvm.Cond.code ({ cls := "java/lang/StringBuilder", name := "toString", desc := "()Ljava/lang/String;" } : Jvm.MethodName) jdk_67_method_42_code (1 : Nat) (Option.some (Jvm.ClassFile.FieldType.object "java/lang/String"))).before a0 Z = true := G.1 _ (List.mem_of_getElem? (i := 119) rfl)
theorem wd_120 {Z : State} {a0 : Array Value} (G : Glb Z a0) : (Jvm.Cond.classLink "java/lang/StringBuilder" (18 : Nat) "java/lang/String").before a0 Z = true := G.1 _ (List.mem_of_getElem? (i := 120) rfl)
theorem wd_121 {Z : State} {a0 : Array Value} (G : Glb Z a0) : (Jvm.Cond.instantiable "java/lang/String" (4 : Nat)).before a0 Z = true := G.1 _ (List.mem_of_getElem? (i := 121) rfl)
theorem wd_122 {Z : State} {a0 : Array Value} (G : Glb Z a0) : (Jvm.Cond.methodLink "java/lang/StringBuilder" (137 : Nat) ({ cls := "java/lang/String", name := "<init>", desc := "(Ljava/lang/StringBuilder;)V" } : Jvm.MethodName)).before a0 Z = true := G.1 _ (List.mem_of_getElem? (i := 122) rfl)
theorem wd_123 {Z : State} {a0 : Array Value} (G : Glb Z a0) : (Jvm.Cond.instanceMethod ({ cls := "java/lang/String", name := "<init>", desc := "(Ljava/lang/StringBuilder;)V" } : Jvm.MethodName)).before a0 Z = true := G.1 _ (List.mem_of_getElem? (i := 123) rfl)
theorem wd_125 {Z : State} {a0 : Array Value} (G : Glb Z a0) : (Jvm.Cond.code ({ cls := "java/lang/String", name := "<init>", desc := "(Ljava/lang/StringBuilder;)V" } : Jvm.MethodName) jdk_42_method_53_code (2 : Nat) (Option.none : Option Jvm.ClassFile.FieldType)).before a0 Z = true := G.1 _ (List.mem_of_getElem? (i := 125) rfl)
theorem wd_126 {Z : State} {a0 : Array Value} (G : Glb Z a0) : (Jvm.Cond.methodLink "java/lang/String" (489 : Nat) ({ cls := "java/lang/String", name := "<init>", desc := "(Ljava/lang/AbstractStringBuilder;Ljava/lang/Void;)V" } : Jvm.MethodName)).before a0 Z = true := G.1 _ (List.mem_of_getElem? (i := 126) rfl)
theorem wd_127 {Z : State} {a0 : Array Value} (G : Glb Z a0) : (Jvm.Cond.instanceMethod ({ cls := "java/lang/String", name := "<init>", desc := "(Ljava/lang/AbstractStringBuilder;Ljava/lang/Void;)V" } : Jvm.MethodName)).before a0 Z = true := G.1 _ (List.mem_of_getElem? (i := 127) rfl)
theorem wd_128 {Z : State} {a0 : Array Value} (G : Glb Z a0) : (Jvm.Cond.code ({ cls := "java/lang/String", name := "<init>", desc := "(Ljava/lang/AbstractStringBuilder;Ljava/lang/Void;)V" } : Jvm.MethodName) jdk_42_method_150_code (5 : Nat) (Option.none : Option Jvm.ClassFile.FieldType)).before a0 Z = true := G.1 _ (List.mem_of_getElem? (i := 128) rfl)
theorem wd_129 {Z : State} {a0 : Array Value} (G : Glb Z a0) : (Jvm.Cond.methodLink "java/lang/String" (1 : Nat) ({ cls := "java/lang/Object", name := "<init>", desc := "()V" } : Jvm.MethodName)).before a0 Z = true := G.1 _ (List.mem_of_getElem? (i := 129) rfl)
theorem wd_130 {Z : State} {a0 : Array Value} (G : Glb Z a0) : (Jvm.Cond.methodLink "java/lang/String" (552 : Nat) ({ cls := "java/lang/AbstractStringBuilder", name := "getValue", desc := "()[B" } : Jvm.MethodName)).before a0 Z = true := G.1 _ (List.mem_of_getElem? (i := 130) rfl)
theorem wd_131 {Z : State} {a0 : Array Value} (G : Glb Z a0) : (Jvm.Cond.declares ({ cls := "java/lang/AbstractStringBuilder", name := "getValue", desc := "()[B" } : Jvm.MethodName)).before a0 Z = true := G.1 _ (List.mem_of_getElem? (i := 131) rfl)
theorem wd_132 {Z : State} {a0 : Array Value} (G : Glb Z a0) : (Jvm.Cond.instanceMethod ({ cls := "java/lang/AbstractStringBuilder", name := "getValue", desc := "()[B" } : Jvm.MethodName)).before a0 Z = true := G.1 _ (List.mem_of_getElem? (i := 132) rfl)
theorem wd_133 {Z : State} {a0 : Array Value} (G : Glb Z a0) : (Jvm.Cond.selects "java/lang/StringBuilder" ({ cls := "java/lang/AbstractStringBuilder", name := "getValue", desc := "()[B" } : Jvm.MethodName) ({ cls := "java/lang/AbstractStringBuilder", name := "getValue", desc := "()[B" } : Jvm.MethodName)).before a0 Z = true := G.1 _ (List.mem_of_getElem? (i := 133) rfl)
theorem wd_134 {Z : State} {a0 : Array Value} (G : Glb Z a0) : (Jvm.Cond.code ({ cls := "java/lang/AbstractStringBuilder", name := "getValue", desc := "()[B" } : Jvm.MethodName) jdk_68_method_64_code (1 : Nat) (Option.some (Jvm.ClassFile.FieldType.array Jvm.ClassFile.FieldType.byte))).before a0 Z = true := G.1 _ (List.mem_of_getElem? (i := 134) rfl)
theorem wd_135 {Z : State} {a0 : Array Value} (G : Glb Z a0) : (Jvm.Cond.methodLink "java/lang/String" (549 : Nat) ({ cls := "java/lang/AbstractStringBuilder", name := "length", desc := "()I" } : Jvm.MethodName)).before a0 Z = true := G.1 _ (List.mem_of_getElem? (i := 135) rfl)
theorem wd_136 {Z : State} {a0 : Array Value} (G : Glb Z a0) : (Jvm.Cond.declares ({ cls := "java/lang/AbstractStringBuilder", name := "length", desc := "()I" } : Jvm.MethodName)).before a0 Z = true := G.1 _ (List.mem_of_getElem? (i := 136) rfl)
theorem wd_137 {Z : State} {a0 : Array Value} (G : Glb Z a0) : (Jvm.Cond.instanceMethod ({ cls := "java/lang/AbstractStringBuilder", name := "length", desc := "()I" } : Jvm.MethodName)).before a0 Z = true := G.1 _ (List.mem_of_getElem? (i := 137) rfl)
theorem wd_138 {Z : State} {a0 : Array Value} (G : Glb Z a0) : (Jvm.Cond.selects "java/lang/StringBuilder" ({ cls := "java/lang/AbstractStringBuilder", name := "length", desc := "()I" } : Jvm.MethodName) ({ cls := "java/lang/StringBuilder", name := "length", desc := "()I" } : Jvm.MethodName)).before a0 Z = true := G.1 _ (List.mem_of_getElem? (i := 138) rfl)
theorem wd_139 {Z : State} {a0 : Array Value} (G : Glb Z a0) : (Jvm.Cond.instanceMethod ({ cls := "java/lang/StringBuilder", name := "length", desc := "()I" } : Jvm.MethodName)).before a0 Z = true := G.1 _ (List.mem_of_getElem? (i := 139) rfl)
theorem wd_140 {Z : State} {a0 : Array Value} (G : Glb Z a0) : (Jvm.Cond.code ({ cls := "java/lang/StringBuilder", name := "length", desc := "()I" } : Jvm.MethodName) jdk_67_method_93_code (1 : Nat) (Option.some Jvm.ClassFile.FieldType.int)).before a0 Z = true := G.1 _ (List.mem_of_getElem? (i := 140) rfl)
theorem wd_141 {Z : State} {a0 : Array Value} (G : Glb Z a0) : (Jvm.Cond.methodLink "java/lang/StringBuilder" (343 : Nat) ({ cls := "java/lang/AbstractStringBuilder", name := "length", desc := "()I" } : Jvm.MethodName)).before a0 Z = true := G.1 _ (List.mem_of_getElem? (i := 141) rfl)
theorem wd_142 {Z : State} {a0 : Array Value} (G : Glb Z a0) : (Jvm.Cond.code ({ cls := "java/lang/AbstractStringBuilder", name := "length", desc := "()I" } : Jvm.MethodName) jdk_68_method_6_code (1 : Nat) (Option.some Jvm.ClassFile.FieldType.int)).before a0 Z = true := G.1 _ (List.mem_of_getElem? (i := 142) rfl)
theorem wd_143 {Z : State} {a0 : Array Value} (G : Glb Z a0) : (Jvm.Cond.methodLink "java/lang/String" (1047 : Nat) ({ cls := "java/lang/AbstractStringBuilder", name := "isLatin1", desc := "()Z" } : Jvm.MethodName)).before a0 Z = true := G.1 _ (List.mem_of_getElem? (i := 143) rfl)
theorem wd_144 {Z : State} {a0 : Array Value} (G : Glb Z a0) : (Jvm.Cond.fieldLink "java/lang/String" (15 : Nat) "java/lang/String" "coder" "B").before a0 Z = true := G.1 _ (List.mem_of_getElem? (i := 144) rfl)
theorem wd_145 {Z : State} {a0 : Array Value} (G : Glb Z a0) : (Jvm.Cond.laysFinal "java/lang/String" "java/lang/String" "coder" "B").before a0 Z = true := G.1 _ (List.mem_of_getElem? (i := 145) rfl)
theorem wd_146 {Z : State} {a0 : Array Value} (G : Glb Z a0) : (Jvm.Cond.methodLink "java/lang/String" (54 : Nat) ({ cls := "java/util/Arrays", name := "copyOfRange", desc := "([BII)[B" } : Jvm.MethodName)).before a0 Z = true := G.1 _ (List.mem_of_getElem? (i := 146) rfl)
theorem wd_147 {Z : State} {a0 : Array Value} (G : Glb Z a0) : (Jvm.Cond.static ({ cls := "java/util/Arrays", name := "copyOfRange", desc := "([BII)[B" } : Jvm.MethodName)).before a0 Z = true := G.1 _ (List.mem_of_getElem? (i := 147) rfl)
theorem wd_148 {Z : State} {a0 : Array Value} (G : Glb Z a0) : (Jvm.Cond.initialized "java/util/Arrays").before a0 Z = true := G.1 _ (List.mem_of_getElem? (i := 148) rfl)
theorem wd_149 {Z : State} {a0 : Array Value} (G : Glb Z a0) : (Jvm.Cond.code ({ cls := "java/util/Arrays", name := "copyOfRange", desc := "([BII)[B" } : Jvm.MethodName) jdk_65_method_132_code (3 : Nat) (Option.some (Jvm.ClassFile.FieldType.array Jvm.ClassFile.FieldType.byte))).before a0 Z = true := G.1 _ (List.mem_of_getElem? (i := 149) rfl)
theorem wd_150 {Z : State} {a0 : Array Value} (G : Glb Z a0) : (Jvm.Cond.methodLink "java/util/Arrays" (339 : Nat) ({ cls := "java/util/Arrays", name := "copyOfRangeByte", desc := "([BII)[B" } : Jvm.MethodName)).before a0 Z = true := G.1 _ (List.mem_of_getElem? (i := 150) rfl)
theorem wd_151 {Z : State} {a0 : Array Value} (G : Glb Z a0) : (Jvm.Cond.static ({ cls := "java/util/Arrays", name := "copyOfRangeByte", desc := "([BII)[B" } : Jvm.MethodName)).before a0 Z = true := G.1 _ (List.mem_of_getElem? (i := 151) rfl)
theorem wd_152 {Z : State} {a0 : Array Value} (G : Glb Z a0) : (Jvm.Cond.code ({ cls := "java/util/Arrays", name := "copyOfRangeByte", desc := "([BII)[B" } : Jvm.MethodName) jdk_65_method_133_code (5 : Nat) (Option.some (Jvm.ClassFile.FieldType.array Jvm.ClassFile.FieldType.byte))).before a0 Z = true := G.1 _ (List.mem_of_getElem? (i := 152) rfl)
theorem wd_153 {Z : State} {a0 : Array Value} (G : Glb Z a0) : (Jvm.Cond.methodLink "java/util/Arrays" (343 : Nat) ({ cls := "java/util/Arrays", name := "checkLength", desc := "(II)V" } : Jvm.MethodName)).before a0 Z = true := G.1 _ (List.mem_of_getElem? (i := 153) rfl)
theorem wd_154 {Z : State} {a0 : Array Value} (G : Glb Z a0) : (Jvm.Cond.static ({ cls := "java/util/Arrays", name := "checkLength", desc := "(II)V" } : Jvm.MethodName)).before a0 Z = true := G.1 _ (List.mem_of_getElem? (i := 154) rfl)
theorem wd_155 {Z : State} {a0 : Array Value} (G : Glb Z a0) : (Jvm.Cond.code ({ cls := "java/util/Arrays", name := "checkLength", desc := "(II)V" } : Jvm.MethodName) jdk_65_method_131_code (2 : Nat) (Option.none : Option Jvm.ClassFile.FieldType)).before a0 Z = true := G.1 _ (List.mem_of_getElem? (i := 155) rfl)
theorem wd_156 {Z : State} {a0 : Array Value} (G : Glb Z a0) : (Jvm.Cond.methodLink "java/util/Arrays" (304 : Nat) ({ cls := "java/lang/Math", name := "min", desc := "(II)I" } : Jvm.MethodName)).before a0 Z = true := G.1 _ (List.mem_of_getElem? (i := 156) rfl)
theorem wd_157 {Z : State} {a0 : Array Value} (G : Glb Z a0) : (Jvm.Cond.static ({ cls := "java/lang/Math", name := "min", desc := "(II)I" } : Jvm.MethodName)).before a0 Z = true := G.1 _ (List.mem_of_getElem? (i := 157) rfl)
theorem wd_158 {Z : State} {a0 : Array Value} (G : Glb Z a0) : (Jvm.Cond.initialized "java/lang/Math").before a0 Z = true := G.1 _ (List.mem_of_getElem? (i := 158) rfl)
theorem wd_159 {Z : State} {a0 : Array Value} (G : Glb Z a0) : (Jvm.Cond.code ({ cls := "java/lang/Math", name := "min", desc := "(II)I" } : Jvm.MethodName) jdk_29_method_69_code (2 : Nat) (Option.some Jvm.ClassFile.FieldType.int)).before a0 Z = true := G.1 _ (List.mem_of_getElem? (i := 159) rfl)
theorem wd_160 {Z : State} {a0 : Array Value} (G : Glb Z a0) : (Jvm.Cond.methodLink "java/util/Arrays" (150 : Nat) ({ cls := "java/lang/System", name := "arraycopy", desc := "(Ljava/lang/Object;ILjava/lang/Object;II)V" } : Jvm.MethodName)).before a0 Z = true := G.1 _ (List.mem_of_getElem? (i := 160) rfl)
theorem wd_161 {Z : State} {a0 : Array Value} (G : Glb Z a0) : (Jvm.Cond.static ({ cls := "java/lang/System", name := "arraycopy", desc := "(Ljava/lang/Object;ILjava/lang/Object;II)V" } : Jvm.MethodName)).before a0 Z = true := G.1 _ (List.mem_of_getElem? (i := 161) rfl)
theorem wd_162 {Z : State} {a0 : Array Value} (G : Glb Z a0) : (Jvm.Cond.initialized "java/lang/System").before a0 Z = true := G.1 _ (List.mem_of_getElem? (i := 162) rfl)
theorem wd_163 {Z : State} {a0 : Array Value} (G : Glb Z a0) : (Jvm.Cond.native ({ cls := "java/lang/System", name := "arraycopy", desc := "(Ljava/lang/Object;ILjava/lang/Object;II)V" } : Jvm.MethodName)).before a0 Z = true := G.1 _ (List.mem_of_getElem? (i := 163) rfl)
theorem wd_164 {Z : State} {a0 : Array Value} (G : Glb Z a0) : (Jvm.Cond.fieldLink "java/lang/String" (9 : Nat) "java/lang/String" "value" "[B").before a0 Z = true := G.1 _ (List.mem_of_getElem? (i := 164) rfl)
theorem wd_165 {Z : State} {a0 : Array Value} (G : Glb Z a0) : (Jvm.Cond.laysFinal "java/lang/String" "java/lang/String" "value" "[B").before a0 Z = true := G.1 _ (List.mem_of_getElem? (i := 165) rfl)
theorem wd_166 {Z : State} {a0 : Array Value} (G : Glb Z a0) : (Jvm.Cond.methodLink "com/example/onepass/onepass/model/Words" (83 : Nat) ({ cls := "com/example/onepass/onepass/model/Words", name := "number", desc := "(Ljava/lang/String;)I" } : Jvm.MethodName)).before a0 Z = true := G.1 _ (List.mem_of_getElem? (i := 166) rfl)
theorem wd_167 {Z : State} {a0 : Array Value} (G : Glb Z a0) : (Jvm.Cond.instanceMethod ({ cls := "com/example/onepass/onepass/model/Words", name := "number", desc := "(Ljava/lang/String;)I" } : Jvm.MethodName)).before a0 Z = true := G.1 _ (List.mem_of_getElem? (i := 167) rfl)
theorem wd_168 {Z : State} {a0 : Array Value} (G : Glb Z a0) : (Jvm.Cond.privateMethod ({ cls := "com/example/onepass/onepass/model/Words", name := "number", desc := "(Ljava/lang/String;)I" } : Jvm.MethodName)).before a0 Z = true := G.1 _ (List.mem_of_getElem? (i := 168) rfl)
theorem wd_169 {Z : State} {a0 : Array Value} (G : Glb Z a0) : (Jvm.Cond.code ({ cls := "com/example/onepass/onepass/model/Words", name := "number", desc := "(Ljava/lang/String;)I" } : Jvm.MethodName) prog_85_method_13_code (2 : Nat) (Option.some Jvm.ClassFile.FieldType.int)).before a0 Z = true := G.1 _ (List.mem_of_getElem? (i := 169) rfl)
theorem wd_170 {Z : State} {a0 : Array Value} (G : Glb Z a0) : (Jvm.Cond.fieldLink "com/example/onepass/onepass/model/Words" (61 : Nat) "com/example/onepass/onepass/model/Words" "size" "I").before a0 Z = true := G.1 _ (List.mem_of_getElem? (i := 170) rfl)
theorem wd_171 {Z : State} {a0 : Array Value} (G : Glb Z a0) : (Jvm.Cond.lays "com/example/onepass/onepass/model/Words" "com/example/onepass/onepass/model/Words" "size" "I").before a0 Z = true := G.1 _ (List.mem_of_getElem? (i := 171) rfl)
theorem wd_172 {Z : State} {a0 : Array Value} (G : Glb Z a0) : (Jvm.Cond.methodLink "com/example/onepass/onepass/model/Words" (53 : Nat) ({ cls := "com/example/onepass/onepass/model/Words", name := "add", desc := "(I)V" } : Jvm.MethodName)).before a0 Z = true := G.1 _ (List.mem_of_getElem? (i := 172) rfl)
theorem wd_173 {Z : State} {a0 : Array Value} (G : Glb Z a0) : (Jvm.Cond.instanceMethod ({ cls := "com/example/onepass/onepass/model/Words", name := "add", desc := "(I)V" } : Jvm.MethodName)).before a0 Z = true := G.1 _ (List.mem_of_getElem? (i := 173) rfl)
theorem wd_174 {Z : State} {a0 : Array Value} (G : Glb Z a0) : (Jvm.Cond.privateMethod ({ cls := "com/example/onepass/onepass/model/Words", name := "add", desc := "(I)V" } : Jvm.MethodName)).before a0 Z = true := G.1 _ (List.mem_of_getElem? (i := 174) rfl)
theorem wd_175 {Z : State} {a0 : Array Value} (G : Glb Z a0) : (Jvm.Cond.code ({ cls := "com/example/onepass/onepass/model/Words", name := "add", desc := "(I)V" } : Jvm.MethodName) prog_85_method_9_code (2 : Nat) (Option.none : Option Jvm.ClassFile.FieldType)).before a0 Z = true := G.1 _ (List.mem_of_getElem? (i := 175) rfl)
theorem wd_176 {Z : State} {a0 : Array Value} (G : Glb Z a0) : (Jvm.Cond.fieldLink "com/example/onepass/onepass/model/Words" (57 : Nat) "com/example/onepass/onepass/model/Words" "distinct" "I").before a0 Z = true := G.1 _ (List.mem_of_getElem? (i := 176) rfl)
theorem wd_177 {Z : State} {a0 : Array Value} (G : Glb Z a0) : (Jvm.Cond.lays "com/example/onepass/onepass/model/Words" "com/example/onepass/onepass/model/Words" "distinct" "I").before a0 Z = true := G.1 _ (List.mem_of_getElem? (i := 177) rfl)
theorem wd_178 {Z : State} {a0 : Array Value} (G : Glb Z a0) : (Jvm.Cond.methodLink "com/example/onepass/onepass/model/WordsEmptyPinLaw" (28 : Nat) ({ cls := "com/example/onepass/onepass/model/Words", name := "empty", desc := "()V" } : Jvm.MethodName)).before a0 Z = true := G.1 _ (List.mem_of_getElem? (i := 178) rfl)
theorem wd_179 {Z : State} {a0 : Array Value} (G : Glb Z a0) : (Jvm.Cond.declares ({ cls := "com/example/onepass/onepass/model/Words", name := "empty", desc := "()V" } : Jvm.MethodName)).before a0 Z = true := G.1 _ (List.mem_of_getElem? (i := 179) rfl)
theorem wd_180 {Z : State} {a0 : Array Value} (G : Glb Z a0) : (Jvm.Cond.instanceMethod ({ cls := "com/example/onepass/onepass/model/Words", name := "empty", desc := "()V" } : Jvm.MethodName)).before a0 Z = true := G.1 _ (List.mem_of_getElem? (i := 180) rfl)
theorem wd_181 {Z : State} {a0 : Array Value} (G : Glb Z a0) : (Jvm.Cond.selects "com/example/onepass/onepass/model/Words" ({ cls := "com/example/onepass/onepass/model/Words", name := "empty", desc := "()V" } : Jvm.MethodName) ({ cls := "com/example/onepass/onepass/model/Words", name := "empty", desc := "()V" } : Jvm.MethodName)).before a0 Z = true := G.1 _ (List.mem_of_getElem? (i := 181) rfl)
theorem wd_182 {Z : State} {a0 : Array Value} (G : Glb Z a0) : (Jvm.Cond.code ({ cls := "com/example/onepass/onepass/model/Words", name := "empty", desc := "()V" } : Jvm.MethodName) prog_85_method_6_code (2 : Nat) (Option.none : Option Jvm.ClassFile.FieldType)).before a0 Z = true := G.1 _ (List.mem_of_getElem? (i := 182) rfl)
theorem wd_183 {Z : State} {a0 : Array Value} (G : Glb Z a0) : (Jvm.Cond.methodLink "com/example/onepass/onepass/model/WordsEmptyPinLaw" (31 : Nat) ({ cls := "com/example/onepass/onepass/model/Words", name := "size", desc := "()I" } : Jvm.MethodName)).before a0 Z = true := G.1 _ (List.mem_of_getElem? (i := 183) rfl)
theorem wd_184 {Z : State} {a0 : Array Value} (G : Glb Z a0) : (Jvm.Cond.declares ({ cls := "com/example/onepass/onepass/model/Words", name := "size", desc := "()I" } : Jvm.MethodName)).before a0 Z = true := G.1 _ (List.mem_of_getElem? (i := 184) rfl)
theorem wd_185 {Z : State} {a0 : Array Value} (G : Glb Z a0) : (Jvm.Cond.instanceMethod ({ cls := "com/example/onepass/onepass/model/Words", name := "size", desc := "()I" } : Jvm.MethodName)).before a0 Z = true := G.1 _ (List.mem_of_getElem? (i := 185) rfl)
theorem wd_186 {Z : State} {a0 : Array Value} (G : Glb Z a0) : (Jvm.Cond.selects "com/example/onepass/onepass/model/Words" ({ cls := "com/example/onepass/onepass/model/Words", name := "size", desc := "()I" } : Jvm.MethodName) ({ cls := "com/example/onepass/onepass/model/Words", name := "size", desc := "()I" } : Jvm.MethodName)).before a0 Z = true := G.1 _ (List.mem_of_getElem? (i := 186) rfl)
theorem wd_187 {Z : State} {a0 : Array Value} (G : Glb Z a0) : (Jvm.Cond.code ({ cls := "com/example/onepass/onepass/model/Words", name := "size", desc := "()I" } : Jvm.MethodName) prog_85_method_8_code (1 : Nat) (Option.some Jvm.ClassFile.FieldType.int)).before a0 Z = true := G.1 _ (List.mem_of_getElem? (i := 187) rfl)
theorem wd_188 {Z : State} {a0 : Array Value} (G : Glb Z a0) : (Jvm.Cond.methodLink "com/example/onepass/onepass/model/WordsEmptyPinLaw" (35 : Nat) ({ cls := "com/example/onepass/onepass/model/Words", name := "distinct", desc := "()I" } : Jvm.MethodName)).before a0 Z = true := G.1 _ (List.mem_of_getElem? (i := 188) rfl)
theorem wd_189 {Z : State} {a0 : Array Value} (G : Glb Z a0) : (Jvm.Cond.declares ({ cls := "com/example/onepass/onepass/model/Words", name := "distinct", desc := "()I" } : Jvm.MethodName)).before a0 Z = true := G.1 _ (List.mem_of_getElem? (i := 189) rfl)
theorem wd_190 {Z : State} {a0 : Array Value} (G : Glb Z a0) : (Jvm.Cond.instanceMethod ({ cls := "com/example/onepass/onepass/model/Words", name := "distinct", desc := "()I" } : Jvm.MethodName)).before a0 Z = true := G.1 _ (List.mem_of_getElem? (i := 190) rfl)
theorem wd_191 {Z : State} {a0 : Array Value} (G : Glb Z a0) : (Jvm.Cond.selects "com/example/onepass/onepass/model/Words" ({ cls := "com/example/onepass/onepass/model/Words", name := "distinct", desc := "()I" } : Jvm.MethodName) ({ cls := "com/example/onepass/onepass/model/Words", name := "distinct", desc := "()I" } : Jvm.MethodName)).before a0 Z = true := G.1 _ (List.mem_of_getElem? (i := 191) rfl)
theorem wd_192 {Z : State} {a0 : Array Value} (G : Glb Z a0) : (Jvm.Cond.code ({ cls := "com/example/onepass/onepass/model/Words", name := "distinct", desc := "()I" } : Jvm.MethodName) prog_85_method_3_code (1 : Nat) (Option.some Jvm.ClassFile.FieldType.int)).before a0 Z = true := G.1 _ (List.mem_of_getElem? (i := 192) rfl)
theorem wd_193 {Z : State} {a0 : Array Value} (G : Glb Z a0) : (Jvm.Cond.methodLink "com/example/onepass/onepass/model/WordsEmptyPinLaw" (38 : Nat) ({ cls := "com/example/onepass/onepass/model/WordsEmptyPinLaw", name := "cleared", desc := "(Lcom/example/onepass/onepass/model/Words;II)Z" } : Jvm.MethodName)).before a0 Z = true := G.1 _ (List.mem_of_getElem? (i := 193) rfl)
theorem wd_194 {Z : State} {a0 : Array Value} (G : Glb Z a0) : (Jvm.Cond.static ({ cls := "com/example/onepass/onepass/model/WordsEmptyPinLaw", name := "cleared", desc := "(Lcom/example/onepass/onepass/model/Words;II)Z" } : Jvm.MethodName)).before a0 Z = true := G.1 _ (List.mem_of_getElem? (i := 194) rfl)
theorem wd_195 {Z : State} {a0 : Array Value} (G : Glb Z a0) : (Jvm.Cond.code ({ cls := "com/example/onepass/onepass/model/WordsEmptyPinLaw", name := "cleared", desc := "(Lcom/example/onepass/onepass/model/Words;II)Z" } : Jvm.MethodName) method_4_code (3 : Nat) (Option.some Jvm.ClassFile.FieldType.boolean)).before a0 Z = true := G.1 _ (List.mem_of_getElem? (i := 195) rfl)
theorem wd_196 {Z : State} {a0 : Array Value} (G : Glb Z a0) : (Jvm.Cond.methodLink "com/example/onepass/onepass/model/WordsEmptyPinLaw" (13 : Nat) ({ cls := "com/example/onepass/onepass/model/Words", name := "occurrences", desc := "(I)J" } : Jvm.MethodName)).before a0 Z = true := G.1 _ (List.mem_of_getElem? (i := 196) rfl)
theorem wd_197 {Z : State} {a0 : Array Value} (G : Glb Z a0) : (Jvm.Cond.declares ({ cls := "com/example/onepass/onepass/model/Words", name := "occurrences", desc := "(I)J" } : Jvm.MethodName)).before a0 Z = true := G.1 _ (List.mem_of_getElem? (i := 197) rfl)
theorem wd_198 {Z : State} {a0 : Array Value} (G : Glb Z a0) : (Jvm.Cond.instanceMethod ({ cls := "com/example/onepass/onepass/model/Words", name := "occurrences", desc := "(I)J" } : Jvm.MethodName)).before a0 Z = true := G.1 _ (List.mem_of_getElem? (i := 198) rfl)
theorem wd_199 {Z : State} {a0 : Array Value} (G : Glb Z a0) : (Jvm.Cond.selects "com/example/onepass/onepass/model/Words" ({ cls := "com/example/onepass/onepass/model/Words", name := "occurrences", desc := "(I)J" } : Jvm.MethodName) ({ cls := "com/example/onepass/onepass/model/Words", name := "occurrences", desc := "(I)J" } : Jvm.MethodName)).before a0 Z = true := G.1 _ (List.mem_of_getElem? (i := 199) rfl)
theorem wd_200 {Z : State} {a0 : Array Value} (G : Glb Z a0) : (Jvm.Cond.code ({ cls := "com/example/onepass/onepass/model/Words", name := "occurrences", desc := "(I)J" } : Jvm.MethodName) prog_85_method_5_code (2 : Nat) (Option.some Jvm.ClassFile.FieldType.long)).before a0 Z = true := G.1 _ (List.mem_of_getElem? (i := 200) rfl)
theorem Ct.in {l : Launch} {Z : State} {a0 : Array Value} (G : Glb Z a0) {ml : Nat} {H : HP} {ls : List Slot} {y : MethodName} {bytes : ByteArray} {ret : Option FieldType} {rm : Room} {wz : List Jvm.Cond} {as : List Value} {Q : Option Value → HP → Prop} (hpl : plainFor y = true) (hls : locsOf as ml = ls) (hlen : ls.length = ml)
    (body : ∀ D, Wk l Z a0 EL0 y.cls bytes ml y.name ret rm D 0 ls [] H 0 0 → ∃ v H' k n, Rt Z EL0 D v H' k n ∧ Q v H' ∧ k ≤ rm.cells ∧ n ≤ rm.slots) : Ct l Z EL0 y bytes ml ret rm wz as H Q := Ct.intro hpl hls hlen body

/-! numbers -/
theorem n32_toInt {i : Nat} (h : i < 2 ^ 31) : (i.toInt32).toInt = i := by simp [Nat.toInt32, Int32.toInt_ofNat_of_lt h]
theorem n32_lt {i j : Nat} (hi : i < 2 ^ 31) (hj : j < 2 ^ 31) : i.toInt32 < j.toInt32 ↔ i < j := by
  rw [Int32.lt_iff_toInt_lt, n32_toInt hi, n32_toInt hj]; omega
theorem n32_inj {i j : Nat} (hi : i < 2 ^ 31) (hj : j < 2 ^ 31) : i.toInt32 = j.toInt32 ↔ i = j := by
  constructor
  · intro h; have := congrArg Int32.toInt h; rw [n32_toInt hi, n32_toInt hj] at this; omega
  · rintro rfl; rfl
theorem n32_succ (i : Nat) : i.toInt32 + 1 = (i + 1).toInt32 := by
  show Int32.ofNat i + Int32.ofNat 1 = Int32.ofNat (i + 1)
  rw [Int32.ofNat_add]
theorem n32_add (i j : Nat) : i.toInt32 + j.toInt32 = (i + j).toInt32 := by
  show Int32.ofNat i + Int32.ofNat j = Int32.ofNat (i + j)
  rw [Int32.ofNat_add]
theorem n32_shl0 (x : Int32) : x <<< ((0 : Int32) &&& 31) = x := by
  apply Int32.toInt_inj.mp
  have a := c_ishl x 0 0 (by decide)
  have r1 := rng32 (x <<< ((0 : Int32) &&& 31))
  have r2 := rng32 x
  simp only [Nat.pow_zero] at a
  omega

theorem G_compact {Z : State} {a0 : Array Value} (G : Glb Z a0) : ∃ x : Int32, ¬ x = 0 ∧ Sta Z Z.heap "java/lang/String" "COMPACT_STRINGS" "Z" (.int x) := by
  obtain ⟨x, e⟩ := is_v (Cond.before_iff.mp (G.2.1 _ (List.mem_of_getElem? (i := 1) rfl)))
  have n := not_v (Cond.before_iff.mp (G.2.1 _ (List.mem_of_getElem? (i := 2) rfl)))
  exact ⟨x, gotF (Cond.eq_ints e (Term.int_eval 0)) n, Sta.start e (Or.inl (G.2.1 _ (List.mem_of_getElem? (i := 0) rfl)))⟩



abbrev SBn : String := "java/lang/StringBuilder"
abbrev ASB : String := "java/lang/AbstractStringBuilder"
abbrev WN : String := "com/example/onepass/onepass/model/Words"
abbrev chs (cs : List Int32) : List Value := cs.map Value.int
abbrev b8 (c : Int32) : Int32 := c.toInt8.toInt32
abbrev lo8 (cs : List Int32) : List Value := cs.map fun c => Value.int (b8 c)
def pfx : List Int32 → Nat
  | [] => 0
  | c :: r => if (255 : Int32) < c then 0 else pfx r + 1
theorem pfx_le : ∀ cs, pfx cs ≤ cs.length
  | [] => Nat.le_refl _
  | c :: r => by unfold pfx; split <;> simp [pfx_le r]
theorem pfx_all : ∀ {cs}, (∀ c ∈ cs, ¬ (255 : Int32) < c) → pfx cs = cs.length
  | [], _ => rfl
  | c :: r, h => by
    unfold pfx
    rw [if_neg (h c (List.mem_cons_self ..)), pfx_all fun x hx => h x (List.mem_cons_of_mem _ hx)]; rfl
section JStr
variable {l : Launch} {Z : State} {a0 : Array Value} {D : Dyn} {H : HP}
abbrev Lat (cs : List Int32) : Prop := ∀ c ∈ cs, ¬ (255 : Int32) < c
abbrev isC (c : Int32) : Prop := 0 ≤ c.toInt ∧ c.toInt < 65536
abbrev e16 (c : Int32) : List Value := [.int (b8 c), .int (b8 (c >>> (8 &&& 31)))]
abbrev enc16 (cs : List Int32) : List Value := cs.flatMap e16
/-- the String a says cs -/
def Str (Z : State) (H : HP) (a : Addr) (cs : List Int32) : Prop := Exa Z H.1 a "java/lang/String" ∧ (∀ c ∈ cs, isC c) ∧ ∃ t, Fld Z H.1 a "java/lang/String" "value" "[B" (.ref t) ∧
  (Lat cs ∧ Fld Z H.1 a "java/lang/String" "coder" "B" (.int 0) ∧ Ar Z H t .byte (lo8 cs) ∨ ¬ Lat cs ∧ Fld Z H.1 a "java/lang/String" "coder" "B" (.int 1) ∧ Ar Z H t .byte (enc16 cs))
theorem Str.ky {H H' : HP} {a : Addr} {cs : List Int32} (S : Str Z H a cs) (K : Kp H H' []) : Str Z H' a cs := by
  obtain ⟨h1, h2, t, h3, h4⟩ := S
  exact ⟨h1.ky K, h2, t, h3.ky K, h4.imp (fun ⟨q1, q2, q3⟩ => ⟨q1, q2.ky K, q3.ky K⟩) (fun ⟨q1, q2, q3⟩ => ⟨q1, q2.ky K, q3.ky K⟩)⟩
theorem Ar.kyE {H H' : HP} {t x : Addr} {ty : FieldType} {vs : List Value} {C : String} {q : Nat} (F : Ar Z H t ty vs) (K : Kp H H' [x]) (E : Exa Z H.1 x C) (wi : (Jvm.Cond.instantiable C q).before a0 Z = true) : Ar Z H' t ty vs :=
  F.ky K (by obtain ⟨c, A, -⟩ := F; simpa using Ne.symm (ne_arr E wi A))
theorem Str.kyE {H H' : HP} {a x : Addr} {cs : List Int32} {C : String} {q : Nat} (S : Str Z H a cs) (K : Kp H H' [x]) (E : Exa Z H.1 x C) (hC : C ≠ "java/lang/String") (wi : (Jvm.Cond.instantiable C q).before a0 Z = true) : Str Z H' a cs := by
  obtain ⟨h1, h2, t, h3, h4⟩ := S
  have ha : a ∉ [x] := by simpa using Ne.symm (ne_exa E h1 hC)
  exact ⟨h1.ky K, h2, t, h3.ky K ha, h4.imp (fun ⟨q1, q2, q3⟩ => ⟨q1, q2.ky K ha, q3.kyE K E wi⟩) (fun ⟨q1, q2, q3⟩ => ⟨q1, q2.ky K ha, q3.kyE K E wi⟩)⟩
theorem Str.lt {H : HP} {a : Addr} {cs : List Int32} (S : Str Z H a cs) : a < H.1.size := S.1.lt
theorem Str.opL {H : HP} {a : Addr} {cs : List Int32} (S : Str Z H a cs) (h : Lat cs) : Exa Z H.1 a "java/lang/String" ∧ ∃ t, Fld Z H.1 a "java/lang/String" "value" "[B" (.ref t) ∧ Fld Z H.1 a "java/lang/String" "coder" "B" (.int 0) ∧ Ar Z H t .byte (lo8 cs) := by
  obtain ⟨h1, h2, t, h3, h4⟩ := S
  rcases h4 with ⟨-, q⟩ | ⟨q, -⟩
  · exact ⟨h1, t, h3, q⟩
  · exact absurd h q
theorem Str.opU {H : HP} {a : Addr} {cs : List Int32} (S : Str Z H a cs) (h : ¬ Lat cs) : Exa Z H.1 a "java/lang/String" ∧ ∃ t, Fld Z H.1 a "java/lang/String" "value" "[B" (.ref t) ∧ Fld Z H.1 a "java/lang/String" "coder" "B" (.int 1) ∧ Ar Z H t .byte (enc16 cs) := by
  obtain ⟨h1, h2, t, h3, h4⟩ := S
  rcases h4 with ⟨q, -⟩ | ⟨-, q⟩
  · exact absurd q h
  · exact ⟨h1, t, h3, q⟩
end JStr
theorem b8_back {c : Int32} (h : isC c) (h2 : ¬ (255 : Int32) < c) : (b8 c &&& 255).toUInt32.toUInt16.toUInt32.toInt32 = c := by
  rw [i2c_mask]
  apply Int32.toInt_inj.mp
  rw [c_mask _ 255 8 (by decide) (by decide)]
  have h3 := c_i2b c
  show (b8 c).toInt % _ = _
  simp only [b8] at *
  rw [Int32.lt_iff_toInt_lt, show (255 : Int32).toInt = 255 by decide] at h2
  omega
theorem b8_back' {c : Int32} (h : isC c) (h2 : ¬ (255 : Int32) < c) : b8 c &&& 255 = c := by rw [← i2c_mask]; exact b8_back h h2
theorem isC_nar {c : Int32} (h : isC c) : nar .char c = c := by
  apply Int32.toInt_inj.mp
  have := c_i2c c
  show (c.toUInt32.toUInt16.toUInt32.toInt32).toInt = _
  omega
theorem okc_mask (i : Int32) : isC (i &&& 255) ∧ ¬ (255 : Int32) < i &&& 255 := by
  have h := c_and i 255 (by decide)
  have e : (255 : Int32).toInt = 255 := by decide
  rw [Int32.lt_iff_toInt_lt]
  simp only [isC]; omega
theorem okc_i2c (i : Int32) : (i &&& 255).toUInt32.toUInt16.toUInt32.toInt32 = i &&& 255 := i2c_mask i
theorem lat1 {a : Int32} (ha : ¬ (255 : Int32) < a) : Lat [a] := fun e he => by simp at he; subst he; exact ha
theorem latC {a : Int32} {cs : List Int32} (ha : ¬ (255 : Int32) < a) (h : Lat cs) : Lat (a :: cs) := fun e he => by
  rcases List.mem_cons.mp he with rfl | he
  · exact ha
  · exact h e he
theorem lat2 {a b : Int32} (ha : ¬ (255 : Int32) < a) (hb : ¬ (255 : Int32) < b) : Lat [a, b] := latC ha (lat1 hb)
theorem lat3 {a b c : Int32} (ha : ¬ (255 : Int32) < a) (hb : ¬ (255 : Int32) < b) (hc : ¬ (255 : Int32) < c) : Lat [a, b, c] := latC ha (lat2 hb hc)

/-! longs -/
theorem n64_toInt {i : Nat} (h : i < 2 ^ 63) : (i.toInt64).toInt = i := by simp [Nat.toInt64, Int64.toInt_ofNat_of_lt h]
theorem n64_inj {i j : Nat} (hi : i < 2 ^ 63) (hj : j < 2 ^ 63) : i.toInt64 = j.toInt64 ↔ i = j := by
  constructor
  · intro h; have := congrArg Int64.toInt h; rw [n64_toInt hi, n64_toInt hj] at this; omega
  · rintro rfl; rfl
theorem n64_add (i j : Nat) : i.toInt64 + j.toInt64 = (i + j).toInt64 := by
  show Int64.ofNat i + Int64.ofNat j = Int64.ofNat (i + j)
  rw [Int64.ofNat_add]
theorem n64_mul (i j : Nat) : i.toInt64 * j.toInt64 = (i * j).toInt64 := by
  show Int64.ofNat i * Int64.ofNat j = Int64.ofNat (i * j)
  rw [Int64.ofNat_mul]
theorem n64_div {i j : Nat} (hi : i < 2 ^ 63) (hj : j < 2 ^ 63) : i.toInt64 / j.toInt64 = (i / j).toInt64 := by
  have q : i / j < 2 ^ 63 := Nat.lt_of_le_of_lt (Nat.div_le_self _ _) hi
  apply Int64.toInt_inj.mp
  have h1 : j.toInt64 ≠ -1 := fun e => by have := congrArg Int64.toInt e; rw [n64_toInt hj, show (-1 : Int64).toInt = -1 by decide] at this; omega
  rw [(c_ldiv i.toInt64 j.toInt64 j (n64_toInt hj) h1).1 (by rw [n64_toInt hi]; omega), n64_toInt hi, n64_toInt q]
  rfl
theorem n64_mod {i j : Nat} (hi : i < 2 ^ 63) (hj : j < 2 ^ 63) : i.toInt64 % j.toInt64 = (i % j).toInt64 := by
  have q : i % j < 2 ^ 63 := Nat.lt_of_le_of_lt (Nat.mod_le _ _) hi
  apply Int64.toInt_inj.mp
  have h := (c_lrem i.toInt64 j.toInt64 j (n64_toInt hj)).1 (by rw [n64_toInt hi]; omega)
  rw [lrem_mod] at h
  rw [h, n64_toInt hi, n64_toInt q]
  rfl
theorem n64_32 (i : Nat) : i.toInt64.toInt32 = i.toInt32 := by
  apply Int32.toInt_inj.mp
  rw [Int64.toInt_toInt32]
  simp only [Nat.toInt64, Nat.toInt32, Int64.toInt_ofNat', Int32.toInt_ofNat']
  exact Int.bmod_bmod_of_dvd (by decide)
theorem n32_64 {i : Nat} (h : i < 2 ^ 31) : i.toInt32.toInt64 = i.toInt64 := by
  apply Int64.toInt_inj.mp
  rw [c_i2l, n32_toInt h, n64_toInt (by omega)]
theorem n32_sub {i j : Nat} (h : j ≤ i) : i.toInt32 - j.toInt32 = (i - j).toInt32 := by
  have e : i.toInt32 = (i - j).toInt32 + j.toInt32 := by rw [n32_add]; congr 1; omega
  rw [e, Int32.add_sub_cancel]
theorem n32_c {i : Nat} (h : i < 65536) : isC i.toInt32 := by
  have := n32_toInt (i := i) (by omega)
  simp only [isC]; omega
theorem n32_i2c {i : Nat} (h : i < 65536) : i.toInt32.toUInt32.toUInt16.toUInt32.toInt32 = i.toInt32 := isC_nar (n32_c h)
theorem cmp_same (x : Int64) : XT.cmpL x x = 0 := by simp [XT.cmpL]

theorem cL_eq {x y : Int64} : XT.cmpL x y = 0 ↔ x = y := by
  unfold XT.cmpL
  split
  · rename_i h; exact ⟨fun q => absurd q (by decide), fun q => by subst q; exact absurd h (Int64.lt_irrefl)⟩
  · split
    · rename_i h; exact ⟨fun _ => h, fun _ => rfl⟩
    · rename_i h; exact ⟨fun q => absurd q (by decide), fun q => absurd q h⟩
theorem cL_lt {x y : Int64} : XT.cmpL x y < 0 ↔ x.toInt < y.toInt := by
  unfold XT.cmpL
  split
  · rename_i h; rw [Int64.lt_iff_toInt_lt] at h; exact ⟨fun q => absurd q (by decide), fun q => by omega⟩
  · rename_i h; rw [Int64.lt_iff_toInt_lt] at h
    split
    · rename_i h2; subst h2; exact ⟨fun q => absurd q (by decide), fun q => by omega⟩
    · rename_i h2
      exact ⟨fun _ => by have : x.toInt ≠ y.toInt := fun e => h2 (Int64.toInt_inj.mp e); omega, fun _ => by decide⟩
theorem cL_gt {x y : Int64} : 0 < XT.cmpL x y ↔ y.toInt < x.toInt := by
  unfold XT.cmpL
  split
  · rename_i h; rw [Int64.lt_iff_toInt_lt] at h; exact ⟨fun _ => h, fun _ => by decide⟩
  · rename_i h; rw [Int64.lt_iff_toInt_lt] at h
    split
    · rename_i h2; exact ⟨fun q => absurd q (by decide), fun q => absurd q h⟩
    · exact ⟨fun q => absurd q (by decide), fun q => absurd q h⟩
theorem z64 : (0 : Int64).toInt = 0 := by decide
theorem o64 : (1 : Int64).toInt = 1 := by decide
section LawW
variable {l : Launch} {Z : State} {a0 : Array Value} {D : Dyn} {H : HP}
/-- a Latin-1 builder that says cs -/
def SB (Z : State) (H : HP) (a v : Addr) (cs : List Int32) (rs : List Value) : Prop :=
  Exa Z H.1 a SBn ∧ Fld Z H.1 a ASB "value" "[B" (.ref v) ∧ Fld Z H.1 a ASB "coder" "B" (.int 0) ∧ Fld Z H.1 a ASB "count" "I" (.int cs.length.toInt32) ∧ Ar Z H v .byte (lo8 cs ++ rs) ∧ Lat cs ∧ (∀ c ∈ cs, isC c) ∧ H.2 a ∧ H.2 v
theorem SB.ky {H H' : HP} {a v : Addr} {cs : List Int32} {rs : List Value} {ws : List Addr} (S : SB Z H a v cs rs) (K : Kp H H' ws) (ha : a ∉ ws := by exact List.not_mem_nil) (hv : v ∉ ws := by exact List.not_mem_nil) : SB Z H' a v cs rs := by
  obtain ⟨h1, h2, h3, h4, h5, h6, h7, h8, h9⟩ := S
  exact ⟨h1.ky K, h2.ky K ha, h3.ky K ha, h4.ky K ha, h5.ky K hv, h6, h7, K.2 _ h8, K.2 _ h9⟩
theorem SB.ne (G : Glb Z a0) {a v : Addr} {cs : List Int32} {rs : List Value} (S : SB Z H a v cs rs) : a ≠ v := by
  obtain ⟨h1, -, -, -, ⟨c, A, -⟩, -⟩ := S
  exact ne_arr h1 (wd_60 G) A
theorem sl_vc (G : Glb Z a0) : Jvm.RoadKit.slotOf Z ASB "value" "[B" ≠ Jvm.RoadKit.slotOf Z ASB "coder" "B" := slot_ne (Or.inl (wd_75 G)) (Or.inl (wd_77 G)) (by decide) (t := .array .byte) (by decide) (t' := .byte) (by decide)
theorem sl_vn (G : Glb Z a0) : Jvm.RoadKit.slotOf Z ASB "value" "[B" ≠ Jvm.RoadKit.slotOf Z ASB "count" "I" := slot_ne (Or.inl (wd_75 G)) (Or.inl (wd_91 G)) (by decide) (t := .array .byte) (by decide) (t' := .int) (by decide)
theorem sl_cn (G : Glb Z a0) : Jvm.RoadKit.slotOf Z ASB "coder" "B" ≠ Jvm.RoadKit.slotOf Z ASB "count" "I" := slot_ne (Or.inl (wd_77 G)) (Or.inl (wd_91 G)) (by decide) (t := .byte) (by decide) (t' := .int) (by decide)
set_option maxRecDepth 65536 in
theorem c_asbI (G : Glb Z a0) {x : Addr} (E : Exa Z H.1 x SBn) (V : Fld Z H.1 x ASB "value" "[B" .null) (C : Fld Z H.1 x ASB "coder" "B" (.int 0)) (N : Fld Z H.1 x ASB "count" "I" (.int 0)) (o : H.2 x) :
    Ct l Z EL0 (⟨"java/lang/AbstractStringBuilder", "<init>", "(I)V"⟩ : MethodName) jdk_68_method_2_code 2 (none) ({ frames := 1, cells := 1, slots := 12, locals := 12 } : Room) [] [.ref x, .int 12] H (fun v H' => v = none ∧ Kp H H' [x] ∧ ∃ t, H.1.size ≤ t ∧ SB Z H' x t [] (List.replicate 12 (.int 0))) := by
  refine Ct.in G (by first | exact plainFor_of_name (by simp [plainName, overriddenIn]; done) | decide +kernel) (ls := [.val (.ref x), .val (.int 12)]) rfl rfl fun D A0 => ?_
  obtain ⟨cz, hcz, cS⟩ := G_compact G
  have A1 := A0.run [(0, .aload_n 0, 1, 0)] (pe := 1) (by decide +kernel) rfl
  have A2 := A1.initO (wd_71 G) (wd_15 G) (wd_16 G) (by decide +kernel) (Wd := 0) (by decide) (Nat.le_of_ble_eq_true rfl) (by decide)
  have A3 := A2.getS (wd_72 G) cS (by decide +kernel)
  have A4 := A3.ifF (cd := .eq) (o := 18) (by decide +kernel) hcz
  have A5 := A4.run [(10, .aload_n 0, 11, 0), (11, .iload_n 1, 12, 0)] (pe := 12) (by decide +kernel) rfl
  obtain ⟨t, H1, A6, hge, K1, T1, o1⟩ := A5.newA (aty := .byte) (wd_4 G) (by decide +kernel) (N := 12) rfl (cap := 12) (by decide) (by decide) (by decide) (by decide)
  obtain ⟨H2, A7, K2, W2⟩ := A6.putF (wd_74 G) (V.ky K1) (E.ky K1) (wd_75 G) (wd_60 G) (K1.2 _ o) (by decide +kernel) (ty := .array .byte) (by decide) rfl rfl
  have A8 := A7.run [(17, .aload_n 0, 18, 0), (18, .iconst 0, 19, 0)] (pe := 19) (by decide +kernel) rfl
  have C2 := (C.ky K1).other W2 (Or.inr (Ne.symm (sl_vc G)))
  obtain ⟨H3, A9, K3, W3⟩ := A8.putF (wd_76 G) C2 ((E.ky K1).ky K2) (wd_77 G) (wd_60 G) (K2.2 _ (K1.2 _ o)) (by decide +kernel) (ty := .byte) (by decide) rfl rfl
  have A10 := A9.run [(22, .goto 16, 38, 0)] (pe := 38) (by decide +kernel) rfl
  have A11 := A10.ret (by decide +kernel)
  have htx : t ∉ [x] := by simpa using Nat.ne_of_gt (Nat.lt_of_lt_of_le E.lt hge)
  refine ⟨_, _, _, _, A11, ⟨rfl, ((K1.wide fun x hx => nomatch hx).trans K2 fun x hx => Or.inl hx).trans K3 fun x hx => Or.inl hx, t, hge, ((E.ky K1).ky K2).ky K3, ((V.ky K1).same W2).other W3 (Or.inr (sl_vc G)), C2.same W3, ((N.ky K1).other W2 (Or.inr (Ne.symm (sl_vn G)))).other W3 (Or.inr (Ne.symm (sl_cn G))), (T1.ky K2 htx).ky K3 htx, (fun c hc => nomatch hc), (fun c hc => nomatch hc), K3.2 _ (K2.2 _ (K1.2 _ o)), K3.2 _ (K2.2 _ o1)⟩, by decide, by decide⟩
theorem c_sbI (G : Glb Z a0) {x : Addr} (E : Exa Z H.1 x SBn) (V : Fld Z H.1 x ASB "value" "[B" .null) (C : Fld Z H.1 x ASB "coder" "B" (.int 0)) (N : Fld Z H.1 x ASB "count" "I" (.int 0)) (o : H.2 x) :
    Ct l Z EL0 (⟨"java/lang/StringBuilder", "<init>", "(I)V"⟩ : MethodName) jdk_67_method_2_code 2 (none) ({ frames := 2, cells := 1, slots := 12, locals := 25 } : Room) [] [.ref x, .int 12] H (fun v H' => v = none ∧ Kp H H' [x] ∧ ∃ t, H.1.size ≤ t ∧ SB Z H' x t [] (List.replicate 12 (.int 0))) := by
  refine Ct.in G (by first | exact plainFor_of_name (by simp [plainName, overriddenIn]; done) | decide +kernel) (ls := [.val (.ref x), .val (.int 12)]) rfl rfl fun D A0 => ?_
  have A1 := A0.run [(0, .aload_n 0, 1, 0), (1, .iload_n 1, 2, 0)] (pe := 2) (by decide +kernel) rfl
  obtain ⟨_, HA2, qA2, A2, moA2, szA2⟩ := A1.callI (argsL := [.int 12]) rfl (wd_65 G) (wd_66 G) (wd_69 G) (wd_70 G) (c_asbI G E V C N o) (by decide) ⟨_, _, (by decide +kernel : parseMethodDescriptor "(I)V" = some ⟨[.int], none⟩), rfl⟩ (by decide +kernel) (Wd := 0) (by decide) (Nat.le_of_ble_eq_true rfl) (by decide) (by decide) (by decide)
  obtain ⟨rfl, K, q⟩ := qA2
  exact ⟨_, _, _, _, A2.ret (by decide +kernel), ⟨rfl, K, q⟩, by decide, by decide⟩
theorem n32_shr0 (x : Int32) : x >>> ((0 : Int32) &&& 31) = x := by
  apply Int32.toInt_inj.mp
  rw [c_ishr _ 0 0 (by decide)]; simp
theorem c_ens (G : Glb Z a0) {a v : Addr} {cs : List Int32} {rs : List Value} {m : Nat} (S : SB Z H a v cs rs) (hm : m ≤ cs.length + rs.length) :
    Ct l Z EL0 (⟨"java/lang/AbstractStringBuilder", "ensureCapacityInternal", "(I)V"⟩ : MethodName) jdk_68_method_9_code 3 (none) ({ frames := 0, cells := 0, slots := 0, locals := 0 } : Room) [] [.ref a, .int m.toInt32] H (fun v H' => v = none ∧ H = H') := by
  refine Ct.in G (by first | exact plainFor_of_name (by simp [plainName, overriddenIn]; done) | decide +kernel) (ls := [.val (.ref a), .val (.int m.toInt32), .unset]) rfl rfl fun D A0 => ?_
  obtain ⟨E, V, C, N, T, -⟩ := S
  have hL := T.len; simp at hL
  have A1 := A0.run [(0, .aload_n 0, 1, 0)] (pe := 1) (by decide +kernel) rfl
  have A2 := A1.getF (wd_74 G) V (by decide +kernel)
  have A3 := A2.alen T (by decide +kernel) (z := (cs.length + rs.length).toInt32) (by simp)
  have A4 := A3.run [(5, .aload_n 0, 6, 0)] (pe := 6) (by decide +kernel) rfl
  have A5 := A4.getF (wd_76 G) C (by decide +kernel)
  have A6 := A5.run [(9, .ishr, 10, 0)] (pe := 10) (by decide +kernel) rfl
  rw [n32_shr0] at A6
  have A7 := A6.run [(10, .istore_n 2, 11, 0), (11, .iload_n 1, 12, 0), (12, .iload_n 2, 13, 0), (13, .isub, 14, 0)] (pe := 14) (by decide +kernel) rfl
  have hle : ¬ (0 : Int32) < m.toInt32 - (cs.length + rs.length).toInt32 := by
    have e := c_isub m.toInt32 (cs.length + rs.length).toInt32
    rw [n32_toInt (by omega), n32_toInt hL] at e
    have r := rng32 (m.toInt32 - (cs.length + rs.length).toInt32)
    rw [Int32.lt_iff_toInt_lt, show (0 : Int32).toInt = 0 by decide]; omega
  have A8 := A7.ifT (cd := .le) (o := 24) (by decide +kernel) hle (pe := 38) (by decide)
  exact ⟨_, _, _, _, A8.ret (by decide +kernel), ⟨rfl, rfl⟩, Nat.zero_le _, Nat.zero_le _⟩
theorem c_can (G : Glb Z a0) {c : Int32} (h : ¬ (255 : Int32) < c) : Ct l Z EL0 (⟨"java/lang/StringLatin1", "canEncode", "(C)Z"⟩ : MethodName) jdk_43_method_3_code 1 ((some .boolean)) ({ frames := 0, cells := 0, slots := 0, locals := 0 } : Room) [] [.int c] H (fun v H' => v = some (.int 1) ∧ H = H') := by
  refine Ct.in G (by first | exact plainFor_of_name (by simp [plainName, overriddenIn]; done) | decide +kernel) (ls := [.val (.int c)]) rfl rfl fun D A0 => ?_
  have A1 := A0.run [(0, .iload_n 0, 1, 0), (1, .sipush 255, 4, 255)] (pe := 4) (by decide +kernel) rfl
  have A2 := A1.icF (cd := .gt) (o := 7) (by decide +kernel) h
  have A3 := A2.run [(7, .iconst 1, 8, 1), (8, .goto 4, 12, 0)] (pe := 12) (by decide +kernel) rfl
  exact ⟨_, _, _, _, A3.retZ (by decide +kernel) rfl, ⟨rfl, rfl⟩, by decide, by decide⟩
theorem c_mmin (G : Glb Z a0) {i j : Nat} (hi : i < 2 ^ 31) (hj : j < 2 ^ 31) : Ct l Z EL0 (⟨"java/lang/Math", "min", "(II)I"⟩ : MethodName) jdk_29_method_69_code 2 ((some .int)) ({ frames := 0, cells := 0, slots := 0, locals := 0 } : Room) [] [.int i.toInt32, .int j.toInt32] H (fun v H' => v = some (.int (min i j).toInt32) ∧ H = H') := by
  refine Ct.in G (by decide +kernel) (ls := [.val (.int i.toInt32), .val (.int j.toInt32)]) rfl rfl fun D A0 => ?_
  have A1 := A0.run [(0, .iload_n 0, 1, 0), (1, .iload_n 1, 2, 0)] (pe := 2) (by decide +kernel) rfl
  by_cases h : j < i
  · have A2 := A1.icT (cd := .gt) (o := 7) (by decide +kernel) ((n32_lt hj hi).mpr h) (pe := 9) (by decide)
    have A3 := A2.run [(9, .iload_n 1, 10, 0)] (pe := 10) (by decide +kernel) rfl
    exact ⟨_, _, _, _, A3.retI (by decide +kernel), ⟨by rw [Nat.min_eq_right (by omega)], rfl⟩, by decide, by decide⟩
  · have A2 := A1.icF (cd := .gt) (o := 7) (by decide +kernel) (fun q => h ((n32_lt hj hi).mp q))
    have A3 := A2.run [(5, .iload_n 0, 6, 0), (6, .goto 4, 10, 0)] (pe := 10) (by decide +kernel) rfl
    exact ⟨_, _, _, _, A3.retI (by decide +kernel), ⟨by rw [Nat.min_eq_left (by omega)], rfl⟩, by decide, by decide⟩
theorem c_chl (G : Glb Z a0) {i j : Nat} (hi : i < 2 ^ 31) (hj : j < 2 ^ 31) (h : i ≤ j) : Ct l Z EL0 (⟨"java/util/Arrays", "checkLength", "(II)V"⟩ : MethodName) jdk_65_method_131_code 2 (none) ({ frames := 0, cells := 0, slots := 0, locals := 0 } : Room) [] [.int i.toInt32, .int j.toInt32] H (fun v H' => v = none ∧ H = H') := by
  refine Ct.in G (by first | exact plainFor_of_name (by simp [plainName, overriddenIn]; done) | decide +kernel) (ls := [.val (.int i.toInt32), .val (.int j.toInt32)]) rfl rfl fun D A0 => ?_
  have A1 := A0.run [(0, .iload_n 1, 1, 0), (1, .iload_n 0, 2, 0)] (pe := 2) (by decide +kernel) rfl
  have A2 := A1.icT (cd := .ge) (o := 35) (by decide +kernel) (fun q => by have := (n32_lt hj hi).mp q; omega) (pe := 37) (by decide)
  exact ⟨_, _, _, _, A2.ret (by decide +kernel), ⟨rfl, rfl⟩, by decide, by decide⟩
set_option maxRecDepth 65536 in
theorem c_cpb (G : Glb Z a0) {t : Addr} {vs : List Value} {i j : Nat} (T : Ar Z H t .byte vs) (h1 : i ≤ j) (h2 : j ≤ vs.length) (h3 : j - i ≤ 12) :
    Ct l Z EL0 (⟨"java/util/Arrays", "copyOfRangeByte", "([BII)[B"⟩ : MethodName) jdk_65_method_133_code 5 ((some (.array .byte))) ({ frames := 1, cells := 1, slots := 12, locals := 18 } : Room) [] [.ref t, .int i.toInt32, .int j.toInt32] H (fun v H' => ∃ u, v = some (.ref u) ∧ H.1.size ≤ u ∧ Kp H H' [] ∧ Ar Z H' u .byte ((vs.drop i).take (j - i)) ∧ H'.2 u) := by
  refine Ct.in G (by first | exact plainFor_of_name (by simp [plainName, overriddenIn]; done) | decide +kernel) (ls := [.val (.ref t), .val (.int i.toInt32), .val (.int j.toInt32), .unset, .unset]) rfl rfl fun D A0 => ?_
  have hL := T.len
  have A1 := A0.run [(0, .iload_n 1, 1, 0), (1, .iload_n 2, 2, 0)] (pe := 2) (by decide +kernel) rfl
  obtain ⟨_, HA2, qA2, A2, moA2, szA2⟩ := A1.callS (argsL := [.int i.toInt32, .int j.toInt32]) (wd_153 G) (wd_154 G) (wd_148 G) (wd_155 G) (c_chl G (by omega) (by omega) h1) (by decide) ⟨_, _, (by decide +kernel : parseMethodDescriptor "(II)V" = some ⟨[.int, .int], none⟩), rfl⟩ (by decide +kernel) (Wd := 0) (by decide) (Nat.le_of_ble_eq_true rfl) (by decide) (by decide) (by decide)
  obtain ⟨rfl, rfl⟩ := qA2
  have A3 := A2.run [(5, .iload_n 2, 6, 0), (6, .iload_n 1, 7, 0), (7, .isub, 8, 0)] (pe := 8) (by decide +kernel) rfl
  rw [n32_sub h1] at A3
  have A4 := A3.run [(8, .istore_n 3, 9, 0), (9, .iload_n 3, 10, 0)] (pe := 10) (by decide +kernel) rfl
  obtain ⟨u, H1, A5, hge, K1, U1, o1⟩ := A4.newA (aty := .byte) (wd_4 G) (by decide +kernel) (N := j - i) rfl (cap := 12) h3 (by decide) (by decide) (by decide)
  have A6 := A5.run [(12, .astore 4, 14, 0), (14, .aload_n 0, 15, 0), (15, .iload_n 1, 16, 0), (16, .aload 4, 18, 0), (18, .iconst 0, 19, 0), (19, .aload_n 0, 20, 0)] (pe := 20) (by decide +kernel) rfl
  have A7 := A6.alen (T.ky K1) (by decide +kernel) rfl
  have A8 := A7.run [(21, .iload_n 1, 22, 0), (22, .isub, 23, 0)] (pe := 23) (by decide +kernel) rfl
  rw [n32_sub (by omega)] at A8
  have A9 := A8.run [(23, .iload_n 3, 24, 0)] (pe := 24) (by decide +kernel) rfl
  obtain ⟨_, HA10, qA10, A10, moA10, szA10⟩ := A9.callS (argsL := [.int (vs.length - i).toInt32, .int (j - i).toInt32]) (wd_156 G) (wd_157 G) (wd_158 G) (wd_159 G) (c_mmin G (by omega) (by omega)) (by decide) ⟨_, _, (by decide +kernel : parseMethodDescriptor "(II)I" = some ⟨[.int, .int], some .int⟩), rfl⟩ (by decide +kernel) (Wd := 4) (by decide) (Nat.le_of_ble_eq_true rfl) (by decide) (by decide) (by decide)
  obtain ⟨rfl, rfl⟩ := qA10
  rw [Nat.min_eq_right (by omega)] at A10
  obtain ⟨H2, A11, K2, U2⟩ := A10.copy (wd_160 G) (wd_163 G) (wd_161 G) (wd_162 G) (T.ky K1) U1 rfl o1 (i := i) rfl (j := 0) rfl (q := j - i) rfl (by omega) (by simp) (by decide +kernel) (by decide) (Wd := 0) (by decide) (Nat.le_of_ble_eq_true rfl)
  have A12 := A11.run [(30, .aload 4, 32, 0)] (pe := 32) (by decide +kernel) rfl
  have e : (List.replicate (j - i) (defaultValue (newarray.typeOf .byte))).drop (0 + (j - i)) = [] := List.drop_eq_nil_of_le (by simp)
  rw [e, List.take_zero, List.nil_append, List.append_nil] at U2
  exact ⟨_, _, _, _, A12.retA (by decide +kernel) rfl rfl, ⟨u, rfl, hge, K1.trans K2 (fun y hy => by cases List.mem_singleton.mp hy; exact Or.inr hge), U2, K2.2 _ o1⟩, by decide, by decide⟩
theorem c_cpr (G : Glb Z a0) {t : Addr} {vs : List Value} {i j : Nat} (T : Ar Z H t .byte vs) (h1 : i ≤ j) (h2 : j ≤ vs.length) (h3 : j - i ≤ 12) (h4 : i = 0 → j ≠ vs.length) :
    Ct l Z EL0 (⟨"java/util/Arrays", "copyOfRange", "([BII)[B"⟩ : MethodName) jdk_65_method_132_code 3 ((some (.array .byte))) ({ frames := 2, cells := 1, slots := 12, locals := 34 } : Room) [] [.ref t, .int i.toInt32, .int j.toInt32] H (fun v H' => ∃ u, v = some (.ref u) ∧ H.1.size ≤ u ∧ Kp H H' [] ∧ Ar Z H' u .byte ((vs.drop i).take (j - i)) ∧ H'.2 u) := by
  refine Ct.in G (by first | exact plainFor_of_name (by simp [plainName, overriddenIn]; done) | decide +kernel) (ls := [.val (.ref t), .val (.int i.toInt32), .val (.int j.toInt32)]) rfl rfl fun D A0 => ?_
  have hL := T.len
  have A1 := A0.run [(0, .iload_n 1, 1, 0)] (pe := 1) (by decide +kernel) rfl
  have key : Wk l Z a0 EL0 "java/util/Arrays" jdk_65_method_132_code 3 "copyOfRange" (some (.array .byte)) ({ frames := 2, cells := 1, slots := 12, locals := 34 } : Room) D 10 [.val (.ref t), .val (.int i.toInt32), .val (.int j.toInt32)] [] H 0 0 := by
    by_cases h : i = 0
    · have B1 := A1.ifF (cd := .ne) (o := 9) (by decide +kernel) (not_not_intro (by rw [h]; rfl))
      have B2 := B1.run [(4, .iload_n 2, 5, 0), (5, .aload_n 0, 6, 0)] (pe := 6) (by decide +kernel) rfl
      have B3 := B2.alen T (by decide +kernel) rfl
      have B4 := B3.icF (cd := .eq) (o := 10) (by decide +kernel) (fun q => h4 h ((n32_inj (by omega) hL).mp q))
      exact B4
    · have B1 := A1.ifT (cd := .ne) (o := 9) (by decide +kernel) (fun q => h ((n32_inj (j := 0) (by omega) (by decide)).mp q)) (pe := 10) (by decide)
      exact B1
  have A2 := key.run [(10, .aload_n 0, 11, 0), (11, .iload_n 1, 12, 0), (12, .iload_n 2, 13, 0)] (pe := 13) (by decide +kernel) rfl
  obtain ⟨_, HA3, qA3, A3, moA3, szA3⟩ := A2.callS (argsL := [.ref t, .int i.toInt32, .int j.toInt32]) (wd_150 G) (wd_151 G) (wd_148 G) (wd_152 G) (c_cpb G T h1 h2 h3) (by decide) ⟨_, _, (by decide +kernel : parseMethodDescriptor "([BII)[B" = some ⟨[(.array .byte), .int, .int], some (.array .byte)⟩), rfl⟩ (by decide +kernel) (Wd := 0) (by decide) (Nat.le_of_ble_eq_true rfl) (by decide) (by decide) (by decide)
  obtain ⟨u, rfl, q⟩ := qA3
  exact ⟨_, _, _, _, A3.retA (by decide +kernel) rfl rfl, ⟨u, rfl, q⟩, by decide, by decide⟩
theorem c_gva (G : Glb Z a0) {a v : Addr} (V : Fld Z H.1 a ASB "value" "[B" (.ref v)) : Ct l Z EL0 (⟨"java/lang/AbstractStringBuilder", "getValue", "()[B"⟩ : MethodName) jdk_68_method_64_code 1 ((some (.array .byte))) ({ frames := 0, cells := 0, slots := 0, locals := 0 } : Room) [] [.ref a] H (fun v' H' => v' = some (.ref v) ∧ H = H') := by
  refine Ct.in G (by first | exact plainFor_of_name (by simp [plainName, overriddenIn]; done) | decide +kernel) (ls := [.val (.ref a)]) rfl rfl fun D A0 => ?_
  have A1 := A0.run [(0, .aload_n 0, 1, 0)] (pe := 1) (by decide +kernel) rfl
  have A2 := A1.getF (wd_74 G) V (by decide +kernel)
  exact ⟨_, _, _, _, A2.retA (by decide +kernel) rfl rfl, ⟨rfl, rfl⟩, by decide, by decide⟩
theorem c_asbL (G : Glb Z a0) {a : Addr} {n : Int32} (N : Fld Z H.1 a ASB "count" "I" (.int n)) : Ct l Z EL0 (⟨"java/lang/AbstractStringBuilder", "length", "()I"⟩ : MethodName) jdk_68_method_6_code 1 ((some .int)) ({ frames := 0, cells := 0, slots := 0, locals := 0 } : Room) [] [.ref a] H (fun v' H' => v' = some (.int n) ∧ H = H') := by
  refine Ct.in G (by first | exact plainFor_of_name (by simp [plainName, overriddenIn]; done) | decide +kernel) (ls := [.val (.ref a)]) rfl rfl fun D A0 => ?_
  have A1 := A0.run [(0, .aload_n 0, 1, 0)] (pe := 1) (by decide +kernel) rfl
  have A2 := A1.getF (wd_90 G) N (by decide +kernel)
  exact ⟨_, _, _, _, A2.retI (by decide +kernel), ⟨rfl, rfl⟩, by decide, by decide⟩
theorem c_sbL (G : Glb Z a0) {a : Addr} {n : Int32} (E : Exa Z H.1 a SBn) (N : Fld Z H.1 a ASB "count" "I" (.int n)) : Ct l Z EL0 (⟨"java/lang/StringBuilder", "length", "()I"⟩ : MethodName) jdk_67_method_93_code 1 ((some .int)) ({ frames := 1, cells := 0, slots := 0, locals := 12 } : Room) [] [.ref a] H (fun v' H' => v' = some (.int n) ∧ H = H') := by
  refine Ct.in G (by first | exact plainFor_of_name (by simp [plainName, overriddenIn]; done) | decide +kernel) (ls := [.val (.ref a)]) rfl rfl fun D A0 => ?_
  have A1 := A0.run [(0, .aload_n 0, 1, 0)] (pe := 1) (by decide +kernel) rfl
  obtain ⟨_, HA2, qA2, A2, moA2, szA2⟩ := A1.callU (argsL := []) (wd_141 G) (wd_136 G) (wd_95 G) rfl (wd_87 G) (wd_137 G) (by decide) (wd_69 G) (wd_142 G) E (c_asbL G N) (by decide) ⟨_, _, (by decide +kernel : parseMethodDescriptor "()I" = some ⟨[], some .int⟩), rfl⟩ (by decide +kernel) (Wd := 0) (by decide) (Nat.le_of_ble_eq_true rfl) (by decide) (by decide) (by decide)
  obtain ⟨rfl, rfl⟩ := qA2
  exact ⟨_, _, _, _, A2.retI (by decide +kernel), ⟨rfl, rfl⟩, by decide, by decide⟩
theorem c_asbLat (G : Glb Z a0) {a : Addr} (C : Fld Z H.1 a ASB "coder" "B" (.int 0)) : Ct l Z EL0 (⟨"java/lang/AbstractStringBuilder", "isLatin1", "()Z"⟩ : MethodName) jdk_68_method_68_code 1 ((some .boolean)) ({ frames := 0, cells := 0, slots := 0, locals := 0 } : Room) [] [.ref a] H (fun v' H' => v' = some (.int 1) ∧ H = H') := by
  refine Ct.in G (by first | exact plainFor_of_name (by simp [plainName, overriddenIn]; done) | decide +kernel) (ls := [.val (.ref a)]) rfl rfl fun D A0 => ?_
  obtain ⟨cz, hcz, cS⟩ := G_compact G
  have A1 := A0.getS (wd_72 G) cS (by decide +kernel)
  have A2 := A1.ifF (cd := .eq) (o := 14) (by decide +kernel) hcz
  have A3 := A2.run [(6, .aload_n 0, 7, 0)] (pe := 7) (by decide +kernel) rfl
  have A4 := A3.getF (wd_76 G) C (by decide +kernel)
  have A5 := A4.ifF (cd := .ne) (o := 7) (by decide +kernel) (not_not_intro rfl)
  have A6 := A5.run [(13, .iconst 1, 14, 1), (14, .goto 4, 18, 0)] (pe := 18) (by decide +kernel) rfl
  exact ⟨_, _, _, _, A6.retZ (by decide +kernel) rfl, ⟨rfl, rfl⟩, by decide, by decide⟩
set_option maxRecDepth 65536 in
theorem c_sIA (G : Glb Z a0) {x a v : Addr} {cs : List Int32} {rs : List Value} (S : SB Z H a v cs rs) (hr : rs ≠ []) (hc : cs.length ≤ 12) (E : Exa Z H.1 x "java/lang/String") (V : Fld Z H.1 x "java/lang/String" "value" "[B" .null) (C : Fld Z H.1 x "java/lang/String" "coder" "B" (.int 0)) (o : H.2 x) :
    Ct l Z EL0 (⟨"java/lang/String", "<init>", "(Ljava/lang/AbstractStringBuilder;Ljava/lang/Void;)V"⟩ : MethodName) jdk_42_method_150_code 5 (none) ({ frames := 3, cells := 1, slots := 12, locals := 49 } : Room) [] [.ref x, .ref a, .null] H (fun v' H' => v' = none ∧ Kp H H' [x] ∧ Str Z H' x cs) := by
  refine Ct.in G (by first | exact plainFor_of_name (by simp [plainName, overriddenIn]; done) | decide +kernel) (ls := [.val (.ref x), .val (.ref a), .val .null, .unset, .unset]) rfl rfl fun D A0 => ?_
  obtain ⟨SE, SV, SC, SN, ST, la, lc, o1, o2⟩ := S
  have hL := ST.len; simp at hL
  have hr' : 0 < rs.length := List.length_pos_iff.mpr hr
  have A1 := A0.run [(0, .aload_n 0, 1, 0)] (pe := 1) (by decide +kernel) rfl
  have A2 := A1.initO (wd_129 G) (wd_15 G) (wd_16 G) (by decide +kernel) (Wd := 0) (by decide) (Nat.le_of_ble_eq_true rfl) (by decide)
  have A3 := A2.run [(4, .aload_n 1, 5, 0)] (pe := 5) (by decide +kernel) rfl
  obtain ⟨_, HA4, qA4, A4, moA4, szA4⟩ := A3.callV (argsL := []) (wd_130 G) (wd_131 G) (wd_133 G) rfl (wd_133 G) (wd_132 G) (wd_69 G) (wd_134 G) SE (c_gva G SV) (by decide) ⟨_, _, (by decide +kernel : parseMethodDescriptor "()[B" = some ⟨[], some (.array .byte)⟩), rfl⟩ (by decide +kernel) (Wd := 0) (by decide) (Nat.le_of_ble_eq_true rfl) (by decide) (by decide) (by decide)
  obtain ⟨rfl, rfl⟩ := qA4
  have A5 := A4.run [(8, .astore_n 3, 9, 0), (9, .aload_n 1, 10, 0)] (pe := 10) (by decide +kernel) rfl
  obtain ⟨_, HA6, qA6, A6, moA6, szA6⟩ := A5.callV (argsL := []) (wd_135 G) (wd_136 G) (wd_95 G) rfl (wd_138 G) (wd_139 G) (wd_61 G) (wd_140 G) SE (c_sbL G SE SN) (by decide) ⟨_, _, (by decide +kernel : parseMethodDescriptor "()I" = some ⟨[], some .int⟩), rfl⟩ (by decide +kernel) (Wd := 0) (by decide) (Nat.le_of_ble_eq_true rfl) (by decide) (by decide) (by decide)
  obtain ⟨rfl, rfl⟩ := qA6
  have A7 := A6.run [(13, .istore 4, 15, 0), (15, .aload_n 1, 16, 0)] (pe := 16) (by decide +kernel) rfl
  obtain ⟨_, HA8, qA8, A8, moA8, szA8⟩ := A7.callV (argsL := []) (wd_143 G) (wd_98 G) (wd_100 G) rfl (wd_100 G) (wd_99 G) (wd_69 G) (wd_101 G) SE (c_asbLat G SC) (by decide) ⟨_, _, (by decide +kernel : parseMethodDescriptor "()Z" = some ⟨[], some .boolean⟩), rfl⟩ (by decide +kernel) (Wd := 0) (by decide) (Nat.le_of_ble_eq_true rfl) (by decide) (by decide) (by decide)
  obtain ⟨rfl, rfl⟩ := qA8
  have A9 := A8.ifF (cd := .eq) (o := 22) (by decide +kernel) (by show ¬ _ = _; decide)
  have A10 := A9.run [(22, .aload_n 0, 23, 0), (23, .iconst 0, 24, 0)] (pe := 24) (by decide +kernel) rfl
  obtain ⟨H2, A11, K2, W2⟩ := A10.putFin (wd_144 G) C E (wd_145 G) rfl rfl (wd_121 G) o (by decide +kernel) (ty := .byte) (by decide) rfl rfl
  have A12 := A11.run [(27, .aload_n 0, 28, 0), (28, .aload_n 3, 29, 0), (29, .iconst 0, 30, 0), (30, .iload 4, 32, 0)] (pe := 32) (by decide +kernel) rfl
  have hvx : v ∉ [x] := by
    obtain ⟨cA, A, -⟩ := ST
    simpa using Ne.symm (ne_arr E (wd_121 G) A)
  obtain ⟨_, HA13, qA13, A13, moA13, szA13⟩ := A12.callS (argsL := [.ref v, .int (0 : Nat).toInt32, .int cs.length.toInt32]) (wd_146 G) (wd_147 G) (wd_148 G) (wd_149 G) (c_cpr G (ST.ky K2 hvx) (i := 0) (j := cs.length) (by omega) (by simp) (by omega) (fun _ => by simp; omega)) (by decide) ⟨_, _, (by decide +kernel : parseMethodDescriptor "([BII)[B" = some ⟨[(.array .byte), .int, .int], some (.array .byte)⟩), rfl⟩ (by decide +kernel) (Wd := 1) (by decide) (Nat.le_of_ble_eq_true rfl) (by decide) (by decide) (by decide)
  obtain ⟨u, rfl, hge, K3, U, o3⟩ := qA13
  have sne := slot_ne (Z := Z) (Or.inr (wd_145 G)) (Or.inr (wd_165 G)) (by decide) (t := .byte) (by decide) (t' := .array .byte) (by decide)
  have V3 := ((V.other W2 (Or.inr (Ne.symm sne))).ky K3)
  obtain ⟨H4, A14, K4, W4⟩ := A13.putFin (wd_164 G) V3 ((E.ky K2).ky K3) (wd_165 G) rfl rfl (wd_121 G) (K3.2 _ (K2.2 _ o)) (by decide +kernel) (ty := .array .byte) (by decide) rfl rfl
  have A15 := A14.run [(38, .goto 59, 97, 0)] (pe := 97) (by decide +kernel) rfl
  have e : ((lo8 cs ++ rs).drop 0).take (cs.length - 0) = lo8 cs := by
    rw [List.drop_zero, Nat.sub_zero, List.take_append_of_le_length (by simp)]; exact List.take_of_length_le (by simp)
  rw [e] at U
  have hux : u ∉ [x] := by simpa using Nat.ne_of_gt (Nat.lt_of_lt_of_le (E.ky K2).lt hge)
  refine ⟨_, _, _, _, A15.ret (by decide +kernel), ⟨rfl, (K2.trans K3 fun x hx => nomatch hx).trans K4 fun x hx => Or.inl hx, ((E.ky K2).ky K3).ky K4, lc, u, V3.same W4, Or.inl ⟨la, ((C.same W2).ky K3).other W4 (Or.inr sne), U.ky K4 hux⟩⟩, by decide, by decide⟩
theorem c_sIS (G : Glb Z a0) {x a v : Addr} {cs : List Int32} {rs : List Value} (S : SB Z H a v cs rs) (hr : rs ≠ []) (hc : cs.length ≤ 12) (E : Exa Z H.1 x "java/lang/String") (V : Fld Z H.1 x "java/lang/String" "value" "[B" .null) (C : Fld Z H.1 x "java/lang/String" "coder" "B" (.int 0)) (o : H.2 x) :
    Ct l Z EL0 (⟨"java/lang/String", "<init>", "(Ljava/lang/StringBuilder;)V"⟩ : MethodName) jdk_42_method_53_code 2 (none) ({ frames := 4, cells := 1, slots := 12, locals := 65 } : Room) [] [.ref x, .ref a] H (fun v' H' => v' = none ∧ Kp H H' [x] ∧ Str Z H' x cs) := by
  refine Ct.in G (by first | exact plainFor_of_name (by simp [plainName, overriddenIn]; done) | decide +kernel) (ls := [.val (.ref x), .val (.ref a)]) rfl rfl fun D A0 => ?_
  have A1 := A0.run [(0, .aload_n 0, 1, 0), (1, .aload_n 1, 2, 0), (2, .aconst_null, 3, 0)] (pe := 3) (by decide +kernel) rfl
  obtain ⟨_, HA2, qA2, A2, moA2, szA2⟩ := A1.callI (argsL := [.ref a, .null]) rfl (wd_126 G) (wd_127 G) (wd_73 G) (wd_128 G) (c_sIA G S hr hc E V C o) (by decide) ⟨_, _, (by decide +kernel : parseMethodDescriptor "(Ljava/lang/AbstractStringBuilder;Ljava/lang/Void;)V" = some ⟨[(.object "java/lang/AbstractStringBuilder"), (.object "java/lang/Void")], none⟩), rfl⟩ (by decide +kernel) (Wd := 0) (by decide) (Nat.le_of_ble_eq_true rfl) (by decide) (by decide) (by decide)
  obtain ⟨rfl, q⟩ := qA2
  exact ⟨_, _, _, _, A2.ret (by decide +kernel), ⟨rfl, q⟩, by decide, by decide⟩
theorem c_tos (G : Glb Z a0) {a v : Addr} {cs : List Int32} {rs : List Value} (S : SB Z H a v cs rs) (hr : rs ≠ []) (hc : cs.length ≤ 12) :
    Ct l Z EL0 (⟨"java/lang/StringBuilder", "toString", "()Ljava/lang/String;"⟩ : MethodName) jdk_67_method_42_code 1 ((some (.object "java/lang/String"))) ({ frames := 5, cells := 2, slots := 16, locals := 79 } : Room) [] [.ref a] H (fun v' H' => ∃ s, v' = some (.ref s) ∧ H.1.size ≤ s ∧ Kp H H' [] ∧ Str Z H' s cs) := by
  refine Ct.in G (by first | exact plainFor_of_name (by simp [plainName, overriddenIn]; done) | decide +kernel) (ls := [.val (.ref a)]) rfl rfl fun D A0 => ?_
  obtain ⟨s, H1, A1, hge, K1, E, o, Df⟩ := A0.newO (wd_120 G) (wd_121 G) (wd_73 G) (by decide +kernel) (by decide) (by decide)
  have A2 := A1.run [(3, .dup, 4, 0), (4, .aload_n 0, 5, 0)] (pe := 5) (by decide +kernel) rfl
  obtain ⟨_, HA3, qA3, A3, moA3, szA3⟩ := A2.callI (argsL := [.ref a]) rfl (wd_122 G) (wd_123 G) (wd_73 G) (wd_125 G) (c_sIS G (S.ky K1) hr hc E (Df (Or.inr (wd_165 G)) (t := .array .byte) (by decide)) (Df (Or.inr (wd_145 G)) (t := .byte) (by decide)) o) (by decide) ⟨_, _, (by decide +kernel : parseMethodDescriptor "(Ljava/lang/StringBuilder;)V" = some ⟨[(.object "java/lang/StringBuilder")], none⟩), rfl⟩ (by decide +kernel) (Wd := 1) (by decide) (Nat.le_of_ble_eq_true rfl) (by decide) (by decide) (by decide)
  obtain ⟨rfl, K2, S2⟩ := qA3
  exact ⟨_, _, _, _, A3.retA (by decide +kernel) rfl rfl, ⟨s, rfl, hge, K1.trans K2 (fun y hy => by cases List.mem_singleton.mp hy; exact Or.inr hge), S2⟩, by decide, by decide⟩
theorem set_app {cs : List Int32} {rs : List Value} {v : Value} (h : rs ≠ []) : (lo8 cs ++ rs).set cs.length v = lo8 cs ++ [v] ++ rs.drop 1 := by
  obtain ⟨r, q, rfl⟩ := List.exists_cons_of_ne_nil h
  rw [List.set_append_right _ _ (by simp)]; simp
set_option maxRecDepth 65536 in
theorem c_aapC (G : Glb Z a0) {a v : Addr} {cs : List Int32} {rs : List Value} {c : Int32} (S : SB Z H a v cs rs) (hC : isC c) (hL : ¬ (255 : Int32) < c) (hr : rs ≠ []) :
    Ct l Z EL0 (⟨"java/lang/AbstractStringBuilder", "append", "(C)Ljava/lang/AbstractStringBuilder;"⟩ : MethodName) jdk_68_method_31_code 2 ((some (.object "java/lang/AbstractStringBuilder"))) ({ frames := 1, cells := 0, slots := 0, locals := 14 } : Room) [] [.ref a, .int c] H (fun v' H' => v' = some (.ref a) ∧ Kp H H' [a, v] ∧ SB Z H' a v (cs ++ [c]) (rs.drop 1)) := by
  refine Ct.in G (by first | exact plainFor_of_name (by simp [plainName, overriddenIn]; done) | decide +kernel) (ls := [.val (.ref a), .val (.int c)]) rfl rfl fun D A0 => ?_
  have hrl : 0 < rs.length := List.length_pos_iff.mpr hr
  have hav : a ∉ [v] := by simpa using S.ne G
  have hva : v ∉ [a] := by simpa using Ne.symm (S.ne G)
  have S0 := S
  obtain ⟨E, V, Cd, N, T, la, lc, o1, o2⟩ := S
  have A1 := A0.run [(0, .aload_n 0, 1, 0), (1, .aload_n 0, 2, 0)] (pe := 2) (by decide +kernel) rfl
  have A2 := A1.getF (wd_90 G) N (by decide +kernel)
  have A3 := A2.run [(5, .iconst 1, 6, 1), (6, .iadd, 7, 0)] (pe := 7) (by decide +kernel) rfl
  rw [n32_succ] at A3
  obtain ⟨_, HA4, qA4, A4, moA4, szA4⟩ := A3.callV (argsL := [.int (cs.length + 1).toInt32]) (wd_92 G) (decl_of (wd_93 G) (wd_96 G)) (wd_95 G) rfl (wd_95 G) (wd_93 G) (wd_69 G) (wd_96 G) E (c_ens G S0 (by omega)) (by decide) ⟨_, _, (by decide +kernel : parseMethodDescriptor "(I)V" = some ⟨[.int], none⟩), rfl⟩ (by decide +kernel) (Wd := 0) (by decide) (Nat.le_of_ble_eq_true rfl) (by decide) (by decide) (by decide)
  obtain ⟨rfl, rfl⟩ := qA4
  have A5 := A4.run [(10, .aload_n 0, 11, 0)] (pe := 11) (by decide +kernel) rfl
  obtain ⟨_, HA6, qA6, A6, moA6, szA6⟩ := A5.callV (argsL := []) (wd_97 G) (wd_98 G) (wd_100 G) rfl (wd_100 G) (wd_99 G) (wd_69 G) (wd_101 G) E (c_asbLat G Cd) (by decide) ⟨_, _, (by decide +kernel : parseMethodDescriptor "()Z" = some ⟨[], some .boolean⟩), rfl⟩ (by decide +kernel) (Wd := 0) (by decide) (Nat.le_of_ble_eq_true rfl) (by decide) (by decide) (by decide)
  obtain ⟨rfl, rfl⟩ := qA6
  have A7 := A6.ifF (cd := .eq) (o := 31) (by decide +kernel) (by show ¬ _ = _; decide)
  have A8 := A7.run [(17, .iload_n 1, 18, 0)] (pe := 18) (by decide +kernel) rfl
  obtain ⟨_, HA9, qA9, A9, moA9, szA9⟩ := A8.callS (argsL := [.int c]) (wd_102 G) (wd_103 G) (wd_104 G) (wd_105 G) (c_can G hL) (by decide) ⟨_, _, (by decide +kernel : parseMethodDescriptor "(C)Z" = some ⟨[.char], some .boolean⟩), rfl⟩ (by decide +kernel) (Wd := 0) (by decide) (Nat.le_of_ble_eq_true rfl) (by decide) (by decide) (by decide)
  obtain ⟨rfl, rfl⟩ := qA9
  have A10 := A9.ifF (cd := .eq) (o := 24) (by decide +kernel) (by show ¬ _ = _; decide)
  have A11 := A10.run [(24, .aload_n 0, 25, 0)] (pe := 25) (by decide +kernel) rfl
  have A12 := A11.getF (wd_74 G) V (by decide +kernel)
  have A13 := A12.run [(28, .aload_n 0, 29, 0), (29, .dup, 30, 0)] (pe := 30) (by decide +kernel) rfl
  have A14 := A13.getF (wd_90 G) N (by decide +kernel)
  have A15 := A14.run [(33, .dup_x1, 34, 0), (34, .iconst 1, 35, 1), (35, .iadd, 36, 0)] (pe := 36) (by decide +kernel) rfl
  rw [n32_succ] at A15
  obtain ⟨H1, A16, K1, W1⟩ := A15.putF (wd_90 G) N E (wd_91 G) (wd_60 G) o1 (by decide +kernel) (ty := .int) (by decide) rfl rfl
  have A17 := A16.run [(39, .iload_n 1, 40, 0), (40, .i2b, 41, 0)] (pe := 41) (by decide +kernel) rfl
  obtain ⟨H2, A18, K2, T2⟩ := A17.bastore (T.ky K1 hva) (K1.2 _ o2) (by decide +kernel) rfl (by simp; omega) (x2 := b8 c) (by have h := c_i2b c; apply Int32.toInt_inj.mp; have h2 := c_i2b (c.toInt8.toInt32); show (c.toInt8.toInt32.toInt8.toInt32).toInt = (c.toInt8.toInt32).toInt; omega)
  have A19 := A18.run [(42, .goto 33, 75, 0), (75, .aload_n 0, 76, 0)] (pe := 76) (by decide +kernel) rfl
  rw [set_app hr] at T2
  refine ⟨_, _, _, _, A19.retA (by decide +kernel) rfl rfl, ⟨rfl, (K1.wide fun x hx => Or.inl (by simp at hx; simp [hx])).trans K2 fun x hx => Or.inl (by simp at hx; simp [hx]), (E.ky K1).ky K2, ((V.other W1 (Or.inr (sl_vn G)))).ky K2 hav, ((Cd.other W1 (Or.inr (sl_cn G)))).ky K2 hav, by rw [List.length_append]; exact (N.same W1).ky K2 hav, by rw [show lo8 (cs ++ [c]) = lo8 cs ++ [.int (b8 c)] from List.map_append]; exact T2, ?_, ?_, K2.2 _ (K1.2 _ o1), K2.2 _ (K1.2 _ o2)⟩, by decide, by decide⟩
  · exact fun d hd => (List.mem_append.mp hd).elim (la d) (fun q => by cases List.mem_singleton.mp q; exact hL)
  · exact fun d hd => (List.mem_append.mp hd).elim (lc d) (fun q => by cases List.mem_singleton.mp q; exact hC)
theorem c_apC (G : Glb Z a0) {a v : Addr} {cs : List Int32} {rs : List Value} {c : Int32} (S : SB Z H a v cs rs) (hC : isC c) (hL : ¬ (255 : Int32) < c) (hr : rs ≠ []) :
    Ct l Z EL0 (⟨"java/lang/StringBuilder", "append", "(C)Ljava/lang/StringBuilder;"⟩ : MethodName) jdk_67_method_14_code 2 ((some (.object "java/lang/StringBuilder"))) ({ frames := 2, cells := 0, slots := 0, locals := 27 } : Room) [] [.ref a, .int c] H (fun v' H' => v' = some (.ref a) ∧ Kp H H' [a, v] ∧ SB Z H' a v (cs ++ [c]) (rs.drop 1)) := by
  refine Ct.in G (by first | exact plainFor_of_name (by simp [plainName, overriddenIn]; done) | decide +kernel) (ls := [.val (.ref a), .val (.int c)]) rfl rfl fun D A0 => ?_
  have A1 := A0.run [(0, .aload_n 0, 1, 0), (1, .iload_n 1, 2, 0)] (pe := 2) (by decide +kernel) rfl
  obtain ⟨_, HA2, qA2, A2, moA2, szA2⟩ := A1.callU (argsL := [.int c]) (wd_85 G) (wd_88 G) (wd_95 G) rfl (wd_87 G) (wd_86 G) (by decide) (wd_69 G) (wd_89 G) S.1 (c_aapC G S hC hL hr) (by decide) ⟨_, _, (by decide +kernel : parseMethodDescriptor "(C)Ljava/lang/AbstractStringBuilder;" = some ⟨[.char], some (.object "java/lang/AbstractStringBuilder")⟩), rfl⟩ (by decide +kernel) (Wd := 0) (by decide) (Nat.le_of_ble_eq_true rfl) (by decide) (by decide) (by decide)
  obtain ⟨rfl, q⟩ := qA2
  have A3 := A2.run [(5, .pop, 6, 0), (6, .aload_n 0, 7, 0)] (pe := 7) (by decide +kernel) rfl
  exact ⟨_, _, _, _, A3.retA (by decide +kernel) rfl rfl, ⟨rfl, q⟩, by decide, by decide⟩
/-- what a builder's array holds is chars of a kind; which, does not matter -/
def Bs (cs : List Int32) : Prop := Lat cs ∧ ∀ c ∈ cs, isC c
theorem Bs.set {cs : List Int32} (h : Bs cs) {i : Nat} {c : Int32} (hc : c ∈ cs) : Bs (cs.set i c) :=
  ⟨fun d hd => (List.mem_or_eq_of_mem_set hd).elim (h.1 d) (fun e => e ▸ h.1 c hc), fun d hd => (List.mem_or_eq_of_mem_set hd).elim (h.2 d) (fun e => e ▸ h.2 c hc)⟩
theorem lo8_set {cs : List Int32} {rs : List Value} {i : Nat} {c : Int32} (h : i < cs.length) : (lo8 cs ++ rs).set i (.int (b8 c)) = lo8 (cs.set i c) ++ rs := by
  rw [List.set_append_left _ _ (by simpa using h)]; simp [List.map_set]
theorem i2b_b8 (c : Int32) : nar .byte (b8 c) = b8 c := by
  have h := c_i2b c; apply Int32.toInt_inj.mp; have h2 := c_i2b (c.toInt8.toInt32); show (c.toInt8.toInt32.toInt8.toInt32).toInt = (c.toInt8.toInt32).toInt; omega
abbrev SU (s : Slot) : Prop := s = .unset ∨ ∃ x, s = .val (.int x)
set_option maxRecDepth 65536 in
theorem l_rev (G : Glb Z a0) {a v : Addr} {n : Nat} {rs : List Value} {H0 : HP} (hn : 1 ≤ n) (hn2 : n < 1000) :
    ∀ (j : Nat) (cs : List Int32) (H : HP) (s5 s6 : Slot), cs.length = n → Bs cs → 2 * j ≤ n → SU s5 → SU s6 → Kp H0 H [v] → H.2 v → Ar Z H v .byte (lo8 cs ++ rs) → Wk l Z a0 EL0 "java/lang/AbstractStringBuilder" jdk_68_method_60_code 7 "reverse" (some (.object "java/lang/AbstractStringBuilder")) ({ frames := 1, cells := 0, slots := 0, locals := 12 } : Room) D 28 [.val (.ref a), .val (.ref v), .val (.int n.toInt32), .val (.int (n - 1).toInt32), .val (.int (j.toInt32 - 1)), s5, s6] [] H 0 0 →
      ∃ cs' H', cs'.length = n ∧ Bs cs' ∧ Kp H0 H' [v] ∧ H'.2 v ∧ Ar Z H' v .byte (lo8 cs' ++ rs) ∧ Rt Z EL0 D (some (.ref a)) H' 0 0 := by
  intro j
  induction j with
  | zero =>
    intro cs H s5 s6 hl hB hj h5 h6 K o T A0
    have A1 := A0.run [(28, .iload 4, 30, 0)] (pe := 30) (by decide +kernel) rfl
    have A2 := A1.ifT (cd := .lt) (o := 35) (by decide +kernel) (by show _ < _; decide) (pe := 65) (by decide)
    have A3 := A2.run [(65, .goto 8, 73, 0), (73, .aload_n 0, 74, 0)] (pe := 74) (by decide +kernel) rfl
    exact ⟨cs, H, hl, hB, K, o, T, A3.retA (by decide +kernel) rfl rfl⟩
  | succ j ih =>
    intro cs H s5 s6 hl hB hj h5 h6 K o T A0
    rw [show (j + 1).toInt32 - 1 = j.toInt32 from by rw [show (1 : Int32) = (1 : Nat).toInt32 from rfl, n32_sub (by omega)]; rfl] at A0
    have A1 := A0.run [(28, .iload 4, 30, 0)] (pe := 30) (by decide +kernel) rfl
    have A2 := A1.ifF (cd := .lt) (o := 35) (by decide +kernel) (nonneg_nat (by omega))
    have hk : (n - 1).toInt32 - j.toInt32 = (n - 1 - j).toInt32 := n32_sub (by omega)
    obtain ⟨c, hc⟩ : ∃ c, cs[j]? = some c := ⟨_, List.getElem?_eq_getElem (by omega)⟩
    obtain ⟨d, hd⟩ : ∃ d, cs[n - 1 - j]? = some d := ⟨_, List.getElem?_eq_getElem (by omega)⟩
    have A3 : Wk l Z a0 EL0 "java/lang/AbstractStringBuilder" jdk_68_method_60_code 7 "reverse" (some (.object "java/lang/AbstractStringBuilder")) ({ frames := 1, cells := 0, slots := 0, locals := 12 } : Room) D 42 [.val (.ref a), .val (.ref v), .val (.int n.toInt32), .val (.int (n - 1).toInt32), .val (.int j.toInt32), .val (.int ((n - 1).toInt32 - j.toInt32)), s6] [.int j.toInt32, .ref v] H 0 0 := by
      rcases h5 with rfl | ⟨y, rfl⟩ <;> exact A2.run [(33, .iload_n 3, 34, 0), (34, .iload 4, 36, 0), (36, .isub, 37, 0), (37, .istore 5, 39, 0), (39, .aload_n 1, 40, 0), (40, .iload 4, 42, 0)] (pe := 42) (by decide +kernel) rfl
    rw [hk] at A3
    have A4 := A3.baload T (by decide +kernel) rfl (v := .int (b8 c)) (by rw [List.getElem?_append_left (by simp; omega)]; simp [hc])
    have A5 : Wk l Z a0 EL0 "java/lang/AbstractStringBuilder" jdk_68_method_60_code 7 "reverse" (some (.object "java/lang/AbstractStringBuilder")) ({ frames := 1, cells := 0, slots := 0, locals := 12 } : Room) D 51 [.val (.ref a), .val (.ref v), .val (.int n.toInt32), .val (.int (n - 1).toInt32), .val (.int j.toInt32), .val (.int (n - 1 - j).toInt32), .val (.int (b8 c))] [.int (n - 1 - j).toInt32, .ref v, .int j.toInt32, .ref v] H 0 0 := by
      rcases h6 with rfl | ⟨y, rfl⟩ <;> exact A4.run [(43, .istore 6, 45, 0), (45, .aload_n 1, 46, 0), (46, .iload 4, 48, 0), (48, .aload_n 1, 49, 0), (49, .iload 5, 51, 0)] (pe := 51) (by decide +kernel) rfl
    have A6 := A5.baload T (by decide +kernel) rfl (v := .int (b8 d)) (by rw [List.getElem?_append_left (by simp; omega)]; simp [hd])
    obtain ⟨H1, A7, K1, T1⟩ := A6.bastore T o (by decide +kernel) rfl (by simp; omega) (x2 := b8 d) (i2b_b8 d)
    rw [lo8_set (by omega)] at T1
    have A8 := A7.run [(53, .aload_n 1, 54, 0), (54, .iload 5, 56, 0), (56, .iload 6, 58, 0)] (pe := 58) (by decide +kernel) rfl
    obtain ⟨H2, A9, K2, T2⟩ := A8.bastore T1 (K1.2 _ o) (by decide +kernel) rfl (by simp; omega) (x2 := b8 c) (i2b_b8 c)
    rw [lo8_set (by simp; omega)] at T2
    have A10 := A9.run [(59, .iinc 4 (-1), 62, (-1)), (62, .goto (-34), 28, 0)] (pe := 28) (by decide +kernel) rfl
    have hcm := List.mem_of_getElem? hc
    have hdm := List.mem_of_getElem? hd
    have B1 := hB.set (i := j) hdm
    have hc2 : Bs ((cs.set j d).set (n - 1 - j) c) := ⟨fun e he => (List.mem_or_eq_of_mem_set he).elim (B1.1 e) (fun q => q ▸ hB.1 c hcm), fun e he => (List.mem_or_eq_of_mem_set he).elim (B1.2 e) (fun q => q ▸ hB.2 c hcm)⟩
    rw [show j.toInt32 + (-1) = j.toInt32 - 1 from (Int32.sub_eq_add_neg ..).symm] at A10
    exact ih ((cs.set j d).set (n - 1 - j) c) H2 _ _ (by simp [hl]) hc2 (by omega) (Or.inr ⟨_, rfl⟩) (Or.inr ⟨_, rfl⟩) ((K.trans K1 fun y hy => Or.inl hy).trans K2 fun y hy => Or.inl hy) (K2.2 _ (K1.2 _ o)) T2 A10
theorem n32_half {n : Nat} (h1 : 1 ≤ n) (h2 : n < 1000) : ((n - 1).toInt32 - 1) >>> ((1 : Int32) &&& 31) = (n / 2).toInt32 - 1 := by
  apply Int32.toInt_inj.mp
  have a1 := c_ishr ((n - 1).toInt32 - 1) 1 1 (by decide)
  have a2 := c_isub (n - 1).toInt32 1
  have a3 := c_isub (n / 2).toInt32 1
  have r1 := rng32 ((n - 1).toInt32 - 1)
  have r2 := rng32 ((n / 2).toInt32 - 1)
  rw [n32_toInt (by omega), show (1 : Int32).toInt = 1 by decide] at a2 a3
  simp only [Nat.reducePow] at a1
  omega
theorem c_arev (G : Glb Z a0) {a v : Addr} {cs : List Int32} {rs : List Value} (S : SB Z H a v cs rs) (h1 : 1 ≤ cs.length) (h2 : cs.length < 1000) :
    Ct l Z EL0 (⟨"java/lang/AbstractStringBuilder", "reverse", "()Ljava/lang/AbstractStringBuilder;"⟩ : MethodName) jdk_68_method_60_code 7 ((some (.object "java/lang/AbstractStringBuilder"))) ({ frames := 1, cells := 0, slots := 0, locals := 12 } : Room) [] [.ref a] H (fun v' H' => v' = some (.ref a) ∧ Kp H H' [v] ∧ ∃ cs', SB Z H' a v cs' rs ∧ cs'.length = cs.length) := by
  refine Ct.in G (by first | exact plainFor_of_name (by simp [plainName, overriddenIn]; done) | decide +kernel) (ls := [.val (.ref a), .unset, .unset, .unset, .unset, .unset, .unset]) rfl rfl fun D A0 => ?_
  have hav : a ∉ [v] := by simpa using S.ne G
  obtain ⟨E, V, Cd, N, T, la, lc, o1, o2⟩ := S
  have A1 := A0.run [(0, .aload_n 0, 1, 0)] (pe := 1) (by decide +kernel) rfl
  have A2 := A1.getF (wd_74 G) V (by decide +kernel)
  have A3 := A2.run [(4, .astore_n 1, 5, 0), (5, .aload_n 0, 6, 0)] (pe := 6) (by decide +kernel) rfl
  have A4 := A3.getF (wd_90 G) N (by decide +kernel)
  have A5 := A4.run [(9, .istore_n 2, 10, 0), (10, .iload_n 2, 11, 0), (11, .iconst 1, 12, 1), (12, .isub, 13, 0)] (pe := 13) (by decide +kernel) rfl
  rw [show cs.length.toInt32 - 1 = (cs.length - 1).toInt32 from n32_sub (j := 1) h1] at A5
  have A6 := A5.run [(13, .istore_n 3, 14, 0), (14, .aload_n 0, 15, 0)] (pe := 15) (by decide +kernel) rfl
  obtain ⟨_, HA7, qA7, A7, moA7, szA7⟩ := A6.callV (argsL := []) (wd_97 G) (wd_98 G) (wd_100 G) rfl (wd_100 G) (wd_99 G) (wd_69 G) (wd_101 G) E (c_asbLat G Cd) (by decide) ⟨_, _, (by decide +kernel : parseMethodDescriptor "()Z" = some ⟨[], some .boolean⟩), rfl⟩ (by decide +kernel) (Wd := 0) (by decide) (Nat.le_of_ble_eq_true rfl) (by decide) (by decide) (by decide)
  obtain ⟨rfl, rfl⟩ := qA7
  have A8 := A7.ifF (cd := .eq) (o := 50) (by decide +kernel) (by show ¬ _ = _; decide)
  have A9 := A8.run [(21, .iload_n 3, 22, 0), (22, .iconst 1, 23, 1), (23, .isub, 24, 0), (24, .iconst 1, 25, 1), (25, .ishr, 26, 0)] (pe := 26) (by decide +kernel) rfl
  rw [n32_half h1 h2] at A9
  have A10 := A9.run [(26, .istore 4, 28, 0)] (pe := 28) (by decide +kernel) rfl
  obtain ⟨cs', H', e1, e2, K, o', T', R⟩ := l_rev G h1 h2 (cs.length / 2) cs H .unset .unset rfl ⟨la, lc⟩ (by omega) (Or.inl rfl) (Or.inl rfl) ((Kp.refl H).wide fun x hx => nomatch hx) o2 T A10
  exact ⟨_, _, _, _, R, ⟨rfl, K, cs', ⟨E.ky K, V.ky K hav, Cd.ky K hav, by rw [e1]; exact N.ky K hav, T', e2.1, e2.2, K.2 _ o1, o'⟩, e1⟩, by decide, by decide⟩
theorem c_rev (G : Glb Z a0) {a v : Addr} {cs : List Int32} {rs : List Value} (S : SB Z H a v cs rs) (h1 : 1 ≤ cs.length) (h2 : cs.length < 1000) :
    Ct l Z EL0 (⟨"java/lang/StringBuilder", "reverse", "()Ljava/lang/StringBuilder;"⟩ : MethodName) jdk_67_method_39_code 1 ((some (.object "java/lang/StringBuilder"))) ({ frames := 2, cells := 0, slots := 0, locals := 30 } : Room) [] [.ref a] H (fun v' H' => v' = some (.ref a) ∧ Kp H H' [v] ∧ ∃ cs', SB Z H' a v cs' rs ∧ cs'.length = cs.length) := by
  refine Ct.in G (by first | exact plainFor_of_name (by simp [plainName, overriddenIn]; done) | decide +kernel) (ls := [.val (.ref a)]) rfl rfl fun D A0 => ?_
  have A1 := A0.run [(0, .aload_n 0, 1, 0)] (pe := 1) (by decide +kernel) rfl
  obtain ⟨_, HA2, qA2, A2, moA2, szA2⟩ := A1.callU (argsL := []) (wd_111 G) (wd_113 G) (wd_95 G) rfl (wd_87 G) (wd_112 G) (by decide) (wd_69 G) (wd_114 G) S.1 (c_arev G S h1 h2) (by decide) ⟨_, _, (by decide +kernel : parseMethodDescriptor "()Ljava/lang/AbstractStringBuilder;" = some ⟨[], some (.object "java/lang/AbstractStringBuilder")⟩), rfl⟩ (by decide +kernel) (Wd := 0) (by decide) (Nat.le_of_ble_eq_true rfl) (by decide) (by decide) (by decide)
  obtain ⟨rfl, q⟩ := qA2
  have A3 := A2.run [(4, .pop, 5, 0), (5, .aload_n 0, 6, 0)] (pe := 6) (by decide +kernel) rfl
  exact ⟨_, _, _, _, A3.retA (by decide +kernel) rfl rfl, ⟨rfl, q⟩, by decide, by decide⟩
/-! unpack -/
theorem j_and31 {q : Nat} (h : q < 2 ^ 62) : q.toInt64 &&& 31 = (q % 32).toInt64 := by
  apply Int64.toInt_inj.mp
  have := c_maskL q.toInt64 31 5 (by decide) (by decide)
  rw [n64_toInt (by omega)] at this
  rw [this, n64_toInt (by omega)]; simp only [Nat.reducePow]; omega
theorem j_shr5 {q : Nat} (h : q < 2 ^ 62) : XT.ushrL q.toInt64 5 = (q / 32).toInt64 := by
  apply Int64.toInt_inj.mp
  have := c_lushr q.toInt64 5 5 (by decide) (by decide)
  have e : XT.ushrL q.toInt64 5 = (q.toInt64.toUInt64 >>> ((5 : Int32) &&& 0x3f).toInt64.toUInt64).toInt64 := rfl
  rw [e, this, n64_toInt (by omega), n64_toInt (by omega)]; simp only [Nat.reducePow]; omega
set_option maxRecDepth 65536 in
theorem l_unp (G : Glb Z a0) {p0 : Int64} {b v : Addr} {H0 : HP} : ∀ (r q : Nat) (cs : List Int32) (rs : List Value) (H : HP), q < 32 ^ r → cs.length + r ≤ 4 → (1 ≤ q ∨ 1 ≤ cs.length) → cs.length + rs.length = 12 → Kp H0 H [b, v] → SB Z H b v cs rs →
    Wk l Z a0 EL0 "com/example/onepass/onepass/model/Words" prog_85_method_19_code 5 "unpack" (some (.object "java/lang/String")) ({ frames := 6, cells := 4, slots := 40, locals := 91 } : Room) D 12 [.val (.long p0), .second, .val (.ref b), .val (.long q.toInt64), .second] [] H 2 16 →
    ∃ cs' rs' H', cs'.length ≤ 4 ∧ 1 ≤ cs'.length ∧ cs'.length + rs'.length = 12 ∧ Kp H0 H' [b, v] ∧ SB Z H' b v cs' rs' ∧ Wk l Z a0 EL0 "com/example/onepass/onepass/model/Words" prog_85_method_19_code 5 "unpack" (some (.object "java/lang/String")) ({ frames := 6, cells := 4, slots := 40, locals := 91 } : Room) D 41 [.val (.long p0), .second, .val (.ref b), .val (.long 0), .second] [] H' 2 16 := by
  intro r
  induction r with
  | zero =>
    intro q cs rs H hq hl h1 ht K S A0
    obtain rfl : q = 0 := by simpa using hq
    have A1 := A0.run [(12, .lload_n 3, 13, 0), (13, .lconst 0, 14, 0), (14, .lcmp, 15, 0)] (pe := 15) (by decide +kernel) rfl
    have A2 := A1.ifT (cd := .eq) (o := 26) (by decide +kernel) (cL_eq.mpr rfl) (pe := 41) (by decide)
    exact ⟨cs, rs, H, by omega, by omega, ht, K, S, A2⟩
  | succ r ih =>
    intro q cs rs H hq hl h1 ht K S A0
    have hb : q < 32 ^ 4 := Nat.lt_of_lt_of_le hq (Nat.pow_le_pow_right (by decide) (by omega))
    have A1 := A0.run [(12, .lload_n 3, 13, 0), (13, .lconst 0, 14, 0), (14, .lcmp, 15, 0)] (pe := 15) (by decide +kernel) rfl
    by_cases h0 : q = 0
    · subst h0
      have A2 := A1.ifT (cd := .eq) (o := 26) (by decide +kernel) (cL_eq.mpr rfl) (pe := 41) (by decide)
      exact ⟨cs, rs, H, by omega, by omega, ht, K, S, A2⟩
    · have A2 := A1.ifF (cd := .eq) (o := 26) (by decide +kernel) (fun e => h0 ((n64_inj (j := 0) (by omega) (by decide)).mp (cL_eq.mp e)))
      have A3 := A2.run [(18, .aload_n 2, 19, 0)] (pe := 19) (by decide +kernel) rfl
      have A4 := A3.ldcJ (wd_78 G) (by decide +kernel)
      have A5 := A4.run [(22, .lload_n 3, 23, 0)] (pe := 23) (by decide +kernel) rfl
      have A6 := A5.ldcJ (wd_79 G) (by decide +kernel)
      have A7 := A6.run [(26, .land, 27, 0)] (pe := 27) (by decide +kernel) rfl
      rw [j_and31 (by omega)] at A7
      have A8 := A7.run [(27, .ladd, 28, 0), (28, .l2i, 29, 0), (29, .i2c, 30, 0)] (pe := 30) (by decide +kernel) rfl
      rw [show (96 : Int64) + (q % 32).toInt64 = (96 + q % 32).toInt64 from n64_add 96 (q % 32), n64_32, n32_i2c (by omega)] at A8
      have hcc := n32_c (i := 96 + q % 32) (by omega)
      obtain ⟨_, HA9, qA9, A9, moA9, szA9⟩ := A8.callV (argsL := [.int (96 + q % 32).toInt32]) (wd_80 G) (wd_81 G) (wd_83 G) rfl (wd_83 G) (wd_82 G) (wd_61 G) (wd_84 G) S.1 (c_apC G S hcc (by rw [Int32.lt_iff_toInt_lt, n32_toInt (by omega), show (255 : Int32).toInt = 255 by decide]; omega) (fun e => by rw [e] at ht; simp at ht; omega)) (by decide) ⟨_, _, (by decide +kernel : parseMethodDescriptor "(C)Ljava/lang/StringBuilder;" = some ⟨[.char], some (.object "java/lang/StringBuilder")⟩), rfl⟩ (by decide +kernel) (Wd := 0) (by decide) (Nat.le_of_ble_eq_true rfl) (by decide) (by decide) (by decide)
      obtain ⟨rfl, K9, S9⟩ := qA9
      have A10 := A9.run [(33, .pop, 34, 0), (34, .lload_n 3, 35, 0), (35, .iconst 5, 36, 5), (36, .lushr, 37, 0)] (pe := 37) (by decide +kernel) rfl
      rw [j_shr5 (by omega)] at A10
      have A11 := A10.run [(37, .lstore_n 3, 38, 0), (38, .goto (-26), 12, 0)] (pe := 12) (by decide +kernel) rfl
      have e32 : 32 ^ (r + 1) = 32 ^ r * 32 := Nat.pow_succ 32 r
      exact ih (q / 32) (cs ++ [(96 + q % 32).toInt32]) (rs.drop 1) HA9 (by omega) (by simp; omega) (Or.inr (by simp)) (by simp; omega) (K.trans K9 fun y hy => Or.inl hy) S9 A11
set_option maxRecDepth 65536 in
theorem c_unp (G : Glb Z a0) {q : Nat} (h1 : 1 ≤ q) (h2 : q < 32 ^ 4) : Ct l Z EL0 (⟨"com/example/onepass/onepass/model/Words", "unpack", "(J)Ljava/lang/String;"⟩ : MethodName) prog_85_method_19_code 5 ((some (.object "java/lang/String"))) ({ frames := 6, cells := 4, slots := 40, locals := 91 } : Room) [] [.long q.toInt64] H (fun r H' => ∃ u, r = some (.ref u) ∧ Kp H H' [] ∧ Exa Z H'.1 u "java/lang/String") := by
  refine Ct.in G (by first | exact plainFor_of_name (by simp [plainName, overriddenIn]; done) | decide +kernel) (ls := [.val (.long q.toInt64), .second, .unset, .unset, .unset]) rfl rfl fun D A0 => ?_
  obtain ⟨x, H1, B1, gx, K1, E, o, Df⟩ := A0.newO (wd_59 G) (wd_60 G) (wd_61 G) (by decide +kernel) (by decide) (by decide)
  have B2 := B1.run [(3, .dup, 4, 0), (4, .bipush 12, 6, 12)] (pe := 6) (by decide +kernel) rfl
  obtain ⟨_, HB3, qB3, B3, moB3, szB3⟩ := B2.callI (argsL := [.int 12]) rfl (wd_62 G) (wd_63 G) (wd_61 G) (wd_64 G) (c_sbI G E (Df (Or.inl (wd_75 G)) (t := .array .byte) (by decide)) (Df (Or.inl (wd_77 G)) (t := .byte) (by decide)) (Df (Or.inl (wd_91 G)) (t := .int) (by decide)) o) (by decide) ⟨_, _, (by decide +kernel : parseMethodDescriptor "(I)V" = some ⟨[.int], none⟩), rfl⟩ (by decide +kernel) (Wd := 1) (by decide) (Nat.le_of_ble_eq_true rfl) (by decide) (by decide) (by decide)
  obtain ⟨rfl, K3, v, gv, S3⟩ := qB3
  have two : ∀ y ∈ [x, v], y ∈ ([] : List Addr) ∨ H.1.size ≤ y := fun y hy => by
    rcases List.mem_cons.mp hy with rfl | hy
    · exact Or.inr gx
    · cases List.mem_singleton.mp hy; exact Or.inr (Nat.le_trans K1.size gv)
  have L3 : Kp H HB3 [] := K1.trans K3 fun y hy => two y (by cases List.mem_singleton.mp hy; simp)
  have B4 := B3.run [(9, .astore_n 2, 10, 0), (10, .lload_n 0, 11, 0), (11, .lstore_n 3, 12, 0)] (pe := 12) (by decide +kernel) rfl
  obtain ⟨cs, rs, H5, e1, e2, e3, K5, S5, B5⟩ := l_unp G 4 q [] _ HB3 h2 (by decide) (Or.inl h1) (by simp) ((Kp.refl _).wide fun x hx => nomatch hx) S3 B4
  have B6 := B5.run [(41, .aload_n 2, 42, 0)] (pe := 42) (by decide +kernel) rfl
  obtain ⟨_, HB7, qB7, B7, moB7, szB7⟩ := B6.callV (argsL := []) (wd_106 G) (wd_107 G) (wd_109 G) rfl (wd_109 G) (wd_108 G) (wd_61 G) (wd_110 G) S5.1 (c_rev G S5 e2 (by omega)) (by decide) ⟨_, _, (by decide +kernel : parseMethodDescriptor "()Ljava/lang/StringBuilder;" = some ⟨[], some (.object "java/lang/StringBuilder")⟩), rfl⟩ (by decide +kernel) (Wd := 0) (by decide) (Nat.le_of_ble_eq_true rfl) (by decide) (by decide) (by decide)
  obtain ⟨rfl, K7, cs', S7, e7⟩ := qB7
  obtain ⟨_, HB8, qB8, B8, moB8, szB8⟩ := B7.callV (argsL := []) (wd_115 G) (wd_116 G) (wd_118 G) rfl (wd_118 G) (wd_117 G) (wd_61 G) (wd_119 G) S7.1 (c_tos G S7 (fun e => by rw [e] at e3; simp at e3; omega) (by omega)) (by decide) ⟨_, _, (by decide +kernel : parseMethodDescriptor "()Ljava/lang/String;" = some ⟨[], some (.object "java/lang/String")⟩), rfl⟩ (by decide +kernel) (Wd := 0) (by decide) (Nat.le_of_ble_eq_true rfl) (by decide) (by decide) (by decide)
  obtain ⟨u, rfl, gu, K8, U⟩ := qB8
  have LL := ((L3.trans K5 two).trans K7 fun y hy => two y (by cases List.mem_singleton.mp hy; simp)).tr K8
  exact ⟨_, _, _, _, B8.retA (by decide +kernel) rfl rfl, ⟨u, rfl, LL, U.1⟩, by decide, by decide⟩
theorem c_spr (G : Glb Z a0) {q : Int64} : Ct l Z EL0 (⟨"com/example/onepass/onepass/model/Words", "spread", "(J)I"⟩ : MethodName) prog_85_method_20_code 2 ((some .int)) ({ frames := 0, cells := 0, slots := 0, locals := 0 } : Room) [] [.long q] H (fun r H' => ∃ z : Int32, r = some (.int z) ∧ H = H') := by
  refine Ct.in G (by first | exact plainFor_of_name (by simp [plainName, overriddenIn]; done) | decide +kernel) (ls := [.val (.long q), .second]) rfl rfl fun D A0 => ?_
  have A1 := A0.run [(0, .lload_n 0, 1, 0)] (pe := 1) (by decide +kernel) rfl
  have A2 := A1.ldcJ (wd_53 G) (by decide +kernel)
  have A3 := A2.run [(4, .lmul, 5, 0), (5, .bipush 32, 7, 32), (7, .lushr, 8, 0), (8, .l2i, 9, 0)] (pe := 9) (by decide +kernel) rfl
  exact ⟨_, _, _, _, A3.retI (by decide +kernel), ⟨_, rfl, rfl⟩, by decide, by decide⟩
theorem sl_words_packedSlots (G : Glb Z a0) : Jvm.RoadKit.slotOf Z WN "words" "[Ljava/lang/String;" ≠ Jvm.RoadKit.slotOf Z WN "packedSlots" "[J" := slot_ne (Or.inl (wd_20 G)) (Or.inl (wd_23 G)) (by decide) (t := .array (.object "java/lang/String")) (by decide) (t' := .array .long) (by decide)
theorem sl_words_packedIds (G : Glb Z a0) : Jvm.RoadKit.slotOf Z WN "words" "[Ljava/lang/String;" ≠ Jvm.RoadKit.slotOf Z WN "packedIds" "[I" := slot_ne (Or.inl (wd_20 G)) (Or.inl (wd_26 G)) (by decide) (t := .array (.object "java/lang/String")) (by decide) (t' := .array .int) (by decide)
theorem sl_words_tally (G : Glb Z a0) : Jvm.RoadKit.slotOf Z WN "words" "[Ljava/lang/String;" ≠ Jvm.RoadKit.slotOf Z WN "tally" "[J" := slot_ne (Or.inl (wd_20 G)) (Or.inl (wd_36 G)) (by decide) (t := .array (.object "java/lang/String")) (by decide) (t' := .array .long) (by decide)
theorem sl_words_tallied (G : Glb Z a0) : Jvm.RoadKit.slotOf Z WN "words" "[Ljava/lang/String;" ≠ Jvm.RoadKit.slotOf Z WN "tallied" "[I" := slot_ne (Or.inl (wd_20 G)) (Or.inl (wd_38 G)) (by decide) (t := .array (.object "java/lang/String")) (by decide) (t' := .array .int) (by decide)
theorem sl_words_size (G : Glb Z a0) : Jvm.RoadKit.slotOf Z WN "words" "[Ljava/lang/String;" ≠ Jvm.RoadKit.slotOf Z WN "size" "I" := slot_ne (Or.inl (wd_20 G)) (Or.inl (wd_171 G)) (by decide) (t := .array (.object "java/lang/String")) (by decide) (t' := .int) (by decide)
theorem sl_words_distinct (G : Glb Z a0) : Jvm.RoadKit.slotOf Z WN "words" "[Ljava/lang/String;" ≠ Jvm.RoadKit.slotOf Z WN "distinct" "I" := slot_ne (Or.inl (wd_20 G)) (Or.inl (wd_177 G)) (by decide) (t := .array (.object "java/lang/String")) (by decide) (t' := .int) (by decide)
theorem sl_words_packedSize (G : Glb Z a0) : Jvm.RoadKit.slotOf Z WN "words" "[Ljava/lang/String;" ≠ Jvm.RoadKit.slotOf Z WN "packedSize" "I" := slot_ne (Or.inl (wd_20 G)) (Or.inl (wd_55 G)) (by decide) (t := .array (.object "java/lang/String")) (by decide) (t' := .int) (by decide)
theorem sl_words_letters (G : Glb Z a0) : Jvm.RoadKit.slotOf Z WN "words" "[Ljava/lang/String;" ≠ Jvm.RoadKit.slotOf Z WN "letters" "[B" := slot_ne (Or.inl (wd_20 G)) (Or.inl (wd_28 G)) (by decide) (t := .array (.object "java/lang/String")) (by decide) (t' := .array .byte) (by decide)
theorem sl_words_starts (G : Glb Z a0) : Jvm.RoadKit.slotOf Z WN "words" "[Ljava/lang/String;" ≠ Jvm.RoadKit.slotOf Z WN "starts" "[I" := slot_ne (Or.inl (wd_20 G)) (Or.inl (wd_30 G)) (by decide) (t := .array (.object "java/lang/String")) (by decide) (t' := .array .int) (by decide)
theorem sl_words_longIds (G : Glb Z a0) : Jvm.RoadKit.slotOf Z WN "words" "[Ljava/lang/String;" ≠ Jvm.RoadKit.slotOf Z WN "longIds" "[I" := slot_ne (Or.inl (wd_20 G)) (Or.inl (wd_32 G)) (by decide) (t := .array (.object "java/lang/String")) (by decide) (t' := .array .int) (by decide)
theorem sl_words_longSlots (G : Glb Z a0) : Jvm.RoadKit.slotOf Z WN "words" "[Ljava/lang/String;" ≠ Jvm.RoadKit.slotOf Z WN "longSlots" "[J" := slot_ne (Or.inl (wd_20 G)) (Or.inl (wd_34 G)) (by decide) (t := .array (.object "java/lang/String")) (by decide) (t' := .array .long) (by decide)
theorem sl_packedSlots_words (G : Glb Z a0) : Jvm.RoadKit.slotOf Z WN "packedSlots" "[J" ≠ Jvm.RoadKit.slotOf Z WN "words" "[Ljava/lang/String;" := slot_ne (Or.inl (wd_23 G)) (Or.inl (wd_20 G)) (by decide) (t := .array .long) (by decide) (t' := .array (.object "java/lang/String")) (by decide)
theorem sl_packedSlots_packedIds (G : Glb Z a0) : Jvm.RoadKit.slotOf Z WN "packedSlots" "[J" ≠ Jvm.RoadKit.slotOf Z WN "packedIds" "[I" := slot_ne (Or.inl (wd_23 G)) (Or.inl (wd_26 G)) (by decide) (t := .array .long) (by decide) (t' := .array .int) (by decide)
theorem sl_packedSlots_tally (G : Glb Z a0) : Jvm.RoadKit.slotOf Z WN "packedSlots" "[J" ≠ Jvm.RoadKit.slotOf Z WN "tally" "[J" := slot_ne (Or.inl (wd_23 G)) (Or.inl (wd_36 G)) (by decide) (t := .array .long) (by decide) (t' := .array .long) (by decide)
theorem sl_packedSlots_tallied (G : Glb Z a0) : Jvm.RoadKit.slotOf Z WN "packedSlots" "[J" ≠ Jvm.RoadKit.slotOf Z WN "tallied" "[I" := slot_ne (Or.inl (wd_23 G)) (Or.inl (wd_38 G)) (by decide) (t := .array .long) (by decide) (t' := .array .int) (by decide)
theorem sl_packedSlots_size (G : Glb Z a0) : Jvm.RoadKit.slotOf Z WN "packedSlots" "[J" ≠ Jvm.RoadKit.slotOf Z WN "size" "I" := slot_ne (Or.inl (wd_23 G)) (Or.inl (wd_171 G)) (by decide) (t := .array .long) (by decide) (t' := .int) (by decide)
theorem sl_packedSlots_distinct (G : Glb Z a0) : Jvm.RoadKit.slotOf Z WN "packedSlots" "[J" ≠ Jvm.RoadKit.slotOf Z WN "distinct" "I" := slot_ne (Or.inl (wd_23 G)) (Or.inl (wd_177 G)) (by decide) (t := .array .long) (by decide) (t' := .int) (by decide)
theorem sl_packedSlots_packedSize (G : Glb Z a0) : Jvm.RoadKit.slotOf Z WN "packedSlots" "[J" ≠ Jvm.RoadKit.slotOf Z WN "packedSize" "I" := slot_ne (Or.inl (wd_23 G)) (Or.inl (wd_55 G)) (by decide) (t := .array .long) (by decide) (t' := .int) (by decide)
theorem sl_packedSlots_letters (G : Glb Z a0) : Jvm.RoadKit.slotOf Z WN "packedSlots" "[J" ≠ Jvm.RoadKit.slotOf Z WN "letters" "[B" := slot_ne (Or.inl (wd_23 G)) (Or.inl (wd_28 G)) (by decide) (t := .array .long) (by decide) (t' := .array .byte) (by decide)
theorem sl_packedSlots_starts (G : Glb Z a0) : Jvm.RoadKit.slotOf Z WN "packedSlots" "[J" ≠ Jvm.RoadKit.slotOf Z WN "starts" "[I" := slot_ne (Or.inl (wd_23 G)) (Or.inl (wd_30 G)) (by decide) (t := .array .long) (by decide) (t' := .array .int) (by decide)
theorem sl_packedSlots_longIds (G : Glb Z a0) : Jvm.RoadKit.slotOf Z WN "packedSlots" "[J" ≠ Jvm.RoadKit.slotOf Z WN "longIds" "[I" := slot_ne (Or.inl (wd_23 G)) (Or.inl (wd_32 G)) (by decide) (t := .array .long) (by decide) (t' := .array .int) (by decide)
theorem sl_packedSlots_longSlots (G : Glb Z a0) : Jvm.RoadKit.slotOf Z WN "packedSlots" "[J" ≠ Jvm.RoadKit.slotOf Z WN "longSlots" "[J" := slot_ne (Or.inl (wd_23 G)) (Or.inl (wd_34 G)) (by decide) (t := .array .long) (by decide) (t' := .array .long) (by decide)
theorem sl_packedIds_words (G : Glb Z a0) : Jvm.RoadKit.slotOf Z WN "packedIds" "[I" ≠ Jvm.RoadKit.slotOf Z WN "words" "[Ljava/lang/String;" := slot_ne (Or.inl (wd_26 G)) (Or.inl (wd_20 G)) (by decide) (t := .array .int) (by decide) (t' := .array (.object "java/lang/String")) (by decide)
theorem sl_packedIds_packedSlots (G : Glb Z a0) : Jvm.RoadKit.slotOf Z WN "packedIds" "[I" ≠ Jvm.RoadKit.slotOf Z WN "packedSlots" "[J" := slot_ne (Or.inl (wd_26 G)) (Or.inl (wd_23 G)) (by decide) (t := .array .int) (by decide) (t' := .array .long) (by decide)
theorem sl_packedIds_tally (G : Glb Z a0) : Jvm.RoadKit.slotOf Z WN "packedIds" "[I" ≠ Jvm.RoadKit.slotOf Z WN "tally" "[J" := slot_ne (Or.inl (wd_26 G)) (Or.inl (wd_36 G)) (by decide) (t := .array .int) (by decide) (t' := .array .long) (by decide)
theorem sl_packedIds_tallied (G : Glb Z a0) : Jvm.RoadKit.slotOf Z WN "packedIds" "[I" ≠ Jvm.RoadKit.slotOf Z WN "tallied" "[I" := slot_ne (Or.inl (wd_26 G)) (Or.inl (wd_38 G)) (by decide) (t := .array .int) (by decide) (t' := .array .int) (by decide)
theorem sl_packedIds_size (G : Glb Z a0) : Jvm.RoadKit.slotOf Z WN "packedIds" "[I" ≠ Jvm.RoadKit.slotOf Z WN "size" "I" := slot_ne (Or.inl (wd_26 G)) (Or.inl (wd_171 G)) (by decide) (t := .array .int) (by decide) (t' := .int) (by decide)
theorem sl_packedIds_distinct (G : Glb Z a0) : Jvm.RoadKit.slotOf Z WN "packedIds" "[I" ≠ Jvm.RoadKit.slotOf Z WN "distinct" "I" := slot_ne (Or.inl (wd_26 G)) (Or.inl (wd_177 G)) (by decide) (t := .array .int) (by decide) (t' := .int) (by decide)
theorem sl_packedIds_packedSize (G : Glb Z a0) : Jvm.RoadKit.slotOf Z WN "packedIds" "[I" ≠ Jvm.RoadKit.slotOf Z WN "packedSize" "I" := slot_ne (Or.inl (wd_26 G)) (Or.inl (wd_55 G)) (by decide) (t := .array .int) (by decide) (t' := .int) (by decide)
theorem sl_packedIds_letters (G : Glb Z a0) : Jvm.RoadKit.slotOf Z WN "packedIds" "[I" ≠ Jvm.RoadKit.slotOf Z WN "letters" "[B" := slot_ne (Or.inl (wd_26 G)) (Or.inl (wd_28 G)) (by decide) (t := .array .int) (by decide) (t' := .array .byte) (by decide)
theorem sl_packedIds_starts (G : Glb Z a0) : Jvm.RoadKit.slotOf Z WN "packedIds" "[I" ≠ Jvm.RoadKit.slotOf Z WN "starts" "[I" := slot_ne (Or.inl (wd_26 G)) (Or.inl (wd_30 G)) (by decide) (t := .array .int) (by decide) (t' := .array .int) (by decide)
theorem sl_packedIds_longIds (G : Glb Z a0) : Jvm.RoadKit.slotOf Z WN "packedIds" "[I" ≠ Jvm.RoadKit.slotOf Z WN "longIds" "[I" := slot_ne (Or.inl (wd_26 G)) (Or.inl (wd_32 G)) (by decide) (t := .array .int) (by decide) (t' := .array .int) (by decide)
theorem sl_packedIds_longSlots (G : Glb Z a0) : Jvm.RoadKit.slotOf Z WN "packedIds" "[I" ≠ Jvm.RoadKit.slotOf Z WN "longSlots" "[J" := slot_ne (Or.inl (wd_26 G)) (Or.inl (wd_34 G)) (by decide) (t := .array .int) (by decide) (t' := .array .long) (by decide)
theorem sl_tally_words (G : Glb Z a0) : Jvm.RoadKit.slotOf Z WN "tally" "[J" ≠ Jvm.RoadKit.slotOf Z WN "words" "[Ljava/lang/String;" := slot_ne (Or.inl (wd_36 G)) (Or.inl (wd_20 G)) (by decide) (t := .array .long) (by decide) (t' := .array (.object "java/lang/String")) (by decide)
theorem sl_tally_packedSlots (G : Glb Z a0) : Jvm.RoadKit.slotOf Z WN "tally" "[J" ≠ Jvm.RoadKit.slotOf Z WN "packedSlots" "[J" := slot_ne (Or.inl (wd_36 G)) (Or.inl (wd_23 G)) (by decide) (t := .array .long) (by decide) (t' := .array .long) (by decide)
theorem sl_tally_packedIds (G : Glb Z a0) : Jvm.RoadKit.slotOf Z WN "tally" "[J" ≠ Jvm.RoadKit.slotOf Z WN "packedIds" "[I" := slot_ne (Or.inl (wd_36 G)) (Or.inl (wd_26 G)) (by decide) (t := .array .long) (by decide) (t' := .array .int) (by decide)
theorem sl_tally_tallied (G : Glb Z a0) : Jvm.RoadKit.slotOf Z WN "tally" "[J" ≠ Jvm.RoadKit.slotOf Z WN "tallied" "[I" := slot_ne (Or.inl (wd_36 G)) (Or.inl (wd_38 G)) (by decide) (t := .array .long) (by decide) (t' := .array .int) (by decide)
theorem sl_tally_size (G : Glb Z a0) : Jvm.RoadKit.slotOf Z WN "tally" "[J" ≠ Jvm.RoadKit.slotOf Z WN "size" "I" := slot_ne (Or.inl (wd_36 G)) (Or.inl (wd_171 G)) (by decide) (t := .array .long) (by decide) (t' := .int) (by decide)
theorem sl_tally_distinct (G : Glb Z a0) : Jvm.RoadKit.slotOf Z WN "tally" "[J" ≠ Jvm.RoadKit.slotOf Z WN "distinct" "I" := slot_ne (Or.inl (wd_36 G)) (Or.inl (wd_177 G)) (by decide) (t := .array .long) (by decide) (t' := .int) (by decide)
theorem sl_tally_packedSize (G : Glb Z a0) : Jvm.RoadKit.slotOf Z WN "tally" "[J" ≠ Jvm.RoadKit.slotOf Z WN "packedSize" "I" := slot_ne (Or.inl (wd_36 G)) (Or.inl (wd_55 G)) (by decide) (t := .array .long) (by decide) (t' := .int) (by decide)
theorem sl_tally_letters (G : Glb Z a0) : Jvm.RoadKit.slotOf Z WN "tally" "[J" ≠ Jvm.RoadKit.slotOf Z WN "letters" "[B" := slot_ne (Or.inl (wd_36 G)) (Or.inl (wd_28 G)) (by decide) (t := .array .long) (by decide) (t' := .array .byte) (by decide)
theorem sl_tally_starts (G : Glb Z a0) : Jvm.RoadKit.slotOf Z WN "tally" "[J" ≠ Jvm.RoadKit.slotOf Z WN "starts" "[I" := slot_ne (Or.inl (wd_36 G)) (Or.inl (wd_30 G)) (by decide) (t := .array .long) (by decide) (t' := .array .int) (by decide)
theorem sl_tally_longIds (G : Glb Z a0) : Jvm.RoadKit.slotOf Z WN "tally" "[J" ≠ Jvm.RoadKit.slotOf Z WN "longIds" "[I" := slot_ne (Or.inl (wd_36 G)) (Or.inl (wd_32 G)) (by decide) (t := .array .long) (by decide) (t' := .array .int) (by decide)
theorem sl_tally_longSlots (G : Glb Z a0) : Jvm.RoadKit.slotOf Z WN "tally" "[J" ≠ Jvm.RoadKit.slotOf Z WN "longSlots" "[J" := slot_ne (Or.inl (wd_36 G)) (Or.inl (wd_34 G)) (by decide) (t := .array .long) (by decide) (t' := .array .long) (by decide)
theorem sl_tallied_words (G : Glb Z a0) : Jvm.RoadKit.slotOf Z WN "tallied" "[I" ≠ Jvm.RoadKit.slotOf Z WN "words" "[Ljava/lang/String;" := slot_ne (Or.inl (wd_38 G)) (Or.inl (wd_20 G)) (by decide) (t := .array .int) (by decide) (t' := .array (.object "java/lang/String")) (by decide)
theorem sl_tallied_packedSlots (G : Glb Z a0) : Jvm.RoadKit.slotOf Z WN "tallied" "[I" ≠ Jvm.RoadKit.slotOf Z WN "packedSlots" "[J" := slot_ne (Or.inl (wd_38 G)) (Or.inl (wd_23 G)) (by decide) (t := .array .int) (by decide) (t' := .array .long) (by decide)
theorem sl_tallied_packedIds (G : Glb Z a0) : Jvm.RoadKit.slotOf Z WN "tallied" "[I" ≠ Jvm.RoadKit.slotOf Z WN "packedIds" "[I" := slot_ne (Or.inl (wd_38 G)) (Or.inl (wd_26 G)) (by decide) (t := .array .int) (by decide) (t' := .array .int) (by decide)
theorem sl_tallied_tally (G : Glb Z a0) : Jvm.RoadKit.slotOf Z WN "tallied" "[I" ≠ Jvm.RoadKit.slotOf Z WN "tally" "[J" := slot_ne (Or.inl (wd_38 G)) (Or.inl (wd_36 G)) (by decide) (t := .array .int) (by decide) (t' := .array .long) (by decide)
theorem sl_tallied_size (G : Glb Z a0) : Jvm.RoadKit.slotOf Z WN "tallied" "[I" ≠ Jvm.RoadKit.slotOf Z WN "size" "I" := slot_ne (Or.inl (wd_38 G)) (Or.inl (wd_171 G)) (by decide) (t := .array .int) (by decide) (t' := .int) (by decide)
theorem sl_tallied_distinct (G : Glb Z a0) : Jvm.RoadKit.slotOf Z WN "tallied" "[I" ≠ Jvm.RoadKit.slotOf Z WN "distinct" "I" := slot_ne (Or.inl (wd_38 G)) (Or.inl (wd_177 G)) (by decide) (t := .array .int) (by decide) (t' := .int) (by decide)
theorem sl_tallied_packedSize (G : Glb Z a0) : Jvm.RoadKit.slotOf Z WN "tallied" "[I" ≠ Jvm.RoadKit.slotOf Z WN "packedSize" "I" := slot_ne (Or.inl (wd_38 G)) (Or.inl (wd_55 G)) (by decide) (t := .array .int) (by decide) (t' := .int) (by decide)
theorem sl_tallied_letters (G : Glb Z a0) : Jvm.RoadKit.slotOf Z WN "tallied" "[I" ≠ Jvm.RoadKit.slotOf Z WN "letters" "[B" := slot_ne (Or.inl (wd_38 G)) (Or.inl (wd_28 G)) (by decide) (t := .array .int) (by decide) (t' := .array .byte) (by decide)
theorem sl_tallied_starts (G : Glb Z a0) : Jvm.RoadKit.slotOf Z WN "tallied" "[I" ≠ Jvm.RoadKit.slotOf Z WN "starts" "[I" := slot_ne (Or.inl (wd_38 G)) (Or.inl (wd_30 G)) (by decide) (t := .array .int) (by decide) (t' := .array .int) (by decide)
theorem sl_tallied_longIds (G : Glb Z a0) : Jvm.RoadKit.slotOf Z WN "tallied" "[I" ≠ Jvm.RoadKit.slotOf Z WN "longIds" "[I" := slot_ne (Or.inl (wd_38 G)) (Or.inl (wd_32 G)) (by decide) (t := .array .int) (by decide) (t' := .array .int) (by decide)
theorem sl_tallied_longSlots (G : Glb Z a0) : Jvm.RoadKit.slotOf Z WN "tallied" "[I" ≠ Jvm.RoadKit.slotOf Z WN "longSlots" "[J" := slot_ne (Or.inl (wd_38 G)) (Or.inl (wd_34 G)) (by decide) (t := .array .int) (by decide) (t' := .array .long) (by decide)
theorem sl_size_words (G : Glb Z a0) : Jvm.RoadKit.slotOf Z WN "size" "I" ≠ Jvm.RoadKit.slotOf Z WN "words" "[Ljava/lang/String;" := slot_ne (Or.inl (wd_171 G)) (Or.inl (wd_20 G)) (by decide) (t := .int) (by decide) (t' := .array (.object "java/lang/String")) (by decide)
theorem sl_size_packedSlots (G : Glb Z a0) : Jvm.RoadKit.slotOf Z WN "size" "I" ≠ Jvm.RoadKit.slotOf Z WN "packedSlots" "[J" := slot_ne (Or.inl (wd_171 G)) (Or.inl (wd_23 G)) (by decide) (t := .int) (by decide) (t' := .array .long) (by decide)
theorem sl_size_packedIds (G : Glb Z a0) : Jvm.RoadKit.slotOf Z WN "size" "I" ≠ Jvm.RoadKit.slotOf Z WN "packedIds" "[I" := slot_ne (Or.inl (wd_171 G)) (Or.inl (wd_26 G)) (by decide) (t := .int) (by decide) (t' := .array .int) (by decide)
theorem sl_size_tally (G : Glb Z a0) : Jvm.RoadKit.slotOf Z WN "size" "I" ≠ Jvm.RoadKit.slotOf Z WN "tally" "[J" := slot_ne (Or.inl (wd_171 G)) (Or.inl (wd_36 G)) (by decide) (t := .int) (by decide) (t' := .array .long) (by decide)
theorem sl_size_tallied (G : Glb Z a0) : Jvm.RoadKit.slotOf Z WN "size" "I" ≠ Jvm.RoadKit.slotOf Z WN "tallied" "[I" := slot_ne (Or.inl (wd_171 G)) (Or.inl (wd_38 G)) (by decide) (t := .int) (by decide) (t' := .array .int) (by decide)
theorem sl_size_distinct (G : Glb Z a0) : Jvm.RoadKit.slotOf Z WN "size" "I" ≠ Jvm.RoadKit.slotOf Z WN "distinct" "I" := slot_ne (Or.inl (wd_171 G)) (Or.inl (wd_177 G)) (by decide) (t := .int) (by decide) (t' := .int) (by decide)
theorem sl_size_packedSize (G : Glb Z a0) : Jvm.RoadKit.slotOf Z WN "size" "I" ≠ Jvm.RoadKit.slotOf Z WN "packedSize" "I" := slot_ne (Or.inl (wd_171 G)) (Or.inl (wd_55 G)) (by decide) (t := .int) (by decide) (t' := .int) (by decide)
theorem sl_size_letters (G : Glb Z a0) : Jvm.RoadKit.slotOf Z WN "size" "I" ≠ Jvm.RoadKit.slotOf Z WN "letters" "[B" := slot_ne (Or.inl (wd_171 G)) (Or.inl (wd_28 G)) (by decide) (t := .int) (by decide) (t' := .array .byte) (by decide)
theorem sl_size_starts (G : Glb Z a0) : Jvm.RoadKit.slotOf Z WN "size" "I" ≠ Jvm.RoadKit.slotOf Z WN "starts" "[I" := slot_ne (Or.inl (wd_171 G)) (Or.inl (wd_30 G)) (by decide) (t := .int) (by decide) (t' := .array .int) (by decide)
theorem sl_size_longIds (G : Glb Z a0) : Jvm.RoadKit.slotOf Z WN "size" "I" ≠ Jvm.RoadKit.slotOf Z WN "longIds" "[I" := slot_ne (Or.inl (wd_171 G)) (Or.inl (wd_32 G)) (by decide) (t := .int) (by decide) (t' := .array .int) (by decide)
theorem sl_size_longSlots (G : Glb Z a0) : Jvm.RoadKit.slotOf Z WN "size" "I" ≠ Jvm.RoadKit.slotOf Z WN "longSlots" "[J" := slot_ne (Or.inl (wd_171 G)) (Or.inl (wd_34 G)) (by decide) (t := .int) (by decide) (t' := .array .long) (by decide)
theorem sl_distinct_words (G : Glb Z a0) : Jvm.RoadKit.slotOf Z WN "distinct" "I" ≠ Jvm.RoadKit.slotOf Z WN "words" "[Ljava/lang/String;" := slot_ne (Or.inl (wd_177 G)) (Or.inl (wd_20 G)) (by decide) (t := .int) (by decide) (t' := .array (.object "java/lang/String")) (by decide)
theorem sl_distinct_packedSlots (G : Glb Z a0) : Jvm.RoadKit.slotOf Z WN "distinct" "I" ≠ Jvm.RoadKit.slotOf Z WN "packedSlots" "[J" := slot_ne (Or.inl (wd_177 G)) (Or.inl (wd_23 G)) (by decide) (t := .int) (by decide) (t' := .array .long) (by decide)
theorem sl_distinct_packedIds (G : Glb Z a0) : Jvm.RoadKit.slotOf Z WN "distinct" "I" ≠ Jvm.RoadKit.slotOf Z WN "packedIds" "[I" := slot_ne (Or.inl (wd_177 G)) (Or.inl (wd_26 G)) (by decide) (t := .int) (by decide) (t' := .array .int) (by decide)
theorem sl_distinct_tally (G : Glb Z a0) : Jvm.RoadKit.slotOf Z WN "distinct" "I" ≠ Jvm.RoadKit.slotOf Z WN "tally" "[J" := slot_ne (Or.inl (wd_177 G)) (Or.inl (wd_36 G)) (by decide) (t := .int) (by decide) (t' := .array .long) (by decide)
theorem sl_distinct_tallied (G : Glb Z a0) : Jvm.RoadKit.slotOf Z WN "distinct" "I" ≠ Jvm.RoadKit.slotOf Z WN "tallied" "[I" := slot_ne (Or.inl (wd_177 G)) (Or.inl (wd_38 G)) (by decide) (t := .int) (by decide) (t' := .array .int) (by decide)
theorem sl_distinct_size (G : Glb Z a0) : Jvm.RoadKit.slotOf Z WN "distinct" "I" ≠ Jvm.RoadKit.slotOf Z WN "size" "I" := slot_ne (Or.inl (wd_177 G)) (Or.inl (wd_171 G)) (by decide) (t := .int) (by decide) (t' := .int) (by decide)
theorem sl_distinct_packedSize (G : Glb Z a0) : Jvm.RoadKit.slotOf Z WN "distinct" "I" ≠ Jvm.RoadKit.slotOf Z WN "packedSize" "I" := slot_ne (Or.inl (wd_177 G)) (Or.inl (wd_55 G)) (by decide) (t := .int) (by decide) (t' := .int) (by decide)
theorem sl_distinct_letters (G : Glb Z a0) : Jvm.RoadKit.slotOf Z WN "distinct" "I" ≠ Jvm.RoadKit.slotOf Z WN "letters" "[B" := slot_ne (Or.inl (wd_177 G)) (Or.inl (wd_28 G)) (by decide) (t := .int) (by decide) (t' := .array .byte) (by decide)
theorem sl_distinct_starts (G : Glb Z a0) : Jvm.RoadKit.slotOf Z WN "distinct" "I" ≠ Jvm.RoadKit.slotOf Z WN "starts" "[I" := slot_ne (Or.inl (wd_177 G)) (Or.inl (wd_30 G)) (by decide) (t := .int) (by decide) (t' := .array .int) (by decide)
theorem sl_distinct_longIds (G : Glb Z a0) : Jvm.RoadKit.slotOf Z WN "distinct" "I" ≠ Jvm.RoadKit.slotOf Z WN "longIds" "[I" := slot_ne (Or.inl (wd_177 G)) (Or.inl (wd_32 G)) (by decide) (t := .int) (by decide) (t' := .array .int) (by decide)
theorem sl_distinct_longSlots (G : Glb Z a0) : Jvm.RoadKit.slotOf Z WN "distinct" "I" ≠ Jvm.RoadKit.slotOf Z WN "longSlots" "[J" := slot_ne (Or.inl (wd_177 G)) (Or.inl (wd_34 G)) (by decide) (t := .int) (by decide) (t' := .array .long) (by decide)
theorem sl_packedSize_words (G : Glb Z a0) : Jvm.RoadKit.slotOf Z WN "packedSize" "I" ≠ Jvm.RoadKit.slotOf Z WN "words" "[Ljava/lang/String;" := slot_ne (Or.inl (wd_55 G)) (Or.inl (wd_20 G)) (by decide) (t := .int) (by decide) (t' := .array (.object "java/lang/String")) (by decide)
theorem sl_packedSize_packedSlots (G : Glb Z a0) : Jvm.RoadKit.slotOf Z WN "packedSize" "I" ≠ Jvm.RoadKit.slotOf Z WN "packedSlots" "[J" := slot_ne (Or.inl (wd_55 G)) (Or.inl (wd_23 G)) (by decide) (t := .int) (by decide) (t' := .array .long) (by decide)
theorem sl_packedSize_packedIds (G : Glb Z a0) : Jvm.RoadKit.slotOf Z WN "packedSize" "I" ≠ Jvm.RoadKit.slotOf Z WN "packedIds" "[I" := slot_ne (Or.inl (wd_55 G)) (Or.inl (wd_26 G)) (by decide) (t := .int) (by decide) (t' := .array .int) (by decide)
theorem sl_packedSize_tally (G : Glb Z a0) : Jvm.RoadKit.slotOf Z WN "packedSize" "I" ≠ Jvm.RoadKit.slotOf Z WN "tally" "[J" := slot_ne (Or.inl (wd_55 G)) (Or.inl (wd_36 G)) (by decide) (t := .int) (by decide) (t' := .array .long) (by decide)
theorem sl_packedSize_tallied (G : Glb Z a0) : Jvm.RoadKit.slotOf Z WN "packedSize" "I" ≠ Jvm.RoadKit.slotOf Z WN "tallied" "[I" := slot_ne (Or.inl (wd_55 G)) (Or.inl (wd_38 G)) (by decide) (t := .int) (by decide) (t' := .array .int) (by decide)
theorem sl_packedSize_size (G : Glb Z a0) : Jvm.RoadKit.slotOf Z WN "packedSize" "I" ≠ Jvm.RoadKit.slotOf Z WN "size" "I" := slot_ne (Or.inl (wd_55 G)) (Or.inl (wd_171 G)) (by decide) (t := .int) (by decide) (t' := .int) (by decide)
theorem sl_packedSize_distinct (G : Glb Z a0) : Jvm.RoadKit.slotOf Z WN "packedSize" "I" ≠ Jvm.RoadKit.slotOf Z WN "distinct" "I" := slot_ne (Or.inl (wd_55 G)) (Or.inl (wd_177 G)) (by decide) (t := .int) (by decide) (t' := .int) (by decide)
theorem sl_packedSize_letters (G : Glb Z a0) : Jvm.RoadKit.slotOf Z WN "packedSize" "I" ≠ Jvm.RoadKit.slotOf Z WN "letters" "[B" := slot_ne (Or.inl (wd_55 G)) (Or.inl (wd_28 G)) (by decide) (t := .int) (by decide) (t' := .array .byte) (by decide)
theorem sl_packedSize_starts (G : Glb Z a0) : Jvm.RoadKit.slotOf Z WN "packedSize" "I" ≠ Jvm.RoadKit.slotOf Z WN "starts" "[I" := slot_ne (Or.inl (wd_55 G)) (Or.inl (wd_30 G)) (by decide) (t := .int) (by decide) (t' := .array .int) (by decide)
theorem sl_packedSize_longIds (G : Glb Z a0) : Jvm.RoadKit.slotOf Z WN "packedSize" "I" ≠ Jvm.RoadKit.slotOf Z WN "longIds" "[I" := slot_ne (Or.inl (wd_55 G)) (Or.inl (wd_32 G)) (by decide) (t := .int) (by decide) (t' := .array .int) (by decide)
theorem sl_packedSize_longSlots (G : Glb Z a0) : Jvm.RoadKit.slotOf Z WN "packedSize" "I" ≠ Jvm.RoadKit.slotOf Z WN "longSlots" "[J" := slot_ne (Or.inl (wd_55 G)) (Or.inl (wd_34 G)) (by decide) (t := .int) (by decide) (t' := .array .long) (by decide)
theorem sl_letters_words (G : Glb Z a0) : Jvm.RoadKit.slotOf Z WN "letters" "[B" ≠ Jvm.RoadKit.slotOf Z WN "words" "[Ljava/lang/String;" := slot_ne (Or.inl (wd_28 G)) (Or.inl (wd_20 G)) (by decide) (t := .array .byte) (by decide) (t' := .array (.object "java/lang/String")) (by decide)
theorem sl_letters_packedSlots (G : Glb Z a0) : Jvm.RoadKit.slotOf Z WN "letters" "[B" ≠ Jvm.RoadKit.slotOf Z WN "packedSlots" "[J" := slot_ne (Or.inl (wd_28 G)) (Or.inl (wd_23 G)) (by decide) (t := .array .byte) (by decide) (t' := .array .long) (by decide)
theorem sl_letters_packedIds (G : Glb Z a0) : Jvm.RoadKit.slotOf Z WN "letters" "[B" ≠ Jvm.RoadKit.slotOf Z WN "packedIds" "[I" := slot_ne (Or.inl (wd_28 G)) (Or.inl (wd_26 G)) (by decide) (t := .array .byte) (by decide) (t' := .array .int) (by decide)
theorem sl_letters_tally (G : Glb Z a0) : Jvm.RoadKit.slotOf Z WN "letters" "[B" ≠ Jvm.RoadKit.slotOf Z WN "tally" "[J" := slot_ne (Or.inl (wd_28 G)) (Or.inl (wd_36 G)) (by decide) (t := .array .byte) (by decide) (t' := .array .long) (by decide)
theorem sl_letters_tallied (G : Glb Z a0) : Jvm.RoadKit.slotOf Z WN "letters" "[B" ≠ Jvm.RoadKit.slotOf Z WN "tallied" "[I" := slot_ne (Or.inl (wd_28 G)) (Or.inl (wd_38 G)) (by decide) (t := .array .byte) (by decide) (t' := .array .int) (by decide)
theorem sl_letters_size (G : Glb Z a0) : Jvm.RoadKit.slotOf Z WN "letters" "[B" ≠ Jvm.RoadKit.slotOf Z WN "size" "I" := slot_ne (Or.inl (wd_28 G)) (Or.inl (wd_171 G)) (by decide) (t := .array .byte) (by decide) (t' := .int) (by decide)
theorem sl_letters_distinct (G : Glb Z a0) : Jvm.RoadKit.slotOf Z WN "letters" "[B" ≠ Jvm.RoadKit.slotOf Z WN "distinct" "I" := slot_ne (Or.inl (wd_28 G)) (Or.inl (wd_177 G)) (by decide) (t := .array .byte) (by decide) (t' := .int) (by decide)
theorem sl_letters_packedSize (G : Glb Z a0) : Jvm.RoadKit.slotOf Z WN "letters" "[B" ≠ Jvm.RoadKit.slotOf Z WN "packedSize" "I" := slot_ne (Or.inl (wd_28 G)) (Or.inl (wd_55 G)) (by decide) (t := .array .byte) (by decide) (t' := .int) (by decide)
theorem sl_letters_starts (G : Glb Z a0) : Jvm.RoadKit.slotOf Z WN "letters" "[B" ≠ Jvm.RoadKit.slotOf Z WN "starts" "[I" := slot_ne (Or.inl (wd_28 G)) (Or.inl (wd_30 G)) (by decide) (t := .array .byte) (by decide) (t' := .array .int) (by decide)
theorem sl_letters_longIds (G : Glb Z a0) : Jvm.RoadKit.slotOf Z WN "letters" "[B" ≠ Jvm.RoadKit.slotOf Z WN "longIds" "[I" := slot_ne (Or.inl (wd_28 G)) (Or.inl (wd_32 G)) (by decide) (t := .array .byte) (by decide) (t' := .array .int) (by decide)
theorem sl_letters_longSlots (G : Glb Z a0) : Jvm.RoadKit.slotOf Z WN "letters" "[B" ≠ Jvm.RoadKit.slotOf Z WN "longSlots" "[J" := slot_ne (Or.inl (wd_28 G)) (Or.inl (wd_34 G)) (by decide) (t := .array .byte) (by decide) (t' := .array .long) (by decide)
theorem sl_starts_words (G : Glb Z a0) : Jvm.RoadKit.slotOf Z WN "starts" "[I" ≠ Jvm.RoadKit.slotOf Z WN "words" "[Ljava/lang/String;" := slot_ne (Or.inl (wd_30 G)) (Or.inl (wd_20 G)) (by decide) (t := .array .int) (by decide) (t' := .array (.object "java/lang/String")) (by decide)
theorem sl_starts_packedSlots (G : Glb Z a0) : Jvm.RoadKit.slotOf Z WN "starts" "[I" ≠ Jvm.RoadKit.slotOf Z WN "packedSlots" "[J" := slot_ne (Or.inl (wd_30 G)) (Or.inl (wd_23 G)) (by decide) (t := .array .int) (by decide) (t' := .array .long) (by decide)
theorem sl_starts_packedIds (G : Glb Z a0) : Jvm.RoadKit.slotOf Z WN "starts" "[I" ≠ Jvm.RoadKit.slotOf Z WN "packedIds" "[I" := slot_ne (Or.inl (wd_30 G)) (Or.inl (wd_26 G)) (by decide) (t := .array .int) (by decide) (t' := .array .int) (by decide)
theorem sl_starts_tally (G : Glb Z a0) : Jvm.RoadKit.slotOf Z WN "starts" "[I" ≠ Jvm.RoadKit.slotOf Z WN "tally" "[J" := slot_ne (Or.inl (wd_30 G)) (Or.inl (wd_36 G)) (by decide) (t := .array .int) (by decide) (t' := .array .long) (by decide)
theorem sl_starts_tallied (G : Glb Z a0) : Jvm.RoadKit.slotOf Z WN "starts" "[I" ≠ Jvm.RoadKit.slotOf Z WN "tallied" "[I" := slot_ne (Or.inl (wd_30 G)) (Or.inl (wd_38 G)) (by decide) (t := .array .int) (by decide) (t' := .array .int) (by decide)
theorem sl_starts_size (G : Glb Z a0) : Jvm.RoadKit.slotOf Z WN "starts" "[I" ≠ Jvm.RoadKit.slotOf Z WN "size" "I" := slot_ne (Or.inl (wd_30 G)) (Or.inl (wd_171 G)) (by decide) (t := .array .int) (by decide) (t' := .int) (by decide)
theorem sl_starts_distinct (G : Glb Z a0) : Jvm.RoadKit.slotOf Z WN "starts" "[I" ≠ Jvm.RoadKit.slotOf Z WN "distinct" "I" := slot_ne (Or.inl (wd_30 G)) (Or.inl (wd_177 G)) (by decide) (t := .array .int) (by decide) (t' := .int) (by decide)
theorem sl_starts_packedSize (G : Glb Z a0) : Jvm.RoadKit.slotOf Z WN "starts" "[I" ≠ Jvm.RoadKit.slotOf Z WN "packedSize" "I" := slot_ne (Or.inl (wd_30 G)) (Or.inl (wd_55 G)) (by decide) (t := .array .int) (by decide) (t' := .int) (by decide)
theorem sl_starts_letters (G : Glb Z a0) : Jvm.RoadKit.slotOf Z WN "starts" "[I" ≠ Jvm.RoadKit.slotOf Z WN "letters" "[B" := slot_ne (Or.inl (wd_30 G)) (Or.inl (wd_28 G)) (by decide) (t := .array .int) (by decide) (t' := .array .byte) (by decide)
theorem sl_starts_longIds (G : Glb Z a0) : Jvm.RoadKit.slotOf Z WN "starts" "[I" ≠ Jvm.RoadKit.slotOf Z WN "longIds" "[I" := slot_ne (Or.inl (wd_30 G)) (Or.inl (wd_32 G)) (by decide) (t := .array .int) (by decide) (t' := .array .int) (by decide)
theorem sl_starts_longSlots (G : Glb Z a0) : Jvm.RoadKit.slotOf Z WN "starts" "[I" ≠ Jvm.RoadKit.slotOf Z WN "longSlots" "[J" := slot_ne (Or.inl (wd_30 G)) (Or.inl (wd_34 G)) (by decide) (t := .array .int) (by decide) (t' := .array .long) (by decide)
theorem sl_longIds_words (G : Glb Z a0) : Jvm.RoadKit.slotOf Z WN "longIds" "[I" ≠ Jvm.RoadKit.slotOf Z WN "words" "[Ljava/lang/String;" := slot_ne (Or.inl (wd_32 G)) (Or.inl (wd_20 G)) (by decide) (t := .array .int) (by decide) (t' := .array (.object "java/lang/String")) (by decide)
theorem sl_longIds_packedSlots (G : Glb Z a0) : Jvm.RoadKit.slotOf Z WN "longIds" "[I" ≠ Jvm.RoadKit.slotOf Z WN "packedSlots" "[J" := slot_ne (Or.inl (wd_32 G)) (Or.inl (wd_23 G)) (by decide) (t := .array .int) (by decide) (t' := .array .long) (by decide)
theorem sl_longIds_packedIds (G : Glb Z a0) : Jvm.RoadKit.slotOf Z WN "longIds" "[I" ≠ Jvm.RoadKit.slotOf Z WN "packedIds" "[I" := slot_ne (Or.inl (wd_32 G)) (Or.inl (wd_26 G)) (by decide) (t := .array .int) (by decide) (t' := .array .int) (by decide)
theorem sl_longIds_tally (G : Glb Z a0) : Jvm.RoadKit.slotOf Z WN "longIds" "[I" ≠ Jvm.RoadKit.slotOf Z WN "tally" "[J" := slot_ne (Or.inl (wd_32 G)) (Or.inl (wd_36 G)) (by decide) (t := .array .int) (by decide) (t' := .array .long) (by decide)
theorem sl_longIds_tallied (G : Glb Z a0) : Jvm.RoadKit.slotOf Z WN "longIds" "[I" ≠ Jvm.RoadKit.slotOf Z WN "tallied" "[I" := slot_ne (Or.inl (wd_32 G)) (Or.inl (wd_38 G)) (by decide) (t := .array .int) (by decide) (t' := .array .int) (by decide)
theorem sl_longIds_size (G : Glb Z a0) : Jvm.RoadKit.slotOf Z WN "longIds" "[I" ≠ Jvm.RoadKit.slotOf Z WN "size" "I" := slot_ne (Or.inl (wd_32 G)) (Or.inl (wd_171 G)) (by decide) (t := .array .int) (by decide) (t' := .int) (by decide)
theorem sl_longIds_distinct (G : Glb Z a0) : Jvm.RoadKit.slotOf Z WN "longIds" "[I" ≠ Jvm.RoadKit.slotOf Z WN "distinct" "I" := slot_ne (Or.inl (wd_32 G)) (Or.inl (wd_177 G)) (by decide) (t := .array .int) (by decide) (t' := .int) (by decide)
theorem sl_longIds_packedSize (G : Glb Z a0) : Jvm.RoadKit.slotOf Z WN "longIds" "[I" ≠ Jvm.RoadKit.slotOf Z WN "packedSize" "I" := slot_ne (Or.inl (wd_32 G)) (Or.inl (wd_55 G)) (by decide) (t := .array .int) (by decide) (t' := .int) (by decide)
theorem sl_longIds_letters (G : Glb Z a0) : Jvm.RoadKit.slotOf Z WN "longIds" "[I" ≠ Jvm.RoadKit.slotOf Z WN "letters" "[B" := slot_ne (Or.inl (wd_32 G)) (Or.inl (wd_28 G)) (by decide) (t := .array .int) (by decide) (t' := .array .byte) (by decide)
theorem sl_longIds_starts (G : Glb Z a0) : Jvm.RoadKit.slotOf Z WN "longIds" "[I" ≠ Jvm.RoadKit.slotOf Z WN "starts" "[I" := slot_ne (Or.inl (wd_32 G)) (Or.inl (wd_30 G)) (by decide) (t := .array .int) (by decide) (t' := .array .int) (by decide)
theorem sl_longIds_longSlots (G : Glb Z a0) : Jvm.RoadKit.slotOf Z WN "longIds" "[I" ≠ Jvm.RoadKit.slotOf Z WN "longSlots" "[J" := slot_ne (Or.inl (wd_32 G)) (Or.inl (wd_34 G)) (by decide) (t := .array .int) (by decide) (t' := .array .long) (by decide)
theorem sl_longSlots_words (G : Glb Z a0) : Jvm.RoadKit.slotOf Z WN "longSlots" "[J" ≠ Jvm.RoadKit.slotOf Z WN "words" "[Ljava/lang/String;" := slot_ne (Or.inl (wd_34 G)) (Or.inl (wd_20 G)) (by decide) (t := .array .long) (by decide) (t' := .array (.object "java/lang/String")) (by decide)
theorem sl_longSlots_packedSlots (G : Glb Z a0) : Jvm.RoadKit.slotOf Z WN "longSlots" "[J" ≠ Jvm.RoadKit.slotOf Z WN "packedSlots" "[J" := slot_ne (Or.inl (wd_34 G)) (Or.inl (wd_23 G)) (by decide) (t := .array .long) (by decide) (t' := .array .long) (by decide)
theorem sl_longSlots_packedIds (G : Glb Z a0) : Jvm.RoadKit.slotOf Z WN "longSlots" "[J" ≠ Jvm.RoadKit.slotOf Z WN "packedIds" "[I" := slot_ne (Or.inl (wd_34 G)) (Or.inl (wd_26 G)) (by decide) (t := .array .long) (by decide) (t' := .array .int) (by decide)
theorem sl_longSlots_tally (G : Glb Z a0) : Jvm.RoadKit.slotOf Z WN "longSlots" "[J" ≠ Jvm.RoadKit.slotOf Z WN "tally" "[J" := slot_ne (Or.inl (wd_34 G)) (Or.inl (wd_36 G)) (by decide) (t := .array .long) (by decide) (t' := .array .long) (by decide)
theorem sl_longSlots_tallied (G : Glb Z a0) : Jvm.RoadKit.slotOf Z WN "longSlots" "[J" ≠ Jvm.RoadKit.slotOf Z WN "tallied" "[I" := slot_ne (Or.inl (wd_34 G)) (Or.inl (wd_38 G)) (by decide) (t := .array .long) (by decide) (t' := .array .int) (by decide)
theorem sl_longSlots_size (G : Glb Z a0) : Jvm.RoadKit.slotOf Z WN "longSlots" "[J" ≠ Jvm.RoadKit.slotOf Z WN "size" "I" := slot_ne (Or.inl (wd_34 G)) (Or.inl (wd_171 G)) (by decide) (t := .array .long) (by decide) (t' := .int) (by decide)
theorem sl_longSlots_distinct (G : Glb Z a0) : Jvm.RoadKit.slotOf Z WN "longSlots" "[J" ≠ Jvm.RoadKit.slotOf Z WN "distinct" "I" := slot_ne (Or.inl (wd_34 G)) (Or.inl (wd_177 G)) (by decide) (t := .array .long) (by decide) (t' := .int) (by decide)
theorem sl_longSlots_packedSize (G : Glb Z a0) : Jvm.RoadKit.slotOf Z WN "longSlots" "[J" ≠ Jvm.RoadKit.slotOf Z WN "packedSize" "I" := slot_ne (Or.inl (wd_34 G)) (Or.inl (wd_55 G)) (by decide) (t := .array .long) (by decide) (t' := .int) (by decide)
theorem sl_longSlots_letters (G : Glb Z a0) : Jvm.RoadKit.slotOf Z WN "longSlots" "[J" ≠ Jvm.RoadKit.slotOf Z WN "letters" "[B" := slot_ne (Or.inl (wd_34 G)) (Or.inl (wd_28 G)) (by decide) (t := .array .long) (by decide) (t' := .array .byte) (by decide)
theorem sl_longSlots_starts (G : Glb Z a0) : Jvm.RoadKit.slotOf Z WN "longSlots" "[J" ≠ Jvm.RoadKit.slotOf Z WN "starts" "[I" := slot_ne (Or.inl (wd_34 G)) (Or.inl (wd_30 G)) (by decide) (t := .array .long) (by decide) (t' := .array .int) (by decide)
theorem sl_longSlots_longIds (G : Glb Z a0) : Jvm.RoadKit.slotOf Z WN "longSlots" "[J" ≠ Jvm.RoadKit.slotOf Z WN "longIds" "[I" := slot_ne (Or.inl (wd_34 G)) (Or.inl (wd_32 G)) (by decide) (t := .array .long) (by decide) (t' := .array .int) (by decide)
abbrev jl (S : List Int64) : List Value := S.map Value.long
abbrev il (S : List Int32) : List Value := S.map Value.int
/-- what stands in a Words' eight fields -/
def WF (Z : State) (H : HP) (x wa ps pi ta td : Addr) (sz dn : Nat) : Prop :=
  (Exa Z H.1 x WN) ∧
  (Fld Z H.1 x WN "words" "[Ljava/lang/String;" (.ref wa)) ∧
  (Fld Z H.1 x WN "packedSlots" "[J" (.ref ps)) ∧
  (Fld Z H.1 x WN "packedIds" "[I" (.ref pi)) ∧
  (Fld Z H.1 x WN "tally" "[J" (.ref ta)) ∧
  (Fld Z H.1 x WN "tallied" "[I" (.ref td)) ∧
  (Fld Z H.1 x WN "size" "I" (.int sz.toInt32)) ∧
  (Fld Z H.1 x WN "distinct" "I" (.int dn.toInt32)) ∧
  (Fld Z H.1 x WN "packedSize" "I" (.int sz.toInt32))
theorem WF.e {Z : State} {H : HP} {x wa ps pi ta td : Addr} {sz dn : Nat} (F : WF Z H x wa ps pi ta td sz dn) : Exa Z H.1 x WN := F.1
theorem WF.words {Z : State} {H : HP} {x wa ps pi ta td : Addr} {sz dn : Nat} (F : WF Z H x wa ps pi ta td sz dn) : Fld Z H.1 x WN "words" "[Ljava/lang/String;" (.ref wa) := F.2.1
theorem WF.packedSlots {Z : State} {H : HP} {x wa ps pi ta td : Addr} {sz dn : Nat} (F : WF Z H x wa ps pi ta td sz dn) : Fld Z H.1 x WN "packedSlots" "[J" (.ref ps) := F.2.2.1
theorem WF.packedIds {Z : State} {H : HP} {x wa ps pi ta td : Addr} {sz dn : Nat} (F : WF Z H x wa ps pi ta td sz dn) : Fld Z H.1 x WN "packedIds" "[I" (.ref pi) := F.2.2.2.1
theorem WF.tally {Z : State} {H : HP} {x wa ps pi ta td : Addr} {sz dn : Nat} (F : WF Z H x wa ps pi ta td sz dn) : Fld Z H.1 x WN "tally" "[J" (.ref ta) := F.2.2.2.2.1
theorem WF.tallied {Z : State} {H : HP} {x wa ps pi ta td : Addr} {sz dn : Nat} (F : WF Z H x wa ps pi ta td sz dn) : Fld Z H.1 x WN "tallied" "[I" (.ref td) := F.2.2.2.2.2.1
theorem WF.size {Z : State} {H : HP} {x wa ps pi ta td : Addr} {sz dn : Nat} (F : WF Z H x wa ps pi ta td sz dn) : Fld Z H.1 x WN "size" "I" (.int sz.toInt32) := F.2.2.2.2.2.2.1
theorem WF.distinct {Z : State} {H : HP} {x wa ps pi ta td : Addr} {sz dn : Nat} (F : WF Z H x wa ps pi ta td sz dn) : Fld Z H.1 x WN "distinct" "I" (.int dn.toInt32) := F.2.2.2.2.2.2.2.1
theorem WF.packedSize {Z : State} {H : HP} {x wa ps pi ta td : Addr} {sz dn : Nat} (F : WF Z H x wa ps pi ta td sz dn) : Fld Z H.1 x WN "packedSize" "I" (.int sz.toInt32) := F.2.2.2.2.2.2.2.2
theorem WF.ky {H H' : HP} {x wa ps pi ta td : Addr} {sz dn : Nat} {ws : List Addr} (F : WF Z H x wa ps pi ta td sz dn) (K : Kp H H' ws) (h : x ∉ ws) : WF Z H' x wa ps pi ta td sz dn :=
  ⟨F.e.ky K, F.words.ky K h, F.packedSlots.ky K h, F.packedIds.ky K h, F.tally.ky K h, F.tallied.ky K h, F.size.ky K h, F.distinct.ky K h, F.packedSize.ky K h⟩
/-- the arrays, and what they say -/
def WA (Z : State) (H : HP) (x wa ps pi ta td : Addr) (sz dn : Nat) (S : List Int64) (I : List Int32) (T : List Int64) (D : List Int32) : Prop :=
  (∃ vw, Ar Z H wa (.object "java/lang/String") vw ∧ vw.length = 1024) ∧
  (Exa Z H.1 wa "[Ljava/lang/String;") ∧
  (Ar Z H ps .long (jl S)) ∧
  (Ar Z H pi .int (il I)) ∧
  (Ar Z H ta .long (jl T)) ∧
  (Ar Z H td .int (il D)) ∧
  (S.length = 2048) ∧
  (I.length = 2048) ∧
  (T.length = 1024) ∧
  (D.length = 1024) ∧
  (wa < ps ∧ ps < pi ∧ pi < ta ∧ ta < td) ∧
  (H.2 x ∧ H.2 wa ∧ H.2 ps ∧ H.2 pi ∧ H.2 ta ∧ H.2 td) ∧
  (x ≠ wa ∧ x ≠ ps ∧ x ≠ pi ∧ x ≠ ta ∧ x ≠ td) ∧
  (∃ Q : List Nat, Q.length ≤ sz ∧ ∀ (i : Nat) (s : Int64), S[i]? = some s → s ≠ 0 → i ∈ Q) ∧
  (∀ (i : Nat) (s : Int64), S[i]? = some s → s ≠ 0 → ∃ k : Nat, k < sz ∧ I[i]? = some k.toInt32) ∧
  (∀ (j : Nat) (v : Int64), T[j]? = some v → v ≠ 0 → ∃ q : Nat, q < dn ∧ D[q]? = some j.toInt32) ∧
  (∀ q : Nat, q < dn → ∃ j : Nat, j < 1024 ∧ D[q]? = some j.toInt32) ∧
  (sz ≤ 10) ∧
  (dn ≤ 10)
theorem WA.w {Z : State} {H : HP} {x wa ps pi ta td : Addr} {sz dn : Nat} {S : List Int64} {I : List Int32} {T : List Int64} {D : List Int32} (F : WA Z H x wa ps pi ta td sz dn S I T D) : ∃ vw, Ar Z H wa (.object "java/lang/String") vw ∧ vw.length = 1024 := F.1
theorem WA.we {Z : State} {H : HP} {x wa ps pi ta td : Addr} {sz dn : Nat} {S : List Int64} {I : List Int32} {T : List Int64} {D : List Int32} (F : WA Z H x wa ps pi ta td sz dn S I T D) : Exa Z H.1 wa "[Ljava/lang/String;" := F.2.1
theorem WA.s {Z : State} {H : HP} {x wa ps pi ta td : Addr} {sz dn : Nat} {S : List Int64} {I : List Int32} {T : List Int64} {D : List Int32} (F : WA Z H x wa ps pi ta td sz dn S I T D) : Ar Z H ps .long (jl S) := F.2.2.1
theorem WA.i {Z : State} {H : HP} {x wa ps pi ta td : Addr} {sz dn : Nat} {S : List Int64} {I : List Int32} {T : List Int64} {D : List Int32} (F : WA Z H x wa ps pi ta td sz dn S I T D) : Ar Z H pi .int (il I) := F.2.2.2.1
theorem WA.t {Z : State} {H : HP} {x wa ps pi ta td : Addr} {sz dn : Nat} {S : List Int64} {I : List Int32} {T : List Int64} {D : List Int32} (F : WA Z H x wa ps pi ta td sz dn S I T D) : Ar Z H ta .long (jl T) := F.2.2.2.2.1
theorem WA.d {Z : State} {H : HP} {x wa ps pi ta td : Addr} {sz dn : Nat} {S : List Int64} {I : List Int32} {T : List Int64} {D : List Int32} (F : WA Z H x wa ps pi ta td sz dn S I T D) : Ar Z H td .int (il D) := F.2.2.2.2.2.1
theorem WA.ls {Z : State} {H : HP} {x wa ps pi ta td : Addr} {sz dn : Nat} {S : List Int64} {I : List Int32} {T : List Int64} {D : List Int32} (F : WA Z H x wa ps pi ta td sz dn S I T D) : S.length = 2048 := F.2.2.2.2.2.2.1
theorem WA.li {Z : State} {H : HP} {x wa ps pi ta td : Addr} {sz dn : Nat} {S : List Int64} {I : List Int32} {T : List Int64} {D : List Int32} (F : WA Z H x wa ps pi ta td sz dn S I T D) : I.length = 2048 := F.2.2.2.2.2.2.2.1
theorem WA.lt {Z : State} {H : HP} {x wa ps pi ta td : Addr} {sz dn : Nat} {S : List Int64} {I : List Int32} {T : List Int64} {D : List Int32} (F : WA Z H x wa ps pi ta td sz dn S I T D) : T.length = 1024 := F.2.2.2.2.2.2.2.2.1
theorem WA.ld {Z : State} {H : HP} {x wa ps pi ta td : Addr} {sz dn : Nat} {S : List Int64} {I : List Int32} {T : List Int64} {D : List Int32} (F : WA Z H x wa ps pi ta td sz dn S I T D) : D.length = 1024 := F.2.2.2.2.2.2.2.2.2.1
theorem WA.ch {Z : State} {H : HP} {x wa ps pi ta td : Addr} {sz dn : Nat} {S : List Int64} {I : List Int32} {T : List Int64} {D : List Int32} (F : WA Z H x wa ps pi ta td sz dn S I T D) : wa < ps ∧ ps < pi ∧ pi < ta ∧ ta < td := F.2.2.2.2.2.2.2.2.2.2.1
theorem WA.o {Z : State} {H : HP} {x wa ps pi ta td : Addr} {sz dn : Nat} {S : List Int64} {I : List Int32} {T : List Int64} {D : List Int32} (F : WA Z H x wa ps pi ta td sz dn S I T D) : H.2 x ∧ H.2 wa ∧ H.2 ps ∧ H.2 pi ∧ H.2 ta ∧ H.2 td := F.2.2.2.2.2.2.2.2.2.2.2.1
theorem WA.nx {Z : State} {H : HP} {x wa ps pi ta td : Addr} {sz dn : Nat} {S : List Int64} {I : List Int32} {T : List Int64} {D : List Int32} (F : WA Z H x wa ps pi ta td sz dn S I T D) : x ≠ wa ∧ x ≠ ps ∧ x ≠ pi ∧ x ≠ ta ∧ x ≠ td := F.2.2.2.2.2.2.2.2.2.2.2.2.1
theorem WA.p {Z : State} {H : HP} {x wa ps pi ta td : Addr} {sz dn : Nat} {S : List Int64} {I : List Int32} {T : List Int64} {D : List Int32} (F : WA Z H x wa ps pi ta td sz dn S I T D) : ∃ Q : List Nat, Q.length ≤ sz ∧ ∀ (i : Nat) (s : Int64), S[i]? = some s → s ≠ 0 → i ∈ Q := F.2.2.2.2.2.2.2.2.2.2.2.2.2.1
theorem WA.id {Z : State} {H : HP} {x wa ps pi ta td : Addr} {sz dn : Nat} {S : List Int64} {I : List Int32} {T : List Int64} {D : List Int32} (F : WA Z H x wa ps pi ta td sz dn S I T D) : ∀ (i : Nat) (s : Int64), S[i]? = some s → s ≠ 0 → ∃ k : Nat, k < sz ∧ I[i]? = some k.toInt32 := F.2.2.2.2.2.2.2.2.2.2.2.2.2.2.1
theorem WA.ty {Z : State} {H : HP} {x wa ps pi ta td : Addr} {sz dn : Nat} {S : List Int64} {I : List Int32} {T : List Int64} {D : List Int32} (F : WA Z H x wa ps pi ta td sz dn S I T D) : ∀ (j : Nat) (v : Int64), T[j]? = some v → v ≠ 0 → ∃ q : Nat, q < dn ∧ D[q]? = some j.toInt32 := F.2.2.2.2.2.2.2.2.2.2.2.2.2.2.2.1
theorem WA.dv {Z : State} {H : HP} {x wa ps pi ta td : Addr} {sz dn : Nat} {S : List Int64} {I : List Int32} {T : List Int64} {D : List Int32} (F : WA Z H x wa ps pi ta td sz dn S I T D) : ∀ q : Nat, q < dn → ∃ j : Nat, j < 1024 ∧ D[q]? = some j.toInt32 := F.2.2.2.2.2.2.2.2.2.2.2.2.2.2.2.2.1
theorem WA.sz4 {Z : State} {H : HP} {x wa ps pi ta td : Addr} {sz dn : Nat} {S : List Int64} {I : List Int32} {T : List Int64} {D : List Int32} (F : WA Z H x wa ps pi ta td sz dn S I T D) : sz ≤ 10 := F.2.2.2.2.2.2.2.2.2.2.2.2.2.2.2.2.2.1
theorem WA.dn4 {Z : State} {H : HP} {x wa ps pi ta td : Addr} {sz dn : Nat} {S : List Int64} {I : List Int32} {T : List Int64} {D : List Int32} (F : WA Z H x wa ps pi ta td sz dn S I T D) : dn ≤ 10 := F.2.2.2.2.2.2.2.2.2.2.2.2.2.2.2.2.2.2
theorem Ar.o2 {H H' : HP} {a : Addr} {t : FieldType} {vs : List Value} {ws : List Addr} (F : Ar Z H a t vs) (K : Kp H H' ws) (h : a ∉ ws) : Ar Z H' a t vs := F.ky K h
theorem WA.idx {x wa ps pi ta td : Addr} {sz dn : Nat} {S : List Int64} {I : List Int32} {T : List Int64} {D : List Int32} (A : WA Z H x wa ps pi ta td sz dn S I T D) : ta ≠ wa ∧ ta ≠ ps ∧ ta ≠ pi ∧ ta ≠ td ∧ td ≠ wa ∧ td ≠ ps ∧ td ≠ pi ∧ wa ≠ ps ∧ wa ≠ pi ∧ ps ≠ pi := by
  obtain ⟨h1, h2, h3, h4⟩ := A.ch
  have g2 : wa < pi := Nat.lt_trans h1 h2
  have g3 : ps < ta := Nat.lt_trans h2 h3
  have g4 : wa < ta := Nat.lt_trans h1 g3
  have g5 : pi < td := Nat.lt_trans h3 h4
  have g6 : ps < td := Nat.lt_trans h2 g5
  have g7 : wa < td := Nat.lt_trans h1 g6
  exact ⟨Nat.ne_of_gt g4, Nat.ne_of_gt g3, Nat.ne_of_gt h3, Nat.ne_of_lt h4, Nat.ne_of_gt g7, Nat.ne_of_gt g6, Nat.ne_of_gt g5, Nat.ne_of_lt h1, Nat.ne_of_lt g2, Nat.ne_of_lt h2⟩
set_option maxRecDepth 65536 in
theorem c_addW (G : Glb Z a0) {x wa ps pi ta td : Addr} {sz dn k : Nat} {S : List Int64} {I : List Int32} {T : List Int64} {D0 : List Int32} (F : WF Z H x wa ps pi ta td sz dn) (A : WA Z H x wa ps pi ta td sz dn S I T D0) (hk : k < 1024) (hdn : dn < 10) :
    Ct l Z EL0 (⟨"com/example/onepass/onepass/model/Words", "add", "(I)V"⟩ : MethodName) prog_85_method_9_code 2 (none) ({ frames := 0, cells := 0, slots := 0, locals := 0 } : Room) [] [.ref x, .int k.toInt32] H (fun r H' => r = none ∧ Kp H H' [x, ta, td] ∧ ∃ dn' T' D', dn' ≤ dn + 1 ∧ WF Z H' x wa ps pi ta td sz dn' ∧ WA Z H' x wa ps pi ta td sz dn' S I T' D') := by
  refine Ct.in G (by first | exact plainFor_of_name (by simp [plainName, overriddenIn]; done) | decide +kernel) (ls := [.val (.ref x), .val (.int k.toInt32)]) rfl rfl fun D A0 => ?_
  obtain ⟨n1, n2, n3, n4, n5, n6, n7, n8, n9, n10⟩ := A.idx
  obtain ⟨x1, x2, x3, x4, x5⟩ := A.nx
  obtain ⟨o1, o2, o3, o4, o5, o6⟩ := A.o
  obtain ⟨v, hv⟩ : ∃ v, T[k]? = some v := ⟨_, List.getElem?_eq_getElem (by rw [A.lt]; exact hk)⟩
  have A1 := A0.run [(0, .aload_n 0, 1, 0)] (pe := 1) (by decide +kernel) rfl
  have A2 := A1.getF (wd_35 G) F.tally (by decide +kernel)
  have A3 := A2.run [(4, .iload_n 1, 5, 0), (5, .dup2, 6, 0)] (pe := 6) (by decide +kernel) rfl
  have A4 := A3.laload A.t (by decide +kernel) rfl (v := .long v) (by simp [hv])
  have A5 := A4.run [(7, .dup2_x2, 8, 0), (8, .lconst 1, 9, 0), (9, .ladd, 10, 0)] (pe := 10) (by decide +kernel) rfl
  obtain ⟨H1, A6, K1, T1⟩ := A5.lastore A.t o5 (by decide +kernel) rfl (by simp [A.lt]; exact hk)
  have hT1 : Ar Z H1 ta .long (jl (T.set k (v + 1))) := by rw [show jl (T.set k (v + 1)) = (jl T).set k (.long (v + 1)) from List.map_set]; exact T1
  have A7 := A6.run [(11, .lconst 0, 12, 0), (12, .lcmp, 13, 0)] (pe := 13) (by decide +kernel) rfl
  have F1 := F.ky K1 (by simpa using x4)
  have W1 : ∃ vw, Ar Z H1 wa (.object "java/lang/String") vw ∧ vw.length = 1024 := by obtain ⟨vw, q1, q2⟩ := A.w; exact ⟨vw, q1.ky K1 (by simpa using n1.symm), q2⟩
  have S1 := A.s.ky K1 (by simpa using n2.symm)
  have I1 := A.i.ky K1 (by simpa using n3.symm)
  have D1 := A.d.ky K1 (by simpa using n4.symm)
  have oo1 : H1.2 x ∧ H1.2 wa ∧ H1.2 ps ∧ H1.2 pi ∧ H1.2 ta ∧ H1.2 td := ⟨K1.2 _ o1, K1.2 _ o2, K1.2 _ o3, K1.2 _ o4, K1.2 _ o5, K1.2 _ o6⟩
  have lt1 : (T.set k (v + 1)).length = 1024 := by rw [List.length_set]; exact A.lt
  have mta : ∀ y ∈ [ta], y ∈ [x, ta, td] ∨ H.1.size ≤ y := fun y hy => by cases List.mem_singleton.mp hy; exact Or.inl (by simp)
  by_cases h0 : v = 0
  · subst h0
    have A8 := A7.ifF (cd := .ne) (o := 49) (by decide +kernel) (not_not_intro (cL_eq.mpr rfl))
    have A9 := A8.run [(16, .aload_n 0, 17, 0)] (pe := 17) (by decide +kernel) rfl
    have A10 := A9.getF (wd_176 G) F1.distinct (by decide +kernel)
    have A11 := A10.run [(20, .aload_n 0, 21, 0)] (pe := 21) (by decide +kernel) rfl
    have A12 := A11.getF (wd_37 G) F1.tallied (by decide +kernel)
    have A13 := A12.alen D1 (by decide +kernel) (z := (1024 : Nat).toInt32) (by simp [A.ld])
    have A14 := A13.icT (cd := .ne) (o := 20) (by decide +kernel) (fun q => by have := (n32_inj (j := 1024) (by omega) (by decide)).mp q; omega) (pe := 45) (by decide)
    have A15 := A14.run [(45, .aload_n 0, 46, 0)] (pe := 46) (by decide +kernel) rfl
    have A16 := A15.getF (wd_37 G) F1.tallied (by decide +kernel)
    have A17 := A16.run [(49, .aload_n 0, 50, 0), (50, .dup, 51, 0)] (pe := 51) (by decide +kernel) rfl
    have A18 := A17.getF (wd_176 G) F1.distinct (by decide +kernel)
    have A19 := A18.run [(54, .dup_x1, 55, 0), (55, .iconst 1, 56, 1), (56, .iadd, 57, 0)] (pe := 57) (by decide +kernel) rfl
    rw [n32_succ] at A19
    obtain ⟨H2, A20, K2, W2⟩ := A19.putF (wd_176 G) F1.distinct F1.e (wd_177 G) (wd_9 G) (K1.2 _ o1) (by decide +kernel) (ty := .int) (by decide) rfl rfl
    have A21 := A20.run [(60, .iload_n 1, 61, 0)] (pe := 61) (by decide +kernel) rfl
    have F2 : WF Z H2 x wa ps pi ta td sz (dn + 1) := ⟨F1.e.ky K2, F1.words.other W2 (Or.inr (sl_words_distinct G)), F1.packedSlots.other W2 (Or.inr (sl_packedSlots_distinct G)), F1.packedIds.other W2 (Or.inr (sl_packedIds_distinct G)), F1.tally.other W2 (Or.inr (sl_tally_distinct G)), F1.tallied.other W2 (Or.inr (sl_tallied_distinct G)), F1.size.other W2 (Or.inr (sl_size_distinct G)), F1.distinct.same W2, F1.packedSize.other W2 (Or.inr (sl_packedSize_distinct G))⟩
    have xn : ∀ {y : Addr}, x ≠ y → y ∉ [x] := fun h => by simpa using h.symm
    obtain ⟨H3, A22, K3, T3⟩ := A21.iastore (D1.ky K2 (xn x5)) (K2.2 _ (K1.2 _ o6)) (by decide +kernel) rfl (by simp [A.ld]; omega)
    have hD3 : Ar Z H3 td .int (il (D0.set dn k.toInt32)) := by rw [show il (D0.set dn k.toInt32) = (il D0).set dn (.int k.toInt32) from List.map_set]; exact T3
    have nt : ∀ {y : Addr}, td ≠ y → y ∉ [td] := fun h => by simpa using h.symm
    have KK : Kp H H3 [x, ta, td] := ((K1.wide mta).trans K2 fun y hy => by cases List.mem_singleton.mp hy; exact Or.inl (by simp)).trans K3 fun y hy => by cases List.mem_singleton.mp hy; exact Or.inl (by simp)
    refine ⟨_, _, _, _, A22.ret (by decide +kernel), ⟨rfl, KK, dn + 1, T.set k (0 + 1), D0.set dn k.toInt32, by omega, F2.ky K3 (by simpa using x5), ⟨?_, ((A.we.ky K1).ky K2).ky K3, (S1.ky K2 (xn x2)).ky K3 (nt n6), (I1.ky K2 (xn x3)).ky K3 (nt n7), (hT1.ky K2 (xn x4)).ky K3 (nt n4.symm), hD3, A.ls, A.li, lt1, by rw [List.length_set]; exact A.ld, A.ch, ?_, A.nx, A.p, A.id, ?_, ?_, A.sz4, by omega⟩⟩, by decide, by decide⟩
    · obtain ⟨vw, q1, q2⟩ := W1; exact ⟨vw, (q1.ky K2 (xn x1)).ky K3 (nt n5), q2⟩
    · obtain ⟨p1, p2, p3, p4, p5, p6⟩ := oo1
      exact ⟨K3.2 _ (K2.2 _ p1), K3.2 _ (K2.2 _ p2), K3.2 _ (K2.2 _ p3), K3.2 _ (K2.2 _ p4), K3.2 _ (K2.2 _ p5), K3.2 _ (K2.2 _ p6)⟩
    · intro j w hj hw
      by_cases hjk : j = k
      · subst hjk
        exact ⟨dn, by omega, List.getElem?_set_self (by rw [A.ld]; omega)⟩
      · rw [List.getElem?_set_ne (Ne.symm hjk)] at hj
        obtain ⟨q, q1, q2⟩ := A.ty j w hj hw
        exact ⟨q, by omega, by rw [List.getElem?_set_ne (by omega)]; exact q2⟩
    · intro q hq
      by_cases hqd : q = dn
      · subst hqd; exact ⟨k, hk, List.getElem?_set_self (by rw [A.ld]; omega)⟩
      · obtain ⟨j, q1, q2⟩ := A.dv q (by omega)
        exact ⟨j, q1, by rw [List.getElem?_set_ne (by omega)]; exact q2⟩
  · have A8 := A7.ifT (cd := .ne) (o := 49) (by decide +kernel) (fun q => h0 (cL_eq.mp q)) (pe := 62) (by decide)
    refine ⟨_, _, _, _, A8.ret (by decide +kernel), ⟨rfl, K1.wide mta, dn, T.set k (v + 1), D0, by omega, F1, ⟨W1, A.we.ky K1, S1, I1, hT1, D1, A.ls, A.li, lt1, A.ld, A.ch, oo1, A.nx, A.p, A.id, ?_, A.dv, A.sz4, A.dn4⟩⟩, by decide, by decide⟩
    intro j w hj hw
    by_cases hjk : j = k
    · subst hjk; exact A.ty j v hv h0
    · rw [List.getElem?_set_ne (Ne.symm hjk)] at hj
      exact A.ty j w hj hw
set_option maxRecDepth 65536 in
theorem c_num (G : Glb Z a0) {x wa ps pi ta td u : Addr} {sz dn : Nat} {vw : List Value} (e : Exa Z H.1 x WN) (f1 : Fld Z H.1 x WN "words" "[Ljava/lang/String;" (.ref wa)) (f2 : Fld Z H.1 x WN "size" "I" (.int sz.toInt32)) (w : Ar Z H wa (.object "java/lang/String") vw) (hw : vw.length = 1024) (we : Exa Z H.1 wa "[Ljava/lang/String;") (ox : H.2 x) (ow : H.2 wa) (hx : x ≠ wa) (eu : Exa Z H.1 u "java/lang/String") (hs : sz ≤ 10) :
    Ct l Z EL0 (⟨"com/example/onepass/onepass/model/Words", "number", "(Ljava/lang/String;)I"⟩ : MethodName) prog_85_method_13_code 2 ((some .int)) ({ frames := 0, cells := 0, slots := 0, locals := 0 } : Room) [] [.ref x, .ref u] H (fun r H' => r = some (.int sz.toInt32) ∧ ∃ H1, Kp H H1 [wa] ∧ Kp H1 H' [x] ∧ Wr H1.1 H'.1 x (Jvm.RoadKit.slotOf Z WN "size" "I") (.int (sz + 1).toInt32) ∧ Ar Z H' wa (.object "java/lang/String") (vw.set sz (.ref u))) := by
  refine Ct.in G (by first | exact plainFor_of_name (by simp [plainName, overriddenIn]; done) | decide +kernel) (ls := [.val (.ref x), .val (.ref u)]) rfl rfl fun D A0 => ?_
  have A1 := A0.run [(0, .aload_n 0, 1, 0)] (pe := 1) (by decide +kernel) rfl
  have A2 := A1.getF (wd_170 G) f2 (by decide +kernel)
  have A3 := A2.run [(4, .aload_n 0, 5, 0)] (pe := 5) (by decide +kernel) rfl
  have A4 := A3.getF (wd_19 G) f1 (by decide +kernel)
  have A5 := A4.alen w (by decide +kernel) (z := (1024 : Nat).toInt32) (by rw [hw])
  have A6 := A5.icT (cd := .ne) (o := 40) (by decide +kernel) (fun q => by have := (n32_inj (j := 1024) (by omega) (by decide)).mp q; omega) (pe := 49) (by decide)
  have A7 := A6.run [(49, .aload_n 0, 50, 0)] (pe := 50) (by decide +kernel) rfl
  have A8 := A7.getF (wd_19 G) f1 (by decide +kernel)
  have A9 := A8.run [(53, .aload_n 0, 54, 0)] (pe := 54) (by decide +kernel) rfl
  have A10 := A9.getF (wd_170 G) f2 (by decide +kernel)
  have A11 := A10.run [(57, .aload_n 1, 58, 0)] (pe := 58) (by decide +kernel) rfl
  obtain ⟨H1, A12, K1, T1⟩ := A11.aast w we (by decide) (wd_18 G) (Ins.self eu) ow (by decide +kernel) rfl (by omega)
  have A13 := A12.run [(59, .aload_n 0, 60, 0), (60, .dup, 61, 0)] (pe := 61) (by decide +kernel) rfl
  have f2' := f2.ky K1 (by simpa using hx)
  have A14 := A13.getF (wd_170 G) f2' (by decide +kernel)
  have A15 := A14.run [(64, .dup_x1, 65, 0), (65, .iconst 1, 66, 1), (66, .iadd, 67, 0)] (pe := 67) (by decide +kernel) rfl
  rw [n32_succ] at A15
  obtain ⟨H2, A16, K2, W2⟩ := A15.putF (wd_170 G) f2' (e.ky K1) (wd_171 G) (wd_9 G) (K1.2 _ ox) (by decide +kernel) (ty := .int) (by decide) rfl rfl
  exact ⟨_, _, _, _, A16.retI (by decide +kernel), ⟨rfl, H1, K1, K2, W2, T1.ky K2 (by simpa using hx.symm)⟩, by decide, by decide⟩
theorem and2047 {z : Int32} : ∃ h : Nat, h < 2048 ∧ z &&& (2047 : Nat).toInt32 = h.toInt32 := by
  have q := c_and z 2047 (by decide)
  rw [show (2047 : Int32).toInt = 2047 by decide] at q
  refine ⟨(z &&& 2047).toInt.toNat, by omega, ?_⟩
  apply Int32.toInt_inj.mp
  rw [n32_toInt (by omega)]
  show (z &&& 2047).toInt = _
  omega
theorem and2047n {h : Nat} (hh : h < 4096) : h.toInt32 &&& (2047 : Nat).toInt32 = (h % 2048).toInt32 := by
  apply Int32.toInt_inj.mp
  have := c_mask h.toInt32 2047 11 (by decide) (by decide)
  rw [n32_toInt (by omega)] at this
  rw [n32_toInt (by omega)]
  show (h.toInt32 &&& 2047).toInt = _
  rw [this]; simp only [Nat.reducePow]; omega
set_option maxRecDepth 65536 in
set_option maxHeartbeats 2000000 in
theorem l_pn0 (G : Glb Z a0) {x wa ps pi ta td : Addr} {sz dn pk : Nat} {S : List Int64} {I : List Int32} {T : List Int64} {D0 : List Int32} (F : WF Z H x wa ps pi ta td sz dn) (A : WA Z H x wa ps pi ta td sz dn S I T D0) (h1 : 1 ≤ pk) (h2 : pk < 32 ^ 4) (hsz : sz < 10) (h : Nat) (s5 s6 : Slot) (hh : h < 2048) (h56 : s5 = .unset ∧ s6 = .unset ∨ ∃ y, s5 = .val (.long y) ∧ s6 = .second)
    (B0 : Wk l Z a0 EL0 "com/example/onepass/onepass/model/Words" prog_85_method_10_code 7 "packedNumber" (some .int) ({ frames := 7, cells := 4, slots := 40, locals := 110 } : Room) D 16 [.val (.ref x), .val (.long pk.toInt64), .second, .val (.int (2047 : Nat).toInt32), .val (.int h.toInt32), s5, s6] [] H 0 0)
    (hgo : (∀ s, S[h]? = some s → s = 0) ∨ ∀ s, S[h]? = some s → s ≠ 0 → ∀ y : Int64, Wk l Z a0 EL0 "com/example/onepass/onepass/model/Words" prog_85_method_10_code 7 "packedNumber" (some .int) ({ frames := 7, cells := 4, slots := 40, locals := 110 } : Room) D 16 [.val (.ref x), .val (.long pk.toInt64), .second, .val (.int (2047 : Nat).toInt32), .val (.int ((h + 1) % 2048).toInt32), .val (.long y), .second] [] H 0 0 →
      ∃ r H' kk nn, Rt Z EL0 D r H' kk nn ∧ (∃ id sz' S' I', r = some (.int id.toInt32) ∧ id < sz' ∧ sz' ≤ sz + 1 ∧ Kp H H' [x, wa, ps, pi] ∧ WF Z H' x wa ps pi ta td sz' dn ∧ WA Z H' x wa ps pi ta td sz' dn S' I' T D0) ∧ kk ≤ 4 ∧ nn ≤ 40) :
    ∃ r H' kk nn, Rt Z EL0 D r H' kk nn ∧ (∃ id sz' S' I', r = some (.int id.toInt32) ∧ id < sz' ∧ sz' ≤ sz + 1 ∧ Kp H H' [x, wa, ps, pi] ∧ WF Z H' x wa ps pi ta td sz' dn ∧ WA Z H' x wa ps pi ta td sz' dn S' I' T D0) ∧ kk ≤ 4 ∧ nn ≤ 40 := by
  obtain ⟨n1, n2, n3, n4, n5, n6, n7, n8, n9, n10⟩ := A.idx
  obtain ⟨x1, x2, x3, x4, x5⟩ := A.nx
  obtain ⟨o1, o2, o3, o4, o5, o6⟩ := A.o
  have hpk : (pk.toInt64) ≠ 0 := fun e => by have := (n64_inj (j := 0) (by omega) (by decide)).mp e; omega
  obtain ⟨s, hs⟩ : ∃ s, S[h]? = some s := ⟨_, List.getElem?_eq_getElem (by rw [A.ls]; exact hh)⟩
  have B1 := B0.run [(16, .aload_n 0, 17, 0)] (pe := 17) (by decide +kernel) rfl
  have B2 := B1.getF (wd_22 G) F.packedSlots (by decide +kernel)
  have B3 := B2.run [(20, .iload 4, 22, 0)] (pe := 22) (by decide +kernel) rfl
  have B4 := B3.laload A.s (by decide +kernel) rfl (v := .long s) (by simp [hs])
  have B5 : Wk l Z a0 EL0 "com/example/onepass/onepass/model/Words" prog_85_method_10_code 7 "packedNumber" (some .int) ({ frames := 7, cells := 4, slots := 40, locals := 110 } : Room) D 29 [.val (.ref x), .val (.long pk.toInt64), .second, .val (.int (2047 : Nat).toInt32), .val (.int h.toInt32), .val (.long s), .second] [.int (XT.cmpL s pk.toInt64)] H 0 0 := by
    rcases h56 with ⟨rfl, rfl⟩ | ⟨y, rfl, rfl⟩ <;> exact B4.run [(23, .lstore 5, 25, 0), (25, .lload 5, 27, 0), (27, .lload_n 1, 28, 0), (28, .lcmp, 29, 0)] (pe := 29) (by decide +kernel) rfl
  by_cases he : s = pk.toInt64
  · have B6 := B5.ifF (cd := .ne) (o := 11) (by decide +kernel) (not_not_intro (cL_eq.mpr he))
    have B7 := B6.run [(32, .aload_n 0, 33, 0)] (pe := 33) (by decide +kernel) rfl
    have B8 := B7.getF (wd_25 G) F.packedIds (by decide +kernel)
    have B9 := B8.run [(36, .iload 4, 38, 0)] (pe := 38) (by decide +kernel) rfl
    obtain ⟨k, hk, hi⟩ := A.id h s hs (by rw [he]; exact hpk)
    have B10 := B9.iaload A.i (by decide +kernel) rfl (v := .int k.toInt32) (by simp [hi])
    exact ⟨_, _, _, _, B10.retI (by decide +kernel), ⟨k, sz, S, I, rfl, hk, by omega, (Kp.refl H).wide (fun x hx => nomatch hx), F, A⟩, by decide, by decide⟩
  · have B6 := B5.ifT (cd := .ne) (o := 11) (by decide +kernel) (fun e => he (cL_eq.mp e)) (pe := 40) (by decide)
    have B7 := B6.run [(40, .lload 5, 42, 0), (42, .lconst 0, 43, 0), (43, .lcmp, 44, 0)] (pe := 44) (by decide +kernel) rfl
    by_cases h0 : s = 0
    · subst h0
      have C0 := B7.ifF (cd := .ne) (o := 70) (by decide +kernel) (not_not_intro (cL_eq.mpr rfl))
      have C1 := C0.run [(47, .iconst 2, 48, 2), (48, .aload_n 0, 49, 0)] (pe := 49) (by decide +kernel) rfl
      have C2 := C1.getF (wd_54 G) F.packedSize (by decide +kernel)
      have C3 := C2.run [(52, .iconst 1, 53, 1), (53, .iadd, 54, 0), (54, .imul, 55, 0), (55, .aload_n 0, 56, 0)] (pe := 56) (by decide +kernel) rfl
      rw [n32_succ, show (2 : Int32) * (sz + 1).toInt32 = (2 * (sz + 1)).toInt32 from by apply Int32.toInt_inj.mp; have := c_imul 2 (sz + 1).toInt32; rw [n32_toInt (by omega), show (2 : Int32).toInt = 2 by decide] at this; have r := rng32 (2 * (sz + 1).toInt32); rw [n32_toInt (by omega)]; omega] at C3
      have C4 := C3.getF (wd_22 G) F.packedSlots (by decide +kernel)
      have C5 := C4.alen A.s (by decide +kernel) (z := (2048 : Nat).toInt32) (by simp [A.ls])
      have C6 := C5.icT (cd := .le) (o := 13) (by decide +kernel) (fun e => by have := (n32_lt (i := 2048) (by decide) (by omega)).mp e; omega) (pe := 73) (by decide)
      have C7 := C6.run [(73, .aload_n 0, 74, 0), (74, .dup, 75, 0)] (pe := 75) (by decide +kernel) rfl
      have C8 := C7.getF (wd_54 G) F.packedSize (by decide +kernel)
      have C9 := C8.run [(78, .iconst 1, 79, 1), (79, .iadd, 80, 0)] (pe := 80) (by decide +kernel) rfl
      rw [n32_succ] at C9
      obtain ⟨H1, C10, K1, W1⟩ := C9.putF (wd_54 G) F.packedSize F.e (wd_55 G) (wd_9 G) o1 (by decide +kernel) (ty := .int) (by decide) rfl rfl
      have xn : ∀ {y : Addr}, x ≠ y → y ∉ [x] := fun h => by simpa using h.symm
      have f1 := F.words.other W1 (Or.inr (sl_words_packedSize G))
      have f2 := F.packedSlots.other W1 (Or.inr (sl_packedSlots_packedSize G))
      have f3 := F.packedIds.other W1 (Or.inr (sl_packedIds_packedSize G))
      have f4 := F.tally.other W1 (Or.inr (sl_tally_packedSize G))
      have f5 := F.tallied.other W1 (Or.inr (sl_tallied_packedSize G))
      have f6 := F.size.other W1 (Or.inr (sl_size_packedSize G))
      have f7 := F.distinct.other W1 (Or.inr (sl_distinct_packedSize G))
      have f8 := F.packedSize.same W1
      have C11 := C10.run [(83, .aload_n 0, 84, 0)] (pe := 84) (by decide +kernel) rfl
      have C12 := C11.getF (wd_22 G) f2 (by decide +kernel)
      have C13 := C12.run [(87, .iload 4, 89, 0), (89, .lload_n 1, 90, 0)] (pe := 90) (by decide +kernel) rfl
      obtain ⟨H2, C14, K2, T2⟩ := C13.lastore (A.s.ky K1 (xn x2)) (K1.2 _ o3) (by decide +kernel) rfl (by simp [A.ls]; exact hh)
      have hS2 : Ar Z H2 ps .long (jl (S.set h pk.toInt64)) := by rw [show jl (S.set h pk.toInt64) = (jl S).set h (.long pk.toInt64) from List.map_set]; exact T2
      have ns : ∀ {y : Addr}, ps ≠ y → y ∉ [ps] := fun h => by simpa using h.symm
      have xs : x ∉ [ps] := by simpa using x2
      have C15 := C14.run [(91, .aload_n 0, 92, 0)] (pe := 92) (by decide +kernel) rfl
      have C16 := C15.getF (wd_25 G) (f3.ky K2 xs) (by decide +kernel)
      have C17 := C16.run [(95, .iload 4, 97, 0), (97, .aload_n 0, 98, 0), (98, .lload_n 1, 99, 0)] (pe := 99) (by decide +kernel) rfl
      obtain ⟨_, HC18, qC18, C18, moC18, szC18⟩ := C17.callS (argsL := [.long pk.toInt64]) (wd_56 G) (wd_57 G) (wd_10 G) (wd_58 G) (c_unp G h1 h2) (by decide) ⟨_, _, (by decide +kernel : parseMethodDescriptor "(J)Ljava/lang/String;" = some ⟨[.long], some (.object "java/lang/String")⟩), rfl⟩ (by decide +kernel) (Wd := 3) (by decide) (Nat.le_of_ble_eq_true rfl) (by decide) (by decide) (by decide)
      obtain ⟨u, rfl, K3, eu⟩ := qC18
      obtain ⟨vw, hvw, lvw⟩ := A.w
      have wa3 := ((hvw.ky K1 (xn x1)).ky K2 (ns n8.symm)).ky K3
      obtain ⟨_, HC19, qC19, C19, moC19, szC19⟩ := C18.callP (argsL := [.ref u]) (wd_166 G) (wd_42 G) rfl (wd_168 G) (wd_167 G) (wd_10 G) (wd_169 G) (((F.e.ky K1).ky K2).ky K3) (c_num G (((F.e.ky K1).ky K2).ky K3) ((f1.ky K2 xs).ky K3) ((f6.ky K2 xs).ky K3) wa3 lvw (((A.we.ky K1).ky K2).ky K3) (K3.2 _ (K2.2 _ (K1.2 _ o1))) (K3.2 _ (K2.2 _ (K1.2 _ o2))) x1 eu A.sz4 (ps := ps) (pi := pi) (ta := ta) (td := td) (dn := dn)) (by decide) ⟨_, _, (by decide +kernel : parseMethodDescriptor "(Ljava/lang/String;)I" = some ⟨[(.object "java/lang/String")], some .int⟩), rfl⟩ (by decide +kernel) (Wd := 2) (by decide) (Nat.le_of_ble_eq_true rfl) (by decide) (by decide) (by decide)
      obtain ⟨rfl, H4, K4, K5, W5, T5⟩ := qC19
      have nw : ∀ {y : Addr}, wa ≠ y → y ∉ [wa] := fun h => by simpa using h.symm
      have xw : x ∉ [wa] := by simpa using x1
      have i5 := ((((A.i.ky K1 (xn x3)).ky K2 (ns n10)).ky K3).ky K4 (nw n9)).ky K5 (xn x3)
      obtain ⟨H6, C20, K6, T6⟩ := C19.iastore i5 (K5.2 _ (K4.2 _ (K3.2 _ (K2.2 _ (K1.2 _ o4))))) (by decide +kernel) rfl (by simp [A.li]; exact hh)
      have hI6 : Ar Z H6 pi .int (il (I.set h sz.toInt32)) := by rw [show il (I.set h sz.toInt32) = (il I).set h (.int sz.toInt32) from List.map_set]; exact T6
      have np : ∀ {y : Addr}, pi ≠ y → y ∉ [pi] := fun h => by simpa using h.symm
      have xp : x ∉ [pi] := by simpa using x3
      have F6 : WF Z H6 x wa ps pi ta td (sz + 1) dn := ⟨(((((F.e.ky K1).ky K2).ky K3).ky K4).ky K5).ky K6, ((((f1.ky K2 xs).ky K3).ky K4 xw).other W5 (Or.inr (sl_words_size G))).ky K6 xp, ((((f2.ky K2 xs).ky K3).ky K4 xw).other W5 (Or.inr (sl_packedSlots_size G))).ky K6 xp, ((((f3.ky K2 xs).ky K3).ky K4 xw).other W5 (Or.inr (sl_packedIds_size G))).ky K6 xp, ((((f4.ky K2 xs).ky K3).ky K4 xw).other W5 (Or.inr (sl_tally_size G))).ky K6 xp, ((((f5.ky K2 xs).ky K3).ky K4 xw).other W5 (Or.inr (sl_tallied_size G))).ky K6 xp, ((((f6.ky K2 xs).ky K3).ky K4 xw).same W5).ky K6 xp, ((((f7.ky K2 xs).ky K3).ky K4 xw).other W5 (Or.inr (sl_distinct_size G))).ky K6 xp, ((((f8.ky K2 xs).ky K3).ky K4 xw).other W5 (Or.inr (sl_packedSize_size G))).ky K6 xp⟩
      have C21 := C20.run [(106, .aload_n 0, 107, 0)] (pe := 107) (by decide +kernel) rfl
      have C22 := C21.getF (wd_25 G) F6.packedIds (by decide +kernel)
      have C23 := C22.run [(110, .iload 4, 112, 0)] (pe := 112) (by decide +kernel) rfl
      have C24 := C23.iaload hI6 (by decide +kernel) rfl (v := .int sz.toInt32) (by rw [List.getElem?_map, List.getElem?_set_self (by rw [A.li]; exact hh)]; rfl)
      have m4 : ∀ y ∈ [x, wa, ps, pi], True := fun _ _ => trivial
      have KK : Kp H H6 [x, wa, ps, pi] := (((((K1.wide fun y hy => by cases List.mem_singleton.mp hy; exact Or.inl (by simp)).trans K2 fun y hy => by cases List.mem_singleton.mp hy; exact Or.inl (by simp)).trans K3 fun y hy => nomatch hy).trans K4 fun y hy => by cases List.mem_singleton.mp hy; exact Or.inl (by simp)).trans K5 fun y hy => by cases List.mem_singleton.mp hy; exact Or.inl (by simp)).trans K6 fun y hy => by cases List.mem_singleton.mp hy; exact Or.inl (by simp)
      refine ⟨_, _, _, _, C24.retI (by decide +kernel), ⟨sz, sz + 1, S.set h pk.toInt64, I.set h sz.toInt32, rfl, by omega, by omega, KK, F6, ⟨⟨_, T5.ky K6 (np n9.symm), by rw [List.length_set]; exact lvw⟩, (((((A.we.ky K1).ky K2).ky K3).ky K4).ky K5).ky K6, (((hS2.ky K3).ky K4 (nw n8)).ky K5 (xn x2)).ky K6 (np n10.symm), hI6, (((((A.t.ky K1 (xn x4)).ky K2 (ns n2.symm)).ky K3).ky K4 (nw n1.symm)).ky K5 (xn x4)).ky K6 (np n3.symm), (((((A.d.ky K1 (xn x5)).ky K2 (ns n6.symm)).ky K3).ky K4 (nw n5.symm)).ky K5 (xn x5)).ky K6 (np n7.symm), by rw [List.length_set]; exact A.ls, by rw [List.length_set]; exact A.li, A.lt, A.ld, A.ch, ?_, A.nx, ?_, ?_, A.ty, A.dv, by omega, A.dn4⟩⟩, by decide, by decide⟩
      · have om : ∀ {y : Addr}, H.2 y → H6.2 y := fun h => K6.2 _ (K5.2 _ (K4.2 _ (K3.2 _ (K2.2 _ (K1.2 _ h)))))
        exact ⟨om o1, om o2, om o3, om o4, om o5, om o6⟩
      · obtain ⟨Q, q1, q2⟩ := A.p
        refine ⟨h :: Q, by simp; omega, fun i s hi hne => ?_⟩
        by_cases e : i = h
        · subst e; exact List.mem_cons_self
        · rw [List.getElem?_set_ne (Ne.symm e)] at hi
          exact List.mem_cons_of_mem _ (q2 i s hi hne)
      · intro i s hi hne
        by_cases e : i = h
        · subst e; exact ⟨sz, by omega, List.getElem?_set_self (by rw [A.li]; exact hh)⟩
        · rw [List.getElem?_set_ne (Ne.symm e)] at hi
          obtain ⟨k, k1, k2⟩ := A.id i s hi hne
          exact ⟨k, by omega, by rw [List.getElem?_set_ne (Ne.symm e)]; exact k2⟩
    · have C0 := B7.ifT (cd := .ne) (o := 70) (by decide +kernel) (fun e => h0 (cL_eq.mp e)) (pe := 114) (by decide)
      have C1 := C0.run [(114, .iload 4, 116, 0), (116, .iconst 1, 117, 1), (117, .iadd, 118, 0)] (pe := 118) (by decide +kernel) rfl
      rw [n32_succ] at C1
      have C2 := C1.run [(118, .iload_n 3, 119, 0), (119, .iand, 120, 0)] (pe := 120) (by decide +kernel) rfl
      rw [and2047n (by omega)] at C2
      have C3 := C2.run [(120, .istore 4, 122, 0), (122, .goto (-106), 16, 0)] (pe := 16) (by decide +kernel) rfl
      rcases hgo with hgo | hgo
      · exact absurd (hgo s hs) h0
      · exact hgo s hs h0 s C3
set_option maxRecDepth 65536 in
set_option maxHeartbeats 2000000 in
theorem l_pn (G : Glb Z a0) {x wa ps pi ta td : Addr} {sz dn pk : Nat} {S : List Int64} {I : List Int32} {T : List Int64} {D0 : List Int32} (F : WF Z H x wa ps pi ta td sz dn) (A : WA Z H x wa ps pi ta td sz dn S I T D0) (h1 : 1 ≤ pk) (h2 : pk < 32 ^ 4) (hsz : sz < 10) :
    ∀ (q h : Nat) (Q : List Nat) (s5 s6 : Slot), Q.length ≤ q → q ≤ 100 → h < 2048 → (∀ j, j ≤ q → ∀ s, S[(h + j) % 2048]? = some s → s ≠ 0 → (h + j) % 2048 ∈ Q) → (s5 = .unset ∧ s6 = .unset ∨ ∃ y, s5 = .val (.long y) ∧ s6 = .second) →
    Wk l Z a0 EL0 "com/example/onepass/onepass/model/Words" prog_85_method_10_code 7 "packedNumber" (some .int) ({ frames := 7, cells := 4, slots := 40, locals := 110 } : Room) D 16 [.val (.ref x), .val (.long pk.toInt64), .second, .val (.int (2047 : Nat).toInt32), .val (.int h.toInt32), s5, s6] [] H 0 0 →
    ∃ r H' kk nn, Rt Z EL0 D r H' kk nn ∧ (∃ id sz' S' I', r = some (.int id.toInt32) ∧ id < sz' ∧ sz' ≤ sz + 1 ∧ Kp H H' [x, wa, ps, pi] ∧ WF Z H' x wa ps pi ta td sz' dn ∧ WA Z H' x wa ps pi ta td sz' dn S' I' T D0) ∧ kk ≤ 4 ∧ nn ≤ 40 := by
  obtain ⟨n1, n2, n3, n4, n5, n6, n7, n8, n9, n10⟩ := A.idx
  obtain ⟨x1, x2, x3, x4, x5⟩ := A.nx
  obtain ⟨o1, o2, o3, o4, o5, o6⟩ := A.o
  intro q
  induction q with
  | zero =>
    intro h Q s5 s6 hq hq1 hh hwin h56 B0
    exact l_pn0 G F A h1 h2 hsz h s5 s6 hh h56 B0 (Or.inl (fun s hs => Classical.byContradiction fun hne => by
      have hm := hwin 0 (Nat.le_refl _) s (by rw [Nat.add_zero, Nat.mod_eq_of_lt hh]; exact hs) hne
      have : Q = [] := List.length_eq_zero_iff.mp (by omega)
      rw [this] at hm; cases hm))
  | succ q ih =>
    intro h Q s5 s6 hq hq1 hh hwin h56 B0
    refine l_pn0 G F A h1 h2 hsz h s5 s6 hh h56 B0 (Or.inr fun s hs hne y B1 => ?_)
    have hm : h ∈ Q := by have := hwin 0 (by omega) s (by rw [Nat.add_zero, Nat.mod_eq_of_lt hh]; exact hs) hne; rwa [Nat.add_zero, Nat.mod_eq_of_lt hh] at this
    refine ih ((h + 1) % 2048) (Q.erase h) _ _ (by rw [List.length_erase_of_mem hm]; omega) (by omega) (by omega) (fun j hj s' hs' hne' => ?_) (Or.inr ⟨y, rfl, rfl⟩) B1
    have e : ((h + 1) % 2048 + j) % 2048 = (h + (j + 1)) % 2048 := by omega
    rw [e] at hs' ⊢
    have hm2 := hwin (j + 1) (by omega) s' hs' hne'
    exact (List.mem_erase_of_ne (by omega)).mpr hm2
set_option maxRecDepth 65536 in
set_option maxHeartbeats 2000000 in
theorem c_pn (G : Glb Z a0) {x wa ps pi ta td : Addr} {sz dn pk : Nat} {S : List Int64} {I : List Int32} {T : List Int64} {D0 : List Int32} (F : WF Z H x wa ps pi ta td sz dn) (A : WA Z H x wa ps pi ta td sz dn S I T D0) (h1 : 1 ≤ pk) (h2 : pk < 32 ^ 4) (hsz : sz < 10) :
    Ct l Z EL0 (⟨"com/example/onepass/onepass/model/Words", "packedNumber", "(J)I"⟩ : MethodName) prog_85_method_10_code 7 ((some .int)) ({ frames := 7, cells := 4, slots := 40, locals := 110 } : Room) [] [.ref x, .long pk.toInt64] H (fun r H' => ∃ id sz' S' I', r = some (.int id.toInt32) ∧ id < sz' ∧ sz' ≤ sz + 1 ∧ Kp H H' [x, wa, ps, pi] ∧ WF Z H' x wa ps pi ta td sz' dn ∧ WA Z H' x wa ps pi ta td sz' dn S' I' T D0) := by
  refine Ct.in G (by first | exact plainFor_of_name (by simp [plainName, overriddenIn]; done) | decide +kernel) (ls := [.val (.ref x), .val (.long pk.toInt64), .second, .unset, .unset, .unset, .unset]) rfl rfl fun D A0 => ?_
  have A1 := A0.run [(0, .aload_n 0, 1, 0)] (pe := 1) (by decide +kernel) rfl
  have A2 := A1.getF (wd_22 G) F.packedSlots (by decide +kernel)
  have A3 := A2.alen A.s (by decide +kernel) (z := (2048 : Nat).toInt32) (by simp [A.ls])
  have A4 := A3.run [(5, .iconst 1, 6, 1), (6, .isub, 7, 0)] (pe := 7) (by decide +kernel) rfl
  rw [show (2048 : Nat).toInt32 - 1 = (2047 : Nat).toInt32 by decide] at A4
  have A5 := A4.run [(7, .istore_n 3, 8, 0), (8, .lload_n 1, 9, 0)] (pe := 9) (by decide +kernel) rfl
  obtain ⟨_, HA6, qA6, A6, moA6, szA6⟩ := A5.callS (argsL := [.long pk.toInt64]) (wd_50 G) (wd_51 G) (wd_10 G) (wd_52 G) (c_spr G) (by decide) ⟨_, _, (by decide +kernel : parseMethodDescriptor "(J)I" = some ⟨[.long], some .int⟩), rfl⟩ (by decide +kernel) (Wd := 0) (by decide) (Nat.le_of_ble_eq_true rfl) (by decide) (by decide) (by decide)
  obtain ⟨z, rfl, rfl⟩ := qA6
  have A7 := A6.run [(12, .iload_n 3, 13, 0), (13, .iand, 14, 0)] (pe := 14) (by decide +kernel) rfl
  obtain ⟨h, hh, eh⟩ := and2047 (z := z)
  rw [eh] at A7
  have A8 := A7.run [(14, .istore 4, 16, 0)] (pe := 16) (by decide +kernel) rfl
  obtain ⟨Q, hQ, hQ2⟩ := A.p
  obtain ⟨r, H', kk, nn, R, q, k1, k2⟩ := l_pn G F A h1 h2 hsz sz h Q .unset .unset hQ (by omega) hh (fun j _ s hs hne => hQ2 _ s hs hne) (Or.inl ⟨rfl, rfl⟩) A8
  exact ⟨_, _, _, _, R, q, k1, k2⟩
/-! the table of the letters' numbers: what it says is below 32 -/
theorem orF {c d : Jvm.Cond} {idx : List Nat} (h1 : c.value a0 Z none Z idx = some false) (h : (Jvm.Cond.or c d).value a0 Z none Z idx = some true) : d.value a0 Z none Z idx = some true := by
  simpa [Jvm.Cond.value, h1] using h
theorem leF {m r : Nat} (h : r < m) (hm : m < 2 ^ 31) : (Jvm.Cond.le (.int m.toInt32) (.index 0)).value a0 Z none Z [r] = some false := by
  have : ¬ m.toInt32 ≤ r.toInt32 := by rw [Int32.le_iff_toInt_le, n32_toInt hm, n32_toInt (by omega)]; omega
  simp [Jvm.Cond.value, Term.eval, this]
theorem ltF {m r : Nat} (h : m ≤ r) (hm : r < 2 ^ 31) : (Jvm.Cond.lt (.index 0) (.int m.toInt32)).value a0 Z none Z [r] = some false := by
  have : ¬ r.toInt32 < m.toInt32 := by rw [Int32.lt_iff_toInt_lt, n32_toInt hm, n32_toInt (by omega)]; omega
  simp [Jvm.Cond.value, Term.eval, this]
theorem eqV {t u : Term} {x : Value} {z : Int32} {idx : List Nat} (hu : u.eval a0 Z none idx Z = some x) (ht : t.eval a0 Z none idx Z = some (.int z)) (h : (Jvm.Cond.eq u t).value a0 Z none Z idx = some true) : x = .int z := by
  cases x <;> simp [Jvm.Cond.value, hu, ht] at h
  rw [h]
theorem subV {r m : Nat} (h : m ≤ r) : (Term.sub (.index 0) (.int m.toInt32)).eval a0 Z none [r] Z = some (.int (r - m).toInt32) := by
  simp [Term.eval]; exact n32_sub h
set_option maxRecDepth 65536 in
theorem G_let (G : Glb Z a0) : ∃ d, Sta Z Z.heap WN "LETTER_NUMBERS" "[B" (.ref d) ∧ ∃ cl : Cell, Arr Z Z.heap d cl .byte ∧ cl.slots.size = 256 ∧ ∀ r : Nat, r < 256 → ∃ k : Nat, k < 32 ∧ cl.slots[r]? = some (.int k.toInt32) := by
  have hn := G.2.2.2
  unfold narrow_1 at hn
  obtain ⟨n1, hn⟩ := and_e hn
  obtain ⟨n2, hn⟩ := and_e hn
  obtain ⟨n3, hn⟩ := and_e hn
  obtain ⟨n4, hn⟩ := and_e hn
  obtain ⟨n5, hn⟩ := and_e hn
  obtain ⟨n6, n7⟩ := and_e hn
  obtain ⟨d, e⟩ := arr_v n1
  have hsta := Sta.start e (Or.inr ⟨(wd_10 G), (wd_45 G)⟩)
  have eAll : ∀ idx, (Term.static WN "LETTER_NUMBERS" "[B").eval a0 Z none idx Z = some (.ref d) := fun idx => by rw [← e]; simp only [Term.eval]
  obtain ⟨cl, A⟩ := Arr.start e n1
  clear n1 hn
  generalize Term.static WN "LETTER_NUMBERS" "[B" = TT at n2 n3 n4 n5 n6 n7 e eAll
  have hl := Cond.eq_int (Cond.before_iff.mpr n2) rfl
  obtain ⟨d', D', hev', harrAt, hlen⟩ := Term.length_spec hl
  cases e.symm.trans hev'
  obtain ⟨hcellD', hknD, -, -⟩ := State.arrayAt?_spec harrAt
  cases A.1.symm.trans hcellD'
  have h31 := Jvm.Free.SBG.length_lt e harrAt hl
  have hsz : cl.slots.size = 256 := by
    have e2 : (Term.length TT).eval a0 Z none [] Z = some (.int (Int32.ofNat cl.slots.size)) := by simp [Term.eval, e, harrAt, h31]
    have := Option.some.inj (e2.symm.trans hl)
    have h2 : Int32.ofNat cl.slots.size = Int32.ofNat 256 := by simpa using this
    have := congrArg Int32.toInt h2
    rw [Int32.toInt_ofNat_small h31, Int32.toInt_ofNat_small (by omega)] at this; omega
  refine ⟨d, hsta, cl, A, hsz, fun r hr => ?_⟩
  have hjj : r.toInt32.toNatClampNeg = r := clamp_nat (by omega)
  have hel : (Term.elem TT (.index 0)).eval a0 Z none [r] Z = cl.slots[r]? := by
    simp [Term.eval, eAll [r], harrAt, hjj, nonneg_nat (show r < 2 ^ 31 by omega), hsz, hr]
  have hx : cl.slots[r]? = some (cl.slots[r]'(by omega)) := Array.getElem?_eq_getElem (by omega)
  generalize cl.slots[r]'(by omega) = x at hx
  rw [hx] at hel
  have q3 := Cond.all_elim e harrAt n3 r (by omega)
  have q4 := Cond.all_elim e harrAt n4 r (by omega)
  have q5 := Cond.all_elim e harrAt n5 r (by omega)
  have q6 := Cond.all_elim e harrAt n6 r (by omega)
  have q7 := Cond.all_elim e harrAt n7 r (by omega)
  rw [hx]
  by_cases h1 : r < 65
  · have := eqV hel rfl (orF (leF (m := 65) h1 (by decide)) q3)
    exact ⟨0, by decide, by rw [this]; rfl⟩
  by_cases h2 : r < 91
  · have := eqV hel (subV (m := 64) (by omega)) (orF (leF (m := 91) h2 (by decide)) (orF (ltF (m := 65) (by omega) (by omega)) q4))
    exact ⟨r - 64, by omega, by rw [this]⟩
  by_cases h3 : r < 97
  · have := eqV hel rfl (orF (leF (m := 97) h3 (by decide)) (orF (ltF (m := 91) (by omega) (by omega)) q5))
    exact ⟨0, by decide, by rw [this]; rfl⟩
  by_cases h4 : r < 123
  · have := eqV hel (subV (m := 96) (by omega)) (orF (leF (m := 123) h4 (by decide)) (orF (ltF (m := 97) (by omega) (by omega)) q6))
    exact ⟨r - 96, by omega, by rw [this]⟩
  · have := eqV hel rfl (orF (ltF (m := 123) (by omega) (by omega)) q7)
    exact ⟨0, by decide, by rw [this]; rfl⟩
theorem Wk.ext {own : String} {code : ByteArray} {ml : Nat} {nm : String} {rt : Option FieldType} {R : Room} {pc : Nat} {ls : List Slot} {st : List Value} {k n : Nat} (A : Wk l Z a0 EL0 own code ml nm rt R D pc ls st H k n) : Ext Z.heap H.1 := by
  obtain ⟨p, e, s, m, args, below, meth, c, s0, H0⟩ := D
  obtain ⟨hx, hown, hc, hml, hnm, hrt, hlk, hls, T, L, X, eT, hZ, hG, hF, hMo, hst⟩ := A
  exact hG.1
def LetAt (Z : State) (H : HP) (d : Addr) : Prop := ∃ vs, Ar Z H d .byte vs ∧ ∀ r : Nat, r < 256 → ∃ k : Nat, k < 32 ∧ vs[r]? = some (.int k.toInt32)
theorem let_now {d : Addr} {cl : Cell} (A : Arr Z Z.heap d cl .byte) (hs : cl.slots.size = 256) (hv : ∀ r : Nat, r < 256 → ∃ k : Nat, k < 32 ∧ cl.slots[r]? = some (.int k.toInt32)) (X : Ext Z.heap H.1) : LetAt Z H d := by
  refine ⟨cl.slots.toList, ⟨cl, ⟨X.2 _ _ A.1, A.2⟩, by simp, by simp [hs], fun v hq => ?_⟩, fun r hr => by simpa using hv r hr⟩
  obtain ⟨i, hi⟩ := List.mem_iff_getElem?.mp hq
  have hi' : i < 256 := by have := (List.getElem?_eq_some_iff.mp hi).1; simpa [hs] using this
  obtain ⟨k, hk, h⟩ := hv i hi'
  simp at hi
  rw [h] at hi; cases hi
  have : ∀ q, q < 32 → fits .byte (.int q.toInt32) = true := by decide
  exact this _ hk
theorem and255 {z : Int32} : ∃ h : Nat, h < 256 ∧ z &&& 255 = h.toInt32 := by
  have q := c_and z 255 (by decide)
  rw [show (255 : Int32).toInt = 255 by decide] at q
  refine ⟨(z &&& 255).toInt.toNat, by omega, ?_⟩
  apply Int32.toInt_inj.mp
  rw [n32_toInt (by omega)]
  omega
theorem or64 {p L : Nat} (hL : L < 32) : (p * 32).toInt64 ||| L.toInt64 = (p * 32 + L).toInt64 := by
  have e : p * 32 + L = p * 32 ||| L := by
    have := Nat.two_pow_add_eq_or_of_lt (i := 5) (b := L) hL p
    rw [Nat.mul_comm] at this; exact this
  rw [e]
  apply Int64.toBitVec_inj.mp
  show BitVec.ofNat 64 _ ||| BitVec.ofNat 64 _ = BitVec.ofNat 64 _
  rw [BitVec.ofNat_or]
theorem pk_or {p L : Nat} (hp : p < 2 ^ 40) (hL : L < 32) : (p.toInt64 <<< ((5 : Int32).toInt64 &&& 63)) ||| L.toInt32.toInt64 = (p * 32 + L).toInt64 := by
  rw [← or64 hL]
  congr 1
  · apply Int64.toInt_inj.mp
    have := c_lshl p.toInt64 5 5 (by decide)
    rw [n64_toInt (by omega)] at this
    have e : p.toInt64 <<< ((5 : Int32).toInt64 &&& 63) = p.toInt64 <<< ((5 : Int32) &&& 0x3f).toInt64 := rfl
    rw [e, n64_toInt (by omega)]
    have r1 := Int64.le_toInt (p.toInt64 <<< ((5 : Int32) &&& 0x3f).toInt64)
    have r2 := Int64.toInt_lt (p.toInt64 <<< ((5 : Int32) &&& 0x3f).toInt64)
    simp only [Nat.reducePow] at this
    omega
  · apply Int64.toInt_inj.mp
    rw [Int32.toInt_toInt64, n32_toInt (by omega), n64_toInt (by omega)]
/-! the lines -/
theorem c_pkM (G : Glb Z a0) {x : Int32} : Ct l Z EL0 (⟨"com/example/onepass/onepass/model/WordsEmptyPinLaw", "pick", "(I)B"⟩ : MethodName) method_2_code 3 ((some .byte)) ({ frames := 0, cells := 0, slots := 0, locals := 0 } : Room) [] [.int x] H (fun v H' => (∃ z : Int32, v = some (.int z)) ∧ H = H') := by
  refine Ct.in G (by first | exact plainFor_of_name (by simp [plainName, overriddenIn]; done) | decide +kernel) (ls := [.val (.int x), .unset, .unset]) rfl rfl fun D A0 => ?_
  have A1 := A0.run [(0, .iload_n 0, 1, 0), (1, .sipush 255, 4, 255), (4, .iand, 5, 0), (5, .istore_n 1, 6, 0), (6, .iload_n 1, 7, 0), (7, .iconst 3, 8, 3), (8, .iand, 9, 0), (9, .istore_n 2, 10, 0), (10, .iload_n 2, 11, 0)] (pe := 11) (by decide +kernel) rfl
  by_cases h0 : x &&& 255 &&& 3 = 0
  · have A2 := A1.ifF (cd := .ne) (o := 6) (by decide +kernel) (not_not_intro h0)
    have A3 := A2.run [(14, .bipush 97, 16, 97)] (pe := 16) (by decide +kernel) rfl
    exact ⟨_, _, _, _, A3.retB (by decide +kernel) rfl, ⟨⟨_, rfl⟩, rfl⟩, by decide, by decide⟩
  · have A2 := A1.ifT (cd := .ne) (o := 6) (by decide +kernel) h0 (pe := 17) (by decide)
    have A3 := A2.run [(17, .iload_n 2, 18, 0), (18, .iconst 1, 19, 1)] (pe := 19) (by decide +kernel) rfl
    by_cases h1 : x &&& 255 &&& 3 = 1
    · have A4 := A3.icF (cd := .ne) (o := 6) (by decide +kernel) (not_not_intro h1)
      have A5 := A4.run [(22, .bipush 66, 24, 66)] (pe := 24) (by decide +kernel) rfl
      exact ⟨_, _, _, _, A5.retB (by decide +kernel) rfl, ⟨⟨_, rfl⟩, rfl⟩, by decide, by decide⟩
    · have A4 := A3.icT (cd := .ne) (o := 6) (by decide +kernel) h1 (pe := 25) (by decide)
      have A5 := A4.run [(25, .iload_n 2, 26, 0), (26, .iconst 2, 27, 2)] (pe := 27) (by decide +kernel) rfl
      by_cases h2 : x &&& 255 &&& 3 = 2
      · have A6 := A5.icF (cd := .ne) (o := 6) (by decide +kernel) (not_not_intro h2)
        have A7 := A6.run [(30, .bipush 98, 32, 98)] (pe := 32) (by decide +kernel) rfl
        exact ⟨_, _, _, _, A7.retB (by decide +kernel) rfl, ⟨⟨_, rfl⟩, rfl⟩, by decide, by decide⟩
      · have A6 := A5.icT (cd := .ne) (o := 6) (by decide +kernel) h2 (pe := 33) (by decide)
        have A7 := A6.run [(33, .iload_n 1, 34, 0), (34, .iconst 2, 35, 2), (35, .iushr, 36, 0), (36, .i2b, 37, 0)] (pe := 37) (by decide +kernel) rfl
        exact ⟨_, _, _, _, A7.retB (by decide +kernel) rfl, ⟨⟨_, rfl⟩, rfl⟩, by decide, by decide⟩
theorem c_lnM (G : Glb Z a0) {x : Int32} : Ct l Z EL0 (⟨"com/example/onepass/onepass/model/WordsEmptyPinLaw", "line", "(I)[B"⟩ : MethodName) method_3_code 1 ((some (.array .byte))) ({ frames := 1, cells := 1, slots := 4, locals := 20 } : Room) [] [.int x] H (fun v H' => ∃ t, v = some (.ref t) ∧ H.1.size ≤ t ∧ Kp H H' [] ∧ ∃ a b c d : Int32, Ar Z H' t .byte [.int a, .int b, .int c, .int d]) := by
  refine Ct.in G (by first | exact plainFor_of_name (by simp [plainName, overriddenIn]; done) | decide +kernel) (ls := [.val (.int x)]) rfl rfl fun D A0 => ?_
  have A1 := A0.run [(0, .iconst 4, 1, 4)] (pe := 1) (by decide +kernel) rfl
  obtain ⟨t, H1, A2, hge, K1, T1, o1⟩ := A1.newA (aty := .byte) (wd_4 G) (by decide +kernel) (N := 4) rfl (cap := 4) (by decide) (by decide) (by decide) (by decide)
  have B0 := A2.run [(3, .dup, 4, 0), (4, .iconst 0, 5, 0), (5, .iload_n 0, 6, 0)] (pe := 6) (by decide +kernel) rfl
  obtain ⟨_, HC0, qC0, C0, moC0, szC0⟩ := B0.callS (argsL := [.int _]) (wd_5 G) (wd_6 G) (wd_2 G) (wd_7 G) (c_pkM G) (by decide) ⟨_, _, (by decide +kernel : parseMethodDescriptor "(I)B" = some ⟨[.int], some .byte⟩), rfl⟩ (by decide +kernel) (Wd := 3) (by decide) (Nat.le_of_ble_eq_true rfl) (by decide) (by decide) (by decide)
  obtain ⟨⟨z0, rfl⟩, rfl⟩ := qC0
  obtain ⟨H2, D0, K2, T2⟩ := C0.bastore T1 o1 (by decide +kernel) (i := 0) rfl (by simp) (x2 := nar .byte z0) rfl
  have o2 := K2.2 _ o1
  have B1 := D0.run [(10, .dup, 11, 0), (11, .iconst 1, 12, 1), (12, .iload_n 0, 13, 0), (13, .bipush 8, 15, 8), (15, .iushr, 16, 0)] (pe := 16) (by decide +kernel) rfl
  obtain ⟨_, HC1, qC1, C1, moC1, szC1⟩ := B1.callS (argsL := [.int _]) (wd_5 G) (wd_6 G) (wd_2 G) (wd_7 G) (c_pkM G) (by decide) ⟨_, _, (by decide +kernel : parseMethodDescriptor "(I)B" = some ⟨[.int], some .byte⟩), rfl⟩ (by decide +kernel) (Wd := 3) (by decide) (Nat.le_of_ble_eq_true rfl) (by decide) (by decide) (by decide)
  obtain ⟨⟨z1, rfl⟩, rfl⟩ := qC1
  obtain ⟨H3, D1, K3, T3⟩ := C1.bastore T2 o2 (by decide +kernel) (i := 1) rfl (by simp) (x2 := nar .byte z1) rfl
  have o3 := K3.2 _ o2
  have B2 := D1.run [(20, .dup, 21, 0), (21, .iconst 2, 22, 2), (22, .iload_n 0, 23, 0), (23, .bipush 16, 25, 16), (25, .iushr, 26, 0)] (pe := 26) (by decide +kernel) rfl
  obtain ⟨_, HC2, qC2, C2, moC2, szC2⟩ := B2.callS (argsL := [.int _]) (wd_5 G) (wd_6 G) (wd_2 G) (wd_7 G) (c_pkM G) (by decide) ⟨_, _, (by decide +kernel : parseMethodDescriptor "(I)B" = some ⟨[.int], some .byte⟩), rfl⟩ (by decide +kernel) (Wd := 3) (by decide) (Nat.le_of_ble_eq_true rfl) (by decide) (by decide) (by decide)
  obtain ⟨⟨z2, rfl⟩, rfl⟩ := qC2
  obtain ⟨H4, D2, K4, T4⟩ := C2.bastore T3 o3 (by decide +kernel) (i := 2) rfl (by simp) (x2 := nar .byte z2) rfl
  have o4 := K4.2 _ o3
  have B3 := D2.run [(30, .dup, 31, 0), (31, .iconst 3, 32, 3), (32, .iload_n 0, 33, 0), (33, .bipush 24, 35, 24), (35, .iushr, 36, 0)] (pe := 36) (by decide +kernel) rfl
  obtain ⟨_, HC3, qC3, C3, moC3, szC3⟩ := B3.callS (argsL := [.int _]) (wd_5 G) (wd_6 G) (wd_2 G) (wd_7 G) (c_pkM G) (by decide) ⟨_, _, (by decide +kernel : parseMethodDescriptor "(I)B" = some ⟨[.int], some .byte⟩), rfl⟩ (by decide +kernel) (Wd := 3) (by decide) (Nat.le_of_ble_eq_true rfl) (by decide) (by decide) (by decide)
  obtain ⟨⟨z3, rfl⟩, rfl⟩ := qC3
  obtain ⟨H5, D3, K5, T5⟩ := C3.bastore T4 o4 (by decide +kernel) (i := 3) rfl (by simp) (x2 := nar .byte z3) rfl
  have o5 := K5.2 _ o4
  exact ⟨_, _, _, _, D3.retA (by decide +kernel) rfl rfl, ⟨t, rfl, hge, ((((K1.trans K2 fun y hy => by cases List.mem_singleton.mp hy; exact Or.inr hge).trans K3 fun y hy => by cases List.mem_singleton.mp hy; exact Or.inr hge).trans K4 fun y hy => by cases List.mem_singleton.mp hy; exact Or.inr hge).trans K5 fun y hy => by cases List.mem_singleton.mp hy; exact Or.inr hge), _, _, _, _, T5⟩, by decide, by decide⟩
theorem c_szW (G : Glb Z a0) {x wa ps pi ta td : Addr} {sz dn : Nat} (F : WF Z H x wa ps pi ta td sz dn) : Ct l Z EL0 (⟨"com/example/onepass/onepass/model/Words", "size", "()I"⟩ : MethodName) prog_85_method_8_code 1 ((some .int)) ({ frames := 0, cells := 0, slots := 0, locals := 0 } : Room) [] [.ref x] H (fun v H' => v = some (.int sz.toInt32) ∧ H = H') := by
  refine Ct.in G (by first | exact plainFor_of_name (by simp [plainName, overriddenIn]; done) | decide +kernel) (ls := [.val (.ref x)]) rfl rfl fun D A0 => ?_
  have A1 := A0.run [(0, .aload_n 0, 1, 0)] (pe := 1) (by decide +kernel) rfl
  have A2 := A1.getF (wd_170 G) F.size (by decide +kernel)
  exact ⟨_, _, _, _, A2.retI (by decide +kernel), ⟨rfl, rfl⟩, by decide, by decide⟩
theorem c_dsW (G : Glb Z a0) {x wa ps pi ta td : Addr} {sz dn : Nat} (F : WF Z H x wa ps pi ta td sz dn) : Ct l Z EL0 (⟨"com/example/onepass/onepass/model/Words", "distinct", "()I"⟩ : MethodName) prog_85_method_3_code 1 ((some .int)) ({ frames := 0, cells := 0, slots := 0, locals := 0 } : Room) [] [.ref x] H (fun v H' => v = some (.int dn.toInt32) ∧ H = H') := by
  refine Ct.in G (by first | exact plainFor_of_name (by simp [plainName, overriddenIn]; done) | decide +kernel) (ls := [.val (.ref x)]) rfl rfl fun D A0 => ?_
  have A1 := A0.run [(0, .aload_n 0, 1, 0)] (pe := 1) (by decide +kernel) rfl
  have A2 := A1.getF (wd_176 G) F.distinct (by decide +kernel)
  exact ⟨_, _, _, _, A2.retI (by decide +kernel), ⟨rfl, rfl⟩, by decide, by decide⟩
theorem c_occ (G : Glb Z a0) {x wa ps pi ta td : Addr} {sz dn k : Nat} {T : List Int64} {v : Int64} (F : WF Z H x wa ps pi ta td sz dn) (A : Ar Z H ta .long (jl T)) (hv : T[k]? = some v) : Ct l Z EL0 (⟨"com/example/onepass/onepass/model/Words", "occurrences", "(I)J"⟩ : MethodName) prog_85_method_5_code 2 ((some .long)) ({ frames := 0, cells := 0, slots := 0, locals := 0 } : Room) [] [.ref x, .int k.toInt32] H (fun r H' => r = some (.long v) ∧ H = H') := by
  refine Ct.in G (by first | exact plainFor_of_name (by simp [plainName, overriddenIn]; done) | decide +kernel) (ls := [.val (.ref x), .val (.int k.toInt32)]) rfl rfl fun D A0 => ?_
  have A1 := A0.run [(0, .aload_n 0, 1, 0)] (pe := 1) (by decide +kernel) rfl
  have A2 := A1.getF (wd_35 G) F.tally (by decide +kernel)
  have A3 := A2.run [(4, .iload_n 1, 5, 0)] (pe := 5) (by decide +kernel) rfl
  have A4 := A3.laload A (by decide +kernel) rfl (v := .long v) (by simp [hv])
  exact ⟨_, _, _, _, A4.retJ (by decide +kernel), ⟨rfl, rfl⟩, by decide, by decide⟩
theorem c_clM (G : Glb Z a0) {x wa ps pi ta td : Addr} {sz dn k : Nat} {T : List Int64} (F : WF Z H x wa ps pi ta td sz dn) (A : Ar Z H ta .long (jl T)) (hl : T.length = 1024) (hz : ∀ (j : Nat) (v : Int64), T[j]? = some v → v = 0) (hk : k < 1024) (hsz : sz ≤ 10) : Ct l Z EL0 (⟨"com/example/onepass/onepass/model/WordsEmptyPinLaw", "cleared", "(Lcom/example/onepass/onepass/model/Words;II)Z"⟩ : MethodName) method_4_code 3 ((some .boolean)) ({ frames := 1, cells := 0, slots := 0, locals := 20 } : Room) [] [.ref x, .int k.toInt32, .int sz.toInt32] H (fun r H' => r = some (.int 1) ∧ H = H') := by
  refine Ct.in G (by first | exact plainFor_of_name (by simp [plainName, overriddenIn]; done) | decide +kernel) (ls := [.val (.ref x), .val (.int k.toInt32), .val (.int sz.toInt32)]) rfl rfl fun D A0 => ?_
  have A1 := A0.run [(0, .iload_n 1, 1, 0), (1, .iload_n 2, 2, 0)] (pe := 2) (by decide +kernel) rfl
  by_cases h : k < sz
  · have A2 := A1.icT (cd := .lt) (o := 5) (by decide +kernel) ((n32_lt (by omega) (by omega)).mpr h) (pe := 7) (by decide)
    have A3 := A2.run [(7, .aload_n 0, 8, 0), (8, .iload_n 1, 9, 0)] (pe := 9) (by decide +kernel) rfl
    obtain ⟨v, hv⟩ : ∃ v, T[k]? = some v := ⟨_, List.getElem?_eq_getElem (by rw [hl]; exact hk)⟩
    obtain rfl := hz k v hv
    obtain ⟨_, HA4, qA4, A4, moA4, szA4⟩ := A3.callV (argsL := [.int k.toInt32]) (wd_196 G) (wd_197 G) (wd_199 G) rfl (wd_199 G) (wd_198 G) (wd_10 G) (wd_200 G) F.e (c_occ G F A hv) (by decide) ⟨_, _, (by decide +kernel : parseMethodDescriptor "(I)J" = some ⟨[.int], some .long⟩), rfl⟩ (by decide +kernel) (Wd := 0) (by decide) (Nat.le_of_ble_eq_true rfl) (by decide) (by decide) (by decide)
    obtain ⟨rfl, rfl⟩ := qA4
    have A5 := A4.run [(12, .lconst 0, 13, 0), (13, .lcmp, 14, 0)] (pe := 14) (by decide +kernel) rfl
    have A6 := A5.ifF (cd := .ne) (o := 7) (by decide +kernel) (not_not_intro (cL_eq.mpr rfl))
    have A7 := A6.run [(17, .iconst 1, 18, 1), (18, .goto 4, 22, 0)] (pe := 22) (by decide +kernel) rfl
    exact ⟨_, _, _, _, A7.retZ (by decide +kernel) rfl, ⟨rfl, rfl⟩, by decide, by decide⟩
  · have A2 := A1.icF (cd := .lt) (o := 5) (by decide +kernel) (fun q => h ((n32_lt (by omega) (by omega)).mp q))
    have A3 := A2.run [(5, .iconst 1, 6, 1)] (pe := 6) (by decide +kernel) rfl
    exact ⟨_, _, _, _, A3.retZ (by decide +kernel) rfl, ⟨rfl, rfl⟩, by decide, by decide⟩
/-! empty -/
set_option maxRecDepth 65536 in
theorem l_emp (G : Glb Z a0) {x wa ps pi ta td : Addr} {sz dn : Nat} {D0 : List Int32} {H0 : HP} (hdn : dn ≤ 10) (h1 : x ≠ ta) (h2 : td ≠ ta) (hdv : ∀ q : Nat, q < dn → ∃ j : Nat, j < 1024 ∧ D0[q]? = some j.toInt32) :
    ∀ (r i : Nat) (T : List Int64) (H : HP), i + r = dn → T.length = 1024 → (∀ (j : Nat) (v : Int64), T[j]? = some v → v ≠ 0 → ∃ q : Nat, i ≤ q ∧ q < dn ∧ D0[q]? = some j.toInt32) → Kp H0 H [ta] → H.2 ta → WF Z H x wa ps pi ta td sz dn → Ar Z H ta .long (jl T) → Ar Z H td .int (il D0) →
    Wk l Z a0 EL0 "com/example/onepass/onepass/model/Words" prog_85_method_6_code 2 "empty" none ({ frames := 0, cells := 0, slots := 0, locals := 0 } : Room) D 2 [.val (.ref x), .val (.int i.toInt32)] [] H 0 0 →
    ∃ T' H' z, T'.length = 1024 ∧ (∀ (j : Nat) (v : Int64), T'[j]? = some v → v = 0) ∧ Kp H0 H' [ta] ∧ Ar Z H' ta .long (jl T') ∧ Wk l Z a0 EL0 "com/example/onepass/onepass/model/Words" prog_85_method_6_code 2 "empty" none ({ frames := 0, cells := 0, slots := 0, locals := 0 } : Room) D 28 [.val (.ref x), .val (.int z)] [] H' 0 0 := by
  intro r
  induction r with
  | zero =>
    intro i T H e hl hin K o F A Ad B0
    obtain rfl : i = dn := by omega
    have B1 := B0.run [(2, .iload_n 1, 3, 0), (3, .aload_n 0, 4, 0)] (pe := 4) (by decide +kernel) rfl
    have B2 := B1.getF (wd_176 G) F.distinct (by decide +kernel)
    have B3 := B2.icT (cd := .ge) (o := 21) (by decide +kernel) (fun q => absurd ((n32_lt (by omega) (by omega)).mp q) (Nat.lt_irrefl _)) (pe := 28) (by decide)
    exact ⟨T, H, _, hl, fun j v hj => Classical.byContradiction fun hne => by obtain ⟨q, q1, q2, -⟩ := hin j v hj hne; omega, K, A, B3⟩
  | succ r ih =>
    intro i T H e hl hin K o F A Ad B0
    have B1 := B0.run [(2, .iload_n 1, 3, 0), (3, .aload_n 0, 4, 0)] (pe := 4) (by decide +kernel) rfl
    have B2 := B1.getF (wd_176 G) F.distinct (by decide +kernel)
    have B3 := B2.icF (cd := .ge) (o := 21) (by decide +kernel) (not_not_intro ((n32_lt (by omega) (by omega)).mpr (by omega)))
    have B4 := B3.run [(10, .aload_n 0, 11, 0)] (pe := 11) (by decide +kernel) rfl
    have B5 := B4.getF (wd_35 G) F.tally (by decide +kernel)
    have B6 := B5.run [(14, .aload_n 0, 15, 0)] (pe := 15) (by decide +kernel) rfl
    have B7 := B6.getF (wd_37 G) F.tallied (by decide +kernel)
    have B8 := B7.run [(18, .iload_n 1, 19, 0)] (pe := 19) (by decide +kernel) rfl
    obtain ⟨j0, hj0, hd0⟩ := hdv i (by omega)
    have B9 := B8.iaload Ad (by decide +kernel) rfl (v := .int j0.toInt32) (by simp [hd0])
    have B10 := B9.run [(20, .lconst 0, 21, 0)] (pe := 21) (by decide +kernel) rfl
    obtain ⟨H1, B11, K1, T1⟩ := B10.lastore A o (by decide +kernel) rfl (by simp [hl]; exact hj0)
    have B12 := B11.run [(22, .iinc 1 1, 25, 1), (25, .goto (-23), 2, 0)] (pe := 2) (by decide +kernel) rfl
    rw [n32_succ] at B12
    have hT1 : Ar Z H1 ta .long (jl (T.set j0 0)) := by rw [show jl (T.set j0 0) = (jl T).set j0 (.long 0) from List.map_set]; exact T1
    refine ih (i + 1) (T.set j0 0) H1 (by omega) (by rw [List.length_set]; exact hl) (fun j v hj hne => ?_) (K.trans K1 fun y hy => Or.inl hy) (K1.2 _ o) (F.ky K1 (by simpa using h1)) hT1 (Ad.ky K1 (by simpa using h2)) B12
    by_cases e2 : j = j0
    · subst e2
      rw [List.getElem?_set_self (by rw [hl]; exact hj0)] at hj
      exact absurd (Option.some.inj hj).symm hne
    · rw [List.getElem?_set_ne (Ne.symm e2)] at hj
      obtain ⟨q, q1, q2, q3⟩ := hin j v hj hne
      refine ⟨q, ?_, q2, q3⟩
      by_cases e3 : q = i
      · subst e3
        rw [hd0] at q3
        have hjl : j < 1024 := by have := (List.getElem?_eq_some_iff.mp hj).1; omega
        exact absurd ((n32_inj (by omega) (by omega)).mp (Option.some.inj q3)).symm e2
      · omega
set_option maxRecDepth 65536 in
theorem c_emp (G : Glb Z a0) {x wa ps pi ta td : Addr} {sz dn : Nat} {S : List Int64} {I : List Int32} {T : List Int64} {D0 : List Int32} (F : WF Z H x wa ps pi ta td sz dn) (A : WA Z H x wa ps pi ta td sz dn S I T D0) :
    Ct l Z EL0 (⟨"com/example/onepass/onepass/model/Words", "empty", "()V"⟩ : MethodName) prog_85_method_6_code 2 (none) ({ frames := 0, cells := 0, slots := 0, locals := 0 } : Room) [] [.ref x] H (fun r H' => r = none ∧ Kp H H' [x, ta] ∧ WF Z H' x wa ps pi ta td sz 0 ∧ ∃ T', (∀ (j : Nat) (v : Int64), T'[j]? = some v → v = 0) ∧ WA Z H' x wa ps pi ta td sz 0 S I T' D0) := by
  refine Ct.in G (by first | exact plainFor_of_name (by simp [plainName, overriddenIn]; done) | decide +kernel) (ls := [.val (.ref x), .unset]) rfl rfl fun D A0 => ?_
  obtain ⟨n1, n2, n3, n4, n5, n6, n7, n8, n9, n10⟩ := A.idx
  obtain ⟨x1, x2, x3, x4, x5⟩ := A.nx
  obtain ⟨o1, o2, o3, o4, o5, o6⟩ := A.o
  have A1 := A0.run [(0, .iconst 0, 1, 0), (1, .istore_n 1, 2, 0)] (pe := 2) (by decide +kernel) rfl
  obtain ⟨T', H1, z, hl, hz, K1, T1, A2⟩ := l_emp G A.dn4 x4 n4.symm A.dv dn 0 T H (by omega) A.lt (fun j v hj hne => by obtain ⟨q, q1, q2⟩ := A.ty j v hj hne; exact ⟨q, by omega, q1, q2⟩) ((Kp.refl H).wide (fun x hx => nomatch hx)) o5 F A.t A.d A1
  have A3 := A2.run [(28, .aload_n 0, 29, 0), (29, .iconst 0, 30, 0)] (pe := 30) (by decide +kernel) rfl
  have F1 := F.ky K1 (by simpa using x4)
  obtain ⟨H2, A4, K2, W2⟩ := A3.putF (wd_176 G) F1.distinct F1.e (wd_177 G) (wd_9 G) (K1.2 _ o1) (by decide +kernel) (ty := .int) (by decide) rfl rfl
  have xn : ∀ {y : Addr}, x ≠ y → y ∉ [x] := fun h => by simpa using h.symm
  have nt : ∀ {y : Addr}, ta ≠ y → y ∉ [ta] := fun h => by simpa using h.symm
  have F2 : WF Z H2 x wa ps pi ta td sz 0 := ⟨F1.e.ky K2, F1.words.other W2 (Or.inr (sl_words_distinct G)), F1.packedSlots.other W2 (Or.inr (sl_packedSlots_distinct G)), F1.packedIds.other W2 (Or.inr (sl_packedIds_distinct G)), F1.tally.other W2 (Or.inr (sl_tally_distinct G)), F1.tallied.other W2 (Or.inr (sl_tallied_distinct G)), F1.size.other W2 (Or.inr (sl_size_distinct G)), F1.distinct.same W2, F1.packedSize.other W2 (Or.inr (sl_packedSize_distinct G))⟩
  refine ⟨_, _, _, _, A4.ret (by decide +kernel), ⟨rfl, (K1.wide fun y hy => by cases List.mem_singleton.mp hy; exact Or.inl (by simp)).trans K2 fun y hy => by cases List.mem_singleton.mp hy; exact Or.inl (by simp), F2, T', hz, ⟨?_, (A.we.ky K1).ky K2, (A.s.ky K1 (nt n2)).ky K2 (xn x2), (A.i.ky K1 (nt n3)).ky K2 (xn x3), T1.ky K2 (xn x4), (A.d.ky K1 (nt n4)).ky K2 (xn x5), A.ls, A.li, hl, A.ld, A.ch, ?_, A.nx, A.p, A.id, fun j v hj hne => absurd (hz j v hj) hne, fun q hq => absurd hq (by omega), A.sz4, by omega⟩⟩, by decide, by decide⟩
  · obtain ⟨vw, q1, q2⟩ := A.w; exact ⟨vw, (q1.ky K1 (nt n1)).ky K2 (xn x1), q2⟩
  · have om : ∀ {y : Addr}, H.2 y → H2.2 y := fun h => K2.2 _ (K1.2 _ h)
    exact ⟨om o1, om o2, om o3, om o4, om o5, om o6⟩
theorem rep0 {n i : Nat} {s : Int64} (h : (List.replicate n (0 : Int64))[i]? = some s) : s = 0 := (List.mem_replicate.mp (List.mem_of_getElem? h)).2
set_option maxRecDepth 65536 in
set_option maxHeartbeats 2000000 in
theorem c_wI (G : Glb Z a0) {x : Addr} (E : Exa Z H.1 x WN) (q_words : Fld Z H.1 x WN "words" "[Ljava/lang/String;" .null) (q_packedSlots : Fld Z H.1 x WN "packedSlots" "[J" .null) (q_packedIds : Fld Z H.1 x WN "packedIds" "[I" .null) (q_tally : Fld Z H.1 x WN "tally" "[J" .null) (q_tallied : Fld Z H.1 x WN "tallied" "[I" .null) (q_size : Fld Z H.1 x WN "size" "I" (.int 0)) (q_distinct : Fld Z H.1 x WN "distinct" "I" (.int 0)) (q_packedSize : Fld Z H.1 x WN "packedSize" "I" (.int 0)) (q_letters : Fld Z H.1 x WN "letters" "[B" .null) (q_starts : Fld Z H.1 x WN "starts" "[I" .null) (q_longIds : Fld Z H.1 x WN "longIds" "[I" .null) (q_longSlots : Fld Z H.1 x WN "longSlots" "[J" .null) (o : H.2 x) :
    Ct l Z EL0 (⟨"com/example/onepass/onepass/model/Words", "<init>", "()V"⟩ : MethodName) prog_85_method_1_code 1 (none) ({ frames := 1, cells := 9, slots := 15377, locals := 12 } : Room) [] [.ref x] H (fun v H' => v = none ∧ Kp H H' [x] ∧ ∃ wa ps pi ta td, H.1.size ≤ wa ∧ WF Z H' x wa ps pi ta td 0 0 ∧ WA Z H' x wa ps pi ta td 0 0 (List.replicate 2048 0) (List.replicate 2048 0) (List.replicate 1024 0) (List.replicate 1024 0)) := by
  refine Ct.in G (by first | exact plainFor_of_name (by simp [plainName, overriddenIn]; done) | decide +kernel) (ls := [.val (.ref x)]) rfl rfl fun D A0 => ?_
  have A1 := A0.run [(0, .aload_n 0, 1, 0)] (pe := 1) (by decide +kernel) rfl
  have B0 := A1.initO (wd_14 G) (wd_15 G) (wd_16 G) (by decide +kernel) (Wd := 0) (by decide) (Nat.le_of_ble_eq_true rfl) (by decide)
  have KK : Kp H H [x] := (Kp.refl H).wide fun x hx => nomatch hx
  have hxl : x < H.1.size := E.lt
  have C0 := B0.run [(4, .aload_n 0, 5, 0), (5, .sipush 1024, 8, 1024)] (pe := 8) (by decide +kernel) rfl
  obtain ⟨wa, I0, E0, g_wa, K0, A_wa, o_wa, e_wa⟩ := C0.anew (wd_17 G) (wd_18 G) (by decide +kernel) (N := 1024) rfl (cap := 1024) (by decide) (by decide) (by decide) (by decide) (ad := "[Ljava/lang/String;") (by decide)
  have n_wa : wa ∉ [x] := by simpa using Nat.ne_of_gt (Nat.lt_of_lt_of_le E.lt g_wa)
  replace KK := KK.trans K0 fun y hy => nomatch hy
  replace E := E.ky K0
  replace o := K0.2 _ o
  replace q_words := q_words.ky K0
  replace q_packedSlots := q_packedSlots.ky K0
  replace q_packedIds := q_packedIds.ky K0
  replace q_tally := q_tally.ky K0
  replace q_tallied := q_tallied.ky K0
  replace q_size := q_size.ky K0
  replace q_distinct := q_distinct.ky K0
  replace q_packedSize := q_packedSize.ky K0
  replace q_letters := q_letters.ky K0
  replace q_starts := q_starts.ky K0
  replace q_longIds := q_longIds.ky K0
  replace q_longSlots := q_longSlots.ky K0
  obtain ⟨M0, B1, S0, W0⟩ := E0.putF (wd_19 G) q_words E (wd_20 G) (wd_9 G) o (by decide +kernel) (ty := .array (.object "java/lang/String")) (by decide) rfl rfl
  replace KK := KK.trans S0 fun y hy => Or.inl hy
  replace E := E.ky S0
  replace o := S0.2 _ o
  replace q_packedSlots := q_packedSlots.other W0 (Or.inr (sl_packedSlots_words G))
  replace q_packedIds := q_packedIds.other W0 (Or.inr (sl_packedIds_words G))
  replace q_tally := q_tally.other W0 (Or.inr (sl_tally_words G))
  replace q_tallied := q_tallied.other W0 (Or.inr (sl_tallied_words G))
  replace q_size := q_size.other W0 (Or.inr (sl_size_words G))
  replace q_distinct := q_distinct.other W0 (Or.inr (sl_distinct_words G))
  replace q_packedSize := q_packedSize.other W0 (Or.inr (sl_packedSize_words G))
  replace q_letters := q_letters.other W0 (Or.inr (sl_letters_words G))
  replace q_starts := q_starts.other W0 (Or.inr (sl_starts_words G))
  replace q_longIds := q_longIds.other W0 (Or.inr (sl_longIds_words G))
  replace q_longSlots := q_longSlots.other W0 (Or.inr (sl_longSlots_words G))
  replace q_words := q_words.same W0
  replace A_wa := A_wa.ky S0 n_wa
  replace o_wa := S0.2 _ o_wa
  replace e_wa := e_wa.ky S0
  have C1 := B1.run [(14, .aload_n 0, 15, 0), (15, .sipush 2048, 18, 2048)] (pe := 18) (by decide +kernel) rfl
  have lt_ps := A_wa.lt
  obtain ⟨ps, I1, E1, g_ps, K1, A_ps, o_ps⟩ := C1.newA (aty := .long) (wd_21 G) (by decide +kernel) (N := 2048) rfl (cap := 2048) (by decide) (by decide) (by decide) (by decide)
  have n_ps : ps ∉ [x] := by simpa using Nat.ne_of_gt (Nat.lt_of_lt_of_le E.lt g_ps)
  have c_ps := Nat.lt_of_lt_of_le lt_ps g_ps
  replace KK := KK.trans K1 fun y hy => nomatch hy
  replace E := E.ky K1
  replace o := K1.2 _ o
  replace q_words := q_words.ky K1
  replace q_packedSlots := q_packedSlots.ky K1
  replace q_packedIds := q_packedIds.ky K1
  replace q_tally := q_tally.ky K1
  replace q_tallied := q_tallied.ky K1
  replace q_size := q_size.ky K1
  replace q_distinct := q_distinct.ky K1
  replace q_packedSize := q_packedSize.ky K1
  replace q_letters := q_letters.ky K1
  replace q_starts := q_starts.ky K1
  replace q_longIds := q_longIds.ky K1
  replace q_longSlots := q_longSlots.ky K1
  replace A_wa := A_wa.ky K1
  replace o_wa := K1.2 _ o_wa
  replace e_wa := e_wa.ky K1
  obtain ⟨M1, B2, S1, W1⟩ := E1.putF (wd_22 G) q_packedSlots E (wd_23 G) (wd_9 G) o (by decide +kernel) (ty := .array .long) (by decide) rfl rfl
  replace KK := KK.trans S1 fun y hy => Or.inl hy
  replace E := E.ky S1
  replace o := S1.2 _ o
  replace q_words := q_words.other W1 (Or.inr (sl_words_packedSlots G))
  replace q_packedIds := q_packedIds.other W1 (Or.inr (sl_packedIds_packedSlots G))
  replace q_tally := q_tally.other W1 (Or.inr (sl_tally_packedSlots G))
  replace q_tallied := q_tallied.other W1 (Or.inr (sl_tallied_packedSlots G))
  replace q_size := q_size.other W1 (Or.inr (sl_size_packedSlots G))
  replace q_distinct := q_distinct.other W1 (Or.inr (sl_distinct_packedSlots G))
  replace q_packedSize := q_packedSize.other W1 (Or.inr (sl_packedSize_packedSlots G))
  replace q_letters := q_letters.other W1 (Or.inr (sl_letters_packedSlots G))
  replace q_starts := q_starts.other W1 (Or.inr (sl_starts_packedSlots G))
  replace q_longIds := q_longIds.other W1 (Or.inr (sl_longIds_packedSlots G))
  replace q_longSlots := q_longSlots.other W1 (Or.inr (sl_longSlots_packedSlots G))
  replace q_packedSlots := q_packedSlots.same W1
  replace A_wa := A_wa.ky S1 n_wa
  replace o_wa := S1.2 _ o_wa
  replace A_ps := A_ps.ky S1 n_ps
  replace o_ps := S1.2 _ o_ps
  replace e_wa := e_wa.ky S1
  have C2 := B2.run [(23, .aload_n 0, 24, 0), (24, .sipush 2048, 27, 2048)] (pe := 27) (by decide +kernel) rfl
  have lt_pi := A_ps.lt
  obtain ⟨pi, I2, E2, g_pi, K2, A_pi, o_pi⟩ := C2.newA (aty := .int) (wd_24 G) (by decide +kernel) (N := 2048) rfl (cap := 2048) (by decide) (by decide) (by decide) (by decide)
  have n_pi : pi ∉ [x] := by simpa using Nat.ne_of_gt (Nat.lt_of_lt_of_le E.lt g_pi)
  have c_pi := Nat.lt_of_lt_of_le lt_pi g_pi
  replace KK := KK.trans K2 fun y hy => nomatch hy
  replace E := E.ky K2
  replace o := K2.2 _ o
  replace q_words := q_words.ky K2
  replace q_packedSlots := q_packedSlots.ky K2
  replace q_packedIds := q_packedIds.ky K2
  replace q_tally := q_tally.ky K2
  replace q_tallied := q_tallied.ky K2
  replace q_size := q_size.ky K2
  replace q_distinct := q_distinct.ky K2
  replace q_packedSize := q_packedSize.ky K2
  replace q_letters := q_letters.ky K2
  replace q_starts := q_starts.ky K2
  replace q_longIds := q_longIds.ky K2
  replace q_longSlots := q_longSlots.ky K2
  replace A_wa := A_wa.ky K2
  replace o_wa := K2.2 _ o_wa
  replace A_ps := A_ps.ky K2
  replace o_ps := K2.2 _ o_ps
  replace e_wa := e_wa.ky K2
  obtain ⟨M2, B3, S2, W2⟩ := E2.putF (wd_25 G) q_packedIds E (wd_26 G) (wd_9 G) o (by decide +kernel) (ty := .array .int) (by decide) rfl rfl
  replace KK := KK.trans S2 fun y hy => Or.inl hy
  replace E := E.ky S2
  replace o := S2.2 _ o
  replace q_words := q_words.other W2 (Or.inr (sl_words_packedIds G))
  replace q_packedSlots := q_packedSlots.other W2 (Or.inr (sl_packedSlots_packedIds G))
  replace q_tally := q_tally.other W2 (Or.inr (sl_tally_packedIds G))
  replace q_tallied := q_tallied.other W2 (Or.inr (sl_tallied_packedIds G))
  replace q_size := q_size.other W2 (Or.inr (sl_size_packedIds G))
  replace q_distinct := q_distinct.other W2 (Or.inr (sl_distinct_packedIds G))
  replace q_packedSize := q_packedSize.other W2 (Or.inr (sl_packedSize_packedIds G))
  replace q_letters := q_letters.other W2 (Or.inr (sl_letters_packedIds G))
  replace q_starts := q_starts.other W2 (Or.inr (sl_starts_packedIds G))
  replace q_longIds := q_longIds.other W2 (Or.inr (sl_longIds_packedIds G))
  replace q_longSlots := q_longSlots.other W2 (Or.inr (sl_longSlots_packedIds G))
  replace q_packedIds := q_packedIds.same W2
  replace A_wa := A_wa.ky S2 n_wa
  replace o_wa := S2.2 _ o_wa
  replace A_ps := A_ps.ky S2 n_ps
  replace o_ps := S2.2 _ o_ps
  replace A_pi := A_pi.ky S2 n_pi
  replace o_pi := S2.2 _ o_pi
  replace e_wa := e_wa.ky S2
  have C3 := B3.run [(32, .aload_n 0, 33, 0), (33, .sipush 8192, 36, 8192)] (pe := 36) (by decide +kernel) rfl
  have lt_le := A_pi.lt
  obtain ⟨le, I3, E3, g_le, K3, A_le, o_le⟩ := C3.newA (aty := .byte) (wd_4 G) (by decide +kernel) (N := 8192) rfl (cap := 8192) (by decide) (by decide) (by decide) (by decide)
  have n_le : le ∉ [x] := by simpa using Nat.ne_of_gt (Nat.lt_of_lt_of_le E.lt g_le)
  replace KK := KK.trans K3 fun y hy => nomatch hy
  replace E := E.ky K3
  replace o := K3.2 _ o
  replace q_words := q_words.ky K3
  replace q_packedSlots := q_packedSlots.ky K3
  replace q_packedIds := q_packedIds.ky K3
  replace q_tally := q_tally.ky K3
  replace q_tallied := q_tallied.ky K3
  replace q_size := q_size.ky K3
  replace q_distinct := q_distinct.ky K3
  replace q_packedSize := q_packedSize.ky K3
  replace q_letters := q_letters.ky K3
  replace q_starts := q_starts.ky K3
  replace q_longIds := q_longIds.ky K3
  replace q_longSlots := q_longSlots.ky K3
  replace A_wa := A_wa.ky K3
  replace o_wa := K3.2 _ o_wa
  replace A_ps := A_ps.ky K3
  replace o_ps := K3.2 _ o_ps
  replace A_pi := A_pi.ky K3
  replace o_pi := K3.2 _ o_pi
  replace e_wa := e_wa.ky K3
  obtain ⟨M3, B4, S3, W3⟩ := E3.putF (wd_27 G) q_letters E (wd_28 G) (wd_9 G) o (by decide +kernel) (ty := .array .byte) (by decide) rfl rfl
  replace KK := KK.trans S3 fun y hy => Or.inl hy
  replace E := E.ky S3
  replace o := S3.2 _ o
  replace q_words := q_words.other W3 (Or.inr (sl_words_letters G))
  replace q_packedSlots := q_packedSlots.other W3 (Or.inr (sl_packedSlots_letters G))
  replace q_packedIds := q_packedIds.other W3 (Or.inr (sl_packedIds_letters G))
  replace q_tally := q_tally.other W3 (Or.inr (sl_tally_letters G))
  replace q_tallied := q_tallied.other W3 (Or.inr (sl_tallied_letters G))
  replace q_size := q_size.other W3 (Or.inr (sl_size_letters G))
  replace q_distinct := q_distinct.other W3 (Or.inr (sl_distinct_letters G))
  replace q_packedSize := q_packedSize.other W3 (Or.inr (sl_packedSize_letters G))
  replace q_starts := q_starts.other W3 (Or.inr (sl_starts_letters G))
  replace q_longIds := q_longIds.other W3 (Or.inr (sl_longIds_letters G))
  replace q_longSlots := q_longSlots.other W3 (Or.inr (sl_longSlots_letters G))
  replace A_wa := A_wa.ky S3 n_wa
  replace o_wa := S3.2 _ o_wa
  replace A_ps := A_ps.ky S3 n_ps
  replace o_ps := S3.2 _ o_ps
  replace A_pi := A_pi.ky S3 n_pi
  replace o_pi := S3.2 _ o_pi
  replace e_wa := e_wa.ky S3
  have C4 := B4.run [(41, .aload_n 0, 42, 0), (42, .iconst 1, 43, 1)] (pe := 43) (by decide +kernel) rfl
  have lt_st := A_pi.lt
  obtain ⟨st, I4, E4, g_st, K4, A_st, o_st⟩ := C4.newA (aty := .int) (wd_24 G) (by decide +kernel) (N := 1) rfl (cap := 1) (by decide) (by decide) (by decide) (by decide)
  have n_st : st ∉ [x] := by simpa using Nat.ne_of_gt (Nat.lt_of_lt_of_le E.lt g_st)
  replace KK := KK.trans K4 fun y hy => nomatch hy
  replace E := E.ky K4
  replace o := K4.2 _ o
  replace q_words := q_words.ky K4
  replace q_packedSlots := q_packedSlots.ky K4
  replace q_packedIds := q_packedIds.ky K4
  replace q_tally := q_tally.ky K4
  replace q_tallied := q_tallied.ky K4
  replace q_size := q_size.ky K4
  replace q_distinct := q_distinct.ky K4
  replace q_packedSize := q_packedSize.ky K4
  replace q_starts := q_starts.ky K4
  replace q_longIds := q_longIds.ky K4
  replace q_longSlots := q_longSlots.ky K4
  replace A_wa := A_wa.ky K4
  replace o_wa := K4.2 _ o_wa
  replace A_ps := A_ps.ky K4
  replace o_ps := K4.2 _ o_ps
  replace A_pi := A_pi.ky K4
  replace o_pi := K4.2 _ o_pi
  replace e_wa := e_wa.ky K4
  have F4 := E4.run [(45, .dup, 46, 0), (46, .iconst 0, 47, 0), (47, .iconst 0, 48, 0)] (pe := 48) (by decide +kernel) rfl
  obtain ⟨J4, X4, L4, A_st⟩ := F4.iastore A_st o_st (by decide +kernel) (i := 0) rfl (by simp)
  have ns_x : x ∉ [st] := by simpa using Ne.symm (show st ≠ x by simpa using n_st)
  have gH_st : H.1.size ≤ st := Nat.le_trans g_wa (Nat.le_of_lt (Nat.lt_of_lt_of_le (Nat.lt_trans (Nat.lt_trans c_ps c_pi) lt_st) g_st))
  have gP_st : pi < st := Nat.lt_of_lt_of_le lt_st g_st
  replace KK := KK.trans L4 fun y hy => by cases List.mem_singleton.mp hy; exact Or.inr gH_st
  replace E := E.ky L4
  replace o := L4.2 _ o
  replace q_words := q_words.ky L4 ns_x
  replace q_packedSlots := q_packedSlots.ky L4 ns_x
  replace q_packedIds := q_packedIds.ky L4 ns_x
  replace q_tally := q_tally.ky L4 ns_x
  replace q_tallied := q_tallied.ky L4 ns_x
  replace q_size := q_size.ky L4 ns_x
  replace q_distinct := q_distinct.ky L4 ns_x
  replace q_packedSize := q_packedSize.ky L4 ns_x
  replace q_starts := q_starts.ky L4 ns_x
  replace q_longIds := q_longIds.ky L4 ns_x
  replace q_longSlots := q_longSlots.ky L4 ns_x
  replace A_wa := A_wa.ky L4 (by simpa using Nat.ne_of_lt (Nat.lt_trans (Nat.lt_trans c_ps c_pi) gP_st))
  replace o_wa := L4.2 _ o_wa
  replace A_ps := A_ps.ky L4 (by simpa using Nat.ne_of_lt (Nat.lt_trans c_pi gP_st))
  replace o_ps := L4.2 _ o_ps
  replace A_pi := A_pi.ky L4 (by simpa using Nat.ne_of_lt gP_st)
  replace o_pi := L4.2 _ o_pi
  replace e_wa := e_wa.ky L4
  obtain ⟨M4, B5, S4, W4⟩ := X4.putF (wd_29 G) q_starts E (wd_30 G) (wd_9 G) o (by decide +kernel) (ty := .array .int) (by decide) rfl rfl
  replace KK := KK.trans S4 fun y hy => Or.inl hy
  replace E := E.ky S4
  replace o := S4.2 _ o
  replace q_words := q_words.other W4 (Or.inr (sl_words_starts G))
  replace q_packedSlots := q_packedSlots.other W4 (Or.inr (sl_packedSlots_starts G))
  replace q_packedIds := q_packedIds.other W4 (Or.inr (sl_packedIds_starts G))
  replace q_tally := q_tally.other W4 (Or.inr (sl_tally_starts G))
  replace q_tallied := q_tallied.other W4 (Or.inr (sl_tallied_starts G))
  replace q_size := q_size.other W4 (Or.inr (sl_size_starts G))
  replace q_distinct := q_distinct.other W4 (Or.inr (sl_distinct_starts G))
  replace q_packedSize := q_packedSize.other W4 (Or.inr (sl_packedSize_starts G))
  replace q_longIds := q_longIds.other W4 (Or.inr (sl_longIds_starts G))
  replace q_longSlots := q_longSlots.other W4 (Or.inr (sl_longSlots_starts G))
  replace A_wa := A_wa.ky S4 n_wa
  replace o_wa := S4.2 _ o_wa
  replace A_ps := A_ps.ky S4 n_ps
  replace o_ps := S4.2 _ o_ps
  replace A_pi := A_pi.ky S4 n_pi
  replace o_pi := S4.2 _ o_pi
  replace e_wa := e_wa.ky S4
  have C5 := B5.run [(52, .aload_n 0, 53, 0), (53, .iconst 0, 54, 0)] (pe := 54) (by decide +kernel) rfl
  have lt_li := A_pi.lt
  obtain ⟨li, I5, E5, g_li, K5, A_li, o_li⟩ := C5.newA (aty := .int) (wd_24 G) (by decide +kernel) (N := 0) rfl (cap := 0) (by decide) (by decide) (by decide) (by decide)
  have n_li : li ∉ [x] := by simpa using Nat.ne_of_gt (Nat.lt_of_lt_of_le E.lt g_li)
  replace KK := KK.trans K5 fun y hy => nomatch hy
  replace E := E.ky K5
  replace o := K5.2 _ o
  replace q_words := q_words.ky K5
  replace q_packedSlots := q_packedSlots.ky K5
  replace q_packedIds := q_packedIds.ky K5
  replace q_tally := q_tally.ky K5
  replace q_tallied := q_tallied.ky K5
  replace q_size := q_size.ky K5
  replace q_distinct := q_distinct.ky K5
  replace q_packedSize := q_packedSize.ky K5
  replace q_longIds := q_longIds.ky K5
  replace q_longSlots := q_longSlots.ky K5
  replace A_wa := A_wa.ky K5
  replace o_wa := K5.2 _ o_wa
  replace A_ps := A_ps.ky K5
  replace o_ps := K5.2 _ o_ps
  replace A_pi := A_pi.ky K5
  replace o_pi := K5.2 _ o_pi
  replace e_wa := e_wa.ky K5
  obtain ⟨M5, B6, S5, W5⟩ := E5.putF (wd_31 G) q_longIds E (wd_32 G) (wd_9 G) o (by decide +kernel) (ty := .array .int) (by decide) rfl rfl
  replace KK := KK.trans S5 fun y hy => Or.inl hy
  replace E := E.ky S5
  replace o := S5.2 _ o
  replace q_words := q_words.other W5 (Or.inr (sl_words_longIds G))
  replace q_packedSlots := q_packedSlots.other W5 (Or.inr (sl_packedSlots_longIds G))
  replace q_packedIds := q_packedIds.other W5 (Or.inr (sl_packedIds_longIds G))
  replace q_tally := q_tally.other W5 (Or.inr (sl_tally_longIds G))
  replace q_tallied := q_tallied.other W5 (Or.inr (sl_tallied_longIds G))
  replace q_size := q_size.other W5 (Or.inr (sl_size_longIds G))
  replace q_distinct := q_distinct.other W5 (Or.inr (sl_distinct_longIds G))
  replace q_packedSize := q_packedSize.other W5 (Or.inr (sl_packedSize_longIds G))
  replace q_longSlots := q_longSlots.other W5 (Or.inr (sl_longSlots_longIds G))
  replace A_wa := A_wa.ky S5 n_wa
  replace o_wa := S5.2 _ o_wa
  replace A_ps := A_ps.ky S5 n_ps
  replace o_ps := S5.2 _ o_ps
  replace A_pi := A_pi.ky S5 n_pi
  replace o_pi := S5.2 _ o_pi
  replace e_wa := e_wa.ky S5
  have C6 := B6.run [(59, .aload_n 0, 60, 0), (60, .bipush 16, 62, 16)] (pe := 62) (by decide +kernel) rfl
  have lt_lo := A_pi.lt
  obtain ⟨lo, I6, E6, g_lo, K6, A_lo, o_lo⟩ := C6.newA (aty := .long) (wd_21 G) (by decide +kernel) (N := 16) rfl (cap := 16) (by decide) (by decide) (by decide) (by decide)
  have n_lo : lo ∉ [x] := by simpa using Nat.ne_of_gt (Nat.lt_of_lt_of_le E.lt g_lo)
  replace KK := KK.trans K6 fun y hy => nomatch hy
  replace E := E.ky K6
  replace o := K6.2 _ o
  replace q_words := q_words.ky K6
  replace q_packedSlots := q_packedSlots.ky K6
  replace q_packedIds := q_packedIds.ky K6
  replace q_tally := q_tally.ky K6
  replace q_tallied := q_tallied.ky K6
  replace q_size := q_size.ky K6
  replace q_distinct := q_distinct.ky K6
  replace q_packedSize := q_packedSize.ky K6
  replace q_longSlots := q_longSlots.ky K6
  replace A_wa := A_wa.ky K6
  replace o_wa := K6.2 _ o_wa
  replace A_ps := A_ps.ky K6
  replace o_ps := K6.2 _ o_ps
  replace A_pi := A_pi.ky K6
  replace o_pi := K6.2 _ o_pi
  replace e_wa := e_wa.ky K6
  obtain ⟨M6, B7, S6, W6⟩ := E6.putF (wd_33 G) q_longSlots E (wd_34 G) (wd_9 G) o (by decide +kernel) (ty := .array .long) (by decide) rfl rfl
  replace KK := KK.trans S6 fun y hy => Or.inl hy
  replace E := E.ky S6
  replace o := S6.2 _ o
  replace q_words := q_words.other W6 (Or.inr (sl_words_longSlots G))
  replace q_packedSlots := q_packedSlots.other W6 (Or.inr (sl_packedSlots_longSlots G))
  replace q_packedIds := q_packedIds.other W6 (Or.inr (sl_packedIds_longSlots G))
  replace q_tally := q_tally.other W6 (Or.inr (sl_tally_longSlots G))
  replace q_tallied := q_tallied.other W6 (Or.inr (sl_tallied_longSlots G))
  replace q_size := q_size.other W6 (Or.inr (sl_size_longSlots G))
  replace q_distinct := q_distinct.other W6 (Or.inr (sl_distinct_longSlots G))
  replace q_packedSize := q_packedSize.other W6 (Or.inr (sl_packedSize_longSlots G))
  replace A_wa := A_wa.ky S6 n_wa
  replace o_wa := S6.2 _ o_wa
  replace A_ps := A_ps.ky S6 n_ps
  replace o_ps := S6.2 _ o_ps
  replace A_pi := A_pi.ky S6 n_pi
  replace o_pi := S6.2 _ o_pi
  replace e_wa := e_wa.ky S6
  have C7 := B7.run [(67, .aload_n 0, 68, 0), (68, .sipush 1024, 71, 1024)] (pe := 71) (by decide +kernel) rfl
  have lt_ta := A_pi.lt
  obtain ⟨ta, I7, E7, g_ta, K7, A_ta, o_ta⟩ := C7.newA (aty := .long) (wd_21 G) (by decide +kernel) (N := 1024) rfl (cap := 1024) (by decide) (by decide) (by decide) (by decide)
  have n_ta : ta ∉ [x] := by simpa using Nat.ne_of_gt (Nat.lt_of_lt_of_le E.lt g_ta)
  have c_ta := Nat.lt_of_lt_of_le lt_ta g_ta
  replace KK := KK.trans K7 fun y hy => nomatch hy
  replace E := E.ky K7
  replace o := K7.2 _ o
  replace q_words := q_words.ky K7
  replace q_packedSlots := q_packedSlots.ky K7
  replace q_packedIds := q_packedIds.ky K7
  replace q_tally := q_tally.ky K7
  replace q_tallied := q_tallied.ky K7
  replace q_size := q_size.ky K7
  replace q_distinct := q_distinct.ky K7
  replace q_packedSize := q_packedSize.ky K7
  replace A_wa := A_wa.ky K7
  replace o_wa := K7.2 _ o_wa
  replace A_ps := A_ps.ky K7
  replace o_ps := K7.2 _ o_ps
  replace A_pi := A_pi.ky K7
  replace o_pi := K7.2 _ o_pi
  replace e_wa := e_wa.ky K7
  obtain ⟨M7, B8, S7, W7⟩ := E7.putF (wd_35 G) q_tally E (wd_36 G) (wd_9 G) o (by decide +kernel) (ty := .array .long) (by decide) rfl rfl
  replace KK := KK.trans S7 fun y hy => Or.inl hy
  replace E := E.ky S7
  replace o := S7.2 _ o
  replace q_words := q_words.other W7 (Or.inr (sl_words_tally G))
  replace q_packedSlots := q_packedSlots.other W7 (Or.inr (sl_packedSlots_tally G))
  replace q_packedIds := q_packedIds.other W7 (Or.inr (sl_packedIds_tally G))
  replace q_tallied := q_tallied.other W7 (Or.inr (sl_tallied_tally G))
  replace q_size := q_size.other W7 (Or.inr (sl_size_tally G))
  replace q_distinct := q_distinct.other W7 (Or.inr (sl_distinct_tally G))
  replace q_packedSize := q_packedSize.other W7 (Or.inr (sl_packedSize_tally G))
  replace q_tally := q_tally.same W7
  replace A_wa := A_wa.ky S7 n_wa
  replace o_wa := S7.2 _ o_wa
  replace A_ps := A_ps.ky S7 n_ps
  replace o_ps := S7.2 _ o_ps
  replace A_pi := A_pi.ky S7 n_pi
  replace o_pi := S7.2 _ o_pi
  replace A_ta := A_ta.ky S7 n_ta
  replace o_ta := S7.2 _ o_ta
  replace e_wa := e_wa.ky S7
  have C8 := B8.run [(76, .aload_n 0, 77, 0), (77, .sipush 1024, 80, 1024)] (pe := 80) (by decide +kernel) rfl
  have lt_td := A_ta.lt
  obtain ⟨td, I8, E8, g_td, K8, A_td, o_td⟩ := C8.newA (aty := .int) (wd_24 G) (by decide +kernel) (N := 1024) rfl (cap := 1024) (by decide) (by decide) (by decide) (by decide)
  have n_td : td ∉ [x] := by simpa using Nat.ne_of_gt (Nat.lt_of_lt_of_le E.lt g_td)
  have c_td := Nat.lt_of_lt_of_le lt_td g_td
  replace KK := KK.trans K8 fun y hy => nomatch hy
  replace E := E.ky K8
  replace o := K8.2 _ o
  replace q_words := q_words.ky K8
  replace q_packedSlots := q_packedSlots.ky K8
  replace q_packedIds := q_packedIds.ky K8
  replace q_tally := q_tally.ky K8
  replace q_tallied := q_tallied.ky K8
  replace q_size := q_size.ky K8
  replace q_distinct := q_distinct.ky K8
  replace q_packedSize := q_packedSize.ky K8
  replace A_wa := A_wa.ky K8
  replace o_wa := K8.2 _ o_wa
  replace A_ps := A_ps.ky K8
  replace o_ps := K8.2 _ o_ps
  replace A_pi := A_pi.ky K8
  replace o_pi := K8.2 _ o_pi
  replace A_ta := A_ta.ky K8
  replace o_ta := K8.2 _ o_ta
  replace e_wa := e_wa.ky K8
  obtain ⟨M8, B9, S8, W8⟩ := E8.putF (wd_37 G) q_tallied E (wd_38 G) (wd_9 G) o (by decide +kernel) (ty := .array .int) (by decide) rfl rfl
  replace KK := KK.trans S8 fun y hy => Or.inl hy
  replace E := E.ky S8
  replace o := S8.2 _ o
  replace q_words := q_words.other W8 (Or.inr (sl_words_tallied G))
  replace q_packedSlots := q_packedSlots.other W8 (Or.inr (sl_packedSlots_tallied G))
  replace q_packedIds := q_packedIds.other W8 (Or.inr (sl_packedIds_tallied G))
  replace q_tally := q_tally.other W8 (Or.inr (sl_tally_tallied G))
  replace q_size := q_size.other W8 (Or.inr (sl_size_tallied G))
  replace q_distinct := q_distinct.other W8 (Or.inr (sl_distinct_tallied G))
  replace q_packedSize := q_packedSize.other W8 (Or.inr (sl_packedSize_tallied G))
  replace q_tallied := q_tallied.same W8
  replace A_wa := A_wa.ky S8 n_wa
  replace o_wa := S8.2 _ o_wa
  replace A_ps := A_ps.ky S8 n_ps
  replace o_ps := S8.2 _ o_ps
  replace A_pi := A_pi.ky S8 n_pi
  replace o_pi := S8.2 _ o_pi
  replace A_ta := A_ta.ky S8 n_ta
  replace o_ta := S8.2 _ o_ta
  replace A_td := A_td.ky S8 n_td
  replace o_td := S8.2 _ o_td
  replace e_wa := e_wa.ky S8
  refine ⟨_, _, _, _, B9.ret (by decide +kernel), ⟨rfl, KK, wa, ps, pi, ta, td, g_wa, ⟨E, q_words, q_packedSlots, q_packedIds, q_tally, q_tallied, q_size, q_distinct, q_packedSize⟩, ⟨⟨_, A_wa, by simp⟩, e_wa, ?_, ?_, ?_, ?_, by simp, by simp, by simp, by simp, ⟨c_ps, c_pi, c_ta, c_td⟩, ⟨o, o_wa, o_ps, o_pi, o_ta, o_td⟩, ⟨(Ne.symm (show wa ≠ x by simpa using n_wa)), (Ne.symm (show ps ≠ x by simpa using n_ps)), (Ne.symm (show pi ≠ x by simpa using n_pi)), (Ne.symm (show ta ≠ x by simpa using n_ta)), (Ne.symm (show td ≠ x by simpa using n_td))⟩, ⟨[], by simp, fun i s h hne => absurd (rep0 h) hne⟩, fun i s h hne => absurd (rep0 h) hne, fun i s h hne => absurd (rep0 h) hne, fun q hq => absurd hq (by omega), by omega, by omega⟩⟩, by decide, by decide⟩
  · rw [show jl (List.replicate 2048 0) = List.replicate 2048 (Value.long 0) from List.map_replicate]; exact A_ps
  · rw [show il (List.replicate 2048 0) = List.replicate 2048 (Value.int 0) from List.map_replicate]; exact A_pi
  · rw [show jl (List.replicate 1024 0) = List.replicate 1024 (Value.long 0) from List.map_replicate]; exact A_ta
  · rw [show il (List.replicate 1024 0) = List.replicate 1024 (Value.int 0) from List.map_replicate]; exact A_td
theorem el4 {a b c e : Int32} {i : Nat} (h : i < 4) : ∃ v : Int32, ([.int a, .int b, .int c, .int e] : List Value)[i]? = some (.int v) := by
  match i, h with
  | 0, _ => exact ⟨a, rfl⟩
  | 1, _ => exact ⟨b, rfl⟩
  | 2, _ => exact ⟨c, rfl⟩
  | 3, _ => exact ⟨e, rfl⟩
theorem pw32 {p L m : Nat} (h : p < 32 ^ m) (hL : L < 32) : p * 32 + L < 32 ^ (m + 1) := by
  rw [Nat.pow_succ]; generalize 32 ^ m = y at h ⊢; omega
theorem p32 {p m : Nat} (h : p < 32 ^ m) (hm : m ≤ 4) : p < 32 ^ 4 := Nat.lt_of_lt_of_le h (Nat.pow_le_pow_right (by decide) hm)
set_option maxRecDepth 65536 in
theorem l_rdI (G : Glb Z a0) {x t d : Addr} {a b c e : Int32} (SD : Sta Z Z.heap WN "LETTER_NUMBERS" "[B" (.ref d)) (LA : LetAt Z H d) (Tt : Ar Z H t .byte [.int a, .int b, .int c, .int e]) {i0 k n : Nat} :
    ∀ (r i pk L : Nat), i + r = 3 → i0 ≤ i → pk < 32 ^ (i - i0) → 1 ≤ L → L < 32 → Wk l Z a0 EL0 "com/example/onepass/onepass/model/Words" prog_85_method_2_code 10 "read" none ({ frames := 8, cells := 16, slots := 160, locals := 135 } : Room) D 47 [.val (.ref x), .val (.ref t), .val (.int 0), .val (.int 4), .val (.int 4), .val (.int i.toInt32), .val (.int L.toInt32), .val (.int i0.toInt32), .val (.long pk.toInt64), .second] [] H k n →
    ∃ i1 pk1 L1 : Nat, i < i1 ∧ i1 ≤ 4 ∧ 1 ≤ pk1 ∧ pk1 < 32 ^ 4 ∧ Wk l Z a0 EL0 "com/example/onepass/onepass/model/Words" prog_85_method_2_code 10 "read" none ({ frames := 8, cells := 16, slots := 160, locals := 135 } : Room) D 85 [.val (.ref x), .val (.ref t), .val (.int 0), .val (.int 4), .val (.int 4), .val (.int i1.toInt32), .val (.int L1.toInt32), .val (.int i0.toInt32), .val (.long pk1.toInt64), .second] [] H k n := by
  intro r
  induction r with
  | zero =>
    intro i pk L e3 h0 hp hL1 hL B0
    obtain rfl : i = 3 := by omega
    have B1 := B0.run [(47, .lload 8, 49, 0), (49, .iconst 5, 50, 5), (50, .lshl, 51, 0), (51, .iload 6, 53, 0), (53, .i2l, 54, 0), (54, .lor, 55, 0)] (pe := 55) (by decide +kernel) rfl
    rw [pk_or (Nat.lt_trans (p32 hp (by omega)) (by decide)) hL] at B1
    have B2 := B1.run [(55, .lstore 8, 57, 0), (57, .iinc 5 1, 60, 1), (60, .iload 5, 62, 0), (62, .iload 4, 64, 0)] (pe := 64) (by decide +kernel) rfl
    have B3 := B2.icT (cd := .ge) (o := 21) (by decide +kernel) (by show ¬ _ < _; decide) (pe := 85) (by decide)
    exact ⟨4, pk * 32 + L, L, by omega, by omega, by omega, p32 (pw32 hp hL) (by omega), B3⟩
  | succ r ih =>
    intro i pk L e3 h0 hp hL1 hL B0
    have B1 := B0.run [(47, .lload 8, 49, 0), (49, .iconst 5, 50, 5), (50, .lshl, 51, 0), (51, .iload 6, 53, 0), (53, .i2l, 54, 0), (54, .lor, 55, 0)] (pe := 55) (by decide +kernel) rfl
    rw [pk_or (Nat.lt_trans (p32 hp (by omega)) (by decide)) hL] at B1
    have B2 := B1.run [(55, .lstore 8, 57, 0), (57, .iinc 5 1, 60, 1), (60, .iload 5, 62, 0), (62, .iload 4, 64, 0)] (pe := 64) (by decide +kernel) rfl
    rw [n32_succ] at B2
    have B3 := B2.icF (cd := .ge) (o := 21) (by decide +kernel) (not_not_intro ((n32_lt (j := 4) (by omega) (by decide)).mpr (by omega)))
    have B4 := B3.getS (wd_44 G) SD (by decide +kernel)
    have B5 := B4.run [(70, .aload_n 1, 71, 0), (71, .iload 5, 73, 0)] (pe := 73) (by decide +kernel) rfl
    obtain ⟨v, hv⟩ := el4 (a := a) (b := b) (c := c) (e := e) (i := i + 1) (by omega)
    have B6 := B5.baload Tt (by decide +kernel) rfl hv
    have B7 := B6.run [(74, .sipush 255, 77, 255), (77, .iand, 78, 0)] (pe := 78) (by decide +kernel) rfl
    obtain ⟨q, hq, eq⟩ := and255 (z := v)
    rw [eq] at B7
    obtain ⟨lv, Al, hlv⟩ := LA
    obtain ⟨L', hL', hl'⟩ := hlv q hq
    have B8 := B7.baload Al (by decide +kernel) rfl hl'
    have B9 := B8.run [(79, .dup, 80, 0), (80, .istore 6, 82, 0)] (pe := 82) (by decide +kernel) rfl
    by_cases hz : L' = 0
    · subst hz
      have B10 := B9.ifF (cd := .ne) (o := (-35)) (by decide +kernel) (not_not_intro rfl)
      exact ⟨i + 1, pk * 32 + L, 0, by omega, by omega, by omega, p32 (pw32 hp hL) (by omega), B10⟩
    · have B10 := B9.ifT (cd := .ne) (o := (-35)) (by decide +kernel) (fun q => hz ((n32_inj (j := 0) (by omega) (by decide)).mp q)) (pe := 47) (by decide)
      obtain ⟨i1, pk1, L1, g1, g2, g3, g4, g5⟩ := ih (i + 1) (pk * 32 + L) L' (by omega) (by omega) (by rw [show i + 1 - i0 = i - i0 + 1 by omega]; exact pw32 hp hL) (by omega) hL' B10
      exact ⟨i1, pk1, L1, by omega, g2, g3, g4, g5⟩
abbrev S4 (s7 s8 s9 : Slot) : Prop := s7 = .unset ∧ s8 = .unset ∧ s9 = .unset ∨ ∃ (y : Int32) (w : Int64), s7 = .val (.int y) ∧ s8 = .val (.long w) ∧ s9 = .second
set_option maxRecDepth 65536 in
set_option maxHeartbeats 2000000 in
theorem l_rd (G : Glb Z a0) {x t d wa ps pi ta td : Addr} {a b c e : Int32} {cl : Cell} {sz0 : Nat} {H0 : HP} (SD : Sta Z Z.heap WN "LETTER_NUMBERS" "[B" (.ref d)) (LA : ∀ H : HP, Ext Z.heap H.1 → LetAt Z H d) (hs0 : sz0 ≤ 4) (ht : t ∉ [x, wa, ps, pi, ta, td]) :
    ∀ (N i w : Nat) (H : HP) (sz dn : Nat) (S : List Int64) (I : List Int32) (T : List Int64) (D0 : List Int32) (s6 s7 s8 s9 : Slot), i ≤ 4 → 4 - i ≤ N → w ≤ i → sz ≤ sz0 + w → dn ≤ w → SU s6 → S4 s7 s8 s9 → Kp H0 H [x, wa, ps, pi, ta, td] → WF Z H x wa ps pi ta td sz dn → WA Z H x wa ps pi ta td sz dn S I T D0 → Ar Z H t .byte [.int a, .int b, .int c, .int e] →
    Wk l Z a0 EL0 "com/example/onepass/onepass/model/Words" prog_85_method_2_code 10 "read" none ({ frames := 8, cells := 16, slots := 160, locals := 135 } : Room) D 8 [.val (.ref x), .val (.ref t), .val (.int 0), .val (.int 4), .val (.int 4), .val (.int i.toInt32), s6, s7, s8, s9] [] H (4 * w) (40 * w) →
    ∃ (H' : HP) (sz' dn' : Nat) (S' : List Int64) (I' : List Int32) (T' : List Int64) (D' : List Int32) (kk nn : Nat), Kp H0 H' [x, wa, ps, pi, ta, td] ∧ WF Z H' x wa ps pi ta td sz' dn' ∧ WA Z H' x wa ps pi ta td sz' dn' S' I' T' D' ∧ sz' ≤ sz0 + 4 ∧ dn' ≤ 4 ∧ Rt Z EL0 D none H' kk nn ∧ kk ≤ 16 ∧ nn ≤ 160 := by
  intro N
  induction N with
  | zero =>
    intro i w H sz dn S I T D0 s6 s7 s8 s9 h4 hN hw hsz hdn h6 h7 K F A Tt B0
    obtain rfl : i = 4 := by omega
    have B1 := B0.run [(8, .iload 5, 10, 0), (10, .iload 4, 12, 0)] (pe := 12) (by decide +kernel) rfl
    have B2 := B1.icT (cd := .ge) (o := 108) (by decide +kernel) (by show ¬ _ < _; decide) (pe := 120) (by decide)
    exact ⟨H, sz, dn, S, I, T, D0, _, _, K, F, A, by omega, by omega, B2.ret (by decide +kernel), by omega, by omega⟩
  | succ N ih =>
    intro i w H sz dn S I T D0 s6 s7 s8 s9 h4 hN hw hsz hdn h6 h7 K F A Tt B0
    by_cases hi : i = 4
    · subst hi
      have B1 := B0.run [(8, .iload 5, 10, 0), (10, .iload 4, 12, 0)] (pe := 12) (by decide +kernel) rfl
      have B2 := B1.icT (cd := .ge) (o := 108) (by decide +kernel) (by show ¬ _ < _; decide) (pe := 120) (by decide)
      exact ⟨H, sz, dn, S, I, T, D0, _, _, K, F, A, by omega, by omega, B2.ret (by decide +kernel), by omega, by omega⟩
    · have B1 := B0.run [(8, .iload 5, 10, 0), (10, .iload 4, 12, 0)] (pe := 12) (by decide +kernel) rfl
      have B2 := B1.icF (cd := .ge) (o := 108) (by decide +kernel) (not_not_intro ((n32_lt (j := 4) (by omega) (by decide)).mpr (by omega)))
      have hLA := LA H B2.ext
      have B3 := B2.getS (wd_44 G) SD (by decide +kernel)
      have B4 := B3.run [(18, .aload_n 1, 19, 0), (19, .iload 5, 21, 0)] (pe := 21) (by decide +kernel) rfl
      obtain ⟨v, hv⟩ := el4 (a := a) (b := b) (c := c) (e := e) (i := i) (by omega)
      have B5 := B4.baload Tt (by decide +kernel) rfl hv
      have B6 := B5.run [(22, .sipush 255, 25, 255), (25, .iand, 26, 0)] (pe := 26) (by decide +kernel) rfl
      obtain ⟨q, hq, eq⟩ := and255 (z := v)
      rw [eq] at B6
      obtain ⟨lv, Al, hlv⟩ := hLA
      obtain ⟨L, hL, hl⟩ := hlv q hq
      have B7 := B6.baload Al (by decide +kernel) rfl hl
      have B8 : Wk l Z a0 EL0 "com/example/onepass/onepass/model/Words" prog_85_method_2_code 10 "read" none ({ frames := 8, cells := 16, slots := 160, locals := 135 } : Room) D 31 [.val (.ref x), .val (.ref t), .val (.int 0), .val (.int 4), .val (.int 4), .val (.int i.toInt32), .val (.int L.toInt32), s7, s8, s9] [.int L.toInt32] H (4 * w) (40 * w) := by
        rcases h6 with rfl | ⟨y, rfl⟩ <;> exact B7.run [(27, .istore 6, 29, 0), (29, .iload 6, 31, 0)] (pe := 31) (by decide +kernel) rfl
      by_cases hz : L = 0
      · subst hz
        have C0 := B8.ifF (cd := .ne) (o := 9) (by decide +kernel) (not_not_intro rfl)
        have C1 := C0.run [(34, .iinc 5 1, 37, 1), (37, .goto (-29), 8, 0)] (pe := 8) (by decide +kernel) rfl
        rw [n32_succ] at C1
        exact ih (i + 1) w H sz dn S I T D0 _ s7 s8 s9 (by omega) (by omega) (by omega) hsz hdn (Or.inr ⟨_, rfl⟩) h7 K F A Tt C1
      · have C0 := B8.ifT (cd := .ne) (o := 9) (by decide +kernel) (fun q => hz ((n32_inj (j := 0) (by omega) (by decide)).mp q)) (pe := 40) (by decide)
        have C1 : Wk l Z a0 EL0 "com/example/onepass/onepass/model/Words" prog_85_method_2_code 10 "read" none ({ frames := 8, cells := 16, slots := 160, locals := 135 } : Room) D 47 [.val (.ref x), .val (.ref t), .val (.int 0), .val (.int 4), .val (.int 4), .val (.int i.toInt32), .val (.int L.toInt32), .val (.int i.toInt32), .val (.long (0 : Nat).toInt64), .second] [] H (4 * w) (40 * w) := by
          rcases h7 with ⟨rfl, rfl, rfl⟩ | ⟨y, w', rfl, rfl, rfl⟩ <;> exact C0.run [(40, .iload 5, 42, 0), (42, .istore 7, 44, 0), (44, .lconst 0, 45, 0), (45, .lstore 8, 47, 0)] (pe := 47) (by decide +kernel) rfl
        obtain ⟨i1, pk, L1, g1, g2, g3, g4, C2⟩ := l_rdI G SD ⟨lv, Al, hlv⟩ Tt (3 - i) i 0 L (by omega) (Nat.le_refl _) (by rw [Nat.sub_self]; decide) (by omega) hL C1
        have C3 := C2.run [(85, .aload_n 0, 86, 0), (86, .iload 5, 88, 0), (88, .iload 7, 90, 0), (90, .isub, 91, 0), (91, .bipush 12, 93, 12)] (pe := 93) (by decide +kernel) rfl
        rw [n32_sub (by omega)] at C3
        have C4 := C3.icF (cd := .gt) (o := 12) (by decide +kernel) (fun q => by have := (n32_lt (i := 12) (by decide) (by omega)).mp q; omega)
        have C5 := C4.run [(96, .aload_n 0, 97, 0), (97, .lload 8, 99, 0)] (pe := 99) (by decide +kernel) rfl
        obtain ⟨_, HC6, qC6, C6, moC6, szC6⟩ := C5.callP (argsL := [.long pk.toInt64]) (wd_46 G) (wd_42 G) rfl (wd_48 G) (wd_47 G) (wd_10 G) (wd_49 G) F.e (c_pn G F A g3 g4 (by omega)) (by decide) ⟨_, _, (by decide +kernel : parseMethodDescriptor "(J)I" = some ⟨[.long], some .int⟩), rfl⟩ (by decide +kernel) (Wd := 1) (by decide) (Nat.le_of_ble_eq_true rfl) (by first | decide | (dsimp only; omega)) (by first | decide | (dsimp only; omega)) (by first | decide | (dsimp only; omega))
        obtain ⟨id, sz', S', I', rfl, hid, hsz', K6, F6, A6⟩ := qC6
        have C7 := C6.run [(102, .goto 12, 114, 0)] (pe := 114) (by decide +kernel) rfl
        obtain ⟨_, HC8, qC8, C8, moC8, szC8⟩ := C7.callP (argsL := [.int id.toInt32]) (wd_172 G) (wd_42 G) rfl (wd_174 G) (wd_173 G) (wd_10 G) (wd_175 G) F6.e (c_addW G F6 A6 (by have := A6.sz4; omega) (by omega)) (by decide) ⟨_, _, (by decide +kernel : parseMethodDescriptor "(I)V" = some ⟨[.int], none⟩), rfl⟩ (by decide +kernel) (Wd := 0) (by decide) (Nat.le_of_ble_eq_true rfl) (by first | decide | (dsimp only; omega)) (by first | decide | (dsimp only; omega)) (by first | decide | (dsimp only; omega))
        obtain ⟨rfl, K8, dn', T', D', hdn', F8, A8⟩ := qC8
        have C9 := C8.run [(117, .goto (-109), 8, 0)] (pe := 8) (by decide +kernel) rfl
        have m1 : ∀ y ∈ [x, wa, ps, pi], y ∈ [x, wa, ps, pi, ta, td] ∨ H0.1.size ≤ y := fun y hy => Or.inl (by simp only [List.mem_cons, List.not_mem_nil, or_false] at hy ⊢; rcases hy with h | h | h | h <;> simp [h])
        have m2 : ∀ y ∈ [x, ta, td], y ∈ [x, wa, ps, pi, ta, td] ∨ H0.1.size ≤ y := fun y hy => Or.inl (by simp only [List.mem_cons, List.not_mem_nil, or_false] at hy ⊢; rcases hy with h | h | h <;> simp [h])
        have t1 : t ∉ [x, wa, ps, pi] := fun hm => ht (by simp only [List.mem_cons, List.not_mem_nil, or_false] at hm ⊢; rcases hm with h | h | h | h <;> simp [h])
        have t2 : t ∉ [x, ta, td] := fun hm => ht (by simp only [List.mem_cons, List.not_mem_nil, or_false] at hm ⊢; rcases hm with h | h | h <;> simp [h])
        exact ih i1 (w + 1) _ sz' dn' S' I' T' D' _ _ _ _ g2 (by omega) (by omega) (by omega) (by omega) (Or.inr ⟨_, rfl⟩) (Or.inr ⟨_, _, rfl, rfl, rfl⟩) ((K.trans K6 m1).trans K8 m2) F8 A8 ((Tt.ky K6 t1).ky K8 t2) (C9.more (by dsimp only; omega) (by dsimp only; omega))
set_option maxRecDepth 65536 in
theorem c_rd (G : Glb Z a0) {x t wa ps pi ta td : Addr} {a b c e : Int32} {sz : Nat} {S : List Int64} {I : List Int32} {T : List Int64} {D0 : List Int32} (hs0 : sz ≤ 4) (ht : t ∉ [x, wa, ps, pi, ta, td]) (F : WF Z H x wa ps pi ta td sz 0) (A : WA Z H x wa ps pi ta td sz 0 S I T D0) (Tt : Ar Z H t .byte [.int a, .int b, .int c, .int e]) :
    Ct l Z EL0 (⟨"com/example/onepass/onepass/model/Words", "read", "([BII)V"⟩ : MethodName) prog_85_method_2_code 10 (none) ({ frames := 8, cells := 16, slots := 160, locals := 135 } : Room) [] [.ref x, .ref t, .int 0, .int 4] H (fun r H' => r = none ∧ ∃ (sz' dn' : Nat) (S' : List Int64) (I' : List Int32) (T' : List Int64) (D' : List Int32), Kp H H' [x, wa, ps, pi, ta, td] ∧ WF Z H' x wa ps pi ta td sz' dn' ∧ WA Z H' x wa ps pi ta td sz' dn' S' I' T' D' ∧ sz' ≤ sz + 4 ∧ dn' ≤ 4) := by
  refine Ct.in G (by first | exact plainFor_of_name (by simp [plainName, overriddenIn]; done) | decide +kernel) (ls := [.val (.ref x), .val (.ref t), .val (.int 0), .val (.int 4), .unset, .unset, .unset, .unset, .unset, .unset]) rfl rfl fun D A0 => ?_
  obtain ⟨d, SD, cl, Acl, hcl, hv⟩ := G_let G
  have A1 := A0.run [(0, .iload_n 2, 1, 0), (1, .iload_n 3, 2, 0), (2, .iadd, 3, 0), (3, .istore 4, 5, 0), (5, .iload_n 2, 6, 0), (6, .istore 5, 8, 0)] (pe := 8) (by decide +kernel) rfl
  obtain ⟨H', sz', dn', S', I', T', D', kk, nn, K, F', A', h1, h2, R, k1, k2⟩ := l_rd G (cl := cl) (H0 := H) SD (fun H X => let_now Acl hcl hv X) hs0 ht 4 0 0 H sz 0 S I T D0 .unset .unset .unset .unset (by omega) (by omega) (by omega) (by omega) (by omega) (Or.inl rfl) (Or.inl ⟨rfl, rfl, rfl⟩) ((Kp.refl H).wide (fun x hx => nomatch hx)) F A Tt A1
  exact ⟨_, _, _, _, R, ⟨rfl, sz', dn', S', I', T', D', K, F', A', h1, h2⟩, k1, k2⟩
/-! the law -/
set_option maxRecDepth 65536 in
set_option maxHeartbeats 2000000 in
theorem c_law (G : Glb Z a0) (i0 i1 : Int32) : Ct l Z EL0 x code maxLocals (ret) room_1 tables_1 [.int i0, .int i1] H (fun v H' => v = some (.int 1)) := by
  refine Ct.in G (plainFor_of_name (by show plainName "com/example/onepass/onepass/model/WordsEmptyPinLaw" = true; simp [plainName, overriddenIn])) (ls := [.val (.int i0), .val (.int i1), .unset, .unset, .unset, .unset, .unset]) rfl rfl fun D A0 => ?_
  have A1 := A0.run [(0, .iload_n 0, 1, 0)] (pe := 1) (by decide +kernel) rfl
  obtain ⟨_, HA2, qA2, A2, moA2, szA2⟩ := A1.callS (argsL := [.int i0]) (wd_0 G) (wd_1 G) (wd_2 G) (wd_3 G) (c_lnM G) (by decide) ⟨_, _, (by decide +kernel : parseMethodDescriptor "(I)[B" = some ⟨[.int], some (.array .byte)⟩), rfl⟩ (by decide +kernel) (Wd := 0) (by decide) (Nat.le_of_ble_eq_true rfl) (by decide) (by decide) (by decide)
  obtain ⟨t1, rfl, gt1, Kt1, a1, b1, c1, e1, T1⟩ := qA2
  have A3 := A2.run [(4, .astore_n 2, 5, 0), (5, .iload_n 1, 6, 0)] (pe := 6) (by decide +kernel) rfl
  obtain ⟨_, HA4, qA4, A4, moA4, szA4⟩ := A3.callS (argsL := [.int i1]) (wd_0 G) (wd_1 G) (wd_2 G) (wd_3 G) (c_lnM G) (by decide) ⟨_, _, (by decide +kernel : parseMethodDescriptor "(I)[B" = some ⟨[.int], some (.array .byte)⟩), rfl⟩ (by decide +kernel) (Wd := 0) (by decide) (Nat.le_of_ble_eq_true rfl) (by decide) (by decide) (by decide)
  obtain ⟨t2, rfl, gt2, Kt2, a2, b2, c2, e2, T2⟩ := qA4
  replace T1 := T1.ky Kt2
  have A5 := A4.run [(9, .astore_n 3, 10, 0)] (pe := 10) (by decide +kernel) rfl
  obtain ⟨x, H1, A6, gx, K1, E, o, Df⟩ := A5.newO (wd_8 G) (wd_9 G) (wd_10 G) (by decide +kernel) (by decide) (by decide)
  have lx1 : t1 < x := Nat.lt_of_lt_of_le T1.lt gx
  have lx2 : t2 < x := Nat.lt_of_lt_of_le T2.lt gx
  have A7 := A6.run [(13, .dup, 14, 0)] (pe := 14) (by decide +kernel) rfl
  obtain ⟨_, HA8, qA8, A8, moA8, szA8⟩ := A7.callI (argsL := []) rfl (wd_11 G) (wd_12 G) (wd_10 G) (wd_13 G) (c_wI G E (Df (Or.inl (wd_20 G)) (t := .array (.object "java/lang/String")) (by decide)) (Df (Or.inl (wd_23 G)) (t := .array .long) (by decide)) (Df (Or.inl (wd_26 G)) (t := .array .int) (by decide)) (Df (Or.inl (wd_36 G)) (t := .array .long) (by decide)) (Df (Or.inl (wd_38 G)) (t := .array .int) (by decide)) (Df (Or.inl (wd_171 G)) (t := .int) (by decide)) (Df (Or.inl (wd_177 G)) (t := .int) (by decide)) (Df (Or.inl (wd_55 G)) (t := .int) (by decide)) (Df (Or.inl (wd_28 G)) (t := .array .byte) (by decide)) (Df (Or.inl (wd_30 G)) (t := .array .int) (by decide)) (Df (Or.inl (wd_32 G)) (t := .array .int) (by decide)) (Df (Or.inl (wd_34 G)) (t := .array .long) (by decide)) o) (by decide) ⟨_, _, (by decide +kernel : parseMethodDescriptor "()V" = some ⟨[], none⟩), rfl⟩ (by decide +kernel) (Wd := 1) (by decide) (Nat.le_of_ble_eq_true rfl) (by decide) (by decide) (by decide)
  obtain ⟨rfl, K8, wa, ps, pi, ta, td, gw, F8, A8w⟩ := qA8
  obtain ⟨h1, h2, h3, h4⟩ := A8w.ch
  have lw1 : x < wa := Nat.lt_of_lt_of_le E.lt gw
  have nm : ∀ {t : Addr}, t < x → t ∉ [x, wa, ps, pi, ta, td] := fun {t} h hm => by
    have g1 := Nat.lt_trans h lw1
    have g2 := Nat.lt_trans g1 h1
    have g3 := Nat.lt_trans g2 h2
    have g4 := Nat.lt_trans g3 h3
    have g5 := Nat.lt_trans g4 h4
    simp only [List.mem_cons, List.not_mem_nil, or_false] at hm
    rcases hm with e | e | e | e | e | e <;> (rw [e] at h g1 g2 g3 g4 g5) <;> first | exact Nat.lt_irrefl _ h | exact Nat.lt_irrefl _ g1 | exact Nat.lt_irrefl _ g2 | exact Nat.lt_irrefl _ g3 | exact Nat.lt_irrefl _ g4 | exact Nat.lt_irrefl _ g5
  have nx1 : ∀ {t : Addr}, t < x → t ∉ [x] := fun h => by simpa using Nat.ne_of_lt h
  have nx2 : ∀ {t : Addr}, t < x → t ∉ [x, ta] := fun {t} h hm => nm h (by simp only [List.mem_cons, List.not_mem_nil, or_false] at hm ⊢; rcases hm with h | h <;> simp [h])
  replace T1 := (T1.ky K1).ky K8 (nx1 lx1)
  replace T2 := (T2.ky K1).ky K8 (nx1 lx2)
  have A9 := A8.run [(17, .astore 4, 19, 0), (19, .aload 4, 21, 0), (21, .aload_n 2, 22, 0), (22, .iconst 0, 23, 0), (23, .iconst 4, 24, 4)] (pe := 24) (by decide +kernel) rfl
  obtain ⟨_, HA10, qA10, A10, moA10, szA10⟩ := A9.callV (argsL := [.ref t1, .int 0, .int 4]) (wd_39 G) (wd_40 G) (wd_42 G) rfl (wd_42 G) (wd_41 G) (wd_10 G) (wd_43 G) F8.e (c_rd G (by decide) (nm lx1) F8 A8w T1) (by decide) ⟨_, _, (by decide +kernel : parseMethodDescriptor "([BII)V" = some ⟨[(.array .byte), .int, .int], none⟩), rfl⟩ (by decide +kernel) (Wd := 0) (by decide) (Nat.le_of_ble_eq_true rfl) (by decide) (by decide) (by decide)
  obtain ⟨rfl, sz1, dn1, S1, I1, TT1, DD1, K10, F10, A10w, hs1, hd1⟩ := qA10
  replace T2 := T2.ky K10 (nm lx2)
  have A11 := A10.run [(27, .aload 4, 29, 0)] (pe := 29) (by decide +kernel) rfl
  obtain ⟨_, HA12, qA12, A12, moA12, szA12⟩ := A11.callV (argsL := []) (wd_178 G) (wd_179 G) (wd_181 G) rfl (wd_181 G) (wd_180 G) (wd_10 G) (wd_182 G) F10.e (c_emp G F10 A10w) (by decide) ⟨_, _, (by decide +kernel : parseMethodDescriptor "()V" = some ⟨[], none⟩), rfl⟩ (by decide +kernel) (Wd := 0) (by decide) (Nat.le_of_ble_eq_true rfl) (by decide) (by decide) (by decide)
  obtain ⟨rfl, K12, F12, TT2, hz2, A12w⟩ := qA12
  replace T2 := T2.ky K12 (nx2 lx2)
  have A13 := A12.run [(32, .aload 4, 34, 0), (34, .aload_n 3, 35, 0), (35, .iconst 0, 36, 0), (36, .iconst 4, 37, 4)] (pe := 37) (by decide +kernel) rfl
  obtain ⟨_, HA14, qA14, A14, moA14, szA14⟩ := A13.callV (argsL := [.ref t2, .int 0, .int 4]) (wd_39 G) (wd_40 G) (wd_42 G) rfl (wd_42 G) (wd_41 G) (wd_10 G) (wd_43 G) F12.e (c_rd G (by omega) (nm lx2) F12 A12w T2) (by decide) ⟨_, _, (by decide +kernel : parseMethodDescriptor "([BII)V" = some ⟨[(.array .byte), .int, .int], none⟩), rfl⟩ (by decide +kernel) (Wd := 0) (by decide) (Nat.le_of_ble_eq_true rfl) (by decide) (by decide) (by decide)
  obtain ⟨rfl, sz3, dn3, S3, I3, TT3, DD3, K14, F14, A14w, hs3, hd3⟩ := qA14
  have A15 := A14.run [(40, .aload 4, 42, 0)] (pe := 42) (by decide +kernel) rfl
  obtain ⟨_, HA16, qA16, A16, moA16, szA16⟩ := A15.callV (argsL := []) (wd_178 G) (wd_179 G) (wd_181 G) rfl (wd_181 G) (wd_180 G) (wd_10 G) (wd_182 G) F14.e (c_emp G F14 A14w) (by decide) ⟨_, _, (by decide +kernel : parseMethodDescriptor "()V" = some ⟨[], none⟩), rfl⟩ (by decide +kernel) (Wd := 0) (by decide) (Nat.le_of_ble_eq_true rfl) (by decide) (by decide) (by decide)
  obtain ⟨rfl, K16, F16, TT4, hz4, A16w⟩ := qA16
  have A17 := A16.run [(45, .aload 4, 47, 0)] (pe := 47) (by decide +kernel) rfl
  obtain ⟨_, HA18, qA18, A18, moA18, szA18⟩ := A17.callV (argsL := []) (wd_183 G) (wd_184 G) (wd_186 G) rfl (wd_186 G) (wd_185 G) (wd_10 G) (wd_187 G) F16.e (c_szW G F16) (by decide) ⟨_, _, (by decide +kernel : parseMethodDescriptor "()I" = some ⟨[], some .int⟩), rfl⟩ (by decide +kernel) (Wd := 0) (by decide) (Nat.le_of_ble_eq_true rfl) (by decide) (by decide) (by decide)
  obtain ⟨rfl, rfl⟩ := qA18
  have A19 := A18.run [(50, .istore 5, 52, 0), (52, .aload 4, 54, 0)] (pe := 54) (by decide +kernel) rfl
  obtain ⟨_, HA20, qA20, A20, moA20, szA20⟩ := A19.callV (argsL := []) (wd_188 G) (wd_189 G) (wd_191 G) rfl (wd_191 G) (wd_190 G) (wd_10 G) (wd_192 G) F16.e (c_dsW G F16) (by decide) ⟨_, _, (by decide +kernel : parseMethodDescriptor "()I" = some ⟨[], some .int⟩), rfl⟩ (by decide +kernel) (Wd := 0) (by decide) (Nat.le_of_ble_eq_true rfl) (by decide) (by decide) (by decide)
  obtain ⟨rfl, rfl⟩ := qA20
  have A21 := A20.ifF (cd := .ne) (o := 7) (by decide +kernel) (not_not_intro rfl)
  have A22 := A21.run [(60, .iconst 1, 61, 1), (61, .goto 4, 65, 0), (65, .istore 6, 67, 0), (67, .iload 6, 69, 0)] (pe := 69) (by decide +kernel) rfl
  have Q0a := A22.ifF (cd := .eq) (o := 18) (by decide +kernel) (by show ¬ _ = _; decide)
  have Q0b := Q0a.run [(72, .aload 4, 74, 0), (74, .iconst 0, 75, 0), (75, .iload 5, 77, 0)] (pe := 77) (by decide +kernel) rfl
  obtain ⟨_, HQ0c, qQ0c, Q0c, moQ0c, szQ0c⟩ := Q0b.callS (argsL := [.ref x, .int (0 : Nat).toInt32, .int sz3.toInt32]) (wd_193 G) (wd_194 G) (wd_2 G) (wd_195 G) (c_clM G F16 A16w.t A16w.lt hz4 (k := 0) (by decide) A16w.sz4) (by decide) ⟨_, _, (by decide +kernel : parseMethodDescriptor "(Lcom/example/onepass/onepass/model/Words;II)Z" = some ⟨[(.object "com/example/onepass/onepass/model/Words"), .int, .int], some .boolean⟩), rfl⟩ (by decide +kernel) (Wd := 0) (by decide) (Nat.le_of_ble_eq_true rfl) (by decide) (by decide) (by decide)
  obtain ⟨rfl, rfl⟩ := qQ0c
  have Q0d := Q0c.ifF (cd := .eq) (o := 7) (by decide +kernel) (by show ¬ _ = _; decide)
  have Q0e := Q0d.run [(83, .iconst 1, 84, 1), (84, .goto 4, 88, 0), (88, .istore 6, 90, 0), (90, .iload 6, 92, 0)] (pe := 92) (by decide +kernel) rfl
  have Q1a := Q0e.ifF (cd := .eq) (o := 18) (by decide +kernel) (by show ¬ _ = _; decide)
  have Q1b := Q1a.run [(95, .aload 4, 97, 0), (97, .iconst 1, 98, 1), (98, .iload 5, 100, 0)] (pe := 100) (by decide +kernel) rfl
  obtain ⟨_, HQ1c, qQ1c, Q1c, moQ1c, szQ1c⟩ := Q1b.callS (argsL := [.ref x, .int (1 : Nat).toInt32, .int sz3.toInt32]) (wd_193 G) (wd_194 G) (wd_2 G) (wd_195 G) (c_clM G F16 A16w.t A16w.lt hz4 (k := 1) (by decide) A16w.sz4) (by decide) ⟨_, _, (by decide +kernel : parseMethodDescriptor "(Lcom/example/onepass/onepass/model/Words;II)Z" = some ⟨[(.object "com/example/onepass/onepass/model/Words"), .int, .int], some .boolean⟩), rfl⟩ (by decide +kernel) (Wd := 0) (by decide) (Nat.le_of_ble_eq_true rfl) (by decide) (by decide) (by decide)
  obtain ⟨rfl, rfl⟩ := qQ1c
  have Q1d := Q1c.ifF (cd := .eq) (o := 7) (by decide +kernel) (by show ¬ _ = _; decide)
  have Q1e := Q1d.run [(106, .iconst 1, 107, 1), (107, .goto 4, 111, 0), (111, .istore 6, 113, 0), (113, .iload 6, 115, 0)] (pe := 115) (by decide +kernel) rfl
  have Q2a := Q1e.ifF (cd := .eq) (o := 18) (by decide +kernel) (by show ¬ _ = _; decide)
  have Q2b := Q2a.run [(118, .aload 4, 120, 0), (120, .iconst 2, 121, 2), (121, .iload 5, 123, 0)] (pe := 123) (by decide +kernel) rfl
  obtain ⟨_, HQ2c, qQ2c, Q2c, moQ2c, szQ2c⟩ := Q2b.callS (argsL := [.ref x, .int (2 : Nat).toInt32, .int sz3.toInt32]) (wd_193 G) (wd_194 G) (wd_2 G) (wd_195 G) (c_clM G F16 A16w.t A16w.lt hz4 (k := 2) (by decide) A16w.sz4) (by decide) ⟨_, _, (by decide +kernel : parseMethodDescriptor "(Lcom/example/onepass/onepass/model/Words;II)Z" = some ⟨[(.object "com/example/onepass/onepass/model/Words"), .int, .int], some .boolean⟩), rfl⟩ (by decide +kernel) (Wd := 0) (by decide) (Nat.le_of_ble_eq_true rfl) (by decide) (by decide) (by decide)
  obtain ⟨rfl, rfl⟩ := qQ2c
  have Q2d := Q2c.ifF (cd := .eq) (o := 7) (by decide +kernel) (by show ¬ _ = _; decide)
  have Q2e := Q2d.run [(129, .iconst 1, 130, 1), (130, .goto 4, 134, 0), (134, .istore 6, 136, 0), (136, .iload 6, 138, 0)] (pe := 138) (by decide +kernel) rfl
  have Q3a := Q2e.ifF (cd := .eq) (o := 18) (by decide +kernel) (by show ¬ _ = _; decide)
  have Q3b := Q3a.run [(141, .aload 4, 143, 0), (143, .iconst 3, 144, 3), (144, .iload 5, 146, 0)] (pe := 146) (by decide +kernel) rfl
  obtain ⟨_, HQ3c, qQ3c, Q3c, moQ3c, szQ3c⟩ := Q3b.callS (argsL := [.ref x, .int (3 : Nat).toInt32, .int sz3.toInt32]) (wd_193 G) (wd_194 G) (wd_2 G) (wd_195 G) (c_clM G F16 A16w.t A16w.lt hz4 (k := 3) (by decide) A16w.sz4) (by decide) ⟨_, _, (by decide +kernel : parseMethodDescriptor "(Lcom/example/onepass/onepass/model/Words;II)Z" = some ⟨[(.object "com/example/onepass/onepass/model/Words"), .int, .int], some .boolean⟩), rfl⟩ (by decide +kernel) (Wd := 0) (by decide) (Nat.le_of_ble_eq_true rfl) (by decide) (by decide) (by decide)
  obtain ⟨rfl, rfl⟩ := qQ3c
  have Q3d := Q3c.ifF (cd := .eq) (o := 7) (by decide +kernel) (by show ¬ _ = _; decide)
  have Q3e := Q3d.run [(152, .iconst 1, 153, 1), (153, .goto 4, 157, 0), (157, .istore 6, 159, 0), (159, .iload 6, 161, 0)] (pe := 161) (by decide +kernel) rfl
  exact ⟨_, _, _, _, Q3e.retZ (by decide +kernel) rfl, rfl, by decide, by decide⟩
end LawW

set_option maxRecDepth 65536 in
theorem comes_1 {Post : Tables → Env → Array Value → State → Outcome → State → Prop} (hpost : ∀ tb e args s v u, (limb_1_1.after args s (.returned v) u = true ∧ limb_1_2.after args s (.returned v) u = true) → FrameEnd s (.returned v) u (Jvm.fieldLocs frame_1_writes args s ++ Jvm.arrayLocs frame_1_arrays args s ++ Jvm.staticLocs frame_1_statics s) 64 31040 → Post tb e args s (.returned v) u) :
    ArmFor flags0 classFile x code maxLocals ret World_1 tables_1 room_1 Calls_1 rest_1 Pre_1 Post := by
  intro l hfl _ _ p e ha hc hk s m args below hf hA hF happ hP
  obtain ⟨hcalls, hrest, hpre⟩ := hP
  obtain ⟨-, -, -, hnamed, -, -, -, hat⟩ := (Spec.applies_iff hf).mp happ
  obtain ⟨hg, hn⟩ := and_e (Cond.before_iff.mp (show (Jvm.Cond.and given_1 narrow_1).before args s = true from hpre))
  obtain ⟨h1, g0⟩ := and_e hg
  obtain ⟨f0, g1⟩ := and_e g0
  have f1 := g1
  obtain ⟨w0, w1, rfl⟩ : ∃ w0 w1 : Value, args = #[w0, w1] := by
    have hs : args.size = 2 := by simpa [Cond.value, given_1] using h1
    obtain ⟨L⟩ := args
    match L, hs with
    | [w0, w1], _ => exact ⟨w0, w1, rfl⟩
  have hw := fun d (hd : d ∈ tables_1) => atoms_spec (ws := Jvm.Cond.code x code maxLocals ret :: tables_1) hat d (List.mem_cons_of_mem _ hd)
  obtain ⟨hsets, hown0⟩ := atoms_of _ (rest_1_c_eq ▸ (show rest_1_c.before _ s = true from hrest))
  have hfit : Fit s := fun {y c} hc i hi => by
    obtain ⟨ha, rfl⟩ := Array.getElem?_eq_some_iff.mp hc
    have q := List.all_eq_true.mp ((Array.all_eq_true_iff_forall_mem.mp hF) _ (Array.getElem_mem ha)) i (List.mem_range.mpr hi)
    simpa [Array.getElem?_eq_getElem hi] using q
  obtain ⟨i0, e0⟩ := is_v f0
  obtain rfl : w0 = .int i0 := Option.some.inj e0
  obtain ⟨i1, e1⟩ := is_v f1
  obtain rfl : w1 = .int i1 := Option.some.inj e1
  have G : Glb s #[.int i0, .int i1] := ⟨hw, hsets, hfit, hn⟩
  obtain ⟨n, o, h1, h2, h3, v, L, O, rfl, hv, -, -, N, hq⟩ := c_law (l := l) (H := (s.heap, fun _ => False)) G i0 i1 p e ha hc hk s m _ below hf ((Spec.applies_iff_loose hf).mp happ).1 ⟨rfl, State.Warmed39.refl s, rfl, ⟨ext_refl _, fun _ q => q.elim⟩⟩ trivial
  subst hv
  refine ⟨n, _, h1, h2, h3, hpost _ _ _ _ _ _ ⟨Cond.after_iff.mpr rfl, Cond.after_iff.mpr (eq_i res_at (Term.int_eval (1)) rfl)⟩ ⟨hq.1, hq.2.1, (hq.2.2.sift fun y hy => Or.inr (N y hy)).mono (by decide) (by decide)⟩⟩
theorem main_1_1 : Claimed_1_1 := comes_1 fun _ _ _ _ _ _ h hF => ⟨h.1, hF⟩
theorem main_1_2 : Claimed_1_2 := comes_1 fun _ _ _ _ _ _ h hF => ⟨h.2, hF⟩
end Jvm.Pilot.@@N@@
namespace Jvm.Pilot.@@N@@
open Jvm Jvm.ClassFile Sem Op Lib Jvm.Free Jvm.Stand Jvm.Pilot.@@N@@.Jvm.D
/-! MADE BY PROGRAM (witnessworld.py) out of the Statement's table words and the real class files: 26 classes; the members and pool entries that the words name. The judged class is class 1, her method 4. -/
namespace start1
open Jvm.ClassFile
def u (s : String) : CpInfo := .utf8 (stringToUtf16 s)
/-- a pool by its gaps: so many unusable entries, then the entry; so many at the end -/
def gap : Nat → List CpInfo → List CpInfo
  | 0, r => r
  | n + 1, r => .unusable :: gap n r
def poolList (es : List (Nat × CpInfo)) (last : Nat) : List CpInfo := es.foldr (fun e r => gap e.1 (e.2 :: r)) (gap last [])
def pool (es : List (Nat × CpInfo)) (last : Nat) : Array CpInfo := ⟨poolList es last⟩
def fileOf (pool : Array CpInfo) (this : Nat) (attrs : Array Attribute := #[]) (ms : Array MethodInfo := #[]) (fl : Nat := 33) (sup : Nat := 0) (ifs : Array Nat := #[]) (fds : Array FieldInfo := #[]) : ClassFile where
  minorVersion := 0
  majorVersion := 65
  constantPool := pool
  accessFlags := fl
  thisClass := this
  superClass := sup
  interfaces := ifs
  fields := fds
  methods := ms
  attributes := attrs
def plain (name : String) (sup : Option ClassId) : Class where
  name := name
  kind := .ordinary
  loader := none
  accessFlags := 33
  super := sup
  interfaces := #[]
  cf := none
  fields := #[]
  methods := #[]
  instanceTypes := #[]
  staticTypes := #[]
  resolved := #[]
  callSites := []
  init := .initialized
  statics := none
  mirror := none

def pool0 : Array CpInfo := pool [(5, u "<init>"), (0, u "()V"), (1, .class_ 10), (1, u "java/lang/Object")] 113

def k0c0 : Code := { maxStack := 0, maxLocals := 1, code := object_method_1_code, exceptionTable := #[], attributes := #[] }
def k0m0 : Method := { name := "<init>", desc := "()V", sig := { parameters := [], returnType := none }, accessFlags := 1, code := some k0c0 }
/-- java/lang/Object -/
def k0 : Class := { plain "java/lang/Object" none with
  accessFlags := 33
  interfaces := #[]
  cf := some (fileOf pool0 8 #[] #[{ accessFlags := 1, nameIndex := 5, descriptorIndex := 6, attributes := #[] }] 33 0 #[] #[])
  fields := #[]
  methods := #[k0m0]
  instanceTypes := #[]
  staticTypes := #[]
  resolved := Array.replicate 124 none
  statics := none }

def pool1 : Array CpInfo := pool [(2, .class_ 4), (0, .nameAndType 5 6), (0, u "java/lang/Object"), (0, u "<init>"), (0, u "()V"), (0, .methodref 8 9), (0, .class_ 10), (0, .nameAndType 11 12), (0, u "com/example/onepass/onepass/model/WordsEmptyPinLaw"), (0, u "pick"), (0, u "(I)B"), (0, .methodref 14 15), (0, .class_ 16), (0, .nameAndType 17 18), (0, u "com/example/onepass/onepass/model/Words"), (0, u "occurrences"), (0, u "(I)J"), (0, .methodref 8 20), (0, .nameAndType 21 22), (0, u "line"), (0, u "(I)[B"), (0, .methodref 14 3), (0, .methodref 14 25), (0, .nameAndType 26 27), (0, u "read"), (0, u "([BII)V"), (0, .methodref 14 29), (0, .nameAndType 30 6), (0, u "empty"), (0, .methodref 14 32), (0, .nameAndType 33 34), (0, u "size"), (0, u "()I"), (0, .methodref 14 36), (0, .nameAndType 37 34), (0, u "distinct"), (0, .methodref 8 39), (0, .nameAndType 40 41), (0, u "cleared"), (0, u "(Lcom/example/onepass/onepass/model/Words;II)Z"), (3, u "law"), (0, u "(II)Z")] 4

def k1m0 : Method := { name := "<init>", desc := "()V", sig := { parameters := [], returnType := none }, accessFlags := 1, code := none }
def k1c1 : Code := { maxStack := 2, maxLocals := 3, code := method_2_code, exceptionTable := #[], attributes := #[] }
def k1m1 : Method := { name := "pick", desc := "(I)B", sig := { parameters := [.int], returnType := some .byte }, accessFlags := 10, code := some k1c1 }
def k1c2 : Code := { maxStack := 5, maxLocals := 1, code := method_3_code, exceptionTable := #[], attributes := #[] }
def k1m2 : Method := { name := "line", desc := "(I)[B", sig := { parameters := [.int], returnType := some (.array .byte) }, accessFlags := 10, code := some k1c2 }
def k1c3 : Code := { maxStack := 4, maxLocals := 3, code := method_4_code, exceptionTable := #[], attributes := #[] }
def k1m3 : Method := { name := "cleared", desc := "(Lcom/example/onepass/onepass/model/Words;II)Z", sig := { parameters := [(.object "com/example/onepass/onepass/model/Words"), .int, .int], returnType := some .boolean }, accessFlags := 10, code := some k1c3 }
def k1c4 : Code := { maxStack := 4, maxLocals := 7, code := code, exceptionTable := #[], attributes := #[] }
def k1m4 : Method := { name := "law", desc := "(II)Z", sig := { parameters := [.int, .int], returnType := some .boolean }, accessFlags := 9, code := some k1c4 }
/-- com/example/onepass/onepass/model/WordsEmptyPinLaw -/
def k1 : Class := { plain "com/example/onepass/onepass/model/WordsEmptyPinLaw" (some 0) with
  accessFlags := 49
  interfaces := #[]
  cf := some (fileOf pool1 8 #[] #[{ accessFlags := 1, nameIndex := 5, descriptorIndex := 6, attributes := #[] }, { accessFlags := 10, nameIndex := 11, descriptorIndex := 12, attributes := #[] }, { accessFlags := 10, nameIndex := 21, descriptorIndex := 22, attributes := #[] }, { accessFlags := 10, nameIndex := 40, descriptorIndex := 41, attributes := #[] }, { accessFlags := 9, nameIndex := 45, descriptorIndex := 46, attributes := #[] }] 49 2 #[] #[])
  fields := #[]
  methods := #[k1m0, k1m1, k1m2, k1m3, k1m4]
  instanceTypes := #[]
  staticTypes := #[]
  resolved := Array.replicate 51 none
  statics := none }

def pool2 : Array CpInfo := pool [(1, .methodref 2 3), (0, .class_ 4), (0, .nameAndType 5 6), (0, u "java/lang/Object"), (0, u "<init>"), (0, u "()V"), (0, .class_ 8), (0, u "java/lang/String"), (0, .fieldref 10 11), (0, .class_ 12), (0, .nameAndType 13 14), (0, u "com/example/onepass/onepass/model/Words"), (0, u "words"), (0, u "[Ljava/lang/String;"), (0, .fieldref 10 16), (0, .nameAndType 17 18), (0, u "packedSlots"), (0, u "[J"), (0, .fieldref 10 20), (0, .nameAndType 21 22), (0, u "packedIds"), (0, u "[I"), (0, .fieldref 10 24), (0, .nameAndType 25 26), (0, u "letters"), (0, u "[B"), (0, .fieldref 10 28), (0, .nameAndType 29 22), (0, u "starts"), (0, .fieldref 10 31), (0, .nameAndType 32 22), (0, u "longIds"), (0, .fieldref 10 34), (0, .nameAndType 35 18), (0, u "longSlots"), (0, .fieldref 10 37), (0, .nameAndType 38 18), (0, u "tally"), (0, .fieldref 10 40), (0, .nameAndType 41 22), (0, u "tallied"), (0, .fieldref 10 43), (0, .nameAndType 44 26), (0, u "LETTER_NUMBERS"), (0, .methodref 10 46), (0, .nameAndType 47 48), (0, u "packedNumber"), (0, u "(J)I"), (4, .methodref 10 54), (0, .nameAndType 55 56), (0, u "add"), (0, u "(I)V"), (0, .fieldref 10 58), (0, .nameAndType 59 60), (0, u "distinct"), (0, u "I"), (0, .fieldref 10 62), (0, .nameAndType 63 60), (0, u "size"), (6, .methodref 10 71), (0, .nameAndType 72 48), (0, u "spread"), (0, .fieldref 10 74), (0, .nameAndType 75 60), (0, u "packedSize"), (3, .methodref 10 80), (0, .nameAndType 81 82), (0, u "unpack"), (0, u "(J)Ljava/lang/String;"), (0, .methodref 10 84), (0, .nameAndType 85 86), (0, u "number"), (0, u "(Ljava/lang/String;)I"), (14, u "longSize"), (57, .class_ 160), (0, u "java/lang/StringBuilder"), (0, .methodref 159 162), (0, .nameAndType 5 56), (0, .long 96), (1, .long 31), (1, .methodref 159 168), (0, .nameAndType 169 170), (0, u "append"), (0, u "(C)Ljava/lang/StringBuilder;"), (0, .methodref 159 172), (0, .nameAndType 173 174), (0, u "reverse"), (0, u "()Ljava/lang/StringBuilder;"), (0, .methodref 159 176), (0, .nameAndType 177 178), (0, u "toString"), (0, u "()Ljava/lang/String;"), (0, .long 11400714819323198485), (1, u "MAX_PACKED_LETTERS"), (2, u "MAX_SLOTS"), (2, u "read"), (0, u "([BII)V"), (2, u "()I"), (1, u "occurrences"), (0, u "(I)J"), (0, u "empty")] 7

def k2c0 : Code := { maxStack := 5, maxLocals := 1, code := prog_85_method_1_code, exceptionTable := #[], attributes := #[] }
def k2m0 : Method := { name := "<init>", desc := "()V", sig := { parameters := [], returnType := none }, accessFlags := 1, code := some k2c0 }
def k2c1 : Code := { maxStack := 5, maxLocals := 10, code := prog_85_method_2_code, exceptionTable := #[], attributes := #[] }
def k2m1 : Method := { name := "read", desc := "([BII)V", sig := { parameters := [(.array .byte), .int, .int], returnType := none }, accessFlags := 1, code := some k2c1 }
def k2c2 : Code := { maxStack := 1, maxLocals := 1, code := prog_85_method_3_code, exceptionTable := #[], attributes := #[] }
def k2m2 : Method := { name := "distinct", desc := "()I", sig := { parameters := [], returnType := some .int }, accessFlags := 1, code := some k2c2 }
def k2c3 : Code := { maxStack := 2, maxLocals := 2, code := prog_85_method_5_code, exceptionTable := #[], attributes := #[] }
def k2m3 : Method := { name := "occurrences", desc := "(I)J", sig := { parameters := [.int], returnType := some .long }, accessFlags := 1, code := some k2c3 }
def k2c4 : Code := { maxStack := 4, maxLocals := 2, code := prog_85_method_6_code, exceptionTable := #[], attributes := #[] }
def k2m4 : Method := { name := "empty", desc := "()V", sig := { parameters := [], returnType := none }, accessFlags := 1, code := some k2c4 }
def k2c5 : Code := { maxStack := 1, maxLocals := 1, code := prog_85_method_8_code, exceptionTable := #[], attributes := #[] }
def k2m5 : Method := { name := "size", desc := "()I", sig := { parameters := [], returnType := some .int }, accessFlags := 1, code := some k2c5 }
def k2c6 : Code := { maxStack := 8, maxLocals := 2, code := prog_85_method_9_code, exceptionTable := #[], attributes := #[] }
def k2m6 : Method := { name := "add", desc := "(I)V", sig := { parameters := [.int], returnType := none }, accessFlags := 2, code := some k2c6 }
def k2c7 : Code := { maxStack := 5, maxLocals := 7, code := prog_85_method_10_code, exceptionTable := #[], attributes := #[] }
def k2m7 : Method := { name := "packedNumber", desc := "(J)I", sig := { parameters := [.long], returnType := some .int }, accessFlags := 2, code := some k2c7 }
def k2c8 : Code := { maxStack := 4, maxLocals := 2, code := prog_85_method_13_code, exceptionTable := #[], attributes := #[] }
def k2m8 : Method := { name := "number", desc := "(Ljava/lang/String;)I", sig := { parameters := [(.object "java/lang/String")], returnType := some .int }, accessFlags := 2, code := some k2c8 }
def k2c9 : Code := { maxStack := 7, maxLocals := 5, code := prog_85_method_19_code, exceptionTable := #[], attributes := #[] }
def k2m9 : Method := { name := "unpack", desc := "(J)Ljava/lang/String;", sig := { parameters := [.long], returnType := some (.object "java/lang/String") }, accessFlags := 10, code := some k2c9 }
def k2c10 : Code := { maxStack := 4, maxLocals := 2, code := prog_85_method_20_code, exceptionTable := #[], attributes := #[] }
def k2m10 : Method := { name := "spread", desc := "(J)I", sig := { parameters := [.long], returnType := some .int }, accessFlags := 10, code := some k2c10 }
/-- com/example/onepass/onepass/model/Words -/
def k2 : Class := { plain "com/example/onepass/onepass/model/Words" (some 0) with
  accessFlags := 49
  interfaces := #[]
  cf := some (fileOf pool2 10 #[] #[{ accessFlags := 1, nameIndex := 5, descriptorIndex := 6, attributes := #[] }, { accessFlags := 1, nameIndex := 187, descriptorIndex := 188, attributes := #[] }, { accessFlags := 1, nameIndex := 59, descriptorIndex := 191, attributes := #[] }, { accessFlags := 1, nameIndex := 193, descriptorIndex := 194, attributes := #[] }, { accessFlags := 1, nameIndex := 195, descriptorIndex := 6, attributes := #[] }, { accessFlags := 1, nameIndex := 63, descriptorIndex := 191, attributes := #[] }, { accessFlags := 2, nameIndex := 55, descriptorIndex := 56, attributes := #[] }, { accessFlags := 2, nameIndex := 47, descriptorIndex := 48, attributes := #[] }, { accessFlags := 2, nameIndex := 85, descriptorIndex := 86, attributes := #[] }, { accessFlags := 10, nameIndex := 81, descriptorIndex := 82, attributes := #[] }, { accessFlags := 10, nameIndex := 72, descriptorIndex := 48, attributes := #[] }] 49 2 #[] #[{ accessFlags := 26, nameIndex := 181, descriptorIndex := 60, attributes := #[] }, { accessFlags := 26, nameIndex := 44, descriptorIndex := 26, attributes := #[] }, { accessFlags := 26, nameIndex := 184, descriptorIndex := 60, attributes := #[] }, { accessFlags := 2, nameIndex := 13, descriptorIndex := 14, attributes := #[] }, { accessFlags := 2, nameIndex := 63, descriptorIndex := 60, attributes := #[] }, { accessFlags := 2, nameIndex := 17, descriptorIndex := 18, attributes := #[] }, { accessFlags := 2, nameIndex := 21, descriptorIndex := 22, attributes := #[] }, { accessFlags := 2, nameIndex := 75, descriptorIndex := 60, attributes := #[] }, { accessFlags := 2, nameIndex := 25, descriptorIndex := 26, attributes := #[] }, { accessFlags := 2, nameIndex := 29, descriptorIndex := 22, attributes := #[] }, { accessFlags := 2, nameIndex := 32, descriptorIndex := 22, attributes := #[] }, { accessFlags := 2, nameIndex := 101, descriptorIndex := 60, attributes := #[] }, { accessFlags := 2, nameIndex := 35, descriptorIndex := 18, attributes := #[] }, { accessFlags := 2, nameIndex := 38, descriptorIndex := 18, attributes := #[] }, { accessFlags := 2, nameIndex := 41, descriptorIndex := 22, attributes := #[] }, { accessFlags := 2, nameIndex := 59, descriptorIndex := 60, attributes := #[] }])
  fields := #[{ name := "MAX_PACKED_LETTERS", type := .int, accessFlags := 26, slot := 0, constantValue := 0 }, { name := "LETTER_NUMBERS", type := (.array .byte), accessFlags := 26, slot := 1, constantValue := 0 }, { name := "MAX_SLOTS", type := .int, accessFlags := 26, slot := 2, constantValue := 0 }, { name := "words", type := (.array (.object "java/lang/String")), accessFlags := 2, slot := 0, constantValue := 0 }, { name := "size", type := .int, accessFlags := 2, slot := 1, constantValue := 0 }, { name := "packedSlots", type := (.array .long), accessFlags := 2, slot := 2, constantValue := 0 }, { name := "packedIds", type := (.array .int), accessFlags := 2, slot := 3, constantValue := 0 }, { name := "packedSize", type := .int, accessFlags := 2, slot := 4, constantValue := 0 }, { name := "letters", type := (.array .byte), accessFlags := 2, slot := 5, constantValue := 0 }, { name := "starts", type := (.array .int), accessFlags := 2, slot := 6, constantValue := 0 }, { name := "longIds", type := (.array .int), accessFlags := 2, slot := 7, constantValue := 0 }, { name := "longSize", type := .int, accessFlags := 2, slot := 8, constantValue := 0 }, { name := "longSlots", type := (.array .long), accessFlags := 2, slot := 9, constantValue := 0 }, { name := "tally", type := (.array .long), accessFlags := 2, slot := 10, constantValue := 0 }, { name := "tallied", type := (.array .int), accessFlags := 2, slot := 11, constantValue := 0 }, { name := "distinct", type := .int, accessFlags := 2, slot := 12, constantValue := 0 }]
  methods := #[k2m0, k2m1, k2m2, k2m3, k2m4, k2m5, k2m6, k2m7, k2m8, k2m9, k2m10]
  instanceTypes := #[(.array (.object "java/lang/String")), .int, (.array .long), (.array .int), .int, (.array .byte), (.array .int), (.array .int), .int, (.array .long), (.array .long), (.array .int), .int]
  staticTypes := #[.int, (.array .byte), .int]
  resolved := Array.replicate 203 none
  statics := some 0 }

def pool3 : Array CpInfo := pool [(1, .class_ 2), (0, u "java/io/Serializable"), (0, .class_ 4), (0, u "java/lang/Object")] 2

/-- java/io/Serializable -/
def k3 : Class := { plain "java/io/Serializable" (some 0) with
  accessFlags := 1537
  interfaces := #[]
  cf := some (fileOf pool3 1 #[] #[] 1537 3 #[] #[])
  fields := #[]
  methods := #[]
  instanceTypes := #[]
  staticTypes := #[]
  resolved := Array.replicate 7 none
  statics := none }

def pool4 : Array CpInfo := pool [(1, .class_ 2), (0, u "java/lang/Comparable"), (0, .class_ 4), (0, u "java/lang/Object")] 7

/-- java/lang/Comparable -/
def k4 : Class := { plain "java/lang/Comparable" (some 0) with
  accessFlags := 1537
  interfaces := #[]
  cf := some (fileOf pool4 1 #[] #[] 1537 3 #[] #[])
  fields := #[]
  methods := #[]
  instanceTypes := #[]
  staticTypes := #[]
  resolved := Array.replicate 12 none
  statics := none }

def pool5 : Array CpInfo := pool [(2, .class_ 4), (1, u "java/lang/CharSequence"), (42, .class_ 48), (0, u "java/lang/CharSequence$1CodePointIterator"), (10, .class_ 60), (0, u "java/lang/CharSequence$1CharIterator"), (5, .class_ 67), (0, u "java/lang/Object")] 63

/-- java/lang/CharSequence -/
def k5 : Class := { plain "java/lang/CharSequence" (some 0) with
  accessFlags := 1537
  interfaces := #[]
  cf := some (fileOf pool5 2 #[.nestMembers #[47, 59]] #[] 1537 66 #[] #[])
  fields := #[]
  methods := #[]
  instanceTypes := #[]
  staticTypes := #[]
  resolved := Array.replicate 131 none
  statics := none }

def pool6 : Array CpInfo := pool [(1, .class_ 2), (0, u "java/lang/constant/Constable"), (0, .class_ 4), (0, u "java/lang/Object")] 6

/-- java/lang/constant/Constable -/
def k6 : Class := { plain "java/lang/constant/Constable" (some 0) with
  accessFlags := 1537
  interfaces := #[]
  cf := some (fileOf pool6 1 #[] #[] 1537 3 #[] #[])
  fields := #[]
  methods := #[]
  instanceTypes := #[]
  staticTypes := #[]
  resolved := Array.replicate 11 none
  statics := none }

def pool7 : Array CpInfo := pool [(1, .class_ 2), (0, u "java/lang/constant/ConstantDesc"), (0, .class_ 4), (0, u "java/lang/Object")] 32

/-- java/lang/constant/ConstantDesc -/
def k7 : Class := { plain "java/lang/constant/ConstantDesc" (some 0) with
  accessFlags := 1537
  interfaces := #[]
  cf := some (fileOf pool7 1 #[] #[] 1537 3 #[] #[])
  fields := #[]
  methods := #[]
  instanceTypes := #[]
  staticTypes := #[]
  resolved := Array.replicate 37 none
  statics := none }

def pool8 : Array CpInfo := pool [(1, .methodref 2 3), (0, .class_ 4), (0, .nameAndType 5 6), (0, u "java/lang/Object"), (0, u "<init>"), (0, u "()V"), (2, .fieldref 10 11), (0, .class_ 12), (0, .nameAndType 13 14), (0, u "java/lang/String"), (0, u "value"), (0, u "[B"), (0, .fieldref 10 16), (0, .nameAndType 17 18), (0, u "coder"), (0, u "B"), (2, u "hash"), (0, u "I"), (2, u "hashIsZero"), (0, u "Z"), (13, u "COMPACT_STRINGS"), (13, .methodref 55 56), (0, .class_ 57), (0, .nameAndType 58 59), (0, u "java/util/Arrays"), (0, u "copyOfRange"), (0, u "([BII)[B"), (82, u "()Z"), (191, u "()I"), (5, u "()[B"), (148, .methodref 10 490), (0, .nameAndType 5 491), (0, u "(Ljava/lang/AbstractStringBuilder;Ljava/lang/Void;)V"), (1, .nameAndType 494 142), (0, u "isLatin1"), (11, .nameAndType 507 334), (0, u "length"), (41, .methodref 550 506), (0, .class_ 551), (0, u "java/lang/AbstractStringBuilder"), (0, .methodref 550 553), (0, .nameAndType 554 340), (0, u "getValue"), (20, .class_ 576), (0, u "java/lang/CharSequence"), (22, u "CASE_INSENSITIVE_ORDER"), (0, u "Ljava/util/Comparator;"), (446, .methodref 550 493), (53, u "serialPersistentFields"), (0, u "[Ljava/io/ObjectStreamField;"), (0, .class_ 1104), (0, u "java/lang/String$CaseInsensitiveComparator"), (1, .class_ 1107), (0, u "java/io/Serializable"), (0, .class_ 1109), (0, u "java/lang/Comparable"), (0, .class_ 1111), (0, u "java/lang/constant/Constable"), (0, .class_ 1113), (0, u "java/lang/constant/ConstantDesc"), (2, u "serialVersionUID"), (0, u "J"), (3, u "REPL"), (0, u "C"), (2, u "LATIN1"), (1, u "UTF16"), (105, u "(Ljava/lang/StringBuilder;)V")] 217

def k8m0 : Method := { name := "<init>", desc := "()V", sig := { parameters := [], returnType := none }, accessFlags := 1, code := none }
def k8c1 : Code := { maxStack := 3, maxLocals := 2, code := jdk_42_method_53_code, exceptionTable := #[], attributes := #[] }
def k8m1 : Method := { name := "<init>", desc := "(Ljava/lang/StringBuilder;)V", sig := { parameters := [(.object "java/lang/StringBuilder")], returnType := none }, accessFlags := 1, code := some k8c1 }
def k8c2 : Code := { maxStack := 5, maxLocals := 5, code := jdk_42_method_150_code, exceptionTable := #[], attributes := #[] }
def k8m2 : Method := { name := "<init>", desc := "(Ljava/lang/AbstractStringBuilder;Ljava/lang/Void;)V", sig := { parameters := [(.object "java/lang/AbstractStringBuilder"), (.object "java/lang/Void")], returnType := none }, accessFlags := 0, code := some k8c2 }
/-- java/lang/String -/
def k8 : Class := { plain "java/lang/String" (some 0) with
  accessFlags := 49
  interfaces := #[3, 4, 5, 6, 7]
  cf := some (fileOf pool8 10 #[.nestMembers #[1103]] #[{ accessFlags := 1, nameIndex := 5, descriptorIndex := 6, attributes := #[] }, { accessFlags := 1, nameIndex := 5, descriptorIndex := 1233, attributes := #[] }, { accessFlags := 0, nameIndex := 5, descriptorIndex := 491, attributes := #[] }] 49 2 #[1106, 1108, 575, 1110, 1112] #[{ accessFlags := 18, nameIndex := 13, descriptorIndex := 14, attributes := #[] }, { accessFlags := 18, nameIndex := 17, descriptorIndex := 18, attributes := #[] }, { accessFlags := 2, nameIndex := 21, descriptorIndex := 22, attributes := #[] }, { accessFlags := 2, nameIndex := 25, descriptorIndex := 26, attributes := #[] }, { accessFlags := 26, nameIndex := 1116, descriptorIndex := 1117, attributes := #[] }, { accessFlags := 24, nameIndex := 40, descriptorIndex := 26, attributes := #[] }, { accessFlags := 26, nameIndex := 1101, descriptorIndex := 1102, attributes := #[] }, { accessFlags := 26, nameIndex := 1121, descriptorIndex := 1122, attributes := #[] }, { accessFlags := 25, nameIndex := 599, descriptorIndex := 600, attributes := #[] }, { accessFlags := 24, nameIndex := 1125, descriptorIndex := 18, attributes := #[] }, { accessFlags := 24, nameIndex := 1127, descriptorIndex := 18, attributes := #[] }])
  fields := #[{ name := "value", type := (.array .byte), accessFlags := 18, slot := 0, constantValue := 0 }, { name := "coder", type := .byte, accessFlags := 18, slot := 1, constantValue := 0 }, { name := "hash", type := .int, accessFlags := 2, slot := 2, constantValue := 0 }, { name := "hashIsZero", type := .boolean, accessFlags := 2, slot := 3, constantValue := 0 }, { name := "serialVersionUID", type := .long, accessFlags := 26, slot := 0, constantValue := 0 }, { name := "COMPACT_STRINGS", type := .boolean, accessFlags := 24, slot := 1, constantValue := 0 }, { name := "serialPersistentFields", type := (.array (.object "java/io/ObjectStreamField")), accessFlags := 26, slot := 2, constantValue := 0 }, { name := "REPL", type := .char, accessFlags := 26, slot := 3, constantValue := 0 }, { name := "CASE_INSENSITIVE_ORDER", type := (.object "java/util/Comparator"), accessFlags := 25, slot := 4, constantValue := 0 }, { name := "LATIN1", type := .byte, accessFlags := 24, slot := 5, constantValue := 0 }, { name := "UTF16", type := .byte, accessFlags := 24, slot := 6, constantValue := 0 }]
  methods := #[k8m0, k8m1, k8m2]
  instanceTypes := #[(.array .byte), .byte, .int, .boolean]
  staticTypes := #[.long, .boolean, (.array (.object "java/io/ObjectStreamField")), .char, (.object "java/util/Comparator"), .byte, .byte]
  resolved := Array.replicate 1451 none
  statics := some 1 }

def pool9 : Array CpInfo := pool [(1, .class_ 2), (0, u "java/lang/Appendable"), (0, .class_ 4), (0, u "java/lang/Object")] 9

/-- java/lang/Appendable -/
def k9 : Class := { plain "java/lang/Appendable" (some 0) with
  accessFlags := 1537
  interfaces := #[]
  cf := some (fileOf pool9 1 #[] #[] 1537 3 #[] #[])
  fields := #[]
  methods := #[]
  instanceTypes := #[]
  staticTypes := #[]
  resolved := Array.replicate 14 none
  statics := none }

def pool10 : Array CpInfo := pool [(1, .class_ 2), (0, u "java/lang/String"), (0, .methodref 4 5), (0, .class_ 6), (0, .nameAndType 7 8), (0, u "java/lang/Object"), (0, u "<init>"), (0, u "()V"), (1, .class_ 12), (1, u "java/lang/AbstractStringBuilder"), (0, u "EMPTYVALUE"), (0, u "[B"), (0, .fieldref 10 16), (0, .nameAndType 17 14), (0, u "value"), (0, .fieldref 1 19), (0, .nameAndType 20 21), (0, u "COMPACT_STRINGS"), (0, u "Z"), (0, .fieldref 10 23), (0, .nameAndType 24 25), (0, u "coder"), (0, u "B"), (8, u "length"), (0, u "()I"), (9, u "append"), (2, .class_ 49), (0, u "java/lang/CharSequence"), (25, u "maybeLatin1"), (3, .fieldref 10 80), (0, .nameAndType 81 82), (0, u "count"), (0, u "I"), (0, .methodref 10 84), (0, .nameAndType 85 86), (0, u "isLatin1"), (0, u "()Z"), (1, .class_ 90), (1, u "java/lang/StringLatin1"), (9, .methodref 10 101), (0, .nameAndType 102 103), (0, u "ensureCapacityInternal"), (0, u "(I)V"), (87, .methodref 88 192), (0, .nameAndType 193 194), (0, u "canEncode"), (0, u "(C)Z"), (12, u "()Ljava/lang/AbstractStringBuilder;"), (84, u "(C)Ljava/lang/AbstractStringBuilder;"), (67, u "reverse"), (42, u "()[B"), (40, .class_ 445), (0, u "java/lang/Appendable"), (106, u "getValue")] 56

def k10m0 : Method := { name := "<init>", desc := "()V", sig := { parameters := [], returnType := none }, accessFlags := 0, code := none }
def k10c1 : Code := { maxStack := 2, maxLocals := 2, code := jdk_68_method_2_code, exceptionTable := #[], attributes := #[] }
def k10m1 : Method := { name := "<init>", desc := "(I)V", sig := { parameters := [.int], returnType := none }, accessFlags := 0, code := some k10c1 }
def k10c2 : Code := { maxStack := 1, maxLocals := 1, code := jdk_68_method_6_code, exceptionTable := #[], attributes := #[] }
def k10m2 : Method := { name := "length", desc := "()I", sig := { parameters := [], returnType := some .int }, accessFlags := 1, code := some k10c2 }
def k10c3 : Code := { maxStack := 4, maxLocals := 3, code := jdk_68_method_9_code, exceptionTable := #[], attributes := #[] }
def k10m3 : Method := { name := "ensureCapacityInternal", desc := "(I)V", sig := { parameters := [.int], returnType := none }, accessFlags := 2, code := some k10c3 }
def k10c4 : Code := { maxStack := 5, maxLocals := 2, code := jdk_68_method_31_code, exceptionTable := #[], attributes := #[] }
def k10m4 : Method := { name := "append", desc := "(C)Ljava/lang/AbstractStringBuilder;", sig := { parameters := [.char], returnType := some (.object "java/lang/AbstractStringBuilder") }, accessFlags := 1, code := some k10c4 }
def k10c5 : Code := { maxStack := 4, maxLocals := 7, code := jdk_68_method_60_code, exceptionTable := #[], attributes := #[] }
def k10m5 : Method := { name := "reverse", desc := "()Ljava/lang/AbstractStringBuilder;", sig := { parameters := [], returnType := some (.object "java/lang/AbstractStringBuilder") }, accessFlags := 1, code := some k10c5 }
def k10c6 : Code := { maxStack := 1, maxLocals := 1, code := jdk_68_method_64_code, exceptionTable := #[], attributes := #[] }
def k10m6 : Method := { name := "getValue", desc := "()[B", sig := { parameters := [], returnType := some (.array .byte) }, accessFlags := 16, code := some k10c6 }
def k10c7 : Code := { maxStack := 1, maxLocals := 1, code := jdk_68_method_68_code, exceptionTable := #[], attributes := #[] }
def k10m7 : Method := { name := "isLatin1", desc := "()Z", sig := { parameters := [], returnType := some .boolean }, accessFlags := 16, code := some k10c7 }
/-- java/lang/AbstractStringBuilder -/
def k10 : Class := { plain "java/lang/AbstractStringBuilder" (some 0) with
  accessFlags := 1056
  interfaces := #[9, 5]
  cf := some (fileOf pool10 10 #[] #[{ accessFlags := 0, nameIndex := 7, descriptorIndex := 8, attributes := #[] }, { accessFlags := 0, nameIndex := 7, descriptorIndex := 103, attributes := #[] }, { accessFlags := 1, nameIndex := 34, descriptorIndex := 35, attributes := #[] }, { accessFlags := 2, nameIndex := 102, descriptorIndex := 103, attributes := #[] }, { accessFlags := 1, nameIndex := 45, descriptorIndex := 292, attributes := #[] }, { accessFlags := 1, nameIndex := 360, descriptorIndex := 207, attributes := #[] }, { accessFlags := 16, nameIndex := 552, descriptorIndex := 403, attributes := #[] }, { accessFlags := 16, nameIndex := 85, descriptorIndex := 86, attributes := #[] }] 1056 4 #[444, 48] #[{ accessFlags := 0, nameIndex := 17, descriptorIndex := 14, attributes := #[] }, { accessFlags := 0, nameIndex := 24, descriptorIndex := 25, attributes := #[] }, { accessFlags := 0, nameIndex := 75, descriptorIndex := 21, attributes := #[] }, { accessFlags := 0, nameIndex := 81, descriptorIndex := 82, attributes := #[] }, { accessFlags := 26, nameIndex := 13, descriptorIndex := 14, attributes := #[] }])
  fields := #[{ name := "value", type := (.array .byte), accessFlags := 0, slot := 0, constantValue := 0 }, { name := "coder", type := .byte, accessFlags := 0, slot := 1, constantValue := 0 }, { name := "maybeLatin1", type := .boolean, accessFlags := 0, slot := 2, constantValue := 0 }, { name := "count", type := .int, accessFlags := 0, slot := 3, constantValue := 0 }, { name := "EMPTYVALUE", type := (.array .byte), accessFlags := 26, slot := 0, constantValue := 0 }]
  methods := #[k10m0, k10m1, k10m2, k10m3, k10m4, k10m5, k10m6, k10m7]
  instanceTypes := #[(.array .byte), .byte, .boolean, .int]
  staticTypes := #[(.array .byte)]
  resolved := Array.replicate 609 none
  statics := none }

def pool11 : Array CpInfo := pool [(1, .methodref 2 3), (0, .class_ 4), (0, .nameAndType 5 6), (0, u "java/lang/AbstractStringBuilder"), (0, u "<init>"), (0, u "(I)V"), (11, .class_ 20), (1, u "java/lang/String"), (3, .class_ 26), (1, u "java/lang/StringBuilder"), (0, u "append"), (22, .methodref 2 51), (0, .nameAndType 27 52), (0, u "(C)Ljava/lang/AbstractStringBuilder;"), (74, .methodref 2 128), (0, .nameAndType 129 130), (0, u "reverse"), (0, u "()Ljava/lang/AbstractStringBuilder;"), (6, .methodref 18 138), (0, .nameAndType 5 139), (0, u "(Ljava/lang/StringBuilder;)V"), (5, u "()V"), (10, u "()I"), (59, u "()Ljava/lang/StringBuilder;"), (69, u "(C)Ljava/lang/StringBuilder;"), (56, .methodref 2 344), (0, .nameAndType 345 156), (0, u "length"), (3, .class_ 350), (0, u "java/lang/Appendable"), (0, .class_ 352), (0, u "java/io/Serializable"), (0, .class_ 354), (0, u "java/lang/Comparable"), (0, .class_ 356), (0, u "java/lang/CharSequence"), (0, u "serialVersionUID"), (0, u "J"), (40, u "toString"), (0, u "()Ljava/lang/String;")] 21

def k11m0 : Method := { name := "<init>", desc := "()V", sig := { parameters := [], returnType := none }, accessFlags := 1, code := none }
def k11c1 : Code := { maxStack := 2, maxLocals := 2, code := jdk_67_method_2_code, exceptionTable := #[], attributes := #[] }
def k11m1 : Method := { name := "<init>", desc := "(I)V", sig := { parameters := [.int], returnType := none }, accessFlags := 1, code := some k11c1 }
def k11c2 : Code := { maxStack := 2, maxLocals := 2, code := jdk_67_method_14_code, exceptionTable := #[], attributes := #[] }
def k11m2 : Method := { name := "append", desc := "(C)Ljava/lang/StringBuilder;", sig := { parameters := [.char], returnType := some (.object "java/lang/StringBuilder") }, accessFlags := 1, code := some k11c2 }
def k11c3 : Code := { maxStack := 1, maxLocals := 1, code := jdk_67_method_39_code, exceptionTable := #[], attributes := #[] }
def k11m3 : Method := { name := "reverse", desc := "()Ljava/lang/StringBuilder;", sig := { parameters := [], returnType := some (.object "java/lang/StringBuilder") }, accessFlags := 1, code := some k11c3 }
def k11c4 : Code := { maxStack := 3, maxLocals := 1, code := jdk_67_method_42_code, exceptionTable := #[], attributes := #[] }
def k11m4 : Method := { name := "toString", desc := "()Ljava/lang/String;", sig := { parameters := [], returnType := some (.object "java/lang/String") }, accessFlags := 1, code := some k11c4 }
def k11c5 : Code := { maxStack := 1, maxLocals := 1, code := jdk_67_method_93_code, exceptionTable := #[], attributes := #[] }
def k11m5 : Method := { name := "length", desc := "()I", sig := { parameters := [], returnType := some .int }, accessFlags := 4161, code := some k11c5 }
/-- java/lang/StringBuilder -/
def k11 : Class := { plain "java/lang/StringBuilder" (some 10) with
  accessFlags := 49
  interfaces := #[9, 3, 4, 5]
  cf := some (fileOf pool11 24 #[] #[{ accessFlags := 1, nameIndex := 5, descriptorIndex := 145, attributes := #[] }, { accessFlags := 1, nameIndex := 5, descriptorIndex := 6, attributes := #[] }, { accessFlags := 1, nameIndex := 27, descriptorIndex := 286, attributes := #[] }, { accessFlags := 1, nameIndex := 129, descriptorIndex := 216, attributes := #[] }, { accessFlags := 1, nameIndex := 399, descriptorIndex := 400, attributes := #[] }, { accessFlags := 4161, nameIndex := 345, descriptorIndex := 156, attributes := #[] }] 49 2 #[349, 351, 353, 355] #[{ accessFlags := 24, nameIndex := 357, descriptorIndex := 358, attributes := #[] }])
  fields := #[{ name := "serialVersionUID", type := .long, accessFlags := 24, slot := 0, constantValue := 0 }]
  methods := #[k11m0, k11m1, k11m2, k11m3, k11m4, k11m5]
  instanceTypes := #[(.array .byte), .byte, .boolean, .int]
  staticTypes := #[.long]
  resolved := Array.replicate 422 none
  statics := none }

def pool12 : Array CpInfo := pool [(4, .class_ 6), (1, u "java/lang/Object"), (0, u "<init>"), (0, u "()V"), (5, .class_ 16), (1, u "java/lang/StringLatin1"), (73, u "canEncode"), (14, u "(C)Z"), (15, u "$assertionsDisabled"), (0, u "Z"), (98, .class_ 223), (1, u "java/lang/StringLatin1$LinesSpliterator"), (166, .class_ 391), (0, u "java/lang/StringLatin1$CharsSpliterator")] 3

def k12m0 : Method := { name := "<init>", desc := "()V", sig := { parameters := [], returnType := none }, accessFlags := 0, code := none }
def k12c1 : Code := { maxStack := 2, maxLocals := 1, code := jdk_43_method_3_code, exceptionTable := #[], attributes := #[] }
def k12m1 : Method := { name := "canEncode", desc := "(C)Z", sig := { parameters := [.char], returnType := some .boolean }, accessFlags := 9, code := some k12c1 }
/-- java/lang/StringLatin1 -/
def k12 : Class := { plain "java/lang/StringLatin1" (some 0) with
  accessFlags := 48
  interfaces := #[]
  cf := some (fileOf pool12 14 #[.nestMembers #[390, 221]] #[{ accessFlags := 0, nameIndex := 7, descriptorIndex := 8, attributes := #[] }, { accessFlags := 9, nameIndex := 90, descriptorIndex := 105, attributes := #[] }] 48 4 #[] #[{ accessFlags := 4120, nameIndex := 121, descriptorIndex := 122, attributes := #[] }])
  fields := #[{ name := "$assertionsDisabled", type := .boolean, accessFlags := 4120, slot := 0, constantValue := 0 }]
  methods := #[k12m0, k12m1]
  instanceTypes := #[]
  staticTypes := #[.boolean]
  resolved := Array.replicate 395 none
  statics := none }

def pool13 : Array CpInfo := pool [(2, .class_ 4), (1, u "java/lang/Object"), (0, u "<init>"), (0, u "()V"), (7, .class_ 16), (1, u "java/util/Arrays"), (57, .class_ 76), (1, u "java/util/Arrays$NaturalOrder"), (36, .class_ 115), (1, u "java/util/Arrays$LegacyMergeSort"), (1, u "Z"), (21, u "copyOfRange"), (10, .methodref 151 152), (0, .class_ 153), (0, .nameAndType 154 155), (0, u "java/lang/System"), (0, u "arraycopy"), (0, u "(Ljava/lang/Object;ILjava/lang/Object;II)V"), (148, .methodref 305 306), (0, .class_ 307), (0, .nameAndType 308 309), (0, u "java/lang/Math"), (0, u "min"), (0, u "(II)I"), (29, .methodref 14 340), (0, .nameAndType 341 342), (0, u "copyOfRangeByte"), (0, u "([BII)[B"), (0, .methodref 14 344), (0, .nameAndType 345 346), (0, u "checkLength"), (0, u "(II)V"), (28, .class_ 376), (0, u "java/util/Arrays$ArrayList"), (68, u "$assertionsDisabled"), (269, u "MIN_ARRAY_SORT_GRAN"), (0, u "I"), (2, u "INSERTIONSORT_THRESHOLD"), (255, .class_ 976), (0, u "java/util/Arrays$ArrayItr")] 52

def k13m0 : Method := { name := "<init>", desc := "()V", sig := { parameters := [], returnType := none }, accessFlags := 2, code := none }
def k13c1 : Code := { maxStack := 4, maxLocals := 2, code := jdk_65_method_131_code, exceptionTable := #[], attributes := #[] }
def k13m1 : Method := { name := "checkLength", desc := "(II)V", sig := { parameters := [.int, .int], returnType := none }, accessFlags := 10, code := some k13c1 }
def k13c2 : Code := { maxStack := 3, maxLocals := 3, code := jdk_65_method_132_code, exceptionTable := #[], attributes := #[] }
def k13m2 : Method := { name := "copyOfRange", desc := "([BII)[B", sig := { parameters := [(.array .byte), .int, .int], returnType := some (.array .byte) }, accessFlags := 9, code := some k13c2 }
def k13c3 : Code := { maxStack := 6, maxLocals := 5, code := jdk_65_method_133_code, exceptionTable := #[], attributes := #[] }
def k13m3 : Method := { name := "copyOfRangeByte", desc := "([BII)[B", sig := { parameters := [(.array .byte), .int, .int], returnType := some (.array .byte) }, accessFlags := 10, code := some k13c3 }
/-- java/util/Arrays -/
def k13 : Class := { plain "java/util/Arrays" (some 0) with
  accessFlags := 49
  interfaces := #[]
  cf := some (fileOf pool13 14 #[.nestMembers #[975, 375, 113, 74]] #[{ accessFlags := 2, nameIndex := 5, descriptorIndex := 6, attributes := #[] }, { accessFlags := 10, nameIndex := 345, descriptorIndex := 346, attributes := #[] }, { accessFlags := 9, nameIndex := 139, descriptorIndex := 342, attributes := #[] }, { accessFlags := 10, nameIndex := 341, descriptorIndex := 342, attributes := #[] }] 49 2 #[] #[{ accessFlags := 26, nameIndex := 715, descriptorIndex := 716, attributes := #[] }, { accessFlags := 26, nameIndex := 719, descriptorIndex := 716, attributes := #[] }, { accessFlags := 4120, nameIndex := 445, descriptorIndex := 117, attributes := #[] }])
  fields := #[{ name := "MIN_ARRAY_SORT_GRAN", type := .int, accessFlags := 26, slot := 0, constantValue := 0 }, { name := "INSERTIONSORT_THRESHOLD", type := .int, accessFlags := 26, slot := 1, constantValue := 0 }, { name := "$assertionsDisabled", type := .boolean, accessFlags := 4120, slot := 2, constantValue := 0 }]
  methods := #[k13m0, k13m1, k13m2, k13m3]
  instanceTypes := #[]
  staticTypes := #[.int, .int, .boolean]
  resolved := Array.replicate 1029 none
  statics := none }

def pool14 : Array CpInfo := pool [(1, .class_ 2), (0, u "java/lang/Math"), (1, .class_ 6), (1, u "java/lang/Object"), (0, u "<init>"), (0, u "()V"), (89, .class_ 100), (1, u "java/lang/Math$RandomNumberGeneratorHolder"), (71, u "negativeZeroFloatBits"), (0, u "J"), (2, u "negativeZeroDoubleBits"), (24, u "min"), (43, u "$assertionsDisabled"), (0, u "Z"), (88, u "(II)I"), (2, u "twoToTheDoubleScaleDown"), (0, u "D"), (4, u "twoToTheDoubleScaleUp"), (9, u "E"), (3, u "PI"), (2, u "TAU"), (2, u "DEGREES_TO_RADIANS"), (0, u "RADIANS_TO_DEGREES")] 94

def k14m0 : Method := { name := "<init>", desc := "()V", sig := { parameters := [], returnType := none }, accessFlags := 2, code := none }
def k14c1 : Code := { maxStack := 2, maxLocals := 2, code := jdk_29_method_69_code, exceptionTable := #[], attributes := #[] }
def k14m1 : Method := { name := "min", desc := "(II)I", sig := { parameters := [.int, .int], returnType := some .int }, accessFlags := 9, code := some k14c1 }
/-- java/lang/Math -/
def k14 : Class := { plain "java/lang/Math" (some 0) with
  accessFlags := 49
  interfaces := #[]
  cf := some (fileOf pool14 1 #[.nestMembers #[98]] #[{ accessFlags := 2, nameIndex := 7, descriptorIndex := 8, attributes := #[] }, { accessFlags := 9, nameIndex := 201, descriptorIndex := 335, attributes := #[] }] 49 4 #[] #[{ accessFlags := 25, nameIndex := 354, descriptorIndex := 339, attributes := #[] }, { accessFlags := 25, nameIndex := 358, descriptorIndex := 339, attributes := #[] }, { accessFlags := 25, nameIndex := 361, descriptorIndex := 339, attributes := #[] }, { accessFlags := 26, nameIndex := 364, descriptorIndex := 339, attributes := #[] }, { accessFlags := 26, nameIndex := 365, descriptorIndex := 339, attributes := #[] }, { accessFlags := 26, nameIndex := 172, descriptorIndex := 173, attributes := #[] }, { accessFlags := 26, nameIndex := 176, descriptorIndex := 173, attributes := #[] }, { accessFlags := 8, nameIndex := 344, descriptorIndex := 339, attributes := #[] }, { accessFlags := 8, nameIndex := 338, descriptorIndex := 339, attributes := #[] }, { accessFlags := 4120, nameIndex := 245, descriptorIndex := 246, attributes := #[] }])
  fields := #[{ name := "E", type := .double, accessFlags := 25, slot := 0, constantValue := 0 }, { name := "PI", type := .double, accessFlags := 25, slot := 1, constantValue := 0 }, { name := "TAU", type := .double, accessFlags := 25, slot := 2, constantValue := 0 }, { name := "DEGREES_TO_RADIANS", type := .double, accessFlags := 26, slot := 3, constantValue := 0 }, { name := "RADIANS_TO_DEGREES", type := .double, accessFlags := 26, slot := 4, constantValue := 0 }, { name := "negativeZeroFloatBits", type := .long, accessFlags := 26, slot := 5, constantValue := 0 }, { name := "negativeZeroDoubleBits", type := .long, accessFlags := 26, slot := 6, constantValue := 0 }, { name := "twoToTheDoubleScaleUp", type := .double, accessFlags := 8, slot := 7, constantValue := 0 }, { name := "twoToTheDoubleScaleDown", type := .double, accessFlags := 8, slot := 8, constantValue := 0 }, { name := "$assertionsDisabled", type := .boolean, accessFlags := 4120, slot := 9, constantValue := 0 }]
  methods := #[k14m0, k14m1]
  instanceTypes := #[]
  staticTypes := #[.double, .double, .double, .double, .double, .long, .long, .double, .double, .boolean]
  resolved := Array.replicate 460 none
  statics := none }

def pool15 : Array CpInfo := pool [(2, .class_ 4), (1, u "java/lang/Object"), (0, u "<init>"), (0, u "()V"), (1, .class_ 10), (1, u "java/lang/System"), (0, u "allowSecurityManager"), (0, u "I"), (16, u "cons"), (0, u "Ljava/io/Console;"), (77, .class_ 110), (1, u "java/lang/System$CallersHolder"), (43, u "initialErrStream"), (0, u "Ljava/io/PrintStream;"), (19, u "security"), (0, u "Ljava/lang/SecurityManager;"), (31, .class_ 209), (0, u "java/lang/System$1"), (7, u "props"), (0, u "Ljava/util/Properties;"), (2, u "lineSeparator"), (0, u "Ljava/lang/String;"), (96, .class_ 321), (1, u "java/lang/System$LoggerFinder"), (5, .class_ 328), (0, u "java/lang/System$Logger"), (67, u "err"), (2, u "out"), (91, u "notSupportedJnuEncoding"), (15, u "in"), (17, u "initialIn"), (0, u "Ljava/io/InputStream;"), (35, u "bootLayer"), (0, u "Ljava/lang/ModuleLayer;"), (99, .class_ 664), (0, u "java/lang/System$2"), (9, u "NEVER"), (2, u "MAYBE"), (49, u "arraycopy"), (0, u "(Ljava/lang/Object;ILjava/lang/Object;II)V"), (72, .class_ 802), (0, u "java/lang/System$Logger$Level")] 31

def k15m0 : Method := { name := "<init>", desc := "()V", sig := { parameters := [], returnType := none }, accessFlags := 2, code := none }
def k15m1 : Method := { name := "arraycopy", desc := "(Ljava/lang/Object;ILjava/lang/Object;II)V", sig := { parameters := [(.object "java/lang/Object"), .int, (.object "java/lang/Object"), .int, .int], returnType := none }, accessFlags := 265, code := none }
/-- java/lang/System -/
def k15 : Class := { plain "java/lang/System" (some 0) with
  accessFlags := 49
  interfaces := #[]
  cf := some (fileOf pool15 8 #[.nestMembers #[319, 327, 801, 108, 663, 208]] #[{ accessFlags := 2, nameIndex := 5, descriptorIndex := 6, attributes := #[] }, { accessFlags := 265, nameIndex := 727, descriptorIndex := 728, attributes := #[] }] 49 2 #[] #[{ accessFlags := 25, nameIndex := 507, descriptorIndex := 526, attributes := #[] }, { accessFlags := 25, nameIndex := 399, descriptorIndex := 155, attributes := #[] }, { accessFlags := 25, nameIndex := 396, descriptorIndex := 155, attributes := #[] }, { accessFlags := 10, nameIndex := 525, descriptorIndex := 526, attributes := #[] }, { accessFlags := 26, nameIndex := 674, descriptorIndex := 12, attributes := #[] }, { accessFlags := 26, nameIndex := 677, descriptorIndex := 12, attributes := #[] }, { accessFlags := 10, nameIndex := 11, descriptorIndex := 12, attributes := #[] }, { accessFlags := 74, nameIndex := 175, descriptorIndex := 176, attributes := #[] }, { accessFlags := 10, nameIndex := 491, descriptorIndex := 222, attributes := #[] }, { accessFlags := 74, nameIndex := 29, descriptorIndex := 30, attributes := #[] }, { accessFlags := 74, nameIndex := 154, descriptorIndex := 155, attributes := #[] }, { accessFlags := 10, nameIndex := 217, descriptorIndex := 218, attributes := #[] }, { accessFlags := 10, nameIndex := 221, descriptorIndex := 222, attributes := #[] }, { accessFlags := 8, nameIndex := 562, descriptorIndex := 563, attributes := #[] }])
  fields := #[{ name := "in", type := (.object "java/io/InputStream"), accessFlags := 25, slot := 0, constantValue := 0 }, { name := "out", type := (.object "java/io/PrintStream"), accessFlags := 25, slot := 1, constantValue := 0 }, { name := "err", type := (.object "java/io/PrintStream"), accessFlags := 25, slot := 2, constantValue := 0 }, { name := "initialIn", type := (.object "java/io/InputStream"), accessFlags := 10, slot := 3, constantValue := 0 }, { name := "NEVER", type := .int, accessFlags := 26, slot := 4, constantValue := 0 }, { name := "MAYBE", type := .int, accessFlags := 26, slot := 5, constantValue := 0 }, { name := "allowSecurityManager", type := .int, accessFlags := 10, slot := 6, constantValue := 0 }, { name := "security", type := (.object "java/lang/SecurityManager"), accessFlags := 74, slot := 7, constantValue := 0 }, { name := "notSupportedJnuEncoding", type := (.object "java/lang/String"), accessFlags := 10, slot := 8, constantValue := 0 }, { name := "cons", type := (.object "java/io/Console"), accessFlags := 74, slot := 9, constantValue := 0 }, { name := "initialErrStream", type := (.object "java/io/PrintStream"), accessFlags := 74, slot := 10, constantValue := 0 }, { name := "props", type := (.object "java/util/Properties"), accessFlags := 10, slot := 11, constantValue := 0 }, { name := "lineSeparator", type := (.object "java/lang/String"), accessFlags := 10, slot := 12, constantValue := 0 }, { name := "bootLayer", type := (.object "java/lang/ModuleLayer"), accessFlags := 8, slot := 13, constantValue := 0 }]
  methods := #[k15m0, k15m1]
  instanceTypes := #[]
  staticTypes := #[(.object "java/io/InputStream"), (.object "java/io/PrintStream"), (.object "java/io/PrintStream"), (.object "java/io/InputStream"), .int, .int, .int, (.object "java/lang/SecurityManager"), (.object "java/lang/String"), (.object "java/io/Console"), (.object "java/io/PrintStream"), (.object "java/util/Properties"), (.object "java/lang/String"), (.object "java/lang/ModuleLayer")]
  resolved := Array.replicate 834 none
  statics := none }

def pool16 : Array CpInfo := pool [(2, .class_ 4), (1, u "java/lang/Object"), (0, u "<init>"), (0, u "()V"), (17, .class_ 26), (1, u "jdk/internal/util/Preconditions"), (28, .class_ 56), (0, u "jdk/internal/util/Preconditions$4"), (57, .class_ 115), (0, u "jdk/internal/util/Preconditions$1"), (7, u "SIOOBE_FORMATTER"), (0, u "Ljava/util/function/BiFunction;"), (0, .class_ 126), (0, u "jdk/internal/util/Preconditions$2"), (3, u "AIOOBE_FORMATTER"), (0, .class_ 132), (0, u "jdk/internal/util/Preconditions$3"), (3, u "IOOBE_FORMATTER")] 57

def k16m0 : Method := { name := "<init>", desc := "()V", sig := { parameters := [], returnType := none }, accessFlags := 1, code := none }
/-- jdk/internal/util/Preconditions -/
def k16 : Class := { plain "jdk/internal/util/Preconditions" (some 0) with
  accessFlags := 33
  interfaces := #[]
  cf := some (fileOf pool16 24 #[.nestMembers #[55, 131, 125, 114]] #[{ accessFlags := 1, nameIndex := 5, descriptorIndex := 6, attributes := #[] }] 33 2 #[] #[{ accessFlags := 25, nameIndex := 123, descriptorIndex := 124, attributes := #[] }, { accessFlags := 25, nameIndex := 130, descriptorIndex := 124, attributes := #[] }, { accessFlags := 25, nameIndex := 136, descriptorIndex := 124, attributes := #[] }])
  fields := #[{ name := "SIOOBE_FORMATTER", type := (.object "java/util/function/BiFunction"), accessFlags := 25, slot := 0, constantValue := 0 }, { name := "AIOOBE_FORMATTER", type := (.object "java/util/function/BiFunction"), accessFlags := 25, slot := 1, constantValue := 0 }, { name := "IOOBE_FORMATTER", type := (.object "java/util/function/BiFunction"), accessFlags := 25, slot := 2, constantValue := 0 }]
  methods := #[k16m0]
  instanceTypes := #[]
  staticTypes := #[(.object "java/util/function/BiFunction"), (.object "java/util/function/BiFunction"), (.object "java/util/function/BiFunction")]
  resolved := Array.replicate 194 none
  statics := some 2 }

def pool17 : Array CpInfo := pool [(9, u "<init>"), (6, .class_ 18), (1, u "java/lang/Object"), (0, u "()V"), (1, .class_ 23), (1, u "jdk/internal/util/ArraysSupport"), (0, u "LOG2_ARRAY_LONG_INDEX_SCALE"), (0, u "I"), (2, u "U"), (0, u "Ljdk/internal/misc/Unsafe;"), (8, u "BIG_ENDIAN"), (0, u "Z"), (8, u "LOG2_BYTE_BIT_SIZE"), (4, u "LOG2_ARRAY_INT_INDEX_SCALE"), (54, u "JLA"), (0, u "Ljdk/internal/access/JavaLangAccess;"), (11, u "LOG2_ARRAY_BOOLEAN_INDEX_SCALE"), (9, u "LOG2_ARRAY_BYTE_INDEX_SCALE"), (5, u "LOG2_ARRAY_CHAR_INDEX_SCALE"), (5, u "LOG2_ARRAY_SHORT_INDEX_SCALE"), (18, u "LOG2_ARRAY_FLOAT_INDEX_SCALE"), (24, u "LOG2_ARRAY_DOUBLE_INDEX_SCALE"), (89, u "T_BOOLEAN"), (2, u "T_CHAR"), (1, u "T_FLOAT"), (1, u "T_DOUBLE"), (1, u "T_BYTE"), (1, u "T_SHORT"), (1, u "T_INT"), (1, u "T_LONG"), (1, u "SOFT_MAX_ARRAY_LENGTH")] 83

def k17m0 : Method := { name := "<init>", desc := "()V", sig := { parameters := [], returnType := none }, accessFlags := 2, code := none }
/-- jdk/internal/util/ArraysSupport -/
def k17 : Class := { plain "jdk/internal/util/ArraysSupport" (some 0) with
  accessFlags := 33
  interfaces := #[]
  cf := some (fileOf pool17 21 #[] #[{ accessFlags := 2, nameIndex := 9, descriptorIndex := 19, attributes := #[] }] 33 16 #[] #[{ accessFlags := 24, nameIndex := 28, descriptorIndex := 29, attributes := #[] }, { accessFlags := 26, nameIndex := 38, descriptorIndex := 39, attributes := #[] }, { accessFlags := 25, nameIndex := 121, descriptorIndex := 25, attributes := #[] }, { accessFlags := 25, nameIndex := 131, descriptorIndex := 25, attributes := #[] }, { accessFlags := 25, nameIndex := 137, descriptorIndex := 25, attributes := #[] }, { accessFlags := 25, nameIndex := 143, descriptorIndex := 25, attributes := #[] }, { accessFlags := 25, nameIndex := 53, descriptorIndex := 25, attributes := #[] }, { accessFlags := 25, nameIndex := 24, descriptorIndex := 25, attributes := #[] }, { accessFlags := 25, nameIndex := 162, descriptorIndex := 25, attributes := #[] }, { accessFlags := 25, nameIndex := 187, descriptorIndex := 25, attributes := #[] }, { accessFlags := 26, nameIndex := 48, descriptorIndex := 25, attributes := #[] }, { accessFlags := 25, nameIndex := 277, descriptorIndex := 25, attributes := #[] }, { accessFlags := 25, nameIndex := 280, descriptorIndex := 25, attributes := #[] }, { accessFlags := 25, nameIndex := 282, descriptorIndex := 25, attributes := #[] }, { accessFlags := 25, nameIndex := 284, descriptorIndex := 25, attributes := #[] }, { accessFlags := 25, nameIndex := 286, descriptorIndex := 25, attributes := #[] }, { accessFlags := 25, nameIndex := 288, descriptorIndex := 25, attributes := #[] }, { accessFlags := 25, nameIndex := 290, descriptorIndex := 25, attributes := #[] }, { accessFlags := 25, nameIndex := 292, descriptorIndex := 25, attributes := #[] }, { accessFlags := 26, nameIndex := 108, descriptorIndex := 109, attributes := #[] }, { accessFlags := 25, nameIndex := 294, descriptorIndex := 25, attributes := #[] }])
  fields := #[{ name := "U", type := (.object "jdk/internal/misc/Unsafe"), accessFlags := 24, slot := 0, constantValue := 0 }, { name := "BIG_ENDIAN", type := .boolean, accessFlags := 26, slot := 1, constantValue := 0 }, { name := "LOG2_ARRAY_BOOLEAN_INDEX_SCALE", type := .int, accessFlags := 25, slot := 2, constantValue := 0 }, { name := "LOG2_ARRAY_BYTE_INDEX_SCALE", type := .int, accessFlags := 25, slot := 3, constantValue := 0 }, { name := "LOG2_ARRAY_CHAR_INDEX_SCALE", type := .int, accessFlags := 25, slot := 4, constantValue := 0 }, { name := "LOG2_ARRAY_SHORT_INDEX_SCALE", type := .int, accessFlags := 25, slot := 5, constantValue := 0 }, { name := "LOG2_ARRAY_INT_INDEX_SCALE", type := .int, accessFlags := 25, slot := 6, constantValue := 0 }, { name := "LOG2_ARRAY_LONG_INDEX_SCALE", type := .int, accessFlags := 25, slot := 7, constantValue := 0 }, { name := "LOG2_ARRAY_FLOAT_INDEX_SCALE", type := .int, accessFlags := 25, slot := 8, constantValue := 0 }, { name := "LOG2_ARRAY_DOUBLE_INDEX_SCALE", type := .int, accessFlags := 25, slot := 9, constantValue := 0 }, { name := "LOG2_BYTE_BIT_SIZE", type := .int, accessFlags := 26, slot := 10, constantValue := 0 }, { name := "T_BOOLEAN", type := .int, accessFlags := 25, slot := 11, constantValue := 0 }, { name := "T_CHAR", type := .int, accessFlags := 25, slot := 12, constantValue := 0 }, { name := "T_FLOAT", type := .int, accessFlags := 25, slot := 13, constantValue := 0 }, { name := "T_DOUBLE", type := .int, accessFlags := 25, slot := 14, constantValue := 0 }, { name := "T_BYTE", type := .int, accessFlags := 25, slot := 15, constantValue := 0 }, { name := "T_SHORT", type := .int, accessFlags := 25, slot := 16, constantValue := 0 }, { name := "T_INT", type := .int, accessFlags := 25, slot := 17, constantValue := 0 }, { name := "T_LONG", type := .int, accessFlags := 25, slot := 18, constantValue := 0 }, { name := "JLA", type := (.object "jdk/internal/access/JavaLangAccess"), accessFlags := 26, slot := 19, constantValue := 0 }, { name := "SOFT_MAX_ARRAY_LENGTH", type := .int, accessFlags := 25, slot := 20, constantValue := 0 }]
  methods := #[k17m0]
  instanceTypes := #[]
  staticTypes := #[(.object "jdk/internal/misc/Unsafe"), .boolean, .int, .int, .int, .int, .int, .int, .int, .int, .int, .int, .int, .int, .int, .int, .int, .int, .int, (.object "jdk/internal/access/JavaLangAccess"), .int]
  resolved := Array.replicate 378 none
  statics := none }

def pool18 : Array CpInfo := pool [(1, u "java/lang/Cloneable"), (0, .class_ 1), (0, u "java/lang/Object"), (0, .class_ 3)] 3

/-- java/lang/Cloneable -/
def k18 : Class := { plain "java/lang/Cloneable" (some 0) with
  accessFlags := 1537
  interfaces := #[]
  cf := some (fileOf pool18 2 #[] #[] 1537 4 #[] #[])
  fields := #[]
  methods := #[]
  instanceTypes := #[]
  staticTypes := #[]
  resolved := Array.replicate 8 none
  statics := none }

/-- the primitive byte -/
def k19 : Class := { plain "byte" none with kind := .primitive 'B', accessFlags := 0x411 }
/-- [B -/
def k20 : Class := { plain "[B" (some 0) with kind := .array 19 .byte, interfaces := #[18, 3], accessFlags := 1041 }

/-- the primitive int -/
def k21 : Class := { plain "int" none with kind := .primitive 'I', accessFlags := 0x411 }
/-- [I -/
def k22 : Class := { plain "[I" (some 0) with kind := .array 21 .int, interfaces := #[18, 3], accessFlags := 1041 }

/-- the primitive long -/
def k23 : Class := { plain "long" none with kind := .primitive 'J', accessFlags := 0x411 }
/-- [J -/
def k24 : Class := { plain "[J" (some 0) with kind := .array 23 .long, interfaces := #[18, 3], accessFlags := 1041 }

/-- [Ljava/lang/String; -/
def k25 : Class := { plain "[Ljava/lang/String;" (some 0) with kind := .array 8 (.object "java/lang/String"), interfaces := #[18, 3], accessFlags := 1041 }

def heap : Heap := #[{ cls := 2, slots := #[.int 0, .ref 3, .int 0], vm := .statics 2 },
  { cls := 8, slots := #[.long 0, .int 1, .null, .int 0, .null, .int 0, .int 0], vm := .statics 8 },
  { cls := 16, slots := #[.null, .null, .null], vm := .statics 16 },
  { cls := 20, slots := #[.int 0, .int 0, .int 0, .int 0, .int 0, .int 0, .int 0, .int 0, .int 0, .int 0, .int 0, .int 0, .int 0, .int 0, .int 0, .int 0, .int 0, .int 0, .int 0, .int 0, .int 0, .int 0, .int 0, .int 0, .int 0, .int 0, .int 0, .int 0, .int 0, .int 0, .int 0, .int 0, .int 0, .int 0, .int 0, .int 0, .int 0, .int 0, .int 0, .int 0, .int 0, .int 0, .int 0, .int 0, .int 0, .int 0, .int 0, .int 0, .int 0, .int 0, .int 0, .int 0, .int 0, .int 0, .int 0, .int 0, .int 0, .int 0, .int 0, .int 0, .int 0, .int 0, .int 0, .int 0, .int 0, .int 1, .int 2, .int 3, .int 4, .int 5, .int 6, .int 7, .int 8, .int 9, .int 10, .int 11, .int 12, .int 13, .int 14, .int 15, .int 16, .int 17, .int 18, .int 19, .int 20, .int 21, .int 22, .int 23, .int 24, .int 25, .int 26, .int 0, .int 0, .int 0, .int 0, .int 0, .int 0, .int 1, .int 2, .int 3, .int 4, .int 5, .int 6, .int 7, .int 8, .int 9, .int 10, .int 11, .int 12, .int 13, .int 14, .int 15, .int 16, .int 17, .int 18, .int 19, .int 20, .int 21, .int 22, .int 23, .int 24, .int 25, .int 26, .int 0, .int 0, .int 0, .int 0, .int 0, .int 0, .int 0, .int 0, .int 0, .int 0, .int 0, .int 0, .int 0, .int 0, .int 0, .int 0, .int 0, .int 0, .int 0, .int 0, .int 0, .int 0, .int 0, .int 0, .int 0, .int 0, .int 0, .int 0, .int 0, .int 0, .int 0, .int 0, .int 0, .int 0, .int 0, .int 0, .int 0, .int 0, .int 0, .int 0, .int 0, .int 0, .int 0, .int 0, .int 0, .int 0, .int 0, .int 0, .int 0, .int 0, .int 0, .int 0, .int 0, .int 0, .int 0, .int 0, .int 0, .int 0, .int 0, .int 0, .int 0, .int 0, .int 0, .int 0, .int 0, .int 0, .int 0, .int 0, .int 0, .int 0, .int 0, .int 0, .int 0, .int 0, .int 0, .int 0, .int 0, .int 0, .int 0, .int 0, .int 0, .int 0, .int 0, .int 0, .int 0, .int 0, .int 0, .int 0, .int 0, .int 0, .int 0, .int 0, .int 0, .int 0, .int 0, .int 0, .int 0, .int 0, .int 0, .int 0, .int 0, .int 0, .int 0, .int 0, .int 0, .int 0, .int 0, .int 0, .int 0, .int 0, .int 0, .int 0, .int 0, .int 0, .int 0, .int 0, .int 0, .int 0, .int 0, .int 0, .int 0, .int 0, .int 0, .int 0, .int 0, .int 0, .int 0, .int 0, .int 0, .int 0, .int 0, .int 0, .int 0], vm := .none }]
def classes : Array Class := #[k0, k1, k2, k3, k4, k5, k6, k7, k8, k9, k10, k11, k12, k13, k14, k15, k16, k17, k18, k19, k20, k21, k22, k23, k24, k25]
def interned : List (Array UInt16 × Addr) := []
def slotsUsed : Nat := 269
def theMethod : MethodId := ⟨1, 4⟩
def args0 : Array Value := #[.int 4, .int 9]
def aboutOver (below : List Frame) : State where
  vm := { classes := classes, interned := interned.toArray }
  heap := heap
  slotsUsed := slotsUsed
  threads := #[{ frames := .invoking theMethod args0 :: below }]
def below0 : List Frame := [.native { method := ⟨0, 0⟩, args := #[] }]
def about1 : State := aboutOver below0
def p0 : Program := .bare "" "" ""
def e0 : Env := launch0.env 0 0 0
theorem w_frames : about1.frames = Frame.invoking theMethod args0 :: below0 := rfl
set_option maxRecDepth 65536 in
theorem w_args : argsFit about1.vm theMethod args0 = true := by decide +kernel
set_option maxRecDepth 65536 in
theorem w_heap : heapFits about1 = true := by decide +kernel
set_option maxRecDepth 65536 in
theorem w_runnable : about1.curStatus? = some .runnable := by decide +kernel
set_option maxRecDepth 65536 in
theorem w_alone : about1.alone = true := by decide +kernel
set_option maxRecDepth 65536 in
theorem w_named : about1.methodNamed? x = some theMethod := by decide +kernel
set_option maxRecDepth 65536 in
theorem w_hears : about1.hears theMethod below0 = true := by decide +kernel
set_option maxRecDepth 65536 in
theorem w_ripe : about1.ripe theMethod args0 below0 = true := by decide +kernel
theorem w_running : about1.status = .running := rfl
set_option maxRecDepth 65536 in
theorem w_room : about1.hasRoom e0.platform room_1 = true :=
  launch0.hasRoom_least _ room_1 (by decide +kernel) (by decide +kernel) (by decide +kernel) (by decide +kernel) (by decide +kernel) (by decide +kernel)
theorem allAtoms_all (ts : List Jvm.Cond) (a : Array Jvm.Value) (st : Jvm.State) : (allAtoms ts).before a st = ts.all (fun c => c.before a st) := by
  induction ts with
  | nil => rfl
  | cons c t ih =>
    show (Jvm.Cond.and c (allAtoms t)).before a st = _
    rw [Jvm.Cond.before_and, ih, List.all_cons]
def words1 : List Jvm.Cond := Jvm.Cond.code x code maxLocals ret :: tables_1
/-- a 'code' word, met by the world's own term for the bytes: nothing is compared byte by byte -/
theorem code_word {y : MethodName} {bytes : ByteArray} {mx : Nat} {rt : Option FieldType} {a : Array Value} {s : State} {m : MethodId} {meth : Method} {c : Code} (h1 : s.methodNamed? y = some m) (h2 : s.vm.method? m = some meth) (h3 : meth.code = some c) (h4 : c.code = bytes)
    (h5 : (c.maxLocals == mx && c.exceptionTable.isEmpty && decide (c.maxStack ≤ mostOperands) && decide (meth.sig.returnType = rt) && !meth.locks && decide (parseMethodDescriptor y.desc = some meth.sig)) = true) : (Jvm.Cond.code y bytes mx rt).before a s = true := by
  simp only [Bool.and_eq_true, beq_iff_eq, Bool.not_eq_true', decide_eq_true_eq] at h5
  obtain ⟨⟨⟨⟨⟨g1, g2⟩, g3⟩, g4⟩, g5⟩, g6⟩ := h5
  simp [Cond.before, Cond.holds, Cond.value, h1, h2, h3, h4, g1, g2, g3, g4, g5, g6]
def isCode : Jvm.Cond → Bool
  | .code _ _ _ _ => true
  | _ => false
theorem all_split {L : List Jvm.Cond} {P : Jvm.Cond → Bool} (h1 : L.all (fun c => isCode c || P c) = true) (h2 : ∀ c ∈ L.filter isCode, P c = true) : L.all P = true := by
  refine List.all_eq_true.mpr fun c hc => ?_
  have h := List.all_eq_true.mp h1 c hc
  rcases Bool.eq_false_or_eq_true (isCode c) with hi | hi
  · exact h2 c (List.mem_filter.mpr ⟨hc, hi⟩)
  · simpa [hi] using h
set_option maxRecDepth 65536 in
theorem w_c0 : (Jvm.Cond.code x code maxLocals ret).before args0 about1 = true := code_word (m := ⟨1, 4⟩) (meth := k1m4) (c := k1c4) (by decide +kernel) rfl rfl rfl (by decide +kernel)
set_option maxRecDepth 65536 in
theorem w_c1 : (Jvm.Cond.code ({ cls := "com/example/onepass/onepass/model/WordsEmptyPinLaw", name := "line", desc := "(I)[B" } : Jvm.MethodName) method_3_code (1 : Nat) (Option.some (Jvm.ClassFile.FieldType.array Jvm.ClassFile.FieldType.byte))).before args0 about1 = true := code_word (m := ⟨1, 2⟩) (meth := k1m2) (c := k1c2) (by decide +kernel) rfl rfl rfl (by decide +kernel)
set_option maxRecDepth 65536 in
theorem w_c2 : (Jvm.Cond.code ({ cls := "com/example/onepass/onepass/model/WordsEmptyPinLaw", name := "pick", desc := "(I)B" } : Jvm.MethodName) method_2_code (3 : Nat) (Option.some Jvm.ClassFile.FieldType.byte)).before args0 about1 = true := code_word (m := ⟨1, 1⟩) (meth := k1m1) (c := k1c1) (by decide +kernel) rfl rfl rfl (by decide +kernel)
set_option maxRecDepth 65536 in
theorem w_c3 : (Jvm.Cond.code ({ cls := "com/example/onepass/onepass/model/Words", name := "<init>", desc := "()V" } : Jvm.MethodName) prog_85_method_1_code (1 : Nat) (Option.none : Option Jvm.ClassFile.FieldType)).before args0 about1 = true := code_word (m := ⟨2, 0⟩) (meth := k2m0) (c := k2c0) (by decide +kernel) rfl rfl rfl (by decide +kernel)
set_option maxRecDepth 65536 in
theorem w_c4 : (Jvm.Cond.code ({ cls := "java/lang/Object", name := "<init>", desc := "()V" } : Jvm.MethodName) object_method_1_code (1 : Nat) (Option.none : Option Jvm.ClassFile.FieldType)).before args0 about1 = true := code_word (m := ⟨0, 0⟩) (meth := k0m0) (c := k0c0) (by decide +kernel) rfl rfl rfl (by decide +kernel)
set_option maxRecDepth 65536 in
theorem w_c5 : (Jvm.Cond.code ({ cls := "com/example/onepass/onepass/model/Words", name := "read", desc := "([BII)V" } : Jvm.MethodName) prog_85_method_2_code (10 : Nat) (Option.none : Option Jvm.ClassFile.FieldType)).before args0 about1 = true := code_word (m := ⟨2, 1⟩) (meth := k2m1) (c := k2c1) (by decide +kernel) rfl rfl rfl (by decide +kernel)
set_option maxRecDepth 65536 in
theorem w_c6 : (Jvm.Cond.code ({ cls := "com/example/onepass/onepass/model/Words", name := "packedNumber", desc := "(J)I" } : Jvm.MethodName) prog_85_method_10_code (7 : Nat) (Option.some Jvm.ClassFile.FieldType.int)).before args0 about1 = true := code_word (m := ⟨2, 7⟩) (meth := k2m7) (c := k2c7) (by decide +kernel) rfl rfl rfl (by decide +kernel)
set_option maxRecDepth 65536 in
theorem w_c7 : (Jvm.Cond.code ({ cls := "com/example/onepass/onepass/model/Words", name := "spread", desc := "(J)I" } : Jvm.MethodName) prog_85_method_20_code (2 : Nat) (Option.some Jvm.ClassFile.FieldType.int)).before args0 about1 = true := code_word (m := ⟨2, 10⟩) (meth := k2m10) (c := k2c10) (by decide +kernel) rfl rfl rfl (by decide +kernel)
set_option maxRecDepth 65536 in
theorem w_c8 : (Jvm.Cond.code ({ cls := "com/example/onepass/onepass/model/Words", name := "unpack", desc := "(J)Ljava/lang/String;" } : Jvm.MethodName) prog_85_method_19_code (5 : Nat) (Option.some (Jvm.ClassFile.FieldType.object "java/lang/String"))).before args0 about1 = true := code_word (m := ⟨2, 9⟩) (meth := k2m9) (c := k2c9) (by decide +kernel) rfl rfl rfl (by decide +kernel)
set_option maxRecDepth 65536 in
theorem w_c9 : (Jvm.Cond.code ({ cls := "java/lang/StringBuilder", name := "<init>", desc := "(I)V" } : Jvm.MethodName) jdk_67_method_2_code (2 : Nat) (Option.none : Option Jvm.ClassFile.FieldType)).before args0 about1 = true := code_word (m := ⟨11, 1⟩) (meth := k11m1) (c := k11c1) (by decide +kernel) rfl rfl rfl (by decide +kernel)
set_option maxRecDepth 65536 in
theorem w_c10 : (Jvm.Cond.code ({ cls := "java/lang/AbstractStringBuilder", name := "<init>", desc := "(I)V" } : Jvm.MethodName) jdk_68_method_2_code (2 : Nat) (Option.none : Option Jvm.ClassFile.FieldType)).before args0 about1 = true := code_word (m := ⟨10, 1⟩) (meth := k10m1) (c := k10c1) (by decide +kernel) rfl rfl rfl (by decide +kernel)
set_option maxRecDepth 65536 in
theorem w_c11 : (Jvm.Cond.code ({ cls := "java/lang/StringBuilder", name := "append", desc := "(C)Ljava/lang/StringBuilder;" } : Jvm.MethodName) jdk_67_method_14_code (2 : Nat) (Option.some (Jvm.ClassFile.FieldType.object "java/lang/StringBuilder"))).before args0 about1 = true := code_word (m := ⟨11, 2⟩) (meth := k11m2) (c := k11c2) (by decide +kernel) rfl rfl rfl (by decide +kernel)
set_option maxRecDepth 65536 in
theorem w_c12 : (Jvm.Cond.code ({ cls := "java/lang/AbstractStringBuilder", name := "append", desc := "(C)Ljava/lang/AbstractStringBuilder;" } : Jvm.MethodName) jdk_68_method_31_code (2 : Nat) (Option.some (Jvm.ClassFile.FieldType.object "java/lang/AbstractStringBuilder"))).before args0 about1 = true := code_word (m := ⟨10, 4⟩) (meth := k10m4) (c := k10c4) (by decide +kernel) rfl rfl rfl (by decide +kernel)
set_option maxRecDepth 65536 in
theorem w_c13 : (Jvm.Cond.code ({ cls := "java/lang/AbstractStringBuilder", name := "ensureCapacityInternal", desc := "(I)V" } : Jvm.MethodName) jdk_68_method_9_code (3 : Nat) (Option.none : Option Jvm.ClassFile.FieldType)).before args0 about1 = true := code_word (m := ⟨10, 3⟩) (meth := k10m3) (c := k10c3) (by decide +kernel) rfl rfl rfl (by decide +kernel)
set_option maxRecDepth 65536 in
theorem w_c14 : (Jvm.Cond.code ({ cls := "java/lang/AbstractStringBuilder", name := "isLatin1", desc := "()Z" } : Jvm.MethodName) jdk_68_method_68_code (1 : Nat) (Option.some Jvm.ClassFile.FieldType.boolean)).before args0 about1 = true := code_word (m := ⟨10, 7⟩) (meth := k10m7) (c := k10c7) (by decide +kernel) rfl rfl rfl (by decide +kernel)
set_option maxRecDepth 65536 in
theorem w_c15 : (Jvm.Cond.code ({ cls := "java/lang/StringLatin1", name := "canEncode", desc := "(C)Z" } : Jvm.MethodName) jdk_43_method_3_code (1 : Nat) (Option.some Jvm.ClassFile.FieldType.boolean)).before args0 about1 = true := code_word (m := ⟨12, 1⟩) (meth := k12m1) (c := k12c1) (by decide +kernel) rfl rfl rfl (by decide +kernel)
set_option maxRecDepth 65536 in
theorem w_c16 : (Jvm.Cond.code ({ cls := "java/lang/StringBuilder", name := "reverse", desc := "()Ljava/lang/StringBuilder;" } : Jvm.MethodName) jdk_67_method_39_code (1 : Nat) (Option.some (Jvm.ClassFile.FieldType.object "java/lang/StringBuilder"))).before args0 about1 = true := code_word (m := ⟨11, 3⟩) (meth := k11m3) (c := k11c3) (by decide +kernel) rfl rfl rfl (by decide +kernel)
set_option maxRecDepth 65536 in
theorem w_c17 : (Jvm.Cond.code ({ cls := "java/lang/AbstractStringBuilder", name := "reverse", desc := "()Ljava/lang/AbstractStringBuilder;" } : Jvm.MethodName) jdk_68_method_60_code (7 : Nat) (Option.some (Jvm.ClassFile.FieldType.object "java/lang/AbstractStringBuilder"))).before args0 about1 = true := code_word (m := ⟨10, 5⟩) (meth := k10m5) (c := k10c5) (by decide +kernel) rfl rfl rfl (by decide +kernel)
set_option maxRecDepth 65536 in
theorem w_c18 : (Jvm.Cond.code ({ cls := "java/lang/StringBuilder", name := "toString", desc := "()Ljava/lang/String;" } : Jvm.MethodName) jdk_67_method_42_code (1 : Nat) (Option.some (Jvm.ClassFile.FieldType.object "java/lang/String"))).before args0 about1 = true := code_word (m := ⟨11, 4⟩) (meth := k11m4) (c := k11c4) (by decide +kernel) rfl rfl rfl (by decide +kernel)
set_option maxRecDepth 65536 in
theorem w_c19 : (Jvm.Cond.code ({ cls := "java/lang/String", name := "<init>", desc := "(Ljava/lang/StringBuilder;)V" } : Jvm.MethodName) jdk_42_method_53_code (2 : Nat) (Option.none : Option Jvm.ClassFile.FieldType)).before args0 about1 = true := code_word (m := ⟨8, 1⟩) (meth := k8m1) (c := k8c1) (by decide +kernel) rfl rfl rfl (by decide +kernel)
set_option maxRecDepth 65536 in
theorem w_c20 : (Jvm.Cond.code ({ cls := "java/lang/String", name := "<init>", desc := "(Ljava/lang/AbstractStringBuilder;Ljava/lang/Void;)V" } : Jvm.MethodName) jdk_42_method_150_code (5 : Nat) (Option.none : Option Jvm.ClassFile.FieldType)).before args0 about1 = true := code_word (m := ⟨8, 2⟩) (meth := k8m2) (c := k8c2) (by decide +kernel) rfl rfl rfl (by decide +kernel)
set_option maxRecDepth 65536 in
theorem w_c21 : (Jvm.Cond.code ({ cls := "java/lang/AbstractStringBuilder", name := "getValue", desc := "()[B" } : Jvm.MethodName) jdk_68_method_64_code (1 : Nat) (Option.some (Jvm.ClassFile.FieldType.array Jvm.ClassFile.FieldType.byte))).before args0 about1 = true := code_word (m := ⟨10, 6⟩) (meth := k10m6) (c := k10c6) (by decide +kernel) rfl rfl rfl (by decide +kernel)
set_option maxRecDepth 65536 in
theorem w_c22 : (Jvm.Cond.code ({ cls := "java/lang/StringBuilder", name := "length", desc := "()I" } : Jvm.MethodName) jdk_67_method_93_code (1 : Nat) (Option.some Jvm.ClassFile.FieldType.int)).before args0 about1 = true := code_word (m := ⟨11, 5⟩) (meth := k11m5) (c := k11c5) (by decide +kernel) rfl rfl rfl (by decide +kernel)
set_option maxRecDepth 65536 in
theorem w_c23 : (Jvm.Cond.code ({ cls := "java/lang/AbstractStringBuilder", name := "length", desc := "()I" } : Jvm.MethodName) jdk_68_method_6_code (1 : Nat) (Option.some Jvm.ClassFile.FieldType.int)).before args0 about1 = true := code_word (m := ⟨10, 2⟩) (meth := k10m2) (c := k10c2) (by decide +kernel) rfl rfl rfl (by decide +kernel)
set_option maxRecDepth 65536 in
theorem w_c24 : (Jvm.Cond.code ({ cls := "java/util/Arrays", name := "copyOfRange", desc := "([BII)[B" } : Jvm.MethodName) jdk_65_method_132_code (3 : Nat) (Option.some (Jvm.ClassFile.FieldType.array Jvm.ClassFile.FieldType.byte))).before args0 about1 = true := code_word (m := ⟨13, 2⟩) (meth := k13m2) (c := k13c2) (by decide +kernel) rfl rfl rfl (by decide +kernel)
set_option maxRecDepth 65536 in
theorem w_c25 : (Jvm.Cond.code ({ cls := "java/util/Arrays", name := "copyOfRangeByte", desc := "([BII)[B" } : Jvm.MethodName) jdk_65_method_133_code (5 : Nat) (Option.some (Jvm.ClassFile.FieldType.array Jvm.ClassFile.FieldType.byte))).before args0 about1 = true := code_word (m := ⟨13, 3⟩) (meth := k13m3) (c := k13c3) (by decide +kernel) rfl rfl rfl (by decide +kernel)
set_option maxRecDepth 65536 in
theorem w_c26 : (Jvm.Cond.code ({ cls := "java/util/Arrays", name := "checkLength", desc := "(II)V" } : Jvm.MethodName) jdk_65_method_131_code (2 : Nat) (Option.none : Option Jvm.ClassFile.FieldType)).before args0 about1 = true := code_word (m := ⟨13, 1⟩) (meth := k13m1) (c := k13c1) (by decide +kernel) rfl rfl rfl (by decide +kernel)
set_option maxRecDepth 65536 in
theorem w_c27 : (Jvm.Cond.code ({ cls := "java/lang/Math", name := "min", desc := "(II)I" } : Jvm.MethodName) jdk_29_method_69_code (2 : Nat) (Option.some Jvm.ClassFile.FieldType.int)).before args0 about1 = true := code_word (m := ⟨14, 1⟩) (meth := k14m1) (c := k14c1) (by decide +kernel) rfl rfl rfl (by decide +kernel)
set_option maxRecDepth 65536 in
theorem w_c28 : (Jvm.Cond.code ({ cls := "com/example/onepass/onepass/model/Words", name := "number", desc := "(Ljava/lang/String;)I" } : Jvm.MethodName) prog_85_method_13_code (2 : Nat) (Option.some Jvm.ClassFile.FieldType.int)).before args0 about1 = true := code_word (m := ⟨2, 8⟩) (meth := k2m8) (c := k2c8) (by decide +kernel) rfl rfl rfl (by decide +kernel)
set_option maxRecDepth 65536 in
theorem w_c29 : (Jvm.Cond.code ({ cls := "com/example/onepass/onepass/model/Words", name := "add", desc := "(I)V" } : Jvm.MethodName) prog_85_method_9_code (2 : Nat) (Option.none : Option Jvm.ClassFile.FieldType)).before args0 about1 = true := code_word (m := ⟨2, 6⟩) (meth := k2m6) (c := k2c6) (by decide +kernel) rfl rfl rfl (by decide +kernel)
set_option maxRecDepth 65536 in
theorem w_c30 : (Jvm.Cond.code ({ cls := "com/example/onepass/onepass/model/Words", name := "empty", desc := "()V" } : Jvm.MethodName) prog_85_method_6_code (2 : Nat) (Option.none : Option Jvm.ClassFile.FieldType)).before args0 about1 = true := code_word (m := ⟨2, 4⟩) (meth := k2m4) (c := k2c4) (by decide +kernel) rfl rfl rfl (by decide +kernel)
set_option maxRecDepth 65536 in
theorem w_c31 : (Jvm.Cond.code ({ cls := "com/example/onepass/onepass/model/Words", name := "size", desc := "()I" } : Jvm.MethodName) prog_85_method_8_code (1 : Nat) (Option.some Jvm.ClassFile.FieldType.int)).before args0 about1 = true := code_word (m := ⟨2, 5⟩) (meth := k2m5) (c := k2c5) (by decide +kernel) rfl rfl rfl (by decide +kernel)
set_option maxRecDepth 65536 in
theorem w_c32 : (Jvm.Cond.code ({ cls := "com/example/onepass/onepass/model/Words", name := "distinct", desc := "()I" } : Jvm.MethodName) prog_85_method_3_code (1 : Nat) (Option.some Jvm.ClassFile.FieldType.int)).before args0 about1 = true := code_word (m := ⟨2, 2⟩) (meth := k2m2) (c := k2c2) (by decide +kernel) rfl rfl rfl (by decide +kernel)
set_option maxRecDepth 65536 in
theorem w_c33 : (Jvm.Cond.code ({ cls := "com/example/onepass/onepass/model/WordsEmptyPinLaw", name := "cleared", desc := "(Lcom/example/onepass/onepass/model/Words;II)Z" } : Jvm.MethodName) method_4_code (3 : Nat) (Option.some Jvm.ClassFile.FieldType.boolean)).before args0 about1 = true := code_word (m := ⟨1, 3⟩) (meth := k1m3) (c := k1c3) (by decide +kernel) rfl rfl rfl (by decide +kernel)
set_option maxRecDepth 65536 in
theorem w_c34 : (Jvm.Cond.code ({ cls := "com/example/onepass/onepass/model/Words", name := "occurrences", desc := "(I)J" } : Jvm.MethodName) prog_85_method_5_code (2 : Nat) (Option.some Jvm.ClassFile.FieldType.long)).before args0 about1 = true := code_word (m := ⟨2, 3⟩) (meth := k2m3) (c := k2c3) (by decide +kernel) rfl rfl rfl (by decide +kernel)
def codes1 : List Jvm.Cond := [Jvm.Cond.code x code maxLocals ret, Jvm.Cond.code ({ cls := "com/example/onepass/onepass/model/WordsEmptyPinLaw", name := "line", desc := "(I)[B" } : Jvm.MethodName) method_3_code (1 : Nat) (Option.some (Jvm.ClassFile.FieldType.array Jvm.ClassFile.FieldType.byte)), Jvm.Cond.code ({ cls := "com/example/onepass/onepass/model/WordsEmptyPinLaw", name := "pick", desc := "(I)B" } : Jvm.MethodName) method_2_code (3 : Nat) (Option.some Jvm.ClassFile.FieldType.byte), Jvm.Cond.code ({ cls := "com/example/onepass/onepass/model/Words", name := "<init>", desc := "()V" } : Jvm.MethodName) prog_85_method_1_code (1 : Nat) (Option.none : Option Jvm.ClassFile.FieldType), Jvm.Cond.code ({ cls := "java/lang/Object", name := "<init>", desc := "()V" } : Jvm.MethodName) object_method_1_code (1 : Nat) (Option.none : Option Jvm.ClassFile.FieldType), Jvm.Cond.code ({ cls := "com/example/onepass/onepass/model/Words", name := "read", desc := "([BII)V" } : Jvm.MethodName) prog_85_method_2_code (10 : Nat) (Option.none : Option Jvm.ClassFile.FieldType), Jvm.Cond.code ({ cls := "com/example/onepass/onepass/model/Words", name := "packedNumber", desc := "(J)I" } : Jvm.MethodName) prog_85_method_10_code (7 : Nat) (Option.some Jvm.ClassFile.FieldType.int), Jvm.Cond.code ({ cls := "com/example/onepass/onepass/model/Words", name := "spread", desc := "(J)I" } : Jvm.MethodName) prog_85_method_20_code (2 : Nat) (Option.some Jvm.ClassFile.FieldType.int), Jvm.Cond.code ({ cls := "com/example/onepass/onepass/model/Words", name := "unpack", desc := "(J)Ljava/lang/String;" } : Jvm.MethodName) prog_85_method_19_code (5 : Nat) (Option.some (Jvm.ClassFile.FieldType.object "java/lang/String")), Jvm.Cond.code ({ cls := "java/lang/StringBuilder", name := "<init>", desc := "(I)V" } : Jvm.MethodName) jdk_67_method_2_code (2 : Nat) (Option.none : Option Jvm.ClassFile.FieldType), Jvm.Cond.code ({ cls := "java/lang/AbstractStringBuilder", name := "<init>", desc := "(I)V" } : Jvm.MethodName) jdk_68_method_2_code (2 : Nat) (Option.none : Option Jvm.ClassFile.FieldType), Jvm.Cond.code ({ cls := "java/lang/StringBuilder", name := "append", desc := "(C)Ljava/lang/StringBuilder;" } : Jvm.MethodName) jdk_67_method_14_code (2 : Nat) (Option.some (Jvm.ClassFile.FieldType.object "java/lang/StringBuilder")), Jvm.Cond.code ({ cls := "java/lang/AbstractStringBuilder", name := "append", desc := "(C)Ljava/lang/AbstractStringBuilder;" } : Jvm.MethodName) jdk_68_method_31_code (2 : Nat) (Option.some (Jvm.ClassFile.FieldType.object "java/lang/AbstractStringBuilder")), Jvm.Cond.code ({ cls := "java/lang/AbstractStringBuilder", name := "ensureCapacityInternal", desc := "(I)V" } : Jvm.MethodName) jdk_68_method_9_code (3 : Nat) (Option.none : Option Jvm.ClassFile.FieldType), Jvm.Cond.code ({ cls := "java/lang/AbstractStringBuilder", name := "isLatin1", desc := "()Z" } : Jvm.MethodName) jdk_68_method_68_code (1 : Nat) (Option.some Jvm.ClassFile.FieldType.boolean), Jvm.Cond.code ({ cls := "java/lang/StringLatin1", name := "canEncode", desc := "(C)Z" } : Jvm.MethodName) jdk_43_method_3_code (1 : Nat) (Option.some Jvm.ClassFile.FieldType.boolean), Jvm.Cond.code ({ cls := "java/lang/StringBuilder", name := "reverse", desc := "()Ljava/lang/StringBuilder;" } : Jvm.MethodName) jdk_67_method_39_code (1 : Nat) (Option.some (Jvm.ClassFile.FieldType.object "java/lang/StringBuilder")), Jvm.Cond.code ({ cls := "java/lang/AbstractStringBuilder", name := "reverse", desc := "()Ljava/lang/AbstractStringBuilder;" } : Jvm.MethodName) jdk_68_method_60_code (7 : Nat) (Option.some (Jvm.ClassFile.FieldType.object "java/lang/AbstractStringBuilder")), Jvm.Cond.code ({ cls := "java/lang/StringBuilder", name := "toString", desc := "()Ljava/lang/String;" } : Jvm.MethodName) jdk_67_method_42_code (1 : Nat) (Option.some (Jvm.ClassFile.FieldType.object "java/lang/String")), Jvm.Cond.code ({ cls := "java/lang/String", name := "<init>", desc := "(Ljava/lang/StringBuilder;)V" } : Jvm.MethodName) jdk_42_method_53_code (2 : Nat) (Option.none : Option Jvm.ClassFile.FieldType), Jvm.Cond.code ({ cls := "java/lang/String", name := "<init>", desc := "(Ljava/lang/AbstractStringBuilder;Ljava/lang/Void;)V" } : Jvm.MethodName) jdk_42_method_150_code (5 : Nat) (Option.none : Option Jvm.ClassFile.FieldType), Jvm.Cond.code ({ cls := "java/lang/AbstractStringBuilder", name := "getValue", desc := "()[B" } : Jvm.MethodName) jdk_68_method_64_code (1 : Nat) (Option.some (Jvm.ClassFile.FieldType.array Jvm.ClassFile.FieldType.byte)), Jvm.Cond.code ({ cls := "java/lang/StringBuilder", name := "length", desc := "()I" } : Jvm.MethodName) jdk_67_method_93_code (1 : Nat) (Option.some Jvm.ClassFile.FieldType.int), Jvm.Cond.code ({ cls := "java/lang/AbstractStringBuilder", name := "length", desc := "()I" } : Jvm.MethodName) jdk_68_method_6_code (1 : Nat) (Option.some Jvm.ClassFile.FieldType.int), Jvm.Cond.code ({ cls := "java/util/Arrays", name := "copyOfRange", desc := "([BII)[B" } : Jvm.MethodName) jdk_65_method_132_code (3 : Nat) (Option.some (Jvm.ClassFile.FieldType.array Jvm.ClassFile.FieldType.byte)), Jvm.Cond.code ({ cls := "java/util/Arrays", name := "copyOfRangeByte", desc := "([BII)[B" } : Jvm.MethodName) jdk_65_method_133_code (5 : Nat) (Option.some (Jvm.ClassFile.FieldType.array Jvm.ClassFile.FieldType.byte)), Jvm.Cond.code ({ cls := "java/util/Arrays", name := "checkLength", desc := "(II)V" } : Jvm.MethodName) jdk_65_method_131_code (2 : Nat) (Option.none : Option Jvm.ClassFile.FieldType), Jvm.Cond.code ({ cls := "java/lang/Math", name := "min", desc := "(II)I" } : Jvm.MethodName) jdk_29_method_69_code (2 : Nat) (Option.some Jvm.ClassFile.FieldType.int), Jvm.Cond.code ({ cls := "com/example/onepass/onepass/model/Words", name := "number", desc := "(Ljava/lang/String;)I" } : Jvm.MethodName) prog_85_method_13_code (2 : Nat) (Option.some Jvm.ClassFile.FieldType.int), Jvm.Cond.code ({ cls := "com/example/onepass/onepass/model/Words", name := "add", desc := "(I)V" } : Jvm.MethodName) prog_85_method_9_code (2 : Nat) (Option.none : Option Jvm.ClassFile.FieldType), Jvm.Cond.code ({ cls := "com/example/onepass/onepass/model/Words", name := "empty", desc := "()V" } : Jvm.MethodName) prog_85_method_6_code (2 : Nat) (Option.none : Option Jvm.ClassFile.FieldType), Jvm.Cond.code ({ cls := "com/example/onepass/onepass/model/Words", name := "size", desc := "()I" } : Jvm.MethodName) prog_85_method_8_code (1 : Nat) (Option.some Jvm.ClassFile.FieldType.int), Jvm.Cond.code ({ cls := "com/example/onepass/onepass/model/Words", name := "distinct", desc := "()I" } : Jvm.MethodName) prog_85_method_3_code (1 : Nat) (Option.some Jvm.ClassFile.FieldType.int), Jvm.Cond.code ({ cls := "com/example/onepass/onepass/model/WordsEmptyPinLaw", name := "cleared", desc := "(Lcom/example/onepass/onepass/model/Words;II)Z" } : Jvm.MethodName) method_4_code (3 : Nat) (Option.some Jvm.ClassFile.FieldType.boolean), Jvm.Cond.code ({ cls := "com/example/onepass/onepass/model/Words", name := "occurrences", desc := "(I)J" } : Jvm.MethodName) prog_85_method_5_code (2 : Nat) (Option.some Jvm.ClassFile.FieldType.long)]
set_option maxRecDepth 65536 in
theorem codes_eq : words1.filter isCode = codes1 := rfl
theorem w_codes : ∀ c ∈ words1.filter isCode, c.before args0 about1 = true := by
  rw [codes_eq]
  intro c hc
  simp only [codes1, List.mem_cons, List.not_mem_nil, or_false] at hc
  rcases hc with rfl | rfl | rfl | rfl | rfl | rfl | rfl | rfl | rfl | rfl | rfl | rfl | rfl | rfl | rfl | rfl | rfl | rfl | rfl | rfl | rfl | rfl | rfl | rfl | rfl | rfl | rfl | rfl | rfl | rfl | rfl | rfl | rfl | rfl | rfl
  · exact w_c0
  · exact w_c1
  · exact w_c2
  · exact w_c3
  · exact w_c4
  · exact w_c5
  · exact w_c6
  · exact w_c7
  · exact w_c8
  · exact w_c9
  · exact w_c10
  · exact w_c11
  · exact w_c12
  · exact w_c13
  · exact w_c14
  · exact w_c15
  · exact w_c16
  · exact w_c17
  · exact w_c18
  · exact w_c19
  · exact w_c20
  · exact w_c21
  · exact w_c22
  · exact w_c23
  · exact w_c24
  · exact w_c25
  · exact w_c26
  · exact w_c27
  · exact w_c28
  · exact w_c29
  · exact w_c30
  · exact w_c31
  · exact w_c32
  · exact w_c33
  · exact w_c34
set_option maxRecDepth 65536 in
theorem w_t1 : (words1.take 24).all (fun c => isCode c || c.before args0 about1) = true := by decide +kernel
set_option maxRecDepth 65536 in
theorem w_t2 : ((words1.drop 24).take 24).all (fun c => isCode c || c.before args0 about1) = true := by decide +kernel
set_option maxRecDepth 65536 in
theorem w_t3 : (((words1.drop 24).drop 24).take 24).all (fun c => isCode c || c.before args0 about1) = true := by decide +kernel
set_option maxRecDepth 65536 in
theorem w_t4 : ((((words1.drop 24).drop 24).drop 24).take 24).all (fun c => isCode c || c.before args0 about1) = true := by decide +kernel
set_option maxRecDepth 65536 in
theorem w_t5 : (((((words1.drop 24).drop 24).drop 24).drop 24).take 24).all (fun c => isCode c || c.before args0 about1) = true := by decide +kernel
set_option maxRecDepth 65536 in
theorem w_t6 : ((((((words1.drop 24).drop 24).drop 24).drop 24).drop 24).take 24).all (fun c => isCode c || c.before args0 about1) = true := by decide +kernel
set_option maxRecDepth 65536 in
theorem w_t7 : (((((((words1.drop 24).drop 24).drop 24).drop 24).drop 24).drop 24).take 24).all (fun c => isCode c || c.before args0 about1) = true := by decide +kernel
set_option maxRecDepth 65536 in
theorem w_t8 : ((((((((words1.drop 24).drop 24).drop 24).drop 24).drop 24).drop 24).drop 24).take 24).all (fun c => isCode c || c.before args0 about1) = true := by decide +kernel
set_option maxRecDepth 65536 in
theorem w_t9 : ((((((((words1.drop 24).drop 24).drop 24).drop 24).drop 24).drop 24).drop 24).drop 24).all (fun c => isCode c || c.before args0 about1) = true := by decide +kernel
theorem w_tables : (allAtoms (Jvm.Cond.code x code maxLocals ret :: tables_1)).before args0 about1 = true := by
  rw [allAtoms_all]
  show words1.all (fun c => c.before args0 about1) = true
  refine all_split ?_ w_codes
  rw [← List.take_append_drop 24 words1, List.all_append, w_t1, ← List.take_append_drop 24 (words1.drop 24), List.all_append, w_t2, ← List.take_append_drop 24 ((words1.drop 24).drop 24), List.all_append, w_t3, ← List.take_append_drop 24 (((words1.drop 24).drop 24).drop 24), List.all_append, w_t4, ← List.take_append_drop 24 ((((words1.drop 24).drop 24).drop 24).drop 24), List.all_append, w_t5, ← List.take_append_drop 24 (((((words1.drop 24).drop 24).drop 24).drop 24).drop 24), List.all_append, w_t6, ← List.take_append_drop 24 ((((((words1.drop 24).drop 24).drop 24).drop 24).drop 24).drop 24), List.all_append, w_t7, ← List.take_append_drop 24 (((((((words1.drop 24).drop 24).drop 24).drop 24).drop 24).drop 24).drop 24), List.all_append, w_t8, w_t9]
  rfl
set_option maxRecDepth 65536 in
theorem w_rest : rest_1_c.before args0 about1 = true := by decide +kernel
set_option maxRecDepth 65536 in
theorem w_case : (Jvm.Cond.and given_1 narrow_1).before args0 about1 = true := by decide +kernel
theorem w_applies : (headSpec (Jvm.Cond.code x code maxLocals ret :: tables_1) room_1).applies x e0.platform about1 = true :=
  (Spec.applies_iff w_frames).mpr ⟨w_running, w_runnable, w_alone, w_named, w_hears, w_ripe, w_room, w_tables⟩
theorem atStart : AtStart classFile x code maxLocals ret World_1 tables_1 room_1 Calls_1 rest_1 Pre_1 launch0 p0 e0 about1 theMethod args0 below0 :=
  ⟨lists_1, trivial, launch0.admits_env _ _ _, launch0.least_env, fairChoices_fair.cas, fairChoices_fair.clock, w_frames, w_args, w_heap, w_applies, trivial, w_rest, w_case⟩
end start1
theorem witness_1 : WitnessClaimed_1 := ⟨start1.p0, start1.e0, start1.about1, start1.theMethod, start1.args0, start1.below0, start1.atStart⟩
end Jvm.Pilot.@@N@@
