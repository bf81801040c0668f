import JvmDerived
import JvmDerived.Pilot.@@N@@Statement
import JvmDerived.Pilot.@@N@@Code
set_option linter.unusedVariables false
set_option linter.unusedSimpArgs false
namespace Jvm.Pilot.@@N@@
open Jvm Jvm.ClassFile Sem Op Lib Jvm.Free Jvm.Stand Jvm.LawKit Jvm.RoadKit Bundle Jvm.Pilot.@@N@@.Jvm.D

/-! a segment of plain instructions, run by evaluation -/
abbrev PI := Nat × Instr × Nat × Int32
def getK {ρ : Type} : List Slot → Nat → (Slot → Option ρ) → Option ρ
  | [], _, _ => none
  | a :: _, 0, κ => κ a
  | _ :: l, i + 1, κ => getK l i κ
def setK {ρ : Type} : List Slot → Nat → Slot → (List Slot → Option ρ) → Option ρ
  | [], _, _, _ => none
  | _ :: l, 0, x, κ => κ (x :: l)
  | a :: l, i + 1, x, κ => setK l i x (fun l' => κ (a :: l'))
def stK {ρ : Type} (l : List Slot) (i : Nat) (v : Value) (κ : List Slot → Option ρ) : Option ρ :=
  getK l i fun
    | .unset => setK l i (.val v) κ
    | .val (.int _) => setK l i (.val v) κ
    | .val .null => setK l i (.val v) κ
    | .val (.ref _) => setK l i (.val v) κ
    | .val (.long _) => setK l (i + 1) .unset fun l' => setK l' i (.val v) κ
    | _ => none
def stKL {ρ : Type} (l : List Slot) (i : Nat) (v : Int64) (κ : List Slot → Option ρ) : Option ρ :=
  getK l i fun
    | .unset => getK l (i + 1) fun
      | .unset => setK l i (.val (.long v)) fun l' => setK l' (i + 1) .second κ
      | .val (.int _) => setK l i (.val (.long v)) fun l' => setK l' (i + 1) .second κ
      | .val .null => setK l i (.val (.long v)) fun l' => setK l' (i + 1) .second κ
      | .val (.ref _) => setK l i (.val (.long v)) fun l' => setK l' (i + 1) .second κ
      | _ => none
    | .val (.int _) => getK l (i + 1) fun
      | .unset => setK l i (.val (.long v)) fun l' => setK l' (i + 1) .second κ
      | .val (.int _) => setK l i (.val (.long v)) fun l' => setK l' (i + 1) .second κ
      | .val .null => setK l i (.val (.long v)) fun l' => setK l' (i + 1) .second κ
      | .val (.ref _) => setK l i (.val (.long v)) fun l' => setK l' (i + 1) .second κ
      | _ => none
    | .val (.ref _) => getK l (i + 1) fun
      | .unset => setK l i (.val (.long v)) fun l' => setK l' (i + 1) .second κ
      | .val (.int _) => setK l i (.val (.long v)) fun l' => setK l' (i + 1) .second κ
      | .val .null => setK l i (.val (.long v)) fun l' => setK l' (i + 1) .second κ
      | .val (.ref _) => setK l i (.val (.long v)) fun l' => setK l' (i + 1) .second κ
      | _ => none
    | .val (.long _) => getK l (i + 1) fun
      | .second => setK l i (.val (.long v)) κ
      | _ => none
    | _ => none
theorem dup2X2 {tb : Tables} [Ours tb] {e : Env} {below : List Frame} {T target : State} {m : MethodId} {c : Code} {g : JFrame} (h : At T m c below) (hx : tb.exec = Jvm.exec) (hg : g.method = m) {x : Int64} {y : Int32} {z : Addr} {rest : List Value} (hd : decode c.code g.pc = .ok (.dup2_x2, 1)) (hs : g.stack = .long x :: .int y :: .ref z :: rest)
    (hr : Steps tb e below (T.setTop { g with pc := g.pc + 1, stack := .long x :: .int y :: .ref z :: .long x :: rest }) target) : Steps tb e below (T.setTop g) target := by
  subst hg
  jvm_step h [h.top, hx, hd, hs, Value.category]
  exact hr
def pst {ρ : Type} (i : Instr) (v : Int32) (ls : List Slot) (st : List Value) (κ : List Slot → List Value → Option ρ) : Option ρ :=
  match i with
  | .aload_n k => getK ls k.val fun
    | .val (.ref a) => κ ls (.ref a :: st)
    | .val .null => κ ls (.null :: st)
    | _ => none
  | .aload k => getK ls k fun
    | .val (.ref a) => κ ls (.ref a :: st)
    | .val .null => κ ls (.null :: st)
    | _ => none
  | .iload_n k => getK ls k.val fun
    | .val (.int x) => κ ls (.int x :: st)
    | _ => none
  | .iload k => getK ls k fun
    | .val (.int x) => κ ls (.int x :: st)
    | _ => none
  | .lload_n k => getK ls k.val fun
    | .val (.long x) => κ ls (.long x :: st)
    | _ => none
  | .lload k => getK ls k fun
    | .val (.long x) => κ ls (.long x :: st)
    | _ => none
  | .iconst c => κ ls (.int v :: st)
  | .bipush c => κ ls (.int v :: st)
  | .sipush c => κ ls (.int v :: st)
  | .lconst c => κ ls (.long (Int64.ofNat c.val) :: st)
  | .aconst_null => κ ls (.null :: st)
  | .iadd => match st with
    | .int y :: .int x :: r => κ ls (.int (x + y) :: r)
    | _ => none
  | .isub => match st with
    | .int y :: .int x :: r => κ ls (.int (x - y) :: r)
    | _ => none
  | .imul => match st with
    | .int y :: .int x :: r => κ ls (.int (x * y) :: r)
    | _ => none
  | .iand => match st with
    | .int y :: .int x :: r => κ ls (.int (x &&& y) :: r)
    | _ => none
  | .ior => match st with
    | .int y :: .int x :: r => κ ls (.int (x ||| y) :: r)
    | _ => none
  | .ixor => match st with
    | .int y :: .int x :: r => κ ls (.int (x ^^^ y) :: r)
    | _ => none
  | .ishl => match st with
    | .int y :: .int x :: r => κ ls (.int (x <<< (y &&& 31)) :: r)
    | _ => none
  | .ishr => match st with
    | .int y :: .int x :: r => κ ls (.int (x >>> (y &&& 31)) :: r)
    | _ => none
  | .iushr => match st with
    | .int y :: .int x :: r => κ ls (.int (XT.ushr x y) :: r)
    | _ => none
  | .ladd => match st with
    | .long y :: .long x :: r => κ ls (.long (x + y) :: r)
    | _ => none
  | .lsub => match st with
    | .long y :: .long x :: r => κ ls (.long (x - y) :: r)
    | _ => none
  | .lmul => match st with
    | .long y :: .long x :: r => κ ls (.long (x * y) :: r)
    | _ => none
  | .land => match st with
    | .long y :: .long x :: r => κ ls (.long (x &&& y) :: r)
    | _ => none
  | .lor => match st with
    | .long y :: .long x :: r => κ ls (.long (x ||| y) :: r)
    | _ => none
  | .lxor => match st with
    | .long y :: .long x :: r => κ ls (.long (x ^^^ y) :: r)
    | _ => none
  | .lshl => match st with
    | .int y :: .long x :: r => κ ls (.long (x <<< (y.toInt64 &&& 63)) :: r)
    | _ => none
  | .lshr => match st with
    | .int y :: .long x :: r => κ ls (.long (x >>> (y.toInt64 &&& 63)) :: r)
    | _ => none
  | .lushr => match st with
    | .int y :: .long x :: r => κ ls (.long (XT.ushrL x y) :: r)
    | _ => none
  | .ineg => match st with
    | .int x :: r => κ ls (.int (-x) :: r)
    | _ => none
  | .lneg => match st with
    | .long x :: r => κ ls (.long (-x) :: r)
    | _ => none
  | .i2l => match st with
    | .int x :: r => κ ls (.long (x.toInt64) :: r)
    | _ => none
  | .l2i => match st with
    | .long x :: r => κ ls (.int (x.toInt32) :: r)
    | _ => none
  | .i2b => match st with
    | .int x :: r => κ ls (.int (x.toInt8.toInt32) :: r)
    | _ => none
  | .i2c => match st with
    | .int x :: r => κ ls (.int (x.toUInt32.toUInt16.toUInt32.toInt32) :: r)
    | _ => none
  | .i2s => match st with
    | .int x :: r => κ ls (.int (x.toInt16.toInt32) :: r)
    | _ => none
  | .lcmp => match st with
    | .long y :: .long x :: r => κ ls (.int (XT.cmpL x y) :: r)
    | _ => none
  | .pop => match st with
    | .int x :: r => κ ls (r)
    | .ref x :: r => κ ls (r)
    | .null :: r => κ ls (r)
    | _ => none
  | .dup => match st with
    | .int x :: r => κ ls (.int x :: .int x :: r)
    | .ref x :: r => κ ls (.ref x :: .ref x :: r)
    | .null :: r => κ ls (.null :: .null :: r)
    | _ => none
  | .dup_x1 => match st with
    | .int x :: .int y :: r => κ ls (.int x :: .int y :: .int x :: r)
    | .int x :: .ref y :: r => κ ls (.int x :: .ref y :: .int x :: r)
    | .int x :: .null :: r => κ ls (.int x :: .null :: .int x :: r)
    | .ref x :: .int y :: r => κ ls (.ref x :: .int y :: .ref x :: r)
    | .ref x :: .ref y :: r => κ ls (.ref x :: .ref y :: .ref x :: r)
    | .ref x :: .null :: r => κ ls (.ref x :: .null :: .ref x :: r)
    | .null :: .int y :: r => κ ls (.null :: .int y :: .null :: r)
    | .null :: .ref y :: r => κ ls (.null :: .ref y :: .null :: r)
    | .null :: .null :: r => κ ls (.null :: .null :: .null :: r)
    | _ => none
  | .dup2_x2 => match st with
    | .long x :: .int y :: .ref z :: r => κ ls (.long x :: .int y :: .ref z :: .long x :: r)
    | _ => none
  | .dup2 => match st with
    | .long x :: r => κ ls (.long x :: .long x :: r)
    | .int x :: .int y :: r => κ ls (.int x :: .int y :: .int x :: .int y :: r)
    | .int x :: .ref y :: r => κ ls (.int x :: .ref y :: .int x :: .ref y :: r)
    | .ref x :: .int y :: r => κ ls (.ref x :: .int y :: .ref x :: .int y :: r)
    | .ref x :: .ref y :: r => κ ls (.ref x :: .ref y :: .ref x :: .ref y :: r)
    | _ => none
  | .istore_n k => match st with
    | .int x :: r => stK ls k.val (.int x) fun ls' => κ ls' r
    | _ => none
  | .istore k => match st with
    | .int x :: r => stK ls k (.int x) fun ls' => κ ls' r
    | _ => none
  | .astore_n k => match st with
    | .ref x :: r => stK ls k.val (.ref x) fun ls' => κ ls' r
    | .null :: r => stK ls k.val .null fun ls' => κ ls' r
    | _ => none
  | .astore k => match st with
    | .ref x :: r => stK ls k (.ref x) fun ls' => κ ls' r
    | .null :: r => stK ls k .null fun ls' => κ ls' r
    | _ => none
  | .lstore_n k => match st with
    | .long x :: r => stKL ls k.val x fun ls' => κ ls' r
    | _ => none
  | .lstore k => match st with
    | .long x :: r => stKL ls k x fun ls' => κ ls' r
    | _ => none
  | .iinc k c => getK ls k fun
    | .val (.int x) => stK ls k (.int (x + v)) fun ls' => κ ls' st
    | _ => none
  | .goto _ => κ ls st
  | _ => none
def ilen : Instr → Nat
  | .aload _ => 2
  | .iload _ => 2
  | .lload _ => 2
  | .astore _ => 2
  | .istore _ => 2
  | .lstore _ => 2
  | .bipush _ => 2
  | .iinc _ _ => 3
  | .sipush _ => 3
  | .goto _ => 3
  | _ => 1
def ival (v : Int32) : Instr → Prop
  | .iconst c => Int32.ofInt c = v
  | .bipush c => (Int8.ofInt c).toInt32 = v
  | .sipush c => (Int16.ofInt c).toInt32 = v
  | .iinc _ c => Int32.ofInt c = v
  | _ => True
instance {v : Int32} {i : Instr} : Decidable (ival v i) := by unfold ival; split <;> infer_instance
def inxt (pc nx : Nat) : Instr → Prop
  | .goto o => 0 ≤ (pc : Int) + o ∧ ((pc : Int) + o).toNat = nx
  | i => pc + ilen i = nx
instance {pc nx : Nat} {i : Instr} : Decidable (inxt pc nx i) := by unfold inxt; split <;> infer_instance
def segOk (code : ByteArray) : Nat → List PI → Nat → Bool
  | pc, [], pe => decide (pc = pe)
  | pc, (q, i, nx, v) :: r, pe => decide (q = pc) && decide (decode code pc = .ok (i, ilen i)) && decide (ival v i) && decide (inxt pc nx i) && segOk code nx r pe
def prun : List PI → List Slot → List Value → Option (List Slot × List Value)
  | [], ls, st => some (ls, st)
  | (_, i, _, v) :: r, ls, st => pst i v ls st fun ls' st' => prun r ls' st'
theorem getK_some {ρ : Type} {κ : Slot → Option ρ} {r : ρ} : ∀ {l : List Slot} {i : Nat}, getK l i κ = some r → ∃ a, l[i]? = some a ∧ κ a = some r
  | [], _, h => by cases h
  | a :: _, 0, h => ⟨a, rfl, h⟩
  | _ :: l, i + 1, h => by obtain ⟨a, h1, h2⟩ := getK_some (l := l) h; exact ⟨a, by simpa using h1, h2⟩
theorem setK_some {ρ : Type} {x : Slot} {r : ρ} : ∀ {l : List Slot} {i : Nat} {κ : List Slot → Option ρ}, setK l i x κ = some r → i < l.length ∧ κ (l.set i x) = some r
  | [], _, _, h => by cases h
  | a :: _, 0, _, h => ⟨by simp, h⟩
  | _ :: l, i + 1, _, h => by obtain ⟨h1, h2⟩ := setK_some (l := l) h; exact ⟨by simpa using h1, by simpa using h2⟩
theorem setAt_list {l : List Slot} {i : Nat} {x : Slot} (h : i < l.length) : setAt l.toArray i x = some (l.set i x).toArray := by simp [setAt, h]
theorem cat_i (x : Int32) : (Value.int x).category = 1 := rfl
theorem cat_l (x : Int64) : (Value.long x).category = 2 := rfl
theorem cat_r (x : Addr) : (Value.ref x).category = 1 := rfl
theorem cat_n : Value.null.category = 1 := rfl
theorem stK_some {ρ : Type} {r : ρ} {v : Value} (hv : v.category = 1) {l : List Slot} {i : Nat} {κ : List Slot → Option ρ} (h : stK l i v κ = some r) : ∃ l', storeLocals l.toArray i v = some l'.toArray ∧ l'.length = l.length ∧ κ l' = some r := by
  obtain ⟨a, h1, h2⟩ := getK_some h
  have e : l.toArray[i]? = some a := by simpa using h1
  split at h2
  all_goals first
    | (cases h2; done)
    | (obtain ⟨h3, h4⟩ := setK_some h2; exact ⟨l.set i (.val v), by simp [storeLocals, storeSelf, e, h1, setAt_list h3, hv, cat_i, cat_l, cat_r, cat_n], by simp, h4⟩)
    | (obtain ⟨h3, h4⟩ := setK_some h2; obtain ⟨h5, h6⟩ := setK_some h4; exact ⟨(l.set (i + 1) .unset).set i (.val v), by simp [storeLocals, storeSelf, e, h1, setAt_list h3, setAt_list h5, hv, cat_i, cat_l, cat_r, cat_n], by simp, h6⟩)
theorem stKL_one {ρ : Type} {r : ρ} {v : Int64} {l : List Slot} {i : Nat} {κ : List Slot → Option ρ} {a : Slot} (h1 : l[i]? = some a) (ha : a = .unset ∨ ∃ w, a = .val w ∧ w.category = 1)
    (h2 : (getK l (i + 1) fun
      | .unset => setK l i (.val (.long v)) fun l' => setK l' (i + 1) .second κ
      | .val (.int _) => setK l i (.val (.long v)) fun l' => setK l' (i + 1) .second κ
      | .val .null => setK l i (.val (.long v)) fun l' => setK l' (i + 1) .second κ
      | .val (.ref _) => setK l i (.val (.long v)) fun l' => setK l' (i + 1) .second κ
      | _ => none) = some r) : ∃ l', storeLocals l.toArray i (.long v) = some l'.toArray ∧ l'.length = l.length ∧ κ l' = some r := by
  obtain ⟨b, h3, h4⟩ := getK_some h2
  have e : l.toArray[i]? = some a := by simpa using h1
  have e' : (l.set i (.val (.long v))).toArray[i + 1]? = some b := by simpa [List.getElem?_set] using h3
  have hs : storeSelf l.toArray i (.long v) = storeLocals l.toArray i (.long v) := by
    rcases ha with rfl | ⟨w, rfl, hw⟩ <;> simp [storeLocals, h1, *]
  rw [← hs]
  split at h4
  all_goals first
    | (cases h4; done)
    | (obtain ⟨h5, h6⟩ := setK_some h4; obtain ⟨h7, h8⟩ := setK_some h6
       refine ⟨(l.set i (.val (.long v))).set (i + 1) .second, ?_, by simp, h8⟩
       simp only [storeSelf, setAt_list h5, setAt_list h7, e', cat_i, cat_l, cat_r, cat_n, Option.bind_eq_bind, Option.bind_some, if_true, if_false, reduceIte, Nat.reduceEqDiff])
theorem stKL_some {ρ : Type} {r : ρ} {v : Int64} {l : List Slot} {i : Nat} {κ : List Slot → Option ρ} (h : stKL l i v κ = some r) : ∃ l', storeLocals l.toArray i (.long v) = some l'.toArray ∧ l'.length = l.length ∧ κ l' = some r := by
  obtain ⟨a, h1, h2⟩ := getK_some h
  have e : l.toArray[i]? = some a := by simpa using h1
  split at h2
  · exact stKL_one h1 (Or.inl rfl) h2
  · exact stKL_one h1 (Or.inr ⟨_, rfl, rfl⟩) h2
  · exact stKL_one h1 (Or.inr ⟨_, rfl, rfl⟩) h2
  · obtain ⟨b, h3, h4⟩ := getK_some h2
    split at h4
    · obtain ⟨h5, h6⟩ := setK_some h4
      have h7 : i + 1 < l.length := (List.getElem?_eq_some_iff.mp h3).1
      have q : ((l.set (i + 1) .unset).set i (.val (.long v))).set (i + 1) .second = l.set i (.val (.long v)) := by
        apply List.ext_getElem?; intro j
        simp only [List.getElem?_set, List.length_set]
        by_cases e1 : i + 1 = j
        · subst e1; obtain ⟨_, h8⟩ := List.getElem?_eq_some_iff.mp h3; simp [h7, h8]
        · simp [e1]
      refine ⟨l.set i (.val (.long v)), ?_, by simp, h6⟩
      rw [← q]
      have a1 : setAt l.toArray (i + 1) .unset = some (l.set (i + 1) .unset).toArray := setAt_list h7
      have a2 : setAt (l.set (i + 1) .unset).toArray i (.val (.long v)) = some ((l.set (i + 1) .unset).set i (.val (.long v))).toArray := setAt_list (by simpa using h5)
      have a3 : setAt ((l.set (i + 1) .unset).set i (.val (.long v))).toArray (i + 1) .second = some (((l.set (i + 1) .unset).set i (.val (.long v))).set (i + 1) .second).toArray := setAt_list (by simpa using h7)
      have a4 : ((l.set (i + 1) .unset).set i (.val (.long v))).toArray[i + 1]? = some .unset := by simp [List.getElem?_set, h7]
      simp only [storeLocals, storeSelf, e, a1, a2, a3, a4, cat_l, Option.bind_eq_bind, Option.bind_some, if_true]
    · cases h4
  · cases h2

theorem pst_sound {ρ : Type} {r : ρ} {tb : Tables} [Ours tb] {e : Env} {below : List Frame} {T : State} {m : MethodId} {c : Code} {code : ByteArray} (hA : At T m c below) (hx : tb.exec = Jvm.exec) (hc : c.code = code) {i : Instr} {v : Int32} {pc nx : Nat} {ls : List Slot} {st : List Value} {κ : List Slot → List Value → Option ρ}
    (hd : decode code pc = .ok (i, ilen i)) (hv : ival v i) (hn : inxt pc nx i) (h : pst i v ls st κ = some r) :
    ∃ ls' st', ls'.length = ls.length ∧ κ ls' st' = some r ∧ ∀ t, Steps tb e below (T.setTop (mkF m nx ls'.toArray st')) t → Steps tb e below (T.setTop (mkF m pc ls.toArray st)) t := by
  cases i
  case goto o => exact ⟨_, _, rfl, h, fun t hr => XS.goto hA hx rfl rfl (hb hc hd) hn.1 hn.2 hr⟩
  all_goals first
    | exact nomatch (show none = some _ from h)
    | (change _ = nx at hn; subst hn)
  case aload_n k => 
    obtain ⟨a, h1, h2⟩ := getK_some h
    split at h2
    · exact ⟨_, _, rfl, h2, fun t hr => XS.aloadN hA hx rfl (hb hc hd) (by simpa using h1) rfl hr⟩
    · exact ⟨_, _, rfl, h2, fun t hr => XS.aloadN hA hx rfl (hb hc hd) (by simpa using h1) rfl hr⟩
    · cases h2
  case aload k => 
    obtain ⟨a, h1, h2⟩ := getK_some h
    split at h2
    · exact ⟨_, _, rfl, h2, fun t hr => XS.aload hA hx rfl (hb hc hd) (by simpa using h1) rfl hr⟩
    · exact ⟨_, _, rfl, h2, fun t hr => XS.aload hA hx rfl (hb hc hd) (by simpa using h1) rfl hr⟩
    · cases h2
  case iload_n k => 
    obtain ⟨a, h1, h2⟩ := getK_some h
    split at h2
    · exact ⟨_, _, rfl, h2, fun t hr => XS.iloadN hA hx rfl (hb hc hd) (by simpa using h1) hr⟩
    · cases h2
  case iload k => 
    obtain ⟨a, h1, h2⟩ := getK_some h
    split at h2
    · exact ⟨_, _, rfl, h2, fun t hr => XS.iload hA hx rfl (hb hc hd) (by simpa using h1) hr⟩
    · cases h2
  case lload_n k => 
    obtain ⟨a, h1, h2⟩ := getK_some h
    split at h2
    · exact ⟨_, _, rfl, h2, fun t hr => XT.lloadN hA hx rfl (hb hc hd) (by simpa using h1) hr⟩
    · cases h2
  case lload k => 
    obtain ⟨a, h1, h2⟩ := getK_some h
    split at h2
    · exact ⟨_, _, rfl, h2, fun t hr => XT.lload hA hx rfl (hb hc hd) (by simpa using h1) hr⟩
    · cases h2
  case iconst c => exact ⟨_, _, rfl, h, fun t hr => XS.iconst hA hx rfl (hb hc hd) (by rw [hv]; exact hr)⟩
  case bipush c => exact ⟨_, _, rfl, h, fun t hr => XS.bipush hA hx rfl (hb hc hd) (by rw [hv]; exact hr)⟩
  case sipush c => exact ⟨_, _, rfl, h, fun t hr => XS.sipush hA hx rfl (hb hc hd) (by rw [hv]; exact hr)⟩
  case lconst c => exact ⟨_, _, rfl, h, fun t hr => XT.lconst hA hx rfl (hb hc hd) hr⟩
  case aconst_null => exact ⟨_, _, rfl, h, fun t hr => XS.aconstNull hA hx rfl (hb hc hd) hr⟩
  case iadd => 
    simp only [pst] at h
    split at h
    · exact ⟨_, _, rfl, h, fun t hr => XS.iadd hA hx rfl (hb hc hd) rfl hr⟩
    · cases h
  case isub => 
    simp only [pst] at h
    split at h
    · exact ⟨_, _, rfl, h, fun t hr => XS.isub hA hx rfl (hb hc hd) rfl hr⟩
    · cases h
  case imul => 
    simp only [pst] at h
    split at h
    · exact ⟨_, _, rfl, h, fun t hr => XS.imul hA hx rfl (hb hc hd) rfl hr⟩
    · cases h
  case iand => 
    simp only [pst] at h
    split at h
    · exact ⟨_, _, rfl, h, fun t hr => XS.iand hA hx rfl (hb hc hd) rfl hr⟩
    · cases h
  case ior => 
    simp only [pst] at h
    split at h
    · exact ⟨_, _, rfl, h, fun t hr => XT.ior hA hx rfl (hb hc hd) rfl hr⟩
    · cases h
  case ixor => 
    simp only [pst] at h
    split at h
    · exact ⟨_, _, rfl, h, fun t hr => XT.ixor hA hx rfl (hb hc hd) rfl hr⟩
    · cases h
  case ishl => 
    simp only [pst] at h
    split at h
    · exact ⟨_, _, rfl, h, fun t hr => XT.ishl hA hx rfl (hb hc hd) rfl hr⟩
    · cases h
  case ishr => 
    simp only [pst] at h
    split at h
    · exact ⟨_, _, rfl, h, fun t hr => XT.ishr hA hx rfl (hb hc hd) rfl hr⟩
    · cases h
  case iushr => 
    simp only [pst] at h
    split at h
    · exact ⟨_, _, rfl, h, fun t hr => XT.iushr hA hx rfl (hb hc hd) rfl hr⟩
    · cases h
  case ladd => 
    simp only [pst] at h
    split at h
    · exact ⟨_, _, rfl, h, fun t hr => XT.ladd hA hx rfl (hb hc hd) rfl hr⟩
    · cases h
  case lsub => 
    simp only [pst] at h
    split at h
    · exact ⟨_, _, rfl, h, fun t hr => XT.lsub hA hx rfl (hb hc hd) rfl hr⟩
    · cases h
  case lmul => 
    simp only [pst] at h
    split at h
    · exact ⟨_, _, rfl, h, fun t hr => XT.lmul hA hx rfl (hb hc hd) rfl hr⟩
    · cases h
  case land => 
    simp only [pst] at h
    split at h
    · exact ⟨_, _, rfl, h, fun t hr => XT.land hA hx rfl (hb hc hd) rfl hr⟩
    · cases h
  case lor => 
    simp only [pst] at h
    split at h
    · exact ⟨_, _, rfl, h, fun t hr => XT.lor hA hx rfl (hb hc hd) rfl hr⟩
    · cases h
  case lxor => 
    simp only [pst] at h
    split at h
    · exact ⟨_, _, rfl, h, fun t hr => XT.lxor hA hx rfl (hb hc hd) rfl hr⟩
    · cases h
  case lshl => 
    simp only [pst] at h
    split at h
    · exact ⟨_, _, rfl, h, fun t hr => XT.lshl hA hx rfl (hb hc hd) rfl hr⟩
    · cases h
  case lshr => 
    simp only [pst] at h
    split at h
    · exact ⟨_, _, rfl, h, fun t hr => XT.lshr hA hx rfl (hb hc hd) rfl hr⟩
    · cases h
  case lushr => 
    simp only [pst] at h
    split at h
    · exact ⟨_, _, rfl, h, fun t hr => XT.lushr hA hx rfl (hb hc hd) rfl hr⟩
    · cases h
  case ineg => 
    simp only [pst] at h
    split at h
    · exact ⟨_, _, rfl, h, fun t hr => XS.ineg hA hx rfl (hb hc hd) rfl hr⟩
    · cases h
  case lneg => 
    simp only [pst] at h
    split at h
    · exact ⟨_, _, rfl, h, fun t hr => XT.lneg hA hx rfl (hb hc hd) rfl hr⟩
    · cases h
  case i2l => 
    simp only [pst] at h
    split at h
    · exact ⟨_, _, rfl, h, fun t hr => XT.i2l hA hx rfl (hb hc hd) rfl hr⟩
    · cases h
  case l2i => 
    simp only [pst] at h
    split at h
    · exact ⟨_, _, rfl, h, fun t hr => XT.l2i hA hx rfl (hb hc hd) rfl hr⟩
    · cases h
  case i2b => 
    simp only [pst] at h
    split at h
    · exact ⟨_, _, rfl, h, fun t hr => XT.i2b hA hx rfl (hb hc hd) rfl hr⟩
    · cases h
  case i2c => 
    simp only [pst] at h
    split at h
    · exact ⟨_, _, rfl, h, fun t hr => XT.i2c hA hx rfl (hb hc hd) rfl hr⟩
    · cases h
  case i2s => 
    simp only [pst] at h
    split at h
    · exact ⟨_, _, rfl, h, fun t hr => XT.i2s hA hx rfl (hb hc hd) rfl hr⟩
    · cases h
  case lcmp => 
    simp only [pst] at h
    split at h
    · exact ⟨_, _, rfl, h, fun t hr => XT.lcmp hA hx rfl (hb hc hd) rfl hr⟩
    · cases h
  case pop => 
    simp only [pst] at h
    split at h
    · exact ⟨_, _, rfl, h, fun t hr => XT.pop hA hx rfl (hb hc hd) rfl rfl hr⟩
    · exact ⟨_, _, rfl, h, fun t hr => XT.pop hA hx rfl (hb hc hd) rfl rfl hr⟩
    · exact ⟨_, _, rfl, h, fun t hr => XT.pop hA hx rfl (hb hc hd) rfl rfl hr⟩
    · cases h
  case dup => 
    simp only [pst] at h
    split at h
    · exact ⟨_, _, rfl, h, fun t hr => XS.dup hA hx rfl (hb hc hd) rfl rfl hr⟩
    · exact ⟨_, _, rfl, h, fun t hr => XS.dup hA hx rfl (hb hc hd) rfl rfl hr⟩
    · exact ⟨_, _, rfl, h, fun t hr => XS.dup hA hx rfl (hb hc hd) rfl rfl hr⟩
    · cases h
  case dup_x1 => 
    simp only [pst] at h
    split at h
    · exact ⟨_, _, rfl, h, fun t hr => XT.dupX1 hA hx rfl (hb hc hd) rfl rfl rfl hr⟩
    · exact ⟨_, _, rfl, h, fun t hr => XT.dupX1 hA hx rfl (hb hc hd) rfl rfl rfl hr⟩
    · exact ⟨_, _, rfl, h, fun t hr => XT.dupX1 hA hx rfl (hb hc hd) rfl rfl rfl hr⟩
    · exact ⟨_, _, rfl, h, fun t hr => XT.dupX1 hA hx rfl (hb hc hd) rfl rfl rfl hr⟩
    · exact ⟨_, _, rfl, h, fun t hr => XT.dupX1 hA hx rfl (hb hc hd) rfl rfl rfl hr⟩
    · exact ⟨_, _, rfl, h, fun t hr => XT.dupX1 hA hx rfl (hb hc hd) rfl rfl rfl hr⟩
    · exact ⟨_, _, rfl, h, fun t hr => XT.dupX1 hA hx rfl (hb hc hd) rfl rfl rfl hr⟩
    · exact ⟨_, _, rfl, h, fun t hr => XT.dupX1 hA hx rfl (hb hc hd) rfl rfl rfl hr⟩
    · exact ⟨_, _, rfl, h, fun t hr => XT.dupX1 hA hx rfl (hb hc hd) rfl rfl rfl hr⟩
    · cases h
  case dup2_x2 => 
    simp only [pst] at h
    split at h
    · exact ⟨_, _, rfl, h, fun t hr => dup2X2 hA hx rfl (hb hc hd) rfl hr⟩
    · cases h
  case dup2 => 
    simp only [pst] at h
    split at h
    · exact ⟨_, _, rfl, h, fun t hr => XT.dup2L hA hx rfl (hb hc hd) rfl hr⟩
    · exact ⟨_, _, rfl, h, fun t hr => XT.dup2 hA hx rfl (hb hc hd) rfl rfl rfl hr⟩
    · exact ⟨_, _, rfl, h, fun t hr => XT.dup2 hA hx rfl (hb hc hd) rfl rfl rfl hr⟩
    · exact ⟨_, _, rfl, h, fun t hr => XT.dup2 hA hx rfl (hb hc hd) rfl rfl rfl hr⟩
    · exact ⟨_, _, rfl, h, fun t hr => XT.dup2 hA hx rfl (hb hc hd) rfl rfl rfl hr⟩
    · cases h
  case istore_n k => 
    simp only [pst] at h
    split at h
    · obtain ⟨l', h1, h2, h3⟩ := stK_some rfl h
      exact ⟨_, _, h2, h3, fun t hr => XS.istoreN hA hx rfl (hb hc hd) rfl h1 hr⟩
    · cases h
  case istore k => 
    simp only [pst] at h
    split at h
    · obtain ⟨l', h1, h2, h3⟩ := stK_some rfl h
      exact ⟨_, _, h2, h3, fun t hr => XS.istore hA hx rfl (hb hc hd) rfl h1 hr⟩
    · cases h
  case astore_n k => 
    simp only [pst] at h
    split at h
    · obtain ⟨l', h1, h2, h3⟩ := stK_some rfl h
      exact ⟨_, _, h2, h3, fun t hr => XS.astoreN hA hx rfl (hb hc hd) rfl rfl h1 hr⟩
    · obtain ⟨l', h1, h2, h3⟩ := stK_some rfl h
      exact ⟨_, _, h2, h3, fun t hr => XS.astoreN hA hx rfl (hb hc hd) rfl rfl h1 hr⟩
    · cases h
  case astore k => 
    simp only [pst] at h
    split at h
    · obtain ⟨l', h1, h2, h3⟩ := stK_some rfl h
      exact ⟨_, _, h2, h3, fun t hr => XS.astore hA hx rfl (hb hc hd) rfl rfl h1 hr⟩
    · obtain ⟨l', h1, h2, h3⟩ := stK_some rfl h
      exact ⟨_, _, h2, h3, fun t hr => XS.astore hA hx rfl (hb hc hd) rfl rfl h1 hr⟩
    · cases h
  case lstore_n k => 
    simp only [pst] at h
    split at h
    · obtain ⟨l', h1, h2, h3⟩ := stKL_some h
      exact ⟨_, _, h2, h3, fun t hr => XT.lstoreN hA hx rfl (hb hc hd) rfl h1 hr⟩
    · cases h
  case lstore k => 
    simp only [pst] at h
    split at h
    · obtain ⟨l', h1, h2, h3⟩ := stKL_some h
      exact ⟨_, _, h2, h3, fun t hr => XT.lstore hA hx rfl (hb hc hd) rfl h1 hr⟩
    · cases h
  case iinc k c => 
    obtain ⟨a, h1, h2⟩ := getK_some h
    split at h2
    · obtain ⟨l', h3, h4, h5⟩ := stK_some rfl h2
      exact ⟨_, _, h4, h5, fun t hr => XS.iinc hA hx rfl (hb hc hd) (by simpa using h1) (by rw [hv]; exact h3) hr⟩
    · cases h2
theorem prun_sound {tb : Tables} [Ours tb] {e : Env} {below : List Frame} {T : State} {m : MethodId} {c : Code} {code : ByteArray} (hA : At T m c below) (hx : tb.exec = Jvm.exec) (hc : c.code = code) : ∀ (seg : List PI) {pc pe : Nat} {ls ls' : List Slot} {st st' : List Value}, segOk code pc seg pe = true → prun seg ls st = some (ls', st') →
    ls'.length = ls.length ∧ ∀ t, Steps tb e below (T.setTop (mkF m pe ls'.toArray st')) t → Steps tb e below (T.setTop (mkF m pc ls.toArray st)) t
  | [], pc, pe, ls, ls', st, st', h1, h2 => by
    have e1 : pc = pe := by simpa [segOk] using h1
    have e2 : (ls, st) = (ls', st') := Option.some.inj h2
    cases e1; cases e2
    exact ⟨rfl, fun t hr => hr⟩
  | (q, i, nx, v) :: r, pc, pe, ls, ls', st, st', h1, h2 => by
    simp only [segOk, Bool.and_eq_true, decide_eq_true_eq] at h1
    obtain ⟨⟨⟨⟨rfl, hd⟩, hv⟩, hn⟩, hr⟩ := h1
    obtain ⟨l1, s1, e1, h3, k1⟩ := pst_sound (κ := fun ls' st' => prun r ls' st') hA hx hc hd hv hn h2
    obtain ⟨e2, k2⟩ := prun_sound hA hx hc r hr h3
    exact ⟨e2.trans e1, fun t ht => k1 _ (k2 _ ht)⟩

abbrev HP := Heap × (Addr → Prop)
abbrev Dyn := Program × Env × State × MethodId × Array Value × List Frame × Method × Code × State × HP
def GI (Z : State) (EL : List (String × Nat)) (vm : Vm) (H : HP) : Prop :=
  Ext Z.heap H.1 ∧ (∀ y, H.2 y → Z.heap.size ≤ y ∧ y < H.1.size) ∧ CHv Z EL vm H.1 ∧ ∀ y, Bk Z EL vm H.1 y → ¬ H.2 y
def Kp (H H' : HP) (ws : List Addr) : Prop := Keep H.1 H'.1 ws ∧ ∀ x, H.2 x → H'.2 x
def Wk (l : Launch) (Z : State) (a0 : Array Value) (EL : List (String × Nat)) (own : String) (code : ByteArray) (ml : Nat) (nm : String) (rt : Option FieldType) (R : Room) (D : Dyn) (pc : Nat) (ls : List Slot) (st : List Value) (H : HP) (k n : Nat) : Prop :=
  D.1.tables.exec = Jvm.exec ∧ D.2.2.1.vm.findClass own = some D.2.2.2.1.cls ∧ D.2.2.2.2.2.2.2.1.code = code ∧ D.2.2.2.2.2.2.2.1.maxLocals = ml ∧ D.2.2.2.2.2.2.1.name = nm ∧ D.2.2.2.2.2.2.1.sig.returnType = rt ∧ D.2.2.2.2.2.2.1.locks = false ∧ EW Z a0 EL ∧ (∀ a ∈ Bundle.stringAtoms, a.before a0 Z = true) ∧ ls.length = ml ∧
  ∃ T L vm0 k0, Stand D.1 l D.2.1 R (D.2.2.1.setVm vm0) D.2.2.2.1 D.2.2.2.2.1 D.2.2.2.2.2.1 D.2.2.2.2.2.2.1 D.2.2.2.2.2.2.2.1 T L k n ∧ T.heap = H.1 ∧ D.2.2.1.Since vm0 k0 ∧ k0 ≤ H.1.size ∧ Z.Warmed39 vm0 ∧ GI Z EL vm0 H ∧ Fr Z.heap.size L ∧
    ((∀ x, D.2.2.2.2.2.2.2.2.2.2 x → H.2 x) ∧ D.2.2.2.2.2.2.2.2.2.1.size ≤ H.1.size) ∧ Steps D.1.tables D.2.1 D.2.2.2.2.2.1 D.2.2.2.2.2.2.2.2.1 (T.setTop (mkF D.2.2.2.1 pc ls.toArray st))
/-- the method has returned v -/
def Rt (Z : State) (EL : List (String × Nat)) (D : Dyn) (v : Option Value) (H : HP) (k n : Nat) : Prop :=
  ∃ s₂ L, Steps D.1.tables D.2.1 D.2.2.2.2.2.1 D.2.2.2.2.2.2.2.2.1 s₂ ∧ s₂.status = .running ∧ Ended s₂ D.2.2.2.2.2.1 (.returned v) ∧ s₂.heap = H.1 ∧ ((∀ x, D.2.2.2.2.2.2.2.2.2.2 x → H.2 x) ∧ D.2.2.2.2.2.2.2.2.2.1.size ≤ H.1.size) ∧ GI Z EL s₂.vm H ∧ Fr Z.heap.size L ∧ ReturnedEndW D.2.2.1 (.returned v) s₂ L k n
/-- a contract: y, called with as in the heap H, comes back with Q -/
def Ct (l : Launch) (Z : State) (EL : List (String × Nat)) (y : MethodName) (bytes : ByteArray) (ml : Nat) (ret : Option FieldType) (rm : Room) (ws : List Jvm.Cond) (as : List Value) (H : HP) (Q : Option Value → HP → Prop) : Prop :=
  MetFree l y (head1 (Jvm.Cond.code y bytes ml ret :: ws) rm) (fun a U => a = as.toArray ∧ Z.Warmed39 U.vm ∧ U.heap = H.1 ∧ GI Z EL U.vm H) (fun _ _ _ _ _ => True)
    (fun _ U o U' => ∃ v L O, o = .returned v ∧ Q v (U'.heap, O) ∧ ((∀ x, H.2 x → O x) ∧ H.1.size ≤ U'.heap.size) ∧ GI Z EL U'.vm (U'.heap, O) ∧ Fr Z.heap.size L ∧ ReturnedEndW U o U' L rm.cells rm.slots)
def locsOf : List Value → Nat → List Slot
  | [], n => List.replicate n .unset
  | v :: r, n => match v with
    | .long x => .val (.long x) :: .second :: locsOf r (n - 2)
    | .double x => .val (.double x) :: .second :: locsOf r (n - 2)
    | .int x => .val (.int x) :: locsOf r (n - 1)
    | .float x => .val (.float x) :: locsOf r (n - 1)
    | .null => .val .null :: locsOf r (n - 1)
    | .ref x => .val (.ref x) :: locsOf r (n - 1)
    | .retAddr x => .val (.retAddr x) :: locsOf r (n - 1)
def slotsOf : List Value → List Slot
  | [] => []
  | v :: r => if v.category = 2 then .val v :: .second :: slotsOf r else .val v :: slotsOf r
theorem locsOf_eq : ∀ (as : List Value) (n : Nat), locsOf as n = slotsOf as ++ List.replicate (n - (slotsOf as).length) .unset
  | [], n => by simp [locsOf, slotsOf]
  | v :: r, n => by
    have e1 : n - 1 - (slotsOf r).length = n - ((slotsOf r).length + 1) := by omega
    have e2 : n - 2 - (slotsOf r).length = n - ((slotsOf r).length + 1 + 1) := by omega
    cases v <;> simp [locsOf, slotsOf, Value.category, locsOf_eq r, e1, e2]
theorem fold_slots : ∀ (as : List Value) (acc : Array Slot), as.foldl (fun acc v => if v.category = 2 then (acc.push (.val v)).push .second else acc.push (.val v)) acc = acc ++ (slotsOf as).toArray
  | [], acc => by simp [slotsOf]
  | v :: r, acc => by
    rw [List.foldl_cons, fold_slots r]
    by_cases h : v.category = 2
    · simp only [h, if_true, slotsOf]; apply Array.ext'; simp
    · simp only [h, if_false, slotsOf]; apply Array.ext'; simp
theorem entry_locs (m : MethodId) (as : List Value) (ml : Nat) : entryFrame m as.toArray ml = mkF m 0 (locsOf as ml).toArray [] := by
  have q : argsToLocals as.toArray ml = (locsOf as ml).toArray := by
    unfold argsToLocals
    simp only [List.foldl_toArray, fold_slots]
    rw [locsOf_eq]
    apply Array.ext'; simp
  simp only [entryFrame, q]
theorem retV {p : Program} {l : Launch} {e : Env} {R : Room} {s : State} {m : MethodId} {args : Array Value} {below : List Frame} {meth : Method} {c : Code} {T : State} {locs : List Loc} {cells slots : Nat} (X : Stand p l e R s m args below meth c T locs cells slots) (hx : p.tables.exec = Jvm.exec) {pc : Nat} {Ls : Array Slot} {st : List Value} (hret : meth.sig.returnType = none) (hd : decode c.code pc = .ok (.return_, 1)) {fs : List Frame}
    (hl : ∀ (f : JFrame) (acts : List Action), f.method = m → f.locked = none → f.entered = [] → (doReturn e (T.setTop f) acts none).1 = T.setFrames fs) : Steps p.tables e below (T.setTop (mkF m pc Ls st)) (T.setFrames fs) := by
  have hm' : T.vm.method? m = some meth := X.method'
  show Steps p.tables e below (T.setTop { method := m, pc := pc, locals := Ls, stack := st, locked := none }) _
  jvm_step X.here [X.here.top, hx, hd, hm', hret]
  first | (intro acts; rw [hl _ acts rfl rfl rfl]) | rw [hl _ _ rfl rfl rfl]
  exact Steps.refl _
section Laws
variable {l : Launch} {Z : State} {a0 : Array Value} {EL : List (String × Nat)} {own : String} {code : ByteArray} {ml : Nat} {nm : String} {rt : Option FieldType} {R : Room} {D : Dyn} {pc : Nat} {ls : List Slot} {st : List Value} {H H' : HP} {k n : Nat} {vm vm0 : Vm} {ws ws' : List Addr} {a b : Addr} {C nn d : String} {v w : Value} {sl : Nat} {ty : FieldType} {vs : List Value}
theorem Kp.refl (H : HP) : Kp H H [] := ⟨Keep.refl _ _, fun _ h => h⟩
theorem Kp.size (K : Kp H H' ws) : H.1.size ≤ H'.1.size := K.1.1
theorem Kp.trans {H2 : HP} (K : Kp H H' ws) (K' : Kp H' H2 ws') (q : ∀ x ∈ ws', x ∈ ws ∨ H.1.size ≤ x) : Kp H H2 ws := ⟨K.1.trans K'.1 q, fun x h => K'.2 x (K.2 x h)⟩
theorem Kp.tr {H2 : HP} (K : Kp H H' []) (K' : Kp H' H2 []) : Kp H H2 [] := K.trans K' (fun x h => nomatch h)
theorem Kp.wide (K : Kp H H' ws) (q : ∀ x ∈ ws, x ∈ ws' ∨ H.1.size ≤ x) : Kp H H' ws' := Kp.trans (H' := H) ⟨Keep.refl _ _, fun _ h => h⟩ K q
/-- all that was written is new since H: so H stands whole -/
theorem Kp.new (K : Kp H H' ws) (q : ∀ x ∈ ws, H.1.size ≤ x) : Kp H H' [] := K.wide fun x h => Or.inr (q x h)
end Laws
end Jvm.Pilot.@@N@@
namespace Jvm.RoadKit
open Jvm.Pilot.@@N@@
theorem Fld.ky {Z : State} {H H' : HP} {ws : List Addr} {a : Addr} {C nn d : String} {v : Value} (F : Fld Z H.1 a C nn d v) (K : Jvm.Pilot.@@N@@.Kp H H' ws) (q : a ∉ ws := by exact List.not_mem_nil) : Fld Z H'.1 a C nn d v := F.keep K.1 q
theorem Exa.ky {Z : State} {H H' : HP} {ws : List Addr} {a : Addr} {C : String} (F : Exa Z H.1 a C) (K : Jvm.Pilot.@@N@@.Kp H H' ws) : Exa Z H'.1 a C := F.keep K.1
end Jvm.RoadKit
namespace Jvm.Pilot.@@N@@
open Jvm Jvm.ClassFile Sem Op Lib Jvm.Free Jvm.Stand Jvm.LawKit Jvm.RoadKit Bundle Jvm.Pilot.@@N@@.Jvm.D
section Laws
variable {l : Launch} {Z : State} {a0 : Array Value} {EL : List (String × Nat)} {own : String} {code : ByteArray} {ml : Nat} {nm : String} {rt : Option FieldType} {R : Room} {D : Dyn} {pc : Nat} {ls : List Slot} {st : List Value} {H H' : HP} {k n : Nat} {vm vm0 : Vm} {ws ws' : List Addr} {a b : Addr} {C nn d : String} {v w : Value} {sl : Nat} {ty : FieldType} {vs : List Value}
def Ar (Z : State) (H : HP) (a : Addr) (ty : FieldType) (vs : List Value) : Prop := ∃ c : Cell, Arr Z H.1 a c ty ∧ c.slots = vs.toArray ∧ vs.length < 2 ^ 31 ∧ ∀ v ∈ vs, fits ty v = true
theorem Ar.ky (F : Ar Z H a ty vs) (K : Kp H H' ws) (q : a ∉ ws := by exact List.not_mem_nil) : Ar Z H' a ty vs := by
  obtain ⟨c, A, r⟩ := F; exact ⟨c, ⟨K.1.2.1 a c A.1 q, A.2⟩, r⟩
theorem Ar.lt (F : Ar Z H a ty vs) : a < H.1.size := by obtain ⟨c, A, -⟩ := F; exact A.lt
theorem Ar.len (F : Ar Z H a ty vs) : vs.length < 2 ^ 31 := by obtain ⟨c, A, -, h, -⟩ := F; exact h
theorem Ar.fits (F : Ar Z H a ty vs) : ∀ v ∈ vs, fits ty v = true := by obtain ⟨c, A, -, -, h⟩ := F; exact h
theorem clamp_nat {i : Nat} (h : i < 2 ^ 31) : i.toInt32.toNatClampNeg = i := by
  have h1 : (i.toInt32).toInt = i := by simp [Nat.toInt32, Int32.toInt_ofNat_of_lt h]
  simp [Int32.toNatClampNeg, h1]
theorem nonneg_nat {i : Nat} (h : i < 2 ^ 31) : ¬ i.toInt32 < 0 := by
  have h1 : (i.toInt32).toInt = i := by simp [Nat.toInt32, Int32.toInt_ofNat_of_lt h]
  rw [Int32.lt_iff_toInt_lt, h1]; simp
theorem Ar.arv (F : Ar Z H a ty vs) (dv : Value) : ∃ kc, Arv Z H.1 a kc ty vs.length.toInt32 vs dv := by
  obtain ⟨c, A, e, h, g⟩ := F
  have hs : c.slots.size = vs.length := by rw [e]; simp
  refine ⟨c.cls, c, A, rfl, by rw [hs, clamp_nat h], nonneg_nat h, fun k hk => ?_, fun i hi => ?_⟩
  · rw [hs] at hk; rw [e]; simp [hk]
  · rw [hs] at hi
    have : vs.getD i dv = vs[i] := by simp [hi]
    rw [this]; exact g _ (List.getElem_mem hi)
theorem Ar.of_arv {kc : ClassId} {z : Int32} {dv : Value} (F : Arv Z H.1 a kc ty z vs dv) (hl : z.toNatClampNeg = vs.length) : Ar Z H a ty vs := by
  obtain ⟨c, A, -, S, M, Hs, G⟩ := F
  have hs : c.slots.size = vs.length := by rw [S, hl]
  have hb : vs.length < 2 ^ 31 := by rw [← hl]; exact (back32 M).2
  refine ⟨c, A, ?_, hb, fun v hv => ?_⟩
  · apply Array.ext_getElem?; intro i
    by_cases hi : i < c.slots.size
    · rw [Hs i hi]; have hi' := hi; rw [hs] at hi'; simp [hi']
    · rw [Array.getElem?_eq_none (Nat.le_of_not_lt hi)]; rw [hs] at hi; simp; omega
  · obtain ⟨i, hi, rfl⟩ := List.getElem_of_mem hv
    have := G i (by rw [hs]; exact hi)
    rw [show vs.getD i dv = vs[i] by simp [hi]] at this
    exact this
theorem GI.wr (G : GI Z EL vm H) {h' : Heap} (W : Wr H.1 h' a sl v) (o : H.2 a) : GI Z EL vm (h', H.2) := by
  obtain ⟨g1, g2, g3, g4⟩ := G
  have S : Safe Z EL vm H.1 a := fun B => g4 a B o
  refine ⟨?_, fun y hy => ?_, g3.wr W S, fun y B => g4 y ((g3.wrStep W S).2 y B)⟩
  · obtain ⟨cell, h1, h2, h3, e⟩ := W
    refine ⟨by rw [show (h', H.2).1 = h' from rfl, e]; simpa using g1.1, fun x cx q => ?_⟩
    have hx := (Array.getElem?_eq_some_iff.mp q).1
    have hne : a ≠ x := fun e1 => by subst e1; have := (g2 a o).1; omega
    show h'[x]? = _
    rw [e, Array.getElem?_setIfInBounds_ne hne]; exact g1.2 x cx q
  · have := g2 y hy; exact ⟨this.1, by rw [show (h', H.2).1 = h' from rfl, W.size]; exact this.2⟩
theorem GI.ext (G : GI Z EL vm H) {h' : Heap} (E : Ext H.1 h') (hlt : H.1.size < h'.size) : GI Z EL vm (h', fun y => H.2 y ∨ y = H.1.size) := by
  obtain ⟨g1, g2, g3, g4⟩ := G
  refine ⟨⟨Nat.le_trans g1.1 E.1, fun x cx q => E.2 x cx (g1.2 x cx q)⟩, fun y hy => ?_, g3.ext E, fun y B hy => ?_⟩
  · rcases hy with hy | rfl
    · have := g2 y hy; exact ⟨this.1, Nat.lt_of_lt_of_le this.2 E.1⟩
    · exact ⟨g1.1, hlt⟩
  · have B' := (g3.step fun _ _ _ q => E.2 _ _ q).2 y B
    rcases hy with hy | rfl
    · exact g4 y B' hy
    · obtain ⟨cell, q⟩ := B'.there
      exact absurd (Array.getElem?_eq_some_iff.mp q).1 (Nat.lt_irrefl _)
theorem GI.keep (G : GI Z EL vm H) {h' : Heap} (K : Keep H.1 h' ws) (o : ∀ x ∈ ws, H.2 x) : GI Z EL vm (h', H.2) := by
  obtain ⟨g1, g2, g3, g4⟩ := G
  have S : ∀ x ∈ ws, Safe Z EL vm H.1 x := fun x hx B => g4 x B (o x hx)
  refine ⟨⟨Nat.le_trans g1.1 K.1, fun x cx q => K.2.1 x cx (g1.2 x cx q) fun hx => ?_⟩, fun y hy => ?_, g3.keep K S, fun y B => g4 y ((g3.keepStep K S).2 y B)⟩
  · have := (g2 x (o x hx)).1; have := (Array.getElem?_eq_some_iff.mp q).1; omega
  · have := g2 y hy; exact ⟨this.1, Nat.lt_of_lt_of_le this.2 K.1⟩
theorem GI.go {vm1 : Vm} {h' : Heap} (G : GI Z EL vm H) (A : CHr Z EL vm H.1 vm1 h') (E : Ext H.1 h') : GI Z EL vm1 (h', H.2) := by
  obtain ⟨g1, g2, g3, g4⟩ := G
  refine ⟨⟨Nat.le_trans g1.1 E.1, fun x cx q => E.2 x cx (g1.2 x cx q)⟩, fun y hy => ?_, A.1, fun y B hy => ?_⟩
  · have := g2 y hy; exact ⟨this.1, Nat.lt_of_lt_of_le this.2 E.1⟩
  · rcases A.2.2 y B with q | q
    · exact g4 y q hy
    · exact absurd (g2 y hy).2 (Nat.not_lt.mpr q)
theorem ext_refl (h : Heap) : Ext h h := ⟨Nat.le_refl _, fun _ _ q => q⟩
theorem GI.at {p : Program} {e : Env} {s : State} {m : MethodId} {args : Array Value} {below : List Frame} {meth : Method} {c : Code} {T : State} {L : List Loc} (G : GI Z EL vm0 H) (X : Stand p l e R (s.setVm vm0) m args below meth c T L k n) (hZ : Z.Warmed39 vm0) (hEL : EW Z a0 EL) : GI Z EL T.vm H :=
  G.go (CHv.at X hZ hEL G.2.2.1) (ext_refl _)
theorem notFace_cls {args : Array Value} {s : State} {C : String} {y y2 : MethodName} (h : (Jvm.Cond.selects C y2 y2).before args s = true) (e : y2.cls = y.cls) : NotFace s y := fun r0 h0 => by
  obtain ⟨c2, r2, m2, -, -, q3, -, kP, hkP, hkPi⟩ := Cond.selects_spec h
  have a := findClass_of_methodNamed h0
  have b := findClass_of_methodNamed q3
  rw [e, a] at b
  exact ⟨kP, by rw [Option.some.inj b]; exact hkP, hkPi⟩
theorem decl_of {y : MethodName} {bytes : ByteArray} {cml : Nat} {ret : Option FieldType} (w : (Jvm.Cond.instanceMethod y).before a0 Z = true) (wc : (Jvm.Cond.code y bytes cml ret).before a0 Z = true) : (Jvm.Cond.declares y).before a0 Z = true := by
  obtain ⟨m, meth, h1, h2, h3, h4⟩ := Cond.instanceMethod_spec w
  obtain ⟨m2, c, q1, -, -, -, -, -, -, q8⟩ := Cond.code_spec h1 wc
  cases h2.symm.trans q1
  simp [Cond.before, Cond.holds, Cond.value, h1, h2, h3, q8]
theorem same_of {C : String} {y y2 : MethodName} (w : (Jvm.Cond.declares y).before a0 Z = true) (h : (Jvm.Cond.selects C y2 y2).before a0 Z = true) (e : y2.cls = y.cls) (hy : y.cls ≠ "java/lang/invoke/MethodHandle" ∧ y.cls ≠ "java/lang/invoke/VarHandle") : (Jvm.Cond.sameMethod y.cls y.cls y.name y.desc).before a0 Z = true := by
  obtain ⟨m, meth, h1, h2, h3, h4⟩ := Cond.declares_spec w
  obtain ⟨c2, r2, m2, -, -, q3, -, kP, hkP, hkPi⟩ := Cond.selects_spec h
  have f1 := findClass_of_methodNamed h1
  have f2 := findClass_of_methodNamed q3
  rw [e, f1] at f2
  have hm := Option.some.inj f2
  simp only [Cond.before, Cond.holds, Cond.value, f1, State.methodFound?_of_named h1 hy]
  rw [show ({ cls := y.cls, name := y.name, desc := y.desc } : MethodName) = y from rfl, h1]
  simp [hm, hkP, hkPi]
theorem range_take {vs : List Value} {i q : Nat} {d : Value} (h : i + q ≤ vs.length) : ((List.range q).map fun t => vs.getD (i + t) d) = (vs.drop i).take q := by
  apply List.ext_getElem
  · simp; omega
  · intro t h1 h2
    simp at h1
    simp [List.getD_eq_getElem?_getD, show i + t < vs.length by omega]
theorem Wk.run (A : Wk l Z a0 EL own code ml nm rt R D pc ls st H k n) (seg : List PI) {pe : Nat} (hok : segOk code pc seg pe = true) {ls' : List Slot} {st' : List Value} (hr : prun seg ls st = some (ls', st')) :
    Wk l Z a0 EL own code ml nm rt R D pe ls' st' H k n := by
  obtain ⟨p, e, s, m, args, below, meth, c, s0, H0⟩ := D
  obtain ⟨hx, hown, hc, hml, hnm, hrt, hlk, hEL, hSA, hls, T, L, vm0, k0, X, eT, hS, hk, hZ, hG, hF, hMo, hst⟩ := A
  dsimp only at hx hown hc hml hnm hrt hlk X hS hMo hst
  have hown' : (s.setVm vm0).vm.findClass own = some m.cls := (hS.1.alike.findClass _ _).trans hown
  have hZ' : Z.Warmed39 (s.setVm vm0).vm := hZ
  obtain ⟨h1, h2⟩ := prun_sound (e := e) X.here hx hc seg hok hr
  exact ⟨hx, hown, hc, hml, hnm, hrt, hlk, hEL, hSA, (h1.trans hls), T, L, vm0, k0, X, eT, hS, hk, hZ, hG, hF, hMo, hst.trans (h2 _ (Steps.refl _))⟩
theorem Wk.idiv {x y : Int32} (A : Wk l Z a0 EL own code ml nm rt R D pc ls (.int y :: .int x :: st) H k n) (hd : decode code pc = .ok (.idiv, 1)) (hy : y ≠ 0) :
    Wk l Z a0 EL own code ml nm rt R D (pc + 1) ls (.int (x / y) :: st) H k n := by
  obtain ⟨p, e, s, m, args, below, meth, c, s0, H0⟩ := D
  obtain ⟨hx, hown, hc, hml, hnm, hrt, hlk, hEL, hSA, hls, T, L, vm0, k0, X, eT, hS, hk, hZ, hG, hF, hMo, hst⟩ := A
  dsimp only at hx hown hc hml hnm hrt hlk X hS hMo hst
  have hown' : (s.setVm vm0).vm.findClass own = some m.cls := (hS.1.alike.findClass _ _).trans hown
  have hZ' : Z.Warmed39 (s.setVm vm0).vm := hZ
  exact ⟨hx, hown, hc, hml, hnm, hrt, hlk, hEL, hSA, hls, T, L, vm0, k0, X, eT, hS, hk, hZ, hG, hF, hMo, hst.trans (XS.idiv X.here hx rfl (hb hc hd) rfl hy (Steps.refl _))⟩
theorem Wk.irem {x y : Int32} (A : Wk l Z a0 EL own code ml nm rt R D pc ls (.int y :: .int x :: st) H k n) (hd : decode code pc = .ok (.irem, 1)) (hy : y ≠ 0) :
    Wk l Z a0 EL own code ml nm rt R D (pc + 1) ls (.int (x % y) :: st) H k n := by
  obtain ⟨p, e, s, m, args, below, meth, c, s0, H0⟩ := D
  obtain ⟨hx, hown, hc, hml, hnm, hrt, hlk, hEL, hSA, hls, T, L, vm0, k0, X, eT, hS, hk, hZ, hG, hF, hMo, hst⟩ := A
  dsimp only at hx hown hc hml hnm hrt hlk X hS hMo hst
  have hown' : (s.setVm vm0).vm.findClass own = some m.cls := (hS.1.alike.findClass _ _).trans hown
  have hZ' : Z.Warmed39 (s.setVm vm0).vm := hZ
  exact ⟨hx, hown, hc, hml, hnm, hrt, hlk, hEL, hSA, hls, T, L, vm0, k0, X, eT, hS, hk, hZ, hG, hF, hMo, hst.trans (iremM X hx rfl (hb hc hd) rfl hy (Steps.refl _))⟩
theorem Wk.ldiv {x y : Int64} (A : Wk l Z a0 EL own code ml nm rt R D pc ls (.long y :: .long x :: st) H k n) (hd : decode code pc = .ok (.ldiv, 1)) (hy : y ≠ 0) :
    Wk l Z a0 EL own code ml nm rt R D (pc + 1) ls (.long (x / y) :: st) H k n := by
  obtain ⟨p, e, s, m, args, below, meth, c, s0, H0⟩ := D
  obtain ⟨hx, hown, hc, hml, hnm, hrt, hlk, hEL, hSA, hls, T, L, vm0, k0, X, eT, hS, hk, hZ, hG, hF, hMo, hst⟩ := A
  dsimp only at hx hown hc hml hnm hrt hlk X hS hMo hst
  have hown' : (s.setVm vm0).vm.findClass own = some m.cls := (hS.1.alike.findClass _ _).trans hown
  have hZ' : Z.Warmed39 (s.setVm vm0).vm := hZ
  exact ⟨hx, hown, hc, hml, hnm, hrt, hlk, hEL, hSA, hls, T, L, vm0, k0, X, eT, hS, hk, hZ, hG, hF, hMo, hst.trans (XT.ldiv X.here hx rfl (hb hc hd) rfl hy (Steps.refl _))⟩
theorem Wk.lrem {x y : Int64} (A : Wk l Z a0 EL own code ml nm rt R D pc ls (.long y :: .long x :: st) H k n) (hd : decode code pc = .ok (.lrem, 1)) (hy : y ≠ 0) :
    Wk l Z a0 EL own code ml nm rt R D (pc + 1) ls (.long (x % y) :: st) H k n := by
  obtain ⟨p, e, s, m, args, below, meth, c, s0, H0⟩ := D
  obtain ⟨hx, hown, hc, hml, hnm, hrt, hlk, hEL, hSA, hls, T, L, vm0, k0, X, eT, hS, hk, hZ, hG, hF, hMo, hst⟩ := A
  dsimp only at hx hown hc hml hnm hrt hlk X hS hMo hst
  have hown' : (s.setVm vm0).vm.findClass own = some m.cls := (hS.1.alike.findClass _ _).trans hown
  have hZ' : Z.Warmed39 (s.setVm vm0).vm := hZ
  exact ⟨hx, hown, hc, hml, hnm, hrt, hlk, hEL, hSA, hls, T, L, vm0, k0, X, eT, hS, hk, hZ, hG, hF, hMo, hst.trans (XT.lrem X.here hx rfl (hb hc hd) rfl hy (by rw [lrem_mod]; exact Steps.refl _))⟩
/-- the condition of a comparison -/
def cP : ClassFile.Cond → Int32 → Int32 → Prop
  | .eq, x, y => x = y
  | .ne, x, y => ¬ x = y
  | .lt, x, y => x < y
  | .ge, x, y => ¬ x < y
  | .gt, x, y => y < x
  | .le, x, y => ¬ y < x
theorem cP_t {cd : ClassFile.Cond} {x y : Int32} (h : cP cd x y) : if_icmp.holds cd x y = true := by
  cases cd
  · exact (teq h).1
  · exact (feq h).2
  · exact (tlt h).1
  · exact (flt h).2.1
  · exact (tlt h).2.2.1
  · exact (flt h).2.2.2
theorem cP_f {cd : ClassFile.Cond} {x y : Int32} (h : ¬ cP cd x y) : if_icmp.holds cd x y = false := by
  cases cd
  · exact (feq h).1
  · exact (teq (Decidable.not_not.mp h)).2
  · exact (flt h).1
  · exact (tlt (Decidable.not_not.mp h)).2.1
  · exact (flt h).2.2.1
  · exact (tlt (Decidable.not_not.mp h)).2.2.2
theorem Wk.ifT {cd : ClassFile.Cond} {x : Int32} {o : Int} (A : Wk l Z a0 EL own code ml nm rt R D pc ls (.int x :: st) H k n) (hd : decode code pc = .ok (.ifCond cd o, 3)) (h : cP cd x 0) {pe : Nat} (hp : 0 ≤ (pc : Int) + o ∧ ((pc : Int) + o).toNat = pe) :
    Wk l Z a0 EL own code ml nm rt R D pe ls st H k n := by
  obtain ⟨p, e, s, m, args, below, meth, c, s0, H0⟩ := D
  obtain ⟨hx, hown, hc, hml, hnm, hrt, hlk, hEL, hSA, hls, T, L, vm0, k0, X, eT, hS, hk, hZ, hG, hF, hMo, hst⟩ := A
  dsimp only at hx hown hc hml hnm hrt hlk X hS hMo hst
  have hown' : (s.setVm vm0).vm.findClass own = some m.cls := (hS.1.alike.findClass _ _).trans hown
  have hZ' : Z.Warmed39 (s.setVm vm0).vm := hZ
  exact ⟨hx, hown, hc, hml, hnm, hrt, hlk, hEL, hSA, hls, T, L, vm0, k0, X, eT, hS, hk, hZ, hG, hF, hMo, hst.trans (XS.ifYes X.here hx rfl rfl (hb hc hd) rfl (by rw [if0]; exact cP_t h) hp.1 hp.2 (Steps.refl _))⟩
theorem Wk.ifF {cd : ClassFile.Cond} {x : Int32} {o : Int} (A : Wk l Z a0 EL own code ml nm rt R D pc ls (.int x :: st) H k n) (hd : decode code pc = .ok (.ifCond cd o, 3)) (h : ¬ cP cd x 0) :
    Wk l Z a0 EL own code ml nm rt R D (pc + 3) ls st H k n := by
  obtain ⟨p, e, s, m, args, below, meth, c, s0, H0⟩ := D
  obtain ⟨hx, hown, hc, hml, hnm, hrt, hlk, hEL, hSA, hls, T, L, vm0, k0, X, eT, hS, hk, hZ, hG, hF, hMo, hst⟩ := A
  dsimp only at hx hown hc hml hnm hrt hlk X hS hMo hst
  have hown' : (s.setVm vm0).vm.findClass own = some m.cls := (hS.1.alike.findClass _ _).trans hown
  have hZ' : Z.Warmed39 (s.setVm vm0).vm := hZ
  exact ⟨hx, hown, hc, hml, hnm, hrt, hlk, hEL, hSA, hls, T, L, vm0, k0, X, eT, hS, hk, hZ, hG, hF, hMo, hst.trans (XS.ifNo X.here hx rfl (hb hc hd) rfl (by rw [if0]; exact cP_f h) (Steps.refl _))⟩
theorem Wk.icT {cd : ClassFile.Cond} {x y : Int32} {o : Int} (A : Wk l Z a0 EL own code ml nm rt R D pc ls (.int y :: .int x :: st) H k n) (hd : decode code pc = .ok (.if_icmp cd o, 3)) (h : cP cd x y) {pe : Nat} (hp : 0 ≤ (pc : Int) + o ∧ ((pc : Int) + o).toNat = pe) :
    Wk l Z a0 EL own code ml nm rt R D pe ls st H k n := by
  obtain ⟨p, e, s, m, args, below, meth, c, s0, H0⟩ := D
  obtain ⟨hx, hown, hc, hml, hnm, hrt, hlk, hEL, hSA, hls, T, L, vm0, k0, X, eT, hS, hk, hZ, hG, hF, hMo, hst⟩ := A
  dsimp only at hx hown hc hml hnm hrt hlk X hS hMo hst
  have hown' : (s.setVm vm0).vm.findClass own = some m.cls := (hS.1.alike.findClass _ _).trans hown
  have hZ' : Z.Warmed39 (s.setVm vm0).vm := hZ
  exact ⟨hx, hown, hc, hml, hnm, hrt, hlk, hEL, hSA, hls, T, L, vm0, k0, X, eT, hS, hk, hZ, hG, hF, hMo, hst.trans (XS.icmpYes X.here hx rfl rfl (hb hc hd) rfl (cP_t h) hp.1 hp.2 (Steps.refl _))⟩
theorem Wk.icF {cd : ClassFile.Cond} {x y : Int32} {o : Int} (A : Wk l Z a0 EL own code ml nm rt R D pc ls (.int y :: .int x :: st) H k n) (hd : decode code pc = .ok (.if_icmp cd o, 3)) (h : ¬ cP cd x y) :
    Wk l Z a0 EL own code ml nm rt R D (pc + 3) ls st H k n := by
  obtain ⟨p, e, s, m, args, below, meth, c, s0, H0⟩ := D
  obtain ⟨hx, hown, hc, hml, hnm, hrt, hlk, hEL, hSA, hls, T, L, vm0, k0, X, eT, hS, hk, hZ, hG, hF, hMo, hst⟩ := A
  dsimp only at hx hown hc hml hnm hrt hlk X hS hMo hst
  have hown' : (s.setVm vm0).vm.findClass own = some m.cls := (hS.1.alike.findClass _ _).trans hown
  have hZ' : Z.Warmed39 (s.setVm vm0).vm := hZ
  exact ⟨hx, hown, hc, hml, hnm, hrt, hlk, hEL, hSA, hls, T, L, vm0, k0, X, eT, hS, hk, hZ, hG, hF, hMo, hst.trans (XS.icmpNo X.here hx rfl (hb hc hd) rfl (cP_f h) (Steps.refl _))⟩
theorem Wk.nullT {o : Int} (A : Wk l Z a0 EL own code ml nm rt R D pc ls (.null :: st) H k n) (hd : decode code pc = .ok (.ifnull o, 3)) {pe : Nat} (hp : 0 ≤ (pc : Int) + o ∧ ((pc : Int) + o).toNat = pe) :
    Wk l Z a0 EL own code ml nm rt R D pe ls st H k n := by
  obtain ⟨p, e, s, m, args, below, meth, c, s0, H0⟩ := D
  obtain ⟨hx, hown, hc, hml, hnm, hrt, hlk, hEL, hSA, hls, T, L, vm0, k0, X, eT, hS, hk, hZ, hG, hF, hMo, hst⟩ := A
  dsimp only at hx hown hc hml hnm hrt hlk X hS hMo hst
  have hown' : (s.setVm vm0).vm.findClass own = some m.cls := (hS.1.alike.findClass _ _).trans hown
  have hZ' : Z.Warmed39 (s.setVm vm0).vm := hZ
  exact ⟨hx, hown, hc, hml, hnm, hrt, hlk, hEL, hSA, hls, T, L, vm0, k0, X, eT, hS, hk, hZ, hG, hF, hMo, hst.trans (XS.ifnullYes X.here hx rfl rfl (hb hc hd) rfl hp.1 hp.2 (Steps.refl _))⟩
theorem Wk.nullF {o : Int} (A : Wk l Z a0 EL own code ml nm rt R D pc ls (.ref a :: st) H k n) (hd : decode code pc = .ok (.ifnull o, 3)) :
    Wk l Z a0 EL own code ml nm rt R D (pc + 3) ls st H k n := by
  obtain ⟨p, e, s, m, args, below, meth, c, s0, H0⟩ := D
  obtain ⟨hx, hown, hc, hml, hnm, hrt, hlk, hEL, hSA, hls, T, L, vm0, k0, X, eT, hS, hk, hZ, hG, hF, hMo, hst⟩ := A
  dsimp only at hx hown hc hml hnm hrt hlk X hS hMo hst
  have hown' : (s.setVm vm0).vm.findClass own = some m.cls := (hS.1.alike.findClass _ _).trans hown
  have hZ' : Z.Warmed39 (s.setVm vm0).vm := hZ
  exact ⟨hx, hown, hc, hml, hnm, hrt, hlk, hEL, hSA, hls, T, L, vm0, k0, X, eT, hS, hk, hZ, hG, hF, hMo, hst.trans (XS.ifnullNo X.here hx rfl (hb hc hd) rfl (Steps.refl _))⟩
theorem Wk.nnullT {o : Int} (A : Wk l Z a0 EL own code ml nm rt R D pc ls (.ref a :: st) H k n) (hd : decode code pc = .ok (.ifnonnull o, 3)) {pe : Nat} (hp : 0 ≤ (pc : Int) + o ∧ ((pc : Int) + o).toNat = pe) :
    Wk l Z a0 EL own code ml nm rt R D pe ls st H k n := by
  obtain ⟨p, e, s, m, args, below, meth, c, s0, H0⟩ := D
  obtain ⟨hx, hown, hc, hml, hnm, hrt, hlk, hEL, hSA, hls, T, L, vm0, k0, X, eT, hS, hk, hZ, hG, hF, hMo, hst⟩ := A
  dsimp only at hx hown hc hml hnm hrt hlk X hS hMo hst
  have hown' : (s.setVm vm0).vm.findClass own = some m.cls := (hS.1.alike.findClass _ _).trans hown
  have hZ' : Z.Warmed39 (s.setVm vm0).vm := hZ
  exact ⟨hx, hown, hc, hml, hnm, hrt, hlk, hEL, hSA, hls, T, L, vm0, k0, X, eT, hS, hk, hZ, hG, hF, hMo, hst.trans (XT.ifnonnullYes X.here hx rfl rfl (hb hc hd) rfl hp.1 hp.2 (Steps.refl _))⟩
theorem Wk.nnullF {o : Int} (A : Wk l Z a0 EL own code ml nm rt R D pc ls (.null :: st) H k n) (hd : decode code pc = .ok (.ifnonnull o, 3)) :
    Wk l Z a0 EL own code ml nm rt R D (pc + 3) ls st H k n := by
  obtain ⟨p, e, s, m, args, below, meth, c, s0, H0⟩ := D
  obtain ⟨hx, hown, hc, hml, hnm, hrt, hlk, hEL, hSA, hls, T, L, vm0, k0, X, eT, hS, hk, hZ, hG, hF, hMo, hst⟩ := A
  dsimp only at hx hown hc hml hnm hrt hlk X hS hMo hst
  have hown' : (s.setVm vm0).vm.findClass own = some m.cls := (hS.1.alike.findClass _ _).trans hown
  have hZ' : Z.Warmed39 (s.setVm vm0).vm := hZ
  exact ⟨hx, hown, hc, hml, hnm, hrt, hlk, hEL, hSA, hls, T, L, vm0, k0, X, eT, hS, hk, hZ, hG, hF, hMo, hst.trans (XT.ifnonnullNo X.here hx rfl (hb hc hd) rfl (Steps.refl _))⟩
theorem Wk.acmp (A : Wk l Z a0 EL own code ml nm rt R D pc ls (w :: v :: st) H k n) {cd : ClassFile.ACond} {o : Int} (hd : decode code pc = .ok (.if_acmp cd o, 3)) (h1 : v.isRef = true) (h2 : w.isRef = true) {same : Bool} (hq : decide (v = w) = same) {pe : Nat} (ho : 0 ≤ (pc : Int) + o) (hp : pe = if acV cd same = true then ((pc : Int) + o).toNat else pc + 3) :
    Wk l Z a0 EL own code ml nm rt R D pe ls st H k n := by
  obtain ⟨p, e, s, m, args, below, meth, c, s0, H0⟩ := D
  obtain ⟨hx, hown, hc, hml, hnm, hrt, hlk, hEL, hSA, hls, T, L, vm0, k0, X, eT, hS, hk, hZ, hG, hF, hMo, hst⟩ := A
  dsimp only at hx hown hc hml hnm hrt hlk X hS hMo hst
  have hown' : (s.setVm vm0).vm.findClass own = some m.cls := (hS.1.alike.findClass _ _).trans hown
  have hZ' : Z.Warmed39 (s.setVm vm0).vm := hZ
  exact ⟨hx, hown, hc, hml, hnm, hrt, hlk, hEL, hSA, hls, T, L, vm0, k0, X, eT, hS, hk, hZ, hG, hF, hMo, hst.trans (acmp X hx rfl h1 h2 rfl (hb hc hd) rfl hq ho hp (Steps.refl _))⟩
theorem Wk.tsw {x : Int32} (A : Wk l Z a0 EL own code ml nm rt R D pc ls (.int x :: st) H k n) :
    Wk l Z a0 EL own code ml nm rt R D pc ls (.int x :: st) H k n := by
  obtain ⟨p, e, s, m, args, below, meth, c, s0, H0⟩ := D
  obtain ⟨hx, hown, hc, hml, hnm, hrt, hlk, hEL, hSA, hls, T, L, vm0, k0, X, eT, hS, hk, hZ, hG, hF, hMo, hst⟩ := A
  dsimp only at hx hown hc hml hnm hrt hlk X hS hMo hst
  have hown' : (s.setVm vm0).vm.findClass own = some m.cls := (hS.1.alike.findClass _ _).trans hown
  have hZ' : Z.Warmed39 (s.setVm vm0).vm := hZ
  exact ⟨hx, hown, hc, hml, hnm, hrt, hlk, hEL, hSA, hls, T, L, vm0, k0, X, eT, hS, hk, hZ, hG, hF, hMo, hst⟩
theorem Wk.getF {R0 O : String} {index : Nat} (A : Wk l Z a0 EL own code ml nm rt R D pc ls (.ref a :: st) H k n) (w : (Jvm.Cond.fieldLink own index R0 nn d).before a0 Z = true) (F : Fld Z H.1 a O nn d v) (hd : decode code pc = .ok (.getfield index, 3)) (via : Via Z R0 O nn d := by exact Via.refl) :
    Wk l Z a0 EL own code ml nm rt R D (pc + 3) ls (v :: st) H k n := by
  obtain ⟨p, e, s, m, args, below, meth, c, s0, H0⟩ := D
  obtain ⟨hx, hown, hc, hml, hnm, hrt, hlk, hEL, hSA, hls, T, L, vm0, k0, X, eT, hS, hk, hZ, hG, hF, hMo, hst⟩ := A
  dsimp only at hx hown hc hml hnm hrt hlk X hS hMo hst
  have hown' : (s.setVm vm0).vm.findClass own = some m.cls := (hS.1.alike.findClass _ _).trans hown
  have hZ' : Z.Warmed39 (s.setVm vm0).vm := hZ
  obtain ⟨T', X', e', st'⟩ := RoadKit.getF (host := "") X hx hZ' hown' (Or.inl w) via eT F (g := mkF m pc ls.toArray (.ref a :: st)) rfl rfl (hb hc hd)
  exact ⟨hx, hown, hc, hml, hnm, hrt, hlk, hEL, hSA, hls, T', L, vm0, k0, X', e', hS, hk, hZ, hG, hF, hMo, hst.trans (st' _ (Steps.refl _))⟩
theorem Wk.getFN {R0 O host : String} {index : Nat} (A : Wk l Z a0 EL own code ml nm rt R D pc ls (.ref a :: st) H k n) (w : (Jvm.Cond.fieldLinkNest own index R0 nn d host).before a0 Z = true) (F : Fld Z H.1 a O nn d v) (hd : decode code pc = .ok (.getfield index, 3)) (via : Via Z R0 O nn d := by exact Via.refl) :
    Wk l Z a0 EL own code ml nm rt R D (pc + 3) ls (v :: st) H k n := by
  obtain ⟨p, e, s, m, args, below, meth, c, s0, H0⟩ := D
  obtain ⟨hx, hown, hc, hml, hnm, hrt, hlk, hEL, hSA, hls, T, L, vm0, k0, X, eT, hS, hk, hZ, hG, hF, hMo, hst⟩ := A
  dsimp only at hx hown hc hml hnm hrt hlk X hS hMo hst
  have hown' : (s.setVm vm0).vm.findClass own = some m.cls := (hS.1.alike.findClass _ _).trans hown
  have hZ' : Z.Warmed39 (s.setVm vm0).vm := hZ
  obtain ⟨T', X', e', st'⟩ := RoadKit.getF X hx hZ' hown' (Or.inr w) via eT F (g := mkF m pc ls.toArray (.ref a :: st)) rfl rfl (hb hc hd)
  exact ⟨hx, hown, hc, hml, hnm, hrt, hlk, hEL, hSA, hls, T', L, vm0, k0, X', e', hS, hk, hZ, hG, hF, hMo, hst.trans (st' _ (Steps.refl _))⟩
theorem Wk.getS {R0 O : String} {index : Nat} (A : Wk l Z a0 EL own code ml nm rt R D pc ls st H k n) (w : (Jvm.Cond.fieldLink own index R0 nn d).before a0 Z = true) (F : Sta Z Z.heap O nn d v) (hd : decode code pc = .ok (.getstatic index, 3)) (via : Via Z R0 O nn d := by exact Via.refl) :
    Wk l Z a0 EL own code ml nm rt R D (pc + 3) ls (v :: st) H k n := by
  obtain ⟨p, e, s, m, args, below, meth, c, s0, H0⟩ := D
  obtain ⟨hx, hown, hc, hml, hnm, hrt, hlk, hEL, hSA, hls, T, L, vm0, k0, X, eT, hS, hk, hZ, hG, hF, hMo, hst⟩ := A
  dsimp only at hx hown hc hml hnm hrt hlk X hS hMo hst
  have hown' : (s.setVm vm0).vm.findClass own = some m.cls := (hS.1.alike.findClass _ _).trans hown
  have hZ' : Z.Warmed39 (s.setVm vm0).vm := hZ
  obtain ⟨T', X', e', st'⟩ := RoadKit.getS (host := "") X hx hZ' hown' w via eT (F.ext hG.1) (g := mkF m pc ls.toArray st) rfl (hb hc hd)
  exact ⟨hx, hown, hc, hml, hnm, hrt, hlk, hEL, hSA, hls, T', L, vm0, k0, X', e', hS, hk, hZ, hG, hF, hMo, hst.trans (st' _ (Steps.refl _))⟩
theorem Wk.putF {R0 O : String} {index kk : Nat} {old : Value} (A : Wk l Z a0 EL own code ml nm rt R D pc ls (v :: .ref a :: st) H k n) (w : (Jvm.Cond.fieldLink own index R0 nn d).before a0 Z = true) (F : Fld Z H.1 a O nn d old) (E : Exa Z H.1 a C) (wl : (Jvm.Cond.lays C O nn d).before a0 Z = true) (wi : (Jvm.Cond.instantiable C kk).before a0 Z = true) (o : H.2 a) (hd : decode code pc = .ok (.putfield index, 3)) (hty : parseFieldDescriptor d = some ty) (hn : narrow ty v = v) (hf : fits ty v = true) (via : Via Z R0 O nn d := by exact Via.refl) :
    ∃ H' : HP, Wk l Z a0 EL own code ml nm rt R D (pc + 3) ls st H' k n ∧ Kp H H' [a] ∧ Wr H.1 H'.1 a (Jvm.RoadKit.slotOf Z O nn d) v := by
  obtain ⟨p, e, s, m, args, below, meth, c, s0, H0⟩ := D
  obtain ⟨hx, hown, hc, hml, hnm, hrt, hlk, hEL, hSA, hls, T, L, vm0, k0, X, eT, hS, hk, hZ, hG, hF, hMo, hst⟩ := A
  dsimp only at hx hown hc hml hnm hrt hlk X hS hMo hst
  have hown' : (s.setVm vm0).vm.findClass own = some m.cls := (hS.1.alike.findClass _ _).trans hown
  have hZ' : Z.Warmed39 (s.setVm vm0).vm := hZ
  obtain ⟨T', h', X', e', Wr1, st'⟩ := RoadKit.putF (host := "") X hx hZ' hown' (Or.inl w) via eT F E (Or.inl wl) wi hty hn hf (g := mkF m pc ls.toArray (v :: .ref a :: st)) rfl rfl (hb hc hd)
  have o2 := hG.2.1 a o
  refine ⟨(h', H.2), ⟨hx, hown, hc, hml, hnm, hrt, hlk, hEL, hSA, hls, T', (L ++ [_]), vm0, k0, X', e', hS, (by show _ ≤ h'.size; rw [Wr1.size]; exact hk), hZ, (hG.wr Wr1 o), (hF.app fun y hy => by cases List.mem_singleton.mp hy; exact o2.1), ⟨hMo.1, by show _ ≤ h'.size; rw [Wr1.size]; exact hMo.2⟩, hst.trans (st' _ (Steps.refl _))⟩, ⟨Keep.of_wr Wr1, fun _ q => q⟩, Wr1⟩
theorem Wk.putFin {R0 O : String} {index kk : Nat} {old : Value} (A : Wk l Z a0 EL own code ml nm rt R D pc ls (v :: .ref a :: st) H k n) (w : (Jvm.Cond.fieldLink own index R0 nn d).before a0 Z = true) (F : Fld Z H.1 a O nn d old) (E : Exa Z H.1 a C) (wl : (Jvm.Cond.laysFinal C O nn d).before a0 Z = true) (ho : own = O) (hi : nm = "<init>") (wi : (Jvm.Cond.instantiable C kk).before a0 Z = true) (o : H.2 a) (hd : decode code pc = .ok (.putfield index, 3)) (hty : parseFieldDescriptor d = some ty) (hn : narrow ty v = v) (hf : fits ty v = true) (via : Via Z R0 O nn d := by exact Via.refl) :
    ∃ H' : HP, Wk l Z a0 EL own code ml nm rt R D (pc + 3) ls st H' k n ∧ Kp H H' [a] ∧ Wr H.1 H'.1 a (Jvm.RoadKit.slotOf Z O nn d) v := by
  obtain ⟨p, e, s, m, args, below, meth, c, s0, H0⟩ := D
  obtain ⟨hx, hown, hc, hml, hnm, hrt, hlk, hEL, hSA, hls, T, L, vm0, k0, X, eT, hS, hk, hZ, hG, hF, hMo, hst⟩ := A
  dsimp only at hx hown hc hml hnm hrt hlk X hS hMo hst
  have hown' : (s.setVm vm0).vm.findClass own = some m.cls := (hS.1.alike.findClass _ _).trans hown
  have hZ' : Z.Warmed39 (s.setVm vm0).vm := hZ
  obtain ⟨T', h', X', e', Wr1, st'⟩ := RoadKit.putF (host := "") X hx hZ' hown' (Or.inl w) via eT F E (Or.inr ⟨wl, ho, hnm.trans hi⟩) wi hty hn hf (g := mkF m pc ls.toArray (v :: .ref a :: st)) rfl rfl (hb hc hd)
  have o2 := hG.2.1 a o
  refine ⟨(h', H.2), ⟨hx, hown, hc, hml, hnm, hrt, hlk, hEL, hSA, hls, T', (L ++ [_]), vm0, k0, X', e', hS, (by show _ ≤ h'.size; rw [Wr1.size]; exact hk), hZ, (hG.wr Wr1 o), (hF.app fun y hy => by cases List.mem_singleton.mp hy; exact o2.1), ⟨hMo.1, by show _ ≤ h'.size; rw [Wr1.size]; exact hMo.2⟩, hst.trans (st' _ (Steps.refl _))⟩, ⟨Keep.of_wr Wr1, fun _ q => q⟩, Wr1⟩
theorem Wk.newO {index q : Nat} (A : Wk l Z a0 EL own code ml nm rt R D pc ls st H k n) (w : (Jvm.Cond.classLink own index C).before a0 Z = true) (wi : (Jvm.Cond.instantiable C q).before a0 Z = true) (wz : (Jvm.Cond.initialized C).before a0 Z = true) (hd : decode code pc = .ok (.new index, 3)) (hcl : k + 1 ≤ R.cells) (hsl : n + q ≤ R.slots) :
    ∃ (a : Addr) (H' : HP), Wk l Z a0 EL own code ml nm rt R D (pc + 3) ls (.ref a :: st) H' (k + 1) (n + q) ∧ H.1.size ≤ a ∧ Kp H H' [] ∧ Exa Z H'.1 a C ∧ H'.2 a ∧ ∀ {O fn fd : String} {t : FieldType}, Laid Z a0 C O fn fd → parseFieldDescriptor fd = some t → Fld Z H'.1 a O fn fd (defaultValue t) := by
  obtain ⟨p, e, s, m, args, below, meth, c, s0, H0⟩ := D
  obtain ⟨hx, hown, hc, hml, hnm, hrt, hlk, hEL, hSA, hls, T, L, vm0, k0, X, eT, hS, hk, hZ, hG, hF, hMo, hst⟩ := A
  dsimp only at hx hown hc hml hnm hrt hlk X hS hMo hst
  have hown' : (s.setVm vm0).vm.findClass own = some m.cls := (hS.1.alike.findClass _ _).trans hown
  have hZ' : Z.Warmed39 (s.setVm vm0).vm := hZ
  obtain ⟨T', h', X', e', E, Ex, Fl, -, st'⟩ := RoadKit.newO X hx hZ' hown' w wi wz eT (g := mkF m pc ls.toArray st) rfl (hb hc hd) hcl hsl
  exact ⟨H.1.size, (h', fun y => H.2 y ∨ y = H.1.size), ⟨hx, hown, hc, hml, hnm, hrt, hlk, hEL, hSA, hls, T', L, vm0, k0, X', e', hS, (Nat.le_trans hk E.1), hZ, (hG.ext E Ex.lt), hF, ⟨fun x q => Or.inl (hMo.1 x q), Nat.le_trans hMo.2 E.1⟩, hst.trans (st' _ (Steps.refl _))⟩, Nat.le_refl _, ⟨(Keep.refl _ _).ext E, fun _ q => Or.inl q⟩, Ex, Or.inr rfl, Fl⟩
theorem Wk.newA {aty : ArrayType} {z : Int32} (A : Wk l Z a0 EL own code ml nm rt R D pc ls (.int z :: st) H k n) (w : (Jvm.Cond.arrayClass (newarray.typeOf aty)).before a0 Z = true) (hd : decode code pc = .ok (.newarray aty, 2)) {N : Nat} (hN : N.toInt32 = z) {cap : Nat} (hcap : N ≤ cap) (hbg : cap * 8 ≤ 536870912) (hcl : k + 1 ≤ R.cells) (hsl : n + cap ≤ R.slots) :
    ∃ (a : Addr) (H' : HP), Wk l Z a0 EL own code ml nm rt R D (pc + 2) ls (.ref a :: st) H' (k + 1) (n + cap) ∧ H.1.size ≤ a ∧ Kp H H' [] ∧ Ar Z H' a (newarray.typeOf aty) (List.replicate N (defaultValue (newarray.typeOf aty))) ∧ H'.2 a := by
  obtain ⟨p, e, s, m, args, below, meth, c, s0, H0⟩ := D
  obtain ⟨hx, hown, hc, hml, hnm, hrt, hlk, hEL, hSA, hls, T, L, vm0, k0, X, eT, hS, hk, hZ, hG, hF, hMo, hst⟩ := A
  dsimp only at hx hown hc hml hnm hrt hlk X hS hMo hst
  have hown' : (s.setVm vm0).vm.findClass own = some m.cls := (hS.1.alike.findClass _ _).trans hown
  have hZ' : Z.Warmed39 (s.setVm vm0).vm := hZ
  subst hN
  have hN2 : N < 2 ^ 31 := by omega
  obtain ⟨T', h', cA, X', e', E, Ex, st'⟩ := RoadKit.newP X hx hZ' w eT (g := mkF m pc ls.toArray (.int N.toInt32 :: st)) rfl (hb hc hd) rfl (nonneg_nat hN2) (cap := cap) (by rw [clamp_nat hN2]; exact hcap) hbg hcl hsl
  refine ⟨H.1.size, (h', fun y => H.2 y ∨ y = H.1.size), ⟨hx, hown, hc, hml, hnm, hrt, hlk, hEL, hSA, hls, T', L, vm0, k0, X', e', hS, (Nat.le_trans hk E.1), hZ, (hG.ext E Ex.lt), hF, ⟨fun x q => Or.inl (hMo.1 x q), Nat.le_trans hMo.2 E.1⟩, hst.trans (st' _ (Steps.refl _))⟩, Nat.le_refl _, ⟨(Keep.refl _ _).ext E, fun _ q => Or.inl q⟩, ⟨_, Ex, by simp [newA, clamp_nat hN2], by simpa using hN2, fun v hv => ?_⟩, Or.inr rfl⟩
  obtain ⟨-, rfl⟩ := List.mem_replicate.mp hv
  cases aty <;> rfl
theorem Wk.alen (A : Wk l Z a0 EL own code ml nm rt R D pc ls (.ref a :: st) H k n) (F : Ar Z H a ty vs) (hd : decode code pc = .ok (.arraylength, 1)) {z : Int32} (hz : vs.length.toInt32 = z) :
    Wk l Z a0 EL own code ml nm rt R D (pc + 1) ls (.int z :: st) H k n := by
  obtain ⟨p, e, s, m, args, below, meth, c, s0, H0⟩ := D
  obtain ⟨hx, hown, hc, hml, hnm, hrt, hlk, hEL, hSA, hls, T, L, vm0, k0, X, eT, hS, hk, hZ, hG, hF, hMo, hst⟩ := A
  dsimp only at hx hown hc hml hnm hrt hlk X hS hMo hst
  have hown' : (s.setVm vm0).vm.findClass own = some m.cls := (hS.1.alike.findClass _ _).trans hown
  have hZ' : Z.Warmed39 (s.setVm vm0).vm := hZ
  obtain ⟨cl, Aq, hsl, -, -⟩ := F
  have hsz : cl.slots.size = vs.length := by rw [hsl]; simp
  exact ⟨hx, hown, hc, hml, hnm, hrt, hlk, hEL, hSA, hls, T, L, vm0, k0, X, eT, hS, hk, hZ, hG, hF, hMo, hst.trans (X.arraylength hx (by rw [eT]; exact Aq.1) (State.isArrayOf_alike hZ'.alike Aq.2.1) (g := mkF m pc ls.toArray (.ref a :: st)) rfl rfl (hb hc hd) _ (by rw [hsz, hz]; exact Steps.refl _))⟩
theorem Wk.caload {i : Nat} {j : Int32} (A : Wk l Z a0 EL own code ml nm rt R D pc ls (.int j :: .ref a :: st) H k n) (F : Ar Z H a .char vs) (hd : decode code pc = .ok (.caload, 1)) (hj : i.toInt32 = j) (hv : vs[i]? = some v) :
    Wk l Z a0 EL own code ml nm rt R D (pc + 1) ls (v :: st) H k n := by
  obtain ⟨p, e, s, m, args, below, meth, c, s0, H0⟩ := D
  obtain ⟨hx, hown, hc, hml, hnm, hrt, hlk, hEL, hSA, hls, T, L, vm0, k0, X, eT, hS, hk, hZ, hG, hF, hMo, hst⟩ := A
  dsimp only at hx hown hc hml hnm hrt hlk X hS hMo hst
  have hown' : (s.setVm vm0).vm.findClass own = some m.cls := (hS.1.alike.findClass _ _).trans hown
  have hZ' : Z.Warmed39 (s.setVm vm0).vm := hZ
  subst hj
  obtain ⟨cl, Aq, hsl, hlen, -⟩ := F
  have hi : i < vs.length := (List.getElem?_eq_some_iff.mp hv).1
  have hsz : cl.slots.size = vs.length := by rw [hsl]; simp
  exact ⟨hx, hown, hc, hml, hnm, hrt, hlk, hEL, hSA, hls, T, L, vm0, k0, X, eT, hS, hk, hZ, hG, hF, hMo, hst.trans (X.caload hx (by rw [eT]; exact Aq.1) (State.isArrayOf_alike hZ'.alike Aq.2.1) Aq.2.2 (by rw [hsz]; exact idx_in hi hlen) (by rw [clamp_nat (Nat.lt_trans hi hlen), hsl]; simpa using hv) (g := mkF m pc ls.toArray (.int i.toInt32 :: .ref a :: st)) rfl rfl (hb hc hd) _ (Steps.refl _))⟩
theorem Wk.baload {i : Nat} {j : Int32} (A : Wk l Z a0 EL own code ml nm rt R D pc ls (.int j :: .ref a :: st) H k n) (F : Ar Z H a .byte vs) (hd : decode code pc = .ok (.baload, 1)) (hj : i.toInt32 = j) (hv : vs[i]? = some v) :
    Wk l Z a0 EL own code ml nm rt R D (pc + 1) ls (v :: st) H k n := by
  obtain ⟨p, e, s, m, args, below, meth, c, s0, H0⟩ := D
  obtain ⟨hx, hown, hc, hml, hnm, hrt, hlk, hEL, hSA, hls, T, L, vm0, k0, X, eT, hS, hk, hZ, hG, hF, hMo, hst⟩ := A
  dsimp only at hx hown hc hml hnm hrt hlk X hS hMo hst
  have hown' : (s.setVm vm0).vm.findClass own = some m.cls := (hS.1.alike.findClass _ _).trans hown
  have hZ' : Z.Warmed39 (s.setVm vm0).vm := hZ
  subst hj
  obtain ⟨cl, Aq, hsl, hlen, -⟩ := F
  have hi : i < vs.length := (List.getElem?_eq_some_iff.mp hv).1
  have hsz : cl.slots.size = vs.length := by rw [hsl]; simp
  exact ⟨hx, hown, hc, hml, hnm, hrt, hlk, hEL, hSA, hls, T, L, vm0, k0, X, eT, hS, hk, hZ, hG, hF, hMo, hst.trans (X.baloadBytes hx (by rw [eT]; exact Aq.1) (State.isArrayOf_alike hZ'.alike Aq.2.1) Aq.2.2 (by rw [hsz]; exact idx_in hi hlen) (by rw [clamp_nat (Nat.lt_trans hi hlen), hsl]; simpa using hv) (g := mkF m pc ls.toArray (.int i.toInt32 :: .ref a :: st)) rfl rfl (hb hc hd) _ (Steps.refl _))⟩
theorem Wk.zaload {i : Nat} {j : Int32} (A : Wk l Z a0 EL own code ml nm rt R D pc ls (.int j :: .ref a :: st) H k n) (F : Ar Z H a .boolean vs) (hd : decode code pc = .ok (.baload, 1)) (hj : i.toInt32 = j) (hv : vs[i]? = some v) :
    Wk l Z a0 EL own code ml nm rt R D (pc + 1) ls (v :: st) H k n := by
  obtain ⟨p, e, s, m, args, below, meth, c, s0, H0⟩ := D
  obtain ⟨hx, hown, hc, hml, hnm, hrt, hlk, hEL, hSA, hls, T, L, vm0, k0, X, eT, hS, hk, hZ, hG, hF, hMo, hst⟩ := A
  dsimp only at hx hown hc hml hnm hrt hlk X hS hMo hst
  have hown' : (s.setVm vm0).vm.findClass own = some m.cls := (hS.1.alike.findClass _ _).trans hown
  have hZ' : Z.Warmed39 (s.setVm vm0).vm := hZ
  subst hj
  obtain ⟨cl, Aq, hsl, hlen, -⟩ := F
  have hi : i < vs.length := (List.getElem?_eq_some_iff.mp hv).1
  have hsz : cl.slots.size = vs.length := by rw [hsl]; simp
  exact ⟨hx, hown, hc, hml, hnm, hrt, hlk, hEL, hSA, hls, T, L, vm0, k0, X, eT, hS, hk, hZ, hG, hF, hMo, hst.trans (X.baloadBooleans hx (by rw [eT]; exact Aq.1) (State.isArrayOf_alike hZ'.alike Aq.2.1) Aq.2.2 (by rw [hsz]; exact idx_in hi hlen) (by rw [clamp_nat (Nat.lt_trans hi hlen), hsl]; simpa using hv) (g := mkF m pc ls.toArray (.int i.toInt32 :: .ref a :: st)) rfl rfl (hb hc hd) _ (Steps.refl _))⟩
theorem Wk.iaload {i : Nat} {j : Int32} (A : Wk l Z a0 EL own code ml nm rt R D pc ls (.int j :: .ref a :: st) H k n) (F : Ar Z H a .int vs) (hd : decode code pc = .ok (.iaload, 1)) (hj : i.toInt32 = j) (hv : vs[i]? = some v) :
    Wk l Z a0 EL own code ml nm rt R D (pc + 1) ls (v :: st) H k n := by
  obtain ⟨p, e, s, m, args, below, meth, c, s0, H0⟩ := D
  obtain ⟨hx, hown, hc, hml, hnm, hrt, hlk, hEL, hSA, hls, T, L, vm0, k0, X, eT, hS, hk, hZ, hG, hF, hMo, hst⟩ := A
  dsimp only at hx hown hc hml hnm hrt hlk X hS hMo hst
  have hown' : (s.setVm vm0).vm.findClass own = some m.cls := (hS.1.alike.findClass _ _).trans hown
  have hZ' : Z.Warmed39 (s.setVm vm0).vm := hZ
  subst hj
  obtain ⟨cl, Aq, hsl, hlen, -⟩ := F
  have hi : i < vs.length := (List.getElem?_eq_some_iff.mp hv).1
  have hsz : cl.slots.size = vs.length := by rw [hsl]; simp
  exact ⟨hx, hown, hc, hml, hnm, hrt, hlk, hEL, hSA, hls, T, L, vm0, k0, X, eT, hS, hk, hZ, hG, hF, hMo, hst.trans (X.iaload hx (by rw [eT]; exact Aq.1) (State.isArrayOf_alike hZ'.alike Aq.2.1) Aq.2.2 (by rw [hsz]; exact idx_in hi hlen) (by rw [clamp_nat (Nat.lt_trans hi hlen), hsl]; simpa using hv) (g := mkF m pc ls.toArray (.int i.toInt32 :: .ref a :: st)) rfl rfl (hb hc hd) _ (Steps.refl _))⟩
theorem Wk.laload {i : Nat} {j : Int32} (A : Wk l Z a0 EL own code ml nm rt R D pc ls (.int j :: .ref a :: st) H k n) (F : Ar Z H a .long vs) (hd : decode code pc = .ok (.laload, 1)) (hj : i.toInt32 = j) (hv : vs[i]? = some v) :
    Wk l Z a0 EL own code ml nm rt R D (pc + 1) ls (v :: st) H k n := by
  obtain ⟨p, e, s, m, args, below, meth, c, s0, H0⟩ := D
  obtain ⟨hx, hown, hc, hml, hnm, hrt, hlk, hEL, hSA, hls, T, L, vm0, k0, X, eT, hS, hk, hZ, hG, hF, hMo, hst⟩ := A
  dsimp only at hx hown hc hml hnm hrt hlk X hS hMo hst
  have hown' : (s.setVm vm0).vm.findClass own = some m.cls := (hS.1.alike.findClass _ _).trans hown
  have hZ' : Z.Warmed39 (s.setVm vm0).vm := hZ
  subst hj
  obtain ⟨cl, Aq, hsl, hlen, -⟩ := F
  have hi : i < vs.length := (List.getElem?_eq_some_iff.mp hv).1
  have hsz : cl.slots.size = vs.length := by rw [hsl]; simp
  exact ⟨hx, hown, hc, hml, hnm, hrt, hlk, hEL, hSA, hls, T, L, vm0, k0, X, eT, hS, hk, hZ, hG, hF, hMo, hst.trans (X.laload hx (by rw [eT]; exact Aq.1) (State.isArrayOf_alike hZ'.alike Aq.2.1) Aq.2.2 (by rw [hsz]; exact idx_in hi hlen) (by rw [clamp_nat (Nat.lt_trans hi hlen), hsl]; simpa using hv) (g := mkF m pc ls.toArray (.int i.toInt32 :: .ref a :: st)) rfl rfl (hb hc hd) _ (Steps.refl _))⟩
theorem Wk.aaload {i : Nat} {j : Int32} (A : Wk l Z a0 EL own code ml nm rt R D pc ls (.int j :: .ref a :: st) H k n) (F : Ar Z H a ty vs) (hd : decode code pc = .ok (.aaload, 1)) (hj : i.toInt32 = j) (hv : vs[i]? = some v) (hty : ty.isReference = true) :
    Wk l Z a0 EL own code ml nm rt R D (pc + 1) ls (v :: st) H k n := by
  obtain ⟨p, e, s, m, args, below, meth, c, s0, H0⟩ := D
  obtain ⟨hx, hown, hc, hml, hnm, hrt, hlk, hEL, hSA, hls, T, L, vm0, k0, X, eT, hS, hk, hZ, hG, hF, hMo, hst⟩ := A
  dsimp only at hx hown hc hml hnm hrt hlk X hS hMo hst
  have hown' : (s.setVm vm0).vm.findClass own = some m.cls := (hS.1.alike.findClass _ _).trans hown
  have hZ' : Z.Warmed39 (s.setVm vm0).vm := hZ
  subst hj
  obtain ⟨cl, Aq, hsl, hlen, -⟩ := F
  have hi : i < vs.length := (List.getElem?_eq_some_iff.mp hv).1
  have hsz : cl.slots.size = vs.length := by rw [hsl]; simp
  exact ⟨hx, hown, hc, hml, hnm, hrt, hlk, hEL, hSA, hls, T, L, vm0, k0, X, eT, hS, hk, hZ, hG, hF, hMo, hst.trans (X.aaload hx (by rw [eT]; exact Aq.1) (State.isArrayOf_alike hZ'.alike Aq.2.1) hty Aq.2.2 (by rw [hsz]; exact idx_in hi hlen) (by rw [clamp_nat (Nat.lt_trans hi hlen), hsl]; simpa using hv) (g := mkF m pc ls.toArray (.int i.toInt32 :: .ref a :: st)) rfl rfl (hb hc hd) _ (Steps.refl _))⟩
theorem Wk.castore {i : Nat} {j : Int32} {x x2 : Int32} (A : Wk l Z a0 EL own code ml nm rt R D pc ls (.int x :: .int j :: .ref a :: st) H k n) (F : Ar Z H a .char vs) (o : H.2 a) (hd : decode code pc = .ok (.castore, 1)) (hj : i.toInt32 = j) (hi : i < vs.length) (hx2 : nar .char x = x2) :
    ∃ H' : HP, Wk l Z a0 EL own code ml nm rt R D (pc + 1) ls st H' k n ∧ Kp H H' [a] ∧ Ar Z H' a .char (vs.set i (.int x2)) := by
  obtain ⟨p, e, s, m, args, below, meth, c, s0, H0⟩ := D
  obtain ⟨hx, hown, hc, hml, hnm, hrt, hlk, hEL, hSA, hls, T, L, vm0, k0, X, eT, hS, hk, hZ, hG, hF, hMo, hst⟩ := A
  dsimp only at hx hown hc hml hnm hrt hlk X hS hMo hst
  have hown' : (s.setVm vm0).vm.findClass own = some m.cls := (hS.1.alike.findClass _ _).trans hown
  have hZ' : Z.Warmed39 (s.setVm vm0).vm := hZ
  subst hj
  obtain ⟨cl, Aq, hsl, hlen, hft⟩ := F
  have hsz : cl.slots.size = vs.length := by rw [hsl]; simp
  have hi2 : i < 2 ^ 31 := Nat.lt_trans hi hlen
  obtain ⟨T', h', X', e', Wr1, st'⟩ := stC X hx hZ' eT Aq (by rw [hsz]; exact idx_in hi hlen) (g := mkF m pc ls.toArray (.int x :: .int i.toInt32 :: .ref a :: st)) rfl rfl (hb hc hd)
  have o2 := hG.2.1 a o
  refine ⟨(h', H.2), ⟨hx, hown, hc, hml, hnm, hrt, hlk, hEL, hSA, hls, T', (L ++ [_]), vm0, k0, X', e', hS, (by show _ ≤ h'.size; rw [Wr1.size]; exact hk), hZ, (hG.wr Wr1 o), (hF.app fun y hy => by cases List.mem_singleton.mp hy; exact o2.1), ⟨hMo.1, by show _ ≤ h'.size; rw [Wr1.size]; exact hMo.2⟩, hst.trans (st' _ (Steps.refl _))⟩, ⟨Keep.of_wr Wr1, fun _ q => q⟩, ⟨_, Aq.same Wr1, ?_, by simpa using hlen, fun v hv => ?_⟩⟩
  · rw [clamp_nat hi2]; show cl.slots.setIfInBounds i _ = _; rw [hsl]; subst hx2; simp
  · rcases List.mem_or_eq_of_mem_set hv with q | rfl
    · exact hft v q
    · rw [← hx2]; exact fits_nar_char x
theorem Wk.bastore {i : Nat} {j : Int32} {x x2 : Int32} (A : Wk l Z a0 EL own code ml nm rt R D pc ls (.int x :: .int j :: .ref a :: st) H k n) (F : Ar Z H a .byte vs) (o : H.2 a) (hd : decode code pc = .ok (.bastore, 1)) (hj : i.toInt32 = j) (hi : i < vs.length) (hx2 : nar .byte x = x2) :
    ∃ H' : HP, Wk l Z a0 EL own code ml nm rt R D (pc + 1) ls st H' k n ∧ Kp H H' [a] ∧ Ar Z H' a .byte (vs.set i (.int x2)) := by
  obtain ⟨p, e, s, m, args, below, meth, c, s0, H0⟩ := D
  obtain ⟨hx, hown, hc, hml, hnm, hrt, hlk, hEL, hSA, hls, T, L, vm0, k0, X, eT, hS, hk, hZ, hG, hF, hMo, hst⟩ := A
  dsimp only at hx hown hc hml hnm hrt hlk X hS hMo hst
  have hown' : (s.setVm vm0).vm.findClass own = some m.cls := (hS.1.alike.findClass _ _).trans hown
  have hZ' : Z.Warmed39 (s.setVm vm0).vm := hZ
  subst hj
  obtain ⟨cl, Aq, hsl, hlen, hft⟩ := F
  have hsz : cl.slots.size = vs.length := by rw [hsl]; simp
  have hi2 : i < 2 ^ 31 := Nat.lt_trans hi hlen
  obtain ⟨T', h', X', e', Wr1, st'⟩ := stB X hx hZ' eT Aq (by rw [hsz]; exact idx_in hi hlen) (g := mkF m pc ls.toArray (.int x :: .int i.toInt32 :: .ref a :: st)) rfl rfl (hb hc hd)
  have o2 := hG.2.1 a o
  refine ⟨(h', H.2), ⟨hx, hown, hc, hml, hnm, hrt, hlk, hEL, hSA, hls, T', (L ++ [_]), vm0, k0, X', e', hS, (by show _ ≤ h'.size; rw [Wr1.size]; exact hk), hZ, (hG.wr Wr1 o), (hF.app fun y hy => by cases List.mem_singleton.mp hy; exact o2.1), ⟨hMo.1, by show _ ≤ h'.size; rw [Wr1.size]; exact hMo.2⟩, hst.trans (st' _ (Steps.refl _))⟩, ⟨Keep.of_wr Wr1, fun _ q => q⟩, ⟨_, Aq.same Wr1, ?_, by simpa using hlen, fun v hv => ?_⟩⟩
  · rw [clamp_nat hi2]; show cl.slots.setIfInBounds i _ = _; rw [hsl]; subst hx2; simp
  · rcases List.mem_or_eq_of_mem_set hv with q | rfl
    · exact hft v q
    · rw [← hx2]; exact fits_nar_byte x
theorem Wk.zastore {i : Nat} {j : Int32} {x x2 : Int32} (A : Wk l Z a0 EL own code ml nm rt R D pc ls (.int x :: .int j :: .ref a :: st) H k n) (F : Ar Z H a .boolean vs) (o : H.2 a) (hd : decode code pc = .ok (.bastore, 1)) (hj : i.toInt32 = j) (hi : i < vs.length) (hx2 : nar .boolean x = x2) :
    ∃ H' : HP, Wk l Z a0 EL own code ml nm rt R D (pc + 1) ls st H' k n ∧ Kp H H' [a] ∧ Ar Z H' a .boolean (vs.set i (.int x2)) := by
  obtain ⟨p, e, s, m, args, below, meth, c, s0, H0⟩ := D
  obtain ⟨hx, hown, hc, hml, hnm, hrt, hlk, hEL, hSA, hls, T, L, vm0, k0, X, eT, hS, hk, hZ, hG, hF, hMo, hst⟩ := A
  dsimp only at hx hown hc hml hnm hrt hlk X hS hMo hst
  have hown' : (s.setVm vm0).vm.findClass own = some m.cls := (hS.1.alike.findClass _ _).trans hown
  have hZ' : Z.Warmed39 (s.setVm vm0).vm := hZ
  subst hj
  obtain ⟨cl, Aq, hsl, hlen, hft⟩ := F
  have hsz : cl.slots.size = vs.length := by rw [hsl]; simp
  have hi2 : i < 2 ^ 31 := Nat.lt_trans hi hlen
  obtain ⟨T', h', X', e', Wr1, st'⟩ := stZ X hx hZ' eT Aq (by rw [hsz]; exact idx_in hi hlen) (g := mkF m pc ls.toArray (.int x :: .int i.toInt32 :: .ref a :: st)) rfl rfl (hb hc hd)
  have o2 := hG.2.1 a o
  refine ⟨(h', H.2), ⟨hx, hown, hc, hml, hnm, hrt, hlk, hEL, hSA, hls, T', (L ++ [_]), vm0, k0, X', e', hS, (by show _ ≤ h'.size; rw [Wr1.size]; exact hk), hZ, (hG.wr Wr1 o), (hF.app fun y hy => by cases List.mem_singleton.mp hy; exact o2.1), ⟨hMo.1, by show _ ≤ h'.size; rw [Wr1.size]; exact hMo.2⟩, hst.trans (st' _ (Steps.refl _))⟩, ⟨Keep.of_wr Wr1, fun _ q => q⟩, ⟨_, Aq.same Wr1, ?_, by simpa using hlen, fun v hv => ?_⟩⟩
  · rw [clamp_nat hi2]; show cl.slots.setIfInBounds i _ = _; rw [hsl]; subst hx2; simp
  · rcases List.mem_or_eq_of_mem_set hv with q | rfl
    · exact hft v q
    · rw [← hx2]; exact fits_nar_bool x
theorem Wk.iastore {i : Nat} {j : Int32} {x : Int32} (A : Wk l Z a0 EL own code ml nm rt R D pc ls (.int x :: .int j :: .ref a :: st) H k n) (F : Ar Z H a .int vs) (o : H.2 a) (hd : decode code pc = .ok (.iastore, 1)) (hj : i.toInt32 = j) (hi : i < vs.length) :
    ∃ H' : HP, Wk l Z a0 EL own code ml nm rt R D (pc + 1) ls st H' k n ∧ Kp H H' [a] ∧ Ar Z H' a .int (vs.set i (.int x)) := by
  obtain ⟨p, e, s, m, args, below, meth, c, s0, H0⟩ := D
  obtain ⟨hx, hown, hc, hml, hnm, hrt, hlk, hEL, hSA, hls, T, L, vm0, k0, X, eT, hS, hk, hZ, hG, hF, hMo, hst⟩ := A
  dsimp only at hx hown hc hml hnm hrt hlk X hS hMo hst
  have hown' : (s.setVm vm0).vm.findClass own = some m.cls := (hS.1.alike.findClass _ _).trans hown
  have hZ' : Z.Warmed39 (s.setVm vm0).vm := hZ
  subst hj
  obtain ⟨cl, Aq, hsl, hlen, hft⟩ := F
  have hsz : cl.slots.size = vs.length := by rw [hsl]; simp
  have hi2 : i < 2 ^ 31 := Nat.lt_trans hi hlen
  obtain ⟨T', h', X', e', Wr1, st'⟩ := stI X hx hZ' eT Aq (by rw [hsz]; exact idx_in hi hlen) (g := mkF m pc ls.toArray (.int x :: .int i.toInt32 :: .ref a :: st)) rfl rfl (hb hc hd)
  have o2 := hG.2.1 a o
  refine ⟨(h', H.2), ⟨hx, hown, hc, hml, hnm, hrt, hlk, hEL, hSA, hls, T', (L ++ [_]), vm0, k0, X', e', hS, (by show _ ≤ h'.size; rw [Wr1.size]; exact hk), hZ, (hG.wr Wr1 o), (hF.app fun y hy => by cases List.mem_singleton.mp hy; exact o2.1), ⟨hMo.1, by show _ ≤ h'.size; rw [Wr1.size]; exact hMo.2⟩, hst.trans (st' _ (Steps.refl _))⟩, ⟨Keep.of_wr Wr1, fun _ q => q⟩, ⟨_, Aq.same Wr1, ?_, by simpa using hlen, fun v hv => ?_⟩⟩
  · rw [clamp_nat hi2]; show cl.slots.setIfInBounds i _ = _; rw [hsl]; simp
  · rcases List.mem_or_eq_of_mem_set hv with q | rfl
    · exact hft v q
    · rfl
theorem Wk.lastore {i : Nat} {j : Int32} {x : Int64} (A : Wk l Z a0 EL own code ml nm rt R D pc ls (.long x :: .int j :: .ref a :: st) H k n) (F : Ar Z H a .long vs) (o : H.2 a) (hd : decode code pc = .ok (.lastore, 1)) (hj : i.toInt32 = j) (hi : i < vs.length) :
    ∃ H' : HP, Wk l Z a0 EL own code ml nm rt R D (pc + 1) ls st H' k n ∧ Kp H H' [a] ∧ Ar Z H' a .long (vs.set i (.long x)) := by
  obtain ⟨p, e, s, m, args, below, meth, c, s0, H0⟩ := D
  obtain ⟨hx, hown, hc, hml, hnm, hrt, hlk, hEL, hSA, hls, T, L, vm0, k0, X, eT, hS, hk, hZ, hG, hF, hMo, hst⟩ := A
  dsimp only at hx hown hc hml hnm hrt hlk X hS hMo hst
  have hown' : (s.setVm vm0).vm.findClass own = some m.cls := (hS.1.alike.findClass _ _).trans hown
  have hZ' : Z.Warmed39 (s.setVm vm0).vm := hZ
  subst hj
  obtain ⟨cl, Aq, hsl, hlen, hft⟩ := F
  have hsz : cl.slots.size = vs.length := by rw [hsl]; simp
  have hi2 : i < 2 ^ 31 := Nat.lt_trans hi hlen
  obtain ⟨T', h', X', e', Wr1, st'⟩ := stJ X hx hZ' eT Aq (by rw [hsz]; exact idx_in hi hlen) (g := mkF m pc ls.toArray (.long x :: .int i.toInt32 :: .ref a :: st)) rfl rfl (hb hc hd)
  have o2 := hG.2.1 a o
  refine ⟨(h', H.2), ⟨hx, hown, hc, hml, hnm, hrt, hlk, hEL, hSA, hls, T', (L ++ [_]), vm0, k0, X', e', hS, (by show _ ≤ h'.size; rw [Wr1.size]; exact hk), hZ, (hG.wr Wr1 o), (hF.app fun y hy => by cases List.mem_singleton.mp hy; exact o2.1), ⟨hMo.1, by show _ ≤ h'.size; rw [Wr1.size]; exact hMo.2⟩, hst.trans (st' _ (Steps.refl _))⟩, ⟨Keep.of_wr Wr1, fun _ q => q⟩, ⟨_, Aq.same Wr1, ?_, by simpa using hlen, fun v hv => ?_⟩⟩
  · rw [clamp_nat hi2]; show cl.slots.setIfInBounds i _ = _; rw [hsl]; simp
  · rcases List.mem_or_eq_of_mem_set hv with q | rfl
    · exact hft v q
    · rfl
theorem Wk.initO {idx Wd : Nat} (A : Wk l Z a0 EL own code ml nm rt R D pc ls (.ref a :: st) H k n) (w1 : (Jvm.Cond.methodLink own idx Lib.objectInit).before a0 Z = true) (w2 : (Jvm.Cond.instanceMethod Lib.objectInit).before a0 Z = true) (w3 : (Jvm.Cond.code Lib.objectInit ⟨#[0xb1]⟩ 1 none).before a0 Z = true) (hd : decode code pc = .ok (.invokespecial idx, 3)) (hf : 1 ≤ R.frames) (hW : (st.map fun v => v.category).sum ≤ Wd) (hlo : Wd + 12 ≤ R.locals) :
    Wk l Z a0 EL own code ml nm rt R D (pc + 3) ls st H k n := by
  obtain ⟨p, e, s, m, args, below, meth, c, s0, H0⟩ := D
  obtain ⟨hx, hown, hc, hml, hnm, hrt, hlk, hEL, hSA, hls, T, L, vm0, k0, X, eT, hS, hk, hZ, hG, hF, hMo, hst⟩ := A
  dsimp only at hx hown hc hml hnm hrt hlk X hS hMo hst
  have hown' : (s.setVm vm0).vm.findClass own = some m.cls := (hS.1.alike.findClass _ _).trans hown
  have hZ' : Z.Warmed39 (s.setVm vm0).vm := hZ
  obtain ⟨T', X', e', st'⟩ := RoadKit.initO X hx hZ' hown' w1 w2 w3 eT (g := mkF m pc ls.toArray (.ref a :: st)) rfl (by simp [hls, hml]) rfl (hb hc hd) hf (W := Wd) (by simpa using hW) hlo
  exact ⟨hx, hown, hc, hml, hnm, hrt, hlk, hEL, hSA, hls, T', L, vm0, k0, X', e', hS, hk, hZ, hG, hF, hMo, hst.trans (st' _ (Steps.refl _))⟩
theorem Wk.instY {K : String} {index : Nat} (A : Wk l Z a0 EL own code ml nm rt R D pc ls (.ref a :: st) H k n) (w : (Jvm.Cond.classLink own index K).before a0 Z = true) (F : Ins Z H.1 a K true) (hd : decode code pc = .ok (.instanceof index, 3)) :
    Wk l Z a0 EL own code ml nm rt R D (pc + 3) ls (.int 1 :: st) H k n := by
  obtain ⟨p, e, s, m, args, below, meth, c, s0, H0⟩ := D
  obtain ⟨hx, hown, hc, hml, hnm, hrt, hlk, hEL, hSA, hls, T, L, vm0, k0, X, eT, hS, hk, hZ, hG, hF, hMo, hst⟩ := A
  dsimp only at hx hown hc hml hnm hrt hlk X hS hMo hst
  have hown' : (s.setVm vm0).vm.findClass own = some m.cls := (hS.1.alike.findClass _ _).trans hown
  have hZ' : Z.Warmed39 (s.setVm vm0).vm := hZ
  obtain ⟨T', X', e', st'⟩ := RoadKit.instY X hx hZ' hown' w eT F (g := mkF m pc ls.toArray (.ref a :: st)) rfl rfl (hb hc hd)
  exact ⟨hx, hown, hc, hml, hnm, hrt, hlk, hEL, hSA, hls, T', L, vm0, k0, X', e', hS, hk, hZ, hG, hF, hMo, hst.trans (st' _ (Steps.refl _))⟩
theorem Wk.instN {K : String} {index : Nat} (A : Wk l Z a0 EL own code ml nm rt R D pc ls (.ref a :: st) H k n) (w : (Jvm.Cond.classLink own index K).before a0 Z = true) (E : Exa Z H.1 a C) (F : ∃ c t, Z.vm.findClass C = some c ∧ Z.vm.findClass K = some t ∧ Z.vm.assignable c t = false) (hd : decode code pc = .ok (.instanceof index, 3)) :
    Wk l Z a0 EL own code ml nm rt R D (pc + 3) ls (.int 0 :: st) H k n := by
  obtain ⟨p, e, s, m, args, below, meth, c, s0, H0⟩ := D
  obtain ⟨hx, hown, hc, hml, hnm, hrt, hlk, hEL, hSA, hls, T, L, vm0, k0, X, eT, hS, hk, hZ, hG, hF, hMo, hst⟩ := A
  dsimp only at hx hown hc hml hnm hrt hlk X hS hMo hst
  have hown' : (s.setVm vm0).vm.findClass own = some m.cls := (hS.1.alike.findClass _ _).trans hown
  have hZ' : Z.Warmed39 (s.setVm vm0).vm := hZ
  obtain ⟨T', X', e', st'⟩ := RoadKit.instNo X hx hZ' hown' w eT E F (g := mkF m pc ls.toArray (.ref a :: st)) rfl rfl (hb hc hd)
  exact ⟨hx, hown, hc, hml, hnm, hrt, hlk, hEL, hSA, hls, T', L, vm0, k0, X', e', hS, hk, hZ, hG, hF, hMo, hst.trans (st' _ (Steps.refl _))⟩
theorem Wk.castY {K : String} {index : Nat} (A : Wk l Z a0 EL own code ml nm rt R D pc ls (.ref a :: st) H k n) (w : (Jvm.Cond.classLink own index K).before a0 Z = true) (F : Ins Z H.1 a K true) (hd : decode code pc = .ok (.checkcast index, 3)) :
    Wk l Z a0 EL own code ml nm rt R D (pc + 3) ls (.ref a :: st) H k n := by
  obtain ⟨p, e, s, m, args, below, meth, c, s0, H0⟩ := D
  obtain ⟨hx, hown, hc, hml, hnm, hrt, hlk, hEL, hSA, hls, T, L, vm0, k0, X, eT, hS, hk, hZ, hG, hF, hMo, hst⟩ := A
  dsimp only at hx hown hc hml hnm hrt hlk X hS hMo hst
  have hown' : (s.setVm vm0).vm.findClass own = some m.cls := (hS.1.alike.findClass _ _).trans hown
  have hZ' : Z.Warmed39 (s.setVm vm0).vm := hZ
  obtain ⟨T', X', e', st'⟩ := RoadKit.castY X hx hZ' hown' w eT F (g := mkF m pc ls.toArray (.ref a :: st)) rfl rfl (hb hc hd)
  exact ⟨hx, hown, hc, hml, hnm, hrt, hlk, hEL, hSA, hls, T', L, vm0, k0, X', e', hS, hk, hZ, hG, hF, hMo, hst.trans (st' _ (Steps.refl _))⟩
theorem Wk.instNull {index : Nat} (A : Wk l Z a0 EL own code ml nm rt R D pc ls (.null :: st) H k n) (hd : decode code pc = .ok (.instanceof index, 3)) :
    Wk l Z a0 EL own code ml nm rt R D (pc + 3) ls (.int 0 :: st) H k n := by
  obtain ⟨p, e, s, m, args, below, meth, c, s0, H0⟩ := D
  obtain ⟨hx, hown, hc, hml, hnm, hrt, hlk, hEL, hSA, hls, T, L, vm0, k0, X, eT, hS, hk, hZ, hG, hF, hMo, hst⟩ := A
  dsimp only at hx hown hc hml hnm hrt hlk X hS hMo hst
  have hown' : (s.setVm vm0).vm.findClass own = some m.cls := (hS.1.alike.findClass _ _).trans hown
  have hZ' : Z.Warmed39 (s.setVm vm0).vm := hZ
  exact ⟨hx, hown, hc, hml, hnm, hrt, hlk, hEL, hSA, hls, T, L, vm0, k0, X, eT, hS, hk, hZ, hG, hF, hMo, hst.trans (X.instanceofNull hx (g := mkF m pc ls.toArray (.null :: st)) rfl rfl (hb hc hd) _ (Steps.refl _))⟩
theorem Wk.castNull {index : Nat} (A : Wk l Z a0 EL own code ml nm rt R D pc ls (.null :: st) H k n) (hd : decode code pc = .ok (.checkcast index, 3)) :
    Wk l Z a0 EL own code ml nm rt R D (pc + 3) ls (.null :: st) H k n := by
  obtain ⟨p, e, s, m, args, below, meth, c, s0, H0⟩ := D
  obtain ⟨hx, hown, hc, hml, hnm, hrt, hlk, hEL, hSA, hls, T, L, vm0, k0, X, eT, hS, hk, hZ, hG, hF, hMo, hst⟩ := A
  dsimp only at hx hown hc hml hnm hrt hlk X hS hMo hst
  have hown' : (s.setVm vm0).vm.findClass own = some m.cls := (hS.1.alike.findClass _ _).trans hown
  have hZ' : Z.Warmed39 (s.setVm vm0).vm := hZ
  exact ⟨hx, hown, hc, hml, hnm, hrt, hlk, hEL, hSA, hls, T, L, vm0, k0, X, eT, hS, hk, hZ, hG, hF, hMo, hst.trans (X.checkcastNull hx (g := mkF m pc ls.toArray (.null :: st)) rfl rfl (hb hc hd) _ (Steps.refl _))⟩
theorem no_asg {K : String} {q : Nat} (w : (Jvm.Cond.superclass C "java/lang/Object").before a0 Z = true) (w2 : (Jvm.Cond.noSuperclass "java/lang/Object").before a0 Z = true) (wi : (Jvm.Cond.instantiable K q).before a0 Z = true) (h1 : C ≠ K) (h2 : "java/lang/Object" ≠ K) : ∃ c t, Z.vm.findClass C = some c ∧ Z.vm.findClass K = some t ∧ Z.vm.assignable c t = false := by
  obtain ⟨co, ko, o1, o2, o3, -, -⟩ := Cond.noSuperclass_spec w2
  obtain ⟨t, kt, g0, g2, g5, g7, -⟩ := Cond.instantiable_spec wi
  obtain ⟨c, h0⟩ := found_sup w
  obtain ⟨p, k, kp, p1, p2, p3, p4, p5, -, -⟩ := Cond.superclass_spec h0 w
  cases o1.symm.trans p1
  have ne := ids_ne h0 g0 h1
  have ne2 := ids_ne o1 g0 h2
  have g8 : kt.isInterface = false := by cases hq : kt.isInterface <;> simp [hq] at g7 ⊢
  have n3 : ∀ fuel, Z.vm.isSubclassAux fuel co t = false := fun fuel => by
    cases fuel with
    | zero => rfl
    | succ f => simp [Vm.isSubclassAux, ne2, o2, o3]
  have n4 : ∀ fuel, Z.vm.isSubclassAux fuel c t = false := fun fuel => by
    cases fuel with
    | zero => rfl
    | succ f => simp [Vm.isSubclassAux, ne, p2, p4, n3]
  refine ⟨c, t, h0, g0, ?_⟩
  show Z.vm.assignableAux (255 + 1) c t = false
  simp [Vm.assignableAux, ne, p2, g2, p5, g5, g8, Vm.isSubclass, n4]
theorem Wk.ldcI {index : Nat} {x : Int32} (A : Wk l Z a0 EL own code ml nm rt R D pc ls st H k n) (w : (Jvm.Cond.constant own index x).before a0 Z = true) (hd : decode code pc = .ok (.ldc index, 2)) :
    Wk l Z a0 EL own code ml nm rt R D (pc + 2) ls (.int x :: st) H k n := by
  obtain ⟨p, e, s, m, args, below, meth, c, s0, H0⟩ := D
  obtain ⟨hx, hown, hc, hml, hnm, hrt, hlk, hEL, hSA, hls, T, L, vm0, k0, X, eT, hS, hk, hZ, hG, hF, hMo, hst⟩ := A
  dsimp only at hx hown hc hml hnm hrt hlk X hS hMo hst
  have hown' : (s.setVm vm0).vm.findClass own = some m.cls := (hS.1.alike.findClass _ _).trans hown
  have hZ' : Z.Warmed39 (s.setVm vm0).vm := hZ
  exact ⟨hx, hown, hc, hml, hnm, hrt, hlk, hEL, hSA, hls, T, L, vm0, k0, X, eT, hS, hk, hZ, hG, hF, hMo, hst.trans (X.ldcI hx hown' (mvT hZ' w) (g := mkF m pc ls.toArray st) rfl (hb hc hd) (Steps.refl _))⟩
theorem Wk.ldcJ {index : Nat} {x : Int64} (A : Wk l Z a0 EL own code ml nm rt R D pc ls st H k n) (w : (Jvm.Cond.constantLong own index x).before a0 Z = true) (hd : decode code pc = .ok (.ldc2_w index, 3)) :
    Wk l Z a0 EL own code ml nm rt R D (pc + 3) ls (.long x :: st) H k n := by
  obtain ⟨p, e, s, m, args, below, meth, c, s0, H0⟩ := D
  obtain ⟨hx, hown, hc, hml, hnm, hrt, hlk, hEL, hSA, hls, T, L, vm0, k0, X, eT, hS, hk, hZ, hG, hF, hMo, hst⟩ := A
  dsimp only at hx hown hc hml hnm hrt hlk X hS hMo hst
  have hown' : (s.setVm vm0).vm.findClass own = some m.cls := (hS.1.alike.findClass _ _).trans hown
  have hZ' : Z.Warmed39 (s.setVm vm0).vm := hZ
  exact ⟨hx, hown, hc, hml, hnm, hrt, hlk, hEL, hSA, hls, T, L, vm0, k0, X, eT, hS, hk, hZ, hG, hF, hMo, hst.trans (X.ldc2J hx hown' (mvT hZ' w) (g := mkF m pc ls.toArray st) rfl (hb hc hd) (Steps.refl _))⟩
theorem Wk.ldcS {index : Nat} {text : String} (A : Wk l Z a0 EL own code ml nm rt R D pc ls st H k n) (w : (Jvm.Cond.stringLink own index text).before a0 Z = true) (hmem : (own, index) ∈ EL) (ht : (∀ c ∈ text.toList, c.toNat < 256) ∧ text.toList.map (fun c => Value.int (Jvm.Lit.byteI c.toNat.toUInt16)) = vs) (hd : decode code pc = .ok (.ldc index, 2)) {z : Int32} (hz : ¬ z < 0) (hl : z.toNatClampNeg = vs.length) {q : Nat} (hq : 4 * text.toList.length ≤ q) (hbg : q ≤ 536870912) (hcl : k + 2 ≤ R.cells) (hsl : n + (q + 4) ≤ R.slots) :
    ∃ (a b : Addr) (H' : HP), Wk l Z a0 EL own code ml nm rt R D (pc + 2) ls (.ref a :: st) H' (k + 2) (n + (q + 4)) ∧ Kp H H' [] ∧ Exa Z H'.1 a "java/lang/String" ∧ Fld Z H'.1 a "java/lang/String" "coder" "B" (.int 0) ∧ Fld Z H'.1 a "java/lang/String" "value" "[B" (.ref b) ∧ Ar Z H' b .byte vs ∧ ∀ x, H'.2 x → x ≠ a ∧ x ≠ b := by
  obtain ⟨p, e, s, m, args, below, meth, c, s0, H0⟩ := D
  obtain ⟨hx, hown, hc, hml, hnm, hrt, hlk, hEL, hSA, hls, T, L, vm0, k0, X, eT, hS, hk, hZ, hG, hF, hMo, hst⟩ := A
  dsimp only at hx hown hc hml hnm hrt hlk X hS hMo hst
  have hown' : (s.setVm vm0).vm.findClass own = some m.cls := (hS.1.alike.findClass _ _).trans hown
  have hZ' : Z.Warmed39 (s.setVm vm0).vm := hZ
  obtain ⟨a, T', h', k1, b, kb, X', e', E, hS', hk', hZ2, hown2, F1, F2, F3, F4, -, -, hC, -, hne, st'⟩ := ldcCH X hx hZ hown' w hSA eT hS hk hEL hmem hG.2.2.1 ht hz hl (g := mkF m pc ls.toArray st) rfl (hb hc hd) hq hbg hcl hsl
  have hG' := hG.go hC E
  exact ⟨a, b, (h', H.2), ⟨hx, hown, hc, hml, hnm, hrt, hlk, hEL, hSA, hls, T', L, T'.vm, k1, X', e', hS', hk', hZ2, hG', hF, ⟨hMo.1, Nat.le_trans hMo.2 E.1⟩, hst.trans (st' _ (Steps.refl _))⟩, ⟨(Keep.refl _ _).ext E, fun _ q => q⟩, F1, F2, F3, Ar.of_arv (H := (h', H.2)) F4 hl, fun x hx' => hne x fun B => hG'.2.2.2 x B hx'⟩
theorem Wk.ldcSo {index : Nat} {text : String} (A : Wk l Z a0 EL own code ml nm rt R D pc ls st H k n) (w : (Jvm.Cond.stringLink own index text).before a0 Z = true) (hd : decode code pc = .ok (.ldc index, 2)) {q : Nat} (hq : 4 * text.toList.length ≤ q) (hbg : q ≤ 536870912) (hcl : k + 2 ≤ R.cells) (hsl : n + (q + 4) ≤ R.slots) :
    ∃ (a : Addr) (H' : HP), Wk l Z a0 EL own code ml nm rt R D (pc + 2) ls (.ref a :: st) H' (k + 2) (n + (q + 4)) ∧ Kp H H' [] := by
  obtain ⟨p, e, s, m, args, below, meth, c, s0, H0⟩ := D
  obtain ⟨hx, hown, hc, hml, hnm, hrt, hlk, hEL, hSA, hls, T, L, vm0, k0, X, eT, hS, hk, hZ, hG, hF, hMo, hst⟩ := A
  dsimp only at hx hown hc hml hnm hrt hlk X hS hMo hst
  have hown' : (s.setVm vm0).vm.findClass own = some m.cls := (hS.1.alike.findClass _ _).trans hown
  have hZ' : Z.Warmed39 (s.setVm vm0).vm := hZ
  obtain ⟨a, T', h', k1, X', e', E, hS', hk', hZ2, hown2, hC, -, st'⟩ := ldcOH X hx hZ hown' w hSA eT hS hk hEL hG.2.2.1 (g := mkF m pc ls.toArray st) rfl (hb hc hd) hq hbg hcl hsl
  exact ⟨a, (h', H.2), ⟨hx, hown, hc, hml, hnm, hrt, hlk, hEL, hSA, hls, T', L, T'.vm, k1, X', e', hS', hk', hZ2, (hG.go hC E), hF, ⟨hMo.1, Nat.le_trans hMo.2 E.1⟩, hst.trans (st' _ (Steps.refl _))⟩, ⟨(Keep.refl _ _).ext E, fun _ q => q⟩⟩
theorem Wk.more (A : Wk l Z a0 EL own code ml nm rt R D pc ls st H k n) {k' n' : Nat} (h1 : k ≤ k') (h2 : n ≤ n') :
    Wk l Z a0 EL own code ml nm rt R D pc ls st H k' n' := by
  obtain ⟨p, e, s, m, args, below, meth, c, s0, H0⟩ := D
  obtain ⟨hx, hown, hc, hml, hnm, hrt, hlk, hEL, hSA, hls, T, L, vm0, k0, X, eT, hS, hk, hZ, hG, hF, hMo, hst⟩ := A
  dsimp only at hx hown hc hml hnm hrt hlk X hS hMo hst
  have hown' : (s.setVm vm0).vm.findClass own = some m.cls := (hS.1.alike.findClass _ _).trans hown
  have hZ' : Z.Warmed39 (s.setVm vm0).vm := hZ
  exact ⟨hx, hown, hc, hml, hnm, hrt, hlk, hEL, hSA, hls, T, L, vm0, k0, (X.more h1 h2), eT, hS, hk, hZ, hG, hF, hMo, hst⟩
theorem Wk.ret  (A : Wk l Z a0 EL own code ml nm none R D pc ls st H k n) (hd : decode code pc = .ok (.return_, 1)) :
    Rt Z EL D none H k n := by
  obtain ⟨p, e, s, m, args, below, meth, c, s0, H0⟩ := D
  obtain ⟨hx, hown, hc, hml, hnm, hrt, hlk, hEL, hSA, hls, T, L, vm0, k0, X, eT, hS, hk, hZ, hG, hF, hMo, hst⟩ := A
  dsimp only at hx hown hc hml hnm hrt hlk X hS hMo hst
  have hown' : (s.setVm vm0).vm.findClass own = some m.cls := (hS.1.alike.findClass _ _).trans hown
  have hZ' : Z.Warmed39 (s.setVm vm0).vm := hZ
  obtain ⟨fs, hr, hrun, hended, hE⟩ := X.leaveW hS (by rw [eT]; exact hk) (v := none) (fun _ => rfl) hlk
  exact ⟨_, L, hst.trans (retV X hx hrt (hb hc hd) hr), hrun, hended, eT, hMo, (show GI Z EL T.vm H from hG.at X hZ hEL), hF, hE⟩
theorem Wk.retZ {x x2 : Int32} (A : Wk l Z a0 EL own code ml nm (some .boolean) R D pc ls (.int x :: st) H k n) (hd : decode code pc = .ok (.ireturn, 1)) (hx2 : nar .boolean x = x2) :
    Rt Z EL D (some (.int x2)) H k n := by
  obtain ⟨p, e, s, m, args, below, meth, c, s0, H0⟩ := D
  obtain ⟨hx, hown, hc, hml, hnm, hrt, hlk, hEL, hSA, hls, T, L, vm0, k0, X, eT, hS, hk, hZ, hG, hF, hMo, hst⟩ := A
  dsimp only at hx hown hc hml hnm hrt hlk X hS hMo hst
  have hown' : (s.setVm vm0).vm.findClass own = some m.cls := (hS.1.alike.findClass _ _).trans hown
  have hZ' : Z.Warmed39 (s.setVm vm0).vm := hZ
  subst hx2
  obtain ⟨fs, hr, hrun, hended, hE⟩ := X.leaveW hS (by rw [eT]; exact hk) (v := some (.int (nar .boolean x))) (fun h => by rw [hrt] at h; cases h) hlk
  exact ⟨_, L, hst.trans (retN X hx (t := .boolean) hrt (by simp) (hb hc hd) hr), hrun, hended, eT, hMo, (show GI Z EL T.vm H from hG.at X hZ hEL), hF, hE⟩
theorem Wk.retB {x x2 : Int32} (A : Wk l Z a0 EL own code ml nm (some .byte) R D pc ls (.int x :: st) H k n) (hd : decode code pc = .ok (.ireturn, 1)) (hx2 : nar .byte x = x2) :
    Rt Z EL D (some (.int x2)) H k n := by
  obtain ⟨p, e, s, m, args, below, meth, c, s0, H0⟩ := D
  obtain ⟨hx, hown, hc, hml, hnm, hrt, hlk, hEL, hSA, hls, T, L, vm0, k0, X, eT, hS, hk, hZ, hG, hF, hMo, hst⟩ := A
  dsimp only at hx hown hc hml hnm hrt hlk X hS hMo hst
  have hown' : (s.setVm vm0).vm.findClass own = some m.cls := (hS.1.alike.findClass _ _).trans hown
  have hZ' : Z.Warmed39 (s.setVm vm0).vm := hZ
  subst hx2
  obtain ⟨fs, hr, hrun, hended, hE⟩ := X.leaveW hS (by rw [eT]; exact hk) (v := some (.int (nar .byte x))) (fun h => by rw [hrt] at h; cases h) hlk
  exact ⟨_, L, hst.trans (retN X hx (t := .byte) hrt (by simp) (hb hc hd) hr), hrun, hended, eT, hMo, (show GI Z EL T.vm H from hG.at X hZ hEL), hF, hE⟩
theorem Wk.retC {x x2 : Int32} (A : Wk l Z a0 EL own code ml nm (some .char) R D pc ls (.int x :: st) H k n) (hd : decode code pc = .ok (.ireturn, 1)) (hx2 : nar .char x = x2) :
    Rt Z EL D (some (.int x2)) H k n := by
  obtain ⟨p, e, s, m, args, below, meth, c, s0, H0⟩ := D
  obtain ⟨hx, hown, hc, hml, hnm, hrt, hlk, hEL, hSA, hls, T, L, vm0, k0, X, eT, hS, hk, hZ, hG, hF, hMo, hst⟩ := A
  dsimp only at hx hown hc hml hnm hrt hlk X hS hMo hst
  have hown' : (s.setVm vm0).vm.findClass own = some m.cls := (hS.1.alike.findClass _ _).trans hown
  have hZ' : Z.Warmed39 (s.setVm vm0).vm := hZ
  subst hx2
  obtain ⟨fs, hr, hrun, hended, hE⟩ := X.leaveW hS (by rw [eT]; exact hk) (v := some (.int (nar .char x))) (fun h => by rw [hrt] at h; cases h) hlk
  exact ⟨_, L, hst.trans (retN X hx (t := .char) hrt (by simp) (hb hc hd) hr), hrun, hended, eT, hMo, (show GI Z EL T.vm H from hG.at X hZ hEL), hF, hE⟩
theorem Wk.retS {x x2 : Int32} (A : Wk l Z a0 EL own code ml nm (some .short) R D pc ls (.int x :: st) H k n) (hd : decode code pc = .ok (.ireturn, 1)) (hx2 : nar .short x = x2) :
    Rt Z EL D (some (.int x2)) H k n := by
  obtain ⟨p, e, s, m, args, below, meth, c, s0, H0⟩ := D
  obtain ⟨hx, hown, hc, hml, hnm, hrt, hlk, hEL, hSA, hls, T, L, vm0, k0, X, eT, hS, hk, hZ, hG, hF, hMo, hst⟩ := A
  dsimp only at hx hown hc hml hnm hrt hlk X hS hMo hst
  have hown' : (s.setVm vm0).vm.findClass own = some m.cls := (hS.1.alike.findClass _ _).trans hown
  have hZ' : Z.Warmed39 (s.setVm vm0).vm := hZ
  subst hx2
  obtain ⟨fs, hr, hrun, hended, hE⟩ := X.leaveW hS (by rw [eT]; exact hk) (v := some (.int (nar .short x))) (fun h => by rw [hrt] at h; cases h) hlk
  exact ⟨_, L, hst.trans (retN X hx (t := .short) hrt (by simp) (hb hc hd) hr), hrun, hended, eT, hMo, (show GI Z EL T.vm H from hG.at X hZ hEL), hF, hE⟩
theorem Wk.retI {x : Int32} (A : Wk l Z a0 EL own code ml nm (some .int) R D pc ls (.int x :: st) H k n) (hd : decode code pc = .ok (.ireturn, 1)) :
    Rt Z EL D (some (.int x)) H k n := by
  obtain ⟨p, e, s, m, args, below, meth, c, s0, H0⟩ := D
  obtain ⟨hx, hown, hc, hml, hnm, hrt, hlk, hEL, hSA, hls, T, L, vm0, k0, X, eT, hS, hk, hZ, hG, hF, hMo, hst⟩ := A
  dsimp only at hx hown hc hml hnm hrt hlk X hS hMo hst
  have hown' : (s.setVm vm0).vm.findClass own = some m.cls := (hS.1.alike.findClass _ _).trans hown
  have hZ' : Z.Warmed39 (s.setVm vm0).vm := hZ
  obtain ⟨fs, hr, hrun, hended, hE⟩ := X.leaveW hS (by rw [eT]; exact hk) (v := (some (.int x))) (fun h => by rw [hrt] at h; cases h) hlk
  exact ⟨_, L, hst.trans (retOut X hx hrt rfl (Or.inl ⟨rfl, Or.inl rfl, x, rfl⟩) (hb hc hd) hr), hrun, hended, eT, hMo, (show GI Z EL T.vm H from hG.at X hZ hEL), hF, hE⟩
theorem Wk.retJ {x : Int64} (A : Wk l Z a0 EL own code ml nm (some .long) R D pc ls (.long x :: st) H k n) (hd : decode code pc = .ok (.lreturn, 1)) :
    Rt Z EL D (some (.long x)) H k n := by
  obtain ⟨p, e, s, m, args, below, meth, c, s0, H0⟩ := D
  obtain ⟨hx, hown, hc, hml, hnm, hrt, hlk, hEL, hSA, hls, T, L, vm0, k0, X, eT, hS, hk, hZ, hG, hF, hMo, hst⟩ := A
  dsimp only at hx hown hc hml hnm hrt hlk X hS hMo hst
  have hown' : (s.setVm vm0).vm.findClass own = some m.cls := (hS.1.alike.findClass _ _).trans hown
  have hZ' : Z.Warmed39 (s.setVm vm0).vm := hZ
  obtain ⟨fs, hr, hrun, hended, hE⟩ := X.leaveW hS (by rw [eT]; exact hk) (v := (some (.long x))) (fun h => by rw [hrt] at h; cases h) hlk
  exact ⟨_, L, hst.trans (retOut X hx hrt rfl (Or.inr (Or.inl ⟨rfl, rfl, x, rfl⟩)) (hb hc hd) hr), hrun, hended, eT, hMo, (show GI Z EL T.vm H from hG.at X hZ hEL), hF, hE⟩
theorem Wk.retA {t : FieldType} (A : Wk l Z a0 EL own code ml nm (some t) R D pc ls (v :: st) H k n) (hd : decode code pc = .ok (.areturn, 1)) (ht : t.isReference = true) (hv : v.isRef = true) :
    Rt Z EL D (some v) H k n := by
  obtain ⟨p, e, s, m, args, below, meth, c, s0, H0⟩ := D
  obtain ⟨hx, hown, hc, hml, hnm, hrt, hlk, hEL, hSA, hls, T, L, vm0, k0, X, eT, hS, hk, hZ, hG, hF, hMo, hst⟩ := A
  dsimp only at hx hown hc hml hnm hrt hlk X hS hMo hst
  have hown' : (s.setVm vm0).vm.findClass own = some m.cls := (hS.1.alike.findClass _ _).trans hown
  have hZ' : Z.Warmed39 (s.setVm vm0).vm := hZ
  obtain ⟨fs, hr, hrun, hended, hE⟩ := X.leaveW hS (by rw [eT]; exact hk) (v := some v) (fun h => by rw [hrt] at h; cases h) hlk
  have hn : narrow t v = v := by rcases ref_cases hv with rfl | ⟨z, rfl⟩ <;> cases t <;> first | rfl | cases ht
  exact ⟨_, L, hst.trans (retOut X hx hrt hn (Or.inr (Or.inr (Or.inr (Or.inr ⟨rfl, ht, hv⟩)))) (hb hc hd) hr), hrun, hended, eT, hMo, (show GI Z EL T.vm H from hG.at X hZ hEL), hF, hE⟩
theorem Ct.intro {y : MethodName} {bytes : ByteArray} {ret : Option FieldType} {rm : Room} {wz : List Jvm.Cond} {as : List Value} {Q : Option Value → HP → Prop} (hpl : plainFor y = true) (hEL : EW Z a0 EL) (hSA : ∀ a ∈ Bundle.stringAtoms, a.before a0 Z = true) (hls : locsOf as ml = ls) (hlen : ls.length = ml)
    (body : ∀ D, Wk l Z a0 EL y.cls bytes ml y.name ret rm D 0 ls [] H 0 0 → ∃ v H' k n, Rt Z EL D v H' k n ∧ Q v H' ∧ k ≤ rm.cells ∧ n ≤ rm.slots) : Ct l Z EL y bytes ml ret rm wz as H Q := by
  refine MetFree.of_bodySF hpl hisR ?_
  intro p e s m args below meth c s₁ Bd hml0 hP hK
  obtain ⟨rfl, hZ, hh, hG⟩ := hP
  have hx := Bd.exec
  have hown : s.vm.findClass y.cls = some m.cls := findClass_of_methodNamed Bd.named
  have hnm := (name_of_methodNamed Bd.named Bd.method).1
  have X0 : Stand p l e rm s m as.toArray below meth c s₁ [] 0 0 := Stand.of_body Bd
  have e0 : s₁.heap = H.1 := by rw [← hh, Bd.state]; rfl
  have hst : Steps p.tables e below (s₁.setTop (entryFrame m as.toArray ml)) (s₁.setTop (mkF m 0 ls.toArray [])) := by rw [entry_locs, hls]; exact Steps.refl _
  obtain ⟨v, H', k, n, ⟨s₂, L, h1, h2, h3, h4, h5, h6, h7, h8⟩, hQ, hk, hn⟩ := body (p, e, s, m, as.toArray, below, meth, c, s₁.setTop (entryFrame m as.toArray ml), H) ⟨hx, hown, Bd.bytes, hml0, hnm, Bd.returns, Bd.notSynchronized, hEL, hSA, hlen, s₁, [], s.vm, H.1.size, X0, e0, (State.WarmedH.refl s).since _, Nat.le_refl _, hZ, hG, Fr.nil _, ⟨fun _ q => q, Nat.le_refl _⟩, hst⟩
  obtain ⟨hp, O⟩ := H'
  have h4 : s₂.heap = hp := h4
  subst h4
  obtain ⟨g1, g2, g3, g4⟩ := h8
  exact ⟨s₂, _, h1, h2, h3, v, L, O, rfl, hQ, h5, h6, h7, g1, g2, g3, g4.mono hk hn⟩
theorem Ct.mono {y : MethodName} {bytes : ByteArray} {ret : Option FieldType} {rm : Room} {wz : List Jvm.Cond} {as : List Value} {Q Q' : Option Value → HP → Prop} (h : Ct l Z EL y bytes ml ret rm wz as H Q) (q : ∀ v H', Q v H' → Q' v H') : Ct l Z EL y bytes ml ret rm wz as H Q' :=
  MetFree.mono h (fun _ _ h => h) (fun _ _ _ _ _ h => h) fun _ _ _ _ _ ⟨v, L, O, h1, h2, h3⟩ => ⟨v, L, O, h1, q _ _ h2, h3⟩
theorem ctBack {p : Program} {e : Env} {s : State} {args : Array Value} {below : List Frame} {y : MethodName} {bytes : ByteArray} {ret : Option FieldType} {rm : Room} {as : List Value} {Q : Option Value → HP → Prop} {len Wd : Nat}
    (hM : Ct l Z EL y bytes ml ret rm [] as H Q) (hZ : Z.Warmed39 vm0) (wc : (Jvm.Cond.code y bytes ml ret).before a0 Z = true) (wz : (Jvm.Cond.initialized y.cls).before a0 Z = true) (hf : rm.frames + 1 ≤ R.frames) (hl : Wd + (ml + 11) + rm.locals ≤ R.locals) (hEL : EW Z a0 EL) (hG : GI Z EL vm0 H) :
    BackS l R p e below (s.setVm vm0) args y len Wd (fun A a => a = as.toArray ∧ A.U.heap = H.1 ∧ A.cells + rm.cells ≤ R.cells ∧ A.slots + rm.slots ≤ R.slots)
      (fun A _ v B => ∃ L O, Q v (B.U.heap, O) ∧ ((∀ x, H.2 x → O x) ∧ H.1.size ≤ B.U.heap.size) ∧ GI Z EL B.U.vm (B.U.heap, O) ∧ Fr Z.heap.size L ∧ B.locs = A.locs ++ L ∧ B.cells = A.cells + rm.cells ∧ B.slots = A.slots + rm.slots) :=
  BackS.of_freeW (bytes := bytes) (maxL := ml) (ret := ret) (E := fun _ first o t L k n => k = rm.cells ∧ n = rm.slots ∧ ∃ v O, o = .returned v ∧ Q v (t.heap, O) ∧ ((∀ x, H.2 x → O x) ∧ H.1.size ≤ t.heap.size) ∧ GI Z EL t.vm (t.heap, O) ∧ Fr Z.heap.size L) hM hf hl
    (fun m meth c A a Y hp => have hU : Z.Warmed39 A.U.vm := wtrans (s := (s.setVm vm0)) hZ Y.warmed
      ⟨by show (Jvm.Cond.and _ .tt).before a A.U = true; rw [Cond.before_and, mv hU wc]; rfl, mv hU wc, mv hU wz, hp.2.2.1, hp.2.2.2⟩)
    (fun m meth c A a g mk Y hp => ⟨hp.1, wtrans (s := (s.setVm vm0)) hZ Y.warmed, hp.2.1, (show GI Z EL A.U.vm H from hG.at Y hZ hEL)⟩) (fun _ _ _ _ _ _ _ _ _ => trivial)
    (fun _ _ _ _ ⟨v, L, O, h1, h2, h3, h4, h5, h6⟩ => ⟨L, _, _, h6, rfl, rfl, v, O, h1, h2, h3, h4, h5⟩)
    (fun m meth c A a g mk v t L k n Y hp _ _ ⟨e1, e2, v', O, e3, e4, e5, e6, e7⟩ => by cases e3; subst e1 e2; exact ⟨L, O, e4, e5, e6, e7, rfl, rfl, rfl⟩)
theorem Wk.callS {y : MethodName} {bytes : ByteArray} {ret : Option FieldType} {cml : Nat} {rm : Room} {Q : Option Value → HP → Prop} {argsL : List Value} {index Wd : Nat} (A : Wk l Z a0 EL own code ml nm rt R D pc ls (argsL.reverse ++ st) H k n) (w1 : (Jvm.Cond.methodLink own index y).before a0 Z = true) (w2 : (Jvm.Cond.static y).before a0 Z = true) (wz : (Jvm.Cond.initialized y.cls).before a0 Z = true) (wc : (Jvm.Cond.code y bytes cml ret).before a0 Z = true) (hM : Ct l Z EL y bytes cml ret rm [] argsL H Q) (hy : y.cls ≠ "java/lang/invoke/MethodHandle" ∧ y.cls ≠ "java/lang/invoke/VarHandle") (hlen : ∃ ps r, parseMethodDescriptor y.desc = some ⟨ps, r⟩ ∧ argsL.length = ps.length) (hd : decode code pc = .ok (.invokestatic index, 3)) (hf : rm.frames + 1 ≤ R.frames) (hW : (st.map fun v => v.category).sum ≤ Wd) (hlo : Wd + (cml + 11) + rm.locals ≤ R.locals) (hcl : k + rm.cells ≤ R.cells) (hsl : n + rm.slots ≤ R.slots) :
    ∃ (v : Option Value) (H' : HP), Q v H' ∧ Wk l Z a0 EL own code ml nm rt R D (pc + 3) ls (v.toList ++ st) H' (k + rm.cells) (n + rm.slots) ∧ (∀ x, H.2 x → H'.2 x) ∧ H.1.size ≤ H'.1.size := by
  obtain ⟨p, e, s, m, args, below, meth, c, s0, H0⟩ := D
  obtain ⟨hx, hown, hc, hml, hnm, hrt, hlk, hEL, hSA, hls, T, L, vm0, k0, X, eT, hS, hk, hZ, hG, hF, hMo, hst⟩ := A
  dsimp only at hx hown hc hml hnm hrt hlk X hS hMo hst
  have hown' : (s.setVm vm0).vm.findClass own = some m.cls := (hS.1.alike.findClass _ _).trans hown
  have hZ' : Z.Warmed39 (s.setVm vm0).vm := hZ
  obtain ⟨v, vm1, ⟨T', L', c', n'⟩, -, X', hS2, hgr, ⟨Lc, O, hQ, hmo, hG', hFc, l1, l2, l3⟩, st'⟩ := RoadKit.callSS X hx hown' (mvT hZ' w1) (mvT hZ' w2) (mvT hZ' wz) (mvT hZ' wc) hy (ctBack hM hZ wc wz hf hlo hEL hG) (g := mkF m pc ls.toArray (argsL.reverse ++ st)) rfl (by simp [hls, hml]) (by obtain ⟨ps, r, q1, q2⟩ := hlen; exact lenOf q1 q2) rfl (by simpa using hW) (hb hc hd) (fun _ _ => ⟨rfl, eT, hcl, hsl⟩)
  dsimp only [Pt.U, Pt.locs, Pt.cells, Pt.slots] at X' hS2 hgr hQ hmo hG' l1 l2 l3 st'
  subst l1 l2 l3
  have hS' := hS.trans hS2 (by rw [eT] at hgr; exact Nat.le_trans hk hgr)
  exact ⟨v, (T'.heap, O), hQ, ⟨hx, hown, hc, hml, hnm, hrt, hlk, hEL, hSA, hls, T', _, T'.vm, T'.heap.size, X', rfl, hS', (Nat.le_refl _), (State.Warmed39.trans (t := s.setVm vm0) hZ hS2.1), hG', (hF.app hFc), ⟨fun x q => hmo.1 x (hMo.1 x q), Nat.le_trans hMo.2 hmo.2⟩, hst.trans st'⟩, hmo.1, hmo.2⟩
theorem Wk.callI {y : MethodName} {bytes : ByteArray} {cml : Nat} {rm : Room} {Q : Option Value → HP → Prop} {argsL : List Value} {index Wd : Nat} (A : Wk l Z a0 EL own code ml nm rt R D pc ls (argsL.reverse ++ .ref a :: st) H k n) (hy1 : y.name = "<init>") (w1 : (Jvm.Cond.methodLink own index y).before a0 Z = true) (w2 : (Jvm.Cond.instanceMethod y).before a0 Z = true) (wz : (Jvm.Cond.initialized y.cls).before a0 Z = true) (wc : (Jvm.Cond.code y bytes cml none).before a0 Z = true) (hM : Ct l Z EL y bytes cml none rm [] (.ref a :: argsL) H Q) (hy : y.cls ≠ "java/lang/invoke/MethodHandle" ∧ y.cls ≠ "java/lang/invoke/VarHandle") (hlen : ∃ ps r, parseMethodDescriptor y.desc = some ⟨ps, r⟩ ∧ argsL.length = ps.length) (hd : decode code pc = .ok (.invokespecial index, 3)) (hf : rm.frames + 1 ≤ R.frames) (hW : (st.map fun v => v.category).sum ≤ Wd) (hlo : Wd + (cml + 11) + rm.locals ≤ R.locals) (hcl : k + rm.cells ≤ R.cells) (hsl : n + rm.slots ≤ R.slots) :
    ∃ (v : Option Value) (H' : HP), Q v H' ∧ Wk l Z a0 EL own code ml nm rt R D (pc + 3) ls (v.toList ++ st) H' (k + rm.cells) (n + rm.slots) ∧ (∀ x, H.2 x → H'.2 x) ∧ H.1.size ≤ H'.1.size := by
  obtain ⟨p, e, s, m, args, below, meth, c, s0, H0⟩ := D
  obtain ⟨hx, hown, hc, hml, hnm, hrt, hlk, hEL, hSA, hls, T, L, vm0, k0, X, eT, hS, hk, hZ, hG, hF, hMo, hst⟩ := A
  dsimp only at hx hown hc hml hnm hrt hlk X hS hMo hst
  have hown' : (s.setVm vm0).vm.findClass own = some m.cls := (hS.1.alike.findClass _ _).trans hown
  have hZ' : Z.Warmed39 (s.setVm vm0).vm := hZ
  obtain ⟨v, vm1, ⟨T', L', c', n'⟩, -, X', hS2, hgr, ⟨Lc, O, hQ, hmo, hG', hFc, l1, l2, l3⟩, st'⟩ := X.specialBackS hx hy1 hown' (mvT hZ' w1) (mvT hZ' w2) (mvT hZ' wc) hy (ctBack hM hZ wc wz hf hlo hEL hG) (g := mkF m pc ls.toArray (argsL.reverse ++ .ref a :: st)) rfl (by simp [hls, hml]) (Steps.refl _) (by obtain ⟨ps, r, q1, q2⟩ := hlen; exact lenOf q1 q2) rfl (by simpa using hW) (hb hc hd) (fun _ _ => ⟨rfl, eT, hcl, hsl⟩)
  dsimp only [Pt.U, Pt.locs, Pt.cells, Pt.slots] at X' hS2 hgr hQ hmo hG' l1 l2 l3 st'
  subst l1 l2 l3
  have hS' := hS.trans hS2 (by rw [eT] at hgr; exact Nat.le_trans hk hgr)
  exact ⟨v, (T'.heap, O), hQ, ⟨hx, hown, hc, hml, hnm, hrt, hlk, hEL, hSA, hls, T', _, T'.vm, T'.heap.size, X', rfl, hS', (Nat.le_refl _), (State.Warmed39.trans (t := s.setVm vm0) hZ hS2.1), hG', (hF.app hFc), ⟨fun x q => hmo.1 x (hMo.1 x q), Nat.le_trans hMo.2 hmo.2⟩, hst.trans st'⟩, hmo.1, hmo.2⟩
theorem Wk.callV {y z : MethodName} {bytes : ByteArray} {ret : Option FieldType} {cml : Nat} {rm : Room} {Q : Option Value → HP → Prop} {argsL : List Value} {index Wd : Nat} (A : Wk l Z a0 EL own code ml nm rt R D pc ls (argsL.reverse ++ .ref a :: st) H k n) (w1 : (Jvm.Cond.methodLink own index y).before a0 Z = true) (w2 : (Jvm.Cond.declares y).before a0 Z = true) {C' : String} {y2 : MethodName} (w3 : (Jvm.Cond.selects C' y2 y2).before a0 Z = true) (hc2 : y2.cls = y.cls) (w4 : (Jvm.Cond.selects C y z).before a0 Z = true) (w5 : (Jvm.Cond.instanceMethod z).before a0 Z = true) (wz : (Jvm.Cond.initialized z.cls).before a0 Z = true) (wc : (Jvm.Cond.code z bytes cml ret).before a0 Z = true) (E : Exa Z H.1 a C) (hM : Ct l Z EL z bytes cml ret rm [] (.ref a :: argsL) H Q) (hy : y.cls ≠ "java/lang/invoke/MethodHandle" ∧ y.cls ≠ "java/lang/invoke/VarHandle") (hlen : ∃ ps r, parseMethodDescriptor y.desc = some ⟨ps, r⟩ ∧ argsL.length = ps.length) (hd : decode code pc = .ok (.invokevirtual index, 3)) (hf : rm.frames + 1 ≤ R.frames) (hW : (st.map fun v => v.category).sum ≤ Wd) (hlo : Wd + (cml + 11) + rm.locals ≤ R.locals) (hcl : k + rm.cells ≤ R.cells) (hsl : n + rm.slots ≤ R.slots) :
    ∃ (v : Option Value) (H' : HP), Q v H' ∧ Wk l Z a0 EL own code ml nm rt R D (pc + 3) ls (v.toList ++ st) H' (k + rm.cells) (n + rm.slots) ∧ (∀ x, H.2 x → H'.2 x) ∧ H.1.size ≤ H'.1.size := by
  obtain ⟨p, e, s, m, args, below, meth, c, s0, H0⟩ := D
  obtain ⟨hx, hown, hc, hml, hnm, hrt, hlk, hEL, hSA, hls, T, L, vm0, k0, X, eT, hS, hk, hZ, hG, hF, hMo, hst⟩ := A
  dsimp only at hx hown hc hml hnm hrt hlk X hS hMo hst
  have hown' : (s.setVm vm0).vm.findClass own = some m.cls := (hS.1.alike.findClass _ _).trans hown
  have hZ' : Z.Warmed39 (s.setVm vm0).vm := hZ
  obtain ⟨cB, kB, i1, i2, i3⟩ := isOf (s := (s.setVm vm0)) hZ' eT E
  obtain ⟨v, vm1, ⟨T', L', c', n'⟩, -, X', hS2, hgr, ⟨Lc, O, hQ, hmo, hG', hFc, l1, l2, l3⟩, st'⟩ := X.virtualBackS hx hown' (mvT hZ' w1) (mvT hZ' w2) (notFace_cls (mvT hZ' (args := #[]) w3) hc2) (mvT hZ' w4) (mvT hZ' w5) hy (ctBack hM hZ wc wz hf hlo hEL hG) i1 i3 (g := mkF m pc ls.toArray (argsL.reverse ++ .ref a :: st)) rfl (by simp [hls, hml]) (Steps.refl _) (by obtain ⟨ps, r, q1, q2⟩ := hlen; exact lenOf q1 q2) rfl (by simpa using hW) (hb hc hd) (fun _ _ => ⟨rfl, eT, hcl, hsl⟩)
  dsimp only [Pt.U, Pt.locs, Pt.cells, Pt.slots] at X' hS2 hgr hQ hmo hG' l1 l2 l3 st'
  subst l1 l2 l3
  have hS' := hS.trans hS2 (by rw [eT] at hgr; exact Nat.le_trans hk hgr)
  exact ⟨v, (T'.heap, O), hQ, ⟨hx, hown, hc, hml, hnm, hrt, hlk, hEL, hSA, hls, T', _, T'.vm, T'.heap.size, X', rfl, hS', (Nat.le_refl _), (State.Warmed39.trans (t := s.setVm vm0) hZ hS2.1), hG', (hF.app hFc), ⟨fun x q => hmo.1 x (hMo.1 x q), Nat.le_trans hMo.2 hmo.2⟩, hst.trans st'⟩, hmo.1, hmo.2⟩
theorem Wk.callF {xi y : MethodName} {bytes : ByteArray} {ret : Option FieldType} {cml : Nat} {rm : Room} {Q : Option Value → HP → Prop} {argsL : List Value} {index Wd : Nat} {count : Nat} (A : Wk l Z a0 EL own code ml nm rt R D pc ls (argsL.reverse ++ .ref a :: st) H k n) (w1 : (Jvm.Cond.methodLink own index xi).before a0 Z = true) (w2 : (Jvm.Cond.declares xi).before a0 Z = true) (w3 : (Jvm.Cond.interfaceMethod xi.cls xi.cls xi.name xi.desc).before a0 Z = true) (w4 : (Jvm.Cond.selects C xi y).before a0 Z = true) (w5 : (Jvm.Cond.instanceMethod y).before a0 Z = true) (w6 : (Jvm.Cond.publicMethod y).before a0 Z = true) (w7 : (Jvm.Cond.unhidden C xi.name xi.desc).before a0 Z = true) (w8 : (Jvm.Cond.castable C xi.cls).before a0 Z = true) (wz : (Jvm.Cond.initialized y.cls).before a0 Z = true) (wc : (Jvm.Cond.code y bytes cml ret).before a0 Z = true) (E : Exa Z H.1 a C) (hM : Ct l Z EL y bytes cml ret rm [] (.ref a :: argsL) H Q) (hy : xi.cls ≠ "java/lang/invoke/MethodHandle" ∧ xi.cls ≠ "java/lang/invoke/VarHandle") (hlen : ∃ ps r, parseMethodDescriptor xi.desc = some ⟨ps, r⟩ ∧ argsL.length = ps.length) (hd : decode code pc = .ok (.invokeinterface index count, 5)) (hf : rm.frames + 1 ≤ R.frames) (hW : (st.map fun v => v.category).sum ≤ Wd) (hlo : Wd + (cml + 11) + rm.locals ≤ R.locals) (hcl : k + rm.cells ≤ R.cells) (hsl : n + rm.slots ≤ R.slots) :
    ∃ (v : Option Value) (H' : HP), Q v H' ∧ Wk l Z a0 EL own code ml nm rt R D (pc + 5) ls (v.toList ++ st) H' (k + rm.cells) (n + rm.slots) ∧ (∀ x, H.2 x → H'.2 x) ∧ H.1.size ≤ H'.1.size := by
  obtain ⟨p, e, s, m, args, below, meth, c, s0, H0⟩ := D
  obtain ⟨hx, hown, hc, hml, hnm, hrt, hlk, hEL, hSA, hls, T, L, vm0, k0, X, eT, hS, hk, hZ, hG, hF, hMo, hst⟩ := A
  dsimp only at hx hown hc hml hnm hrt hlk X hS hMo hst
  have hown' : (s.setVm vm0).vm.findClass own = some m.cls := (hS.1.alike.findClass _ _).trans hown
  have hZ' : Z.Warmed39 (s.setVm vm0).vm := hZ
  obtain ⟨cB, kB, i1, i2, i3⟩ := isOf (s := (s.setVm vm0)) hZ' eT E
  obtain ⟨v, vm1, ⟨T', L', c', n'⟩, -, X', hS2, hgr, ⟨Lc, O, hQ, hmo, hG', hFc, l1, l2, l3⟩, st'⟩ := X.interfaceBackS hx hown' (mvT hZ' w1) (mvT hZ' w2) (mvT hZ' w3 (by simp [Cond.onTables, Cond.keepsFace, Cond.keeps, Cond.steady, Cond.faceAtom, hy.1, hy.2])) (mvT hZ' w4) (mvT hZ' w5) (mvT hZ' w6) (mvT hZ' w7) (mvT hZ' w8) hy (ctBack hM hZ wc wz hf hlo hEL hG) i1 i2 i3 (g := mkF m pc ls.toArray (argsL.reverse ++ .ref a :: st)) rfl (by simp [hls, hml]) (Steps.refl _) (by obtain ⟨ps, r, q1, q2⟩ := hlen; exact lenOf q1 q2) rfl (by simpa using hW) (hb hc hd) (fun _ _ => ⟨rfl, eT, hcl, hsl⟩)
  dsimp only [Pt.U, Pt.locs, Pt.cells, Pt.slots] at X' hS2 hgr hQ hmo hG' l1 l2 l3 st'
  subst l1 l2 l3
  have hS' := hS.trans hS2 (by rw [eT] at hgr; exact Nat.le_trans hk hgr)
  exact ⟨v, (T'.heap, O), hQ, ⟨hx, hown, hc, hml, hnm, hrt, hlk, hEL, hSA, hls, T', _, T'.vm, T'.heap.size, X', rfl, hS', (Nat.le_refl _), (State.Warmed39.trans (t := s.setVm vm0) hZ hS2.1), hG', (hF.app hFc), ⟨fun x q => hmo.1 x (hMo.1 x q), Nat.le_trans hMo.2 hmo.2⟩, hst.trans st'⟩, hmo.1, hmo.2⟩
theorem Wk.copy {sp dp z : Int32} {i j q index Wd : Nat} {vd : List Value} (A : Wk l Z a0 EL own code ml nm rt R D pc ls (.int z :: .int dp :: .ref b :: .int sp :: .ref a :: st) H k n) (w1 : (Jvm.Cond.methodLink own index Jvm.Stand.acN).before a0 Z = true) (w2 : (Jvm.Cond.native Jvm.Stand.acN).before a0 Z = true) (w3 : (Jvm.Cond.static Jvm.Stand.acN).before a0 Z = true) (w4 : (Jvm.Cond.initialized "java/lang/System").before a0 Z = true) (Fa : Ar Z H a ty vs) (Fb : Ar Z H b ty vd) (hty : refKind ty = false) (o : H.2 b) (hi : i.toInt32 = sp) (hj : j.toInt32 = dp) (hq : q.toInt32 = z) (h4 : i + q ≤ vs.length) (h5 : j + q ≤ vd.length) (hd : decode code pc = .ok (.invokestatic index, 3)) (hf : 1 ≤ R.frames) (hW : (st.map fun v => v.category).sum ≤ Wd) (hlo : Wd + 18 ≤ R.locals) :
    ∃ H' : HP, Wk l Z a0 EL own code ml nm rt R D (pc + 3) ls st H' k n ∧ Kp H H' [b] ∧ Ar Z H' b ty (vd.take j ++ (vs.drop i).take q ++ vd.drop (j + q)) := by
  obtain ⟨p, e, s, m, args, below, meth, c, s0, H0⟩ := D
  obtain ⟨hx, hown, hc, hml, hnm, hrt, hlk, hEL, hSA, hls, T, L, vm0, k0, X, eT, hS, hk, hZ, hG, hF, hMo, hst⟩ := A
  dsimp only at hx hown hc hml hnm hrt hlk X hS hMo hst
  have hown' : (s.setVm vm0).vm.findClass own = some m.cls := (hS.1.alike.findClass _ _).trans hown
  have hZ' : Z.Warmed39 (s.setVm vm0).vm := hZ
  subst hi hj hq
  have la := Fa.len
  have lb := Fb.len
  obtain ⟨ka, Aa⟩ := Fa.arv (.int 0)
  obtain ⟨kb, Ab⟩ := Fb.arv (.int 0)
  have o2 := hG.2.1 b o
  have ci := clamp_nat (i := i) (by omega)
  have cj := clamp_nat (i := j) (by omega)
  have cq := clamp_nat (i := q) (by omega)
  obtain ⟨T', h', L', X', e', F', K', A', st'⟩ := RoadKit.cpA X hx hZ' hown' w1 w2 w3 w4 eT Aa Ab (us := (List.range q).map fun t => vs.getD (i + t) (.int 0)) (Or.inl ⟨rfl, hty⟩) (nonneg_nat (by omega)) (nonneg_nat (by omega)) (nonneg_nat (by omega)) (by rw [ci, cq, clamp_nat la]; exact h4) (by rw [cj, cq, clamp_nat lb]; exact h5) (by rw [ci, cq]) (by rw [cj, cq]; exact h5) hF o2.1 (g := mkF m pc ls.toArray (.int q.toInt32 :: .int j.toInt32 :: .ref b :: .int i.toInt32 :: .ref a :: st)) rfl (by simp [hls, hml]) rfl (hb hc hd) hf (by simpa using hW) hlo
  rw [cj, cq, range_take h4] at A'
  exact ⟨(h', H.2), ⟨hx, hown, hc, hml, hnm, hrt, hlk, hEL, hSA, hls, T', L', vm0, k0, X', e', hS, (Nat.le_trans hk K'.1), hZ, (hG.keep K' (fun x hx => by cases List.mem_singleton.mp hx; exact o)), F', ⟨hMo.1, Nat.le_trans hMo.2 K'.1⟩, hst.trans (st' _ (Steps.refl _))⟩, ⟨K', fun _ q => q⟩, Ar.of_arv (H := (h', H.2)) A' (by rw [clamp_nat lb]; simp; omega)⟩
theorem Wk.callU {y : MethodName} {bytes : ByteArray} {ret : Option FieldType} {cml : Nat} {rm : Room} {Q : Option Value → HP → Prop} {argsL : List Value} {index Wd : Nat} (A : Wk l Z a0 EL own code ml nm rt R D pc ls (argsL.reverse ++ .ref a :: st) H k n) (w1 : (Jvm.Cond.methodLink own index y).before a0 Z = true) (w2 : (Jvm.Cond.declares y).before a0 Z = true) {C' : String} {y2 : MethodName} (w3 : (Jvm.Cond.selects C' y2 y2).before a0 Z = true) (hc2 : y2.cls = y.cls) (w4 : (Jvm.Cond.superclass own y.cls).before a0 Z = true) (w5 : (Jvm.Cond.instanceMethod y).before a0 Z = true) (hni : y.name ≠ "<init>") (wz : (Jvm.Cond.initialized y.cls).before a0 Z = true) (wc : (Jvm.Cond.code y bytes cml ret).before a0 Z = true) (E : Exa Z H.1 a C) (hM : Ct l Z EL y bytes cml ret rm [] (.ref a :: argsL) H Q) (hy : y.cls ≠ "java/lang/invoke/MethodHandle" ∧ y.cls ≠ "java/lang/invoke/VarHandle") (hlen : ∃ ps r, parseMethodDescriptor y.desc = some ⟨ps, r⟩ ∧ argsL.length = ps.length) (hd : decode code pc = .ok (.invokespecial index, 3)) (hf : rm.frames + 1 ≤ R.frames) (hW : (st.map fun v => v.category).sum ≤ Wd) (hlo : Wd + (cml + 11) + rm.locals ≤ R.locals) (hcl : k + rm.cells ≤ R.cells) (hsl : n + rm.slots ≤ R.slots) :
    ∃ (v : Option Value) (H' : HP), Q v H' ∧ Wk l Z a0 EL own code ml nm rt R D (pc + 3) ls (v.toList ++ st) H' (k + rm.cells) (n + rm.slots) ∧ (∀ x, H.2 x → H'.2 x) ∧ H.1.size ≤ H'.1.size := by
  obtain ⟨p, e, s, m, args, below, meth, c, s0, H0⟩ := D
  obtain ⟨hx, hown, hc, hml, hnm, hrt, hlk, hEL, hSA, hls, T, L, vm0, k0, X, eT, hS, hk, hZ, hG, hF, hMo, hst⟩ := A
  dsimp only at hx hown hc hml hnm hrt hlk X hS hMo hst
  have hown' : (s.setVm vm0).vm.findClass own = some m.cls := (hS.1.alike.findClass _ _).trans hown
  have hZ' : Z.Warmed39 (s.setVm vm0).vm := hZ
  obtain ⟨v, vm1, ⟨T', L', c', n'⟩, -, X', hS2, hgr, ⟨Lc, O, hQ, hmo, hG', hFc, l1, l2, l3⟩, st'⟩ := RoadKit.superBackS X hx hZ' hown' w1 (same_of w2 w3 hc2 hy) w5 w4 hni (ctBack hM hZ wc wz hf hlo hEL hG) eT (Ins.self E) (g := mkF m pc ls.toArray (argsL.reverse ++ .ref a :: st)) rfl (by simp [hls, hml]) wc (by obtain ⟨ps, r, q1, q2⟩ := hlen; exact lenOf q1 q2) rfl (by simpa using hW) (hb hc hd) (fun _ _ => ⟨rfl, eT, hcl, hsl⟩)
  dsimp only [Pt.U, Pt.locs, Pt.cells, Pt.slots] at X' hS2 hgr hQ hmo hG' l1 l2 l3 st'
  subst l1 l2 l3
  have hS' := hS.trans hS2 (by rw [eT] at hgr; exact Nat.le_trans hk hgr)
  exact ⟨v, (T'.heap, O), hQ, ⟨hx, hown, hc, hml, hnm, hrt, hlk, hEL, hSA, hls, T', _, T'.vm, T'.heap.size, X', rfl, hS', (Nat.le_refl _), (State.Warmed39.trans (t := s.setVm vm0) hZ hS2.1), hG', (hF.app hFc), ⟨fun x q => hmo.1 x (hMo.1 x q), Nat.le_trans hMo.2 hmo.2⟩, hst.trans st'⟩, hmo.1, hmo.2⟩
theorem Wk.getSN {R0 O host : String} {index : Nat} (A : Wk l Z a0 EL own code ml nm rt R D pc ls st H k n) (w : (Jvm.Cond.fieldLinkNest own index R0 nn d host).before a0 Z = true) (F : Sta Z Z.heap O nn d v) (hd : decode code pc = .ok (.getstatic index, 3)) (via : Via Z R0 O nn d := by exact Via.refl) :
    Wk l Z a0 EL own code ml nm rt R D (pc + 3) ls (v :: st) H k n := by
  obtain ⟨p, e, s, m, args, below, meth, c, s0, H0⟩ := D
  obtain ⟨hx, hown, hc, hml, hnm, hrt, hlk, hEL, hSA, hls, T, L, vm0, k0, X, eT, hS, hk, hZ, hG, hF, hMo, hst⟩ := A
  dsimp only at hx hown hc hml hnm hrt hlk X hS hMo hst
  have hown' : (s.setVm vm0).vm.findClass own = some m.cls := (hS.1.alike.findClass _ _).trans hown
  have hZ' : Z.Warmed39 (s.setVm vm0).vm := hZ
  obtain ⟨T', X', e', st'⟩ := RoadKit.getS2 X hx hZ' hown' (Or.inr w) via eT (F.ext hG.1) (g := mkF m pc ls.toArray st) rfl (hb hc hd)
  exact ⟨hx, hown, hc, hml, hnm, hrt, hlk, hEL, hSA, hls, T', L, vm0, k0, X', e', hS, hk, hZ, hG, hF, hMo, hst.trans (st' _ (Steps.refl _))⟩
theorem privS {p : Program} {e : Env} {R : Room} {s : State} {m : MethodId} {args : Array Value} {below : List Frame} {meth : Method} {c : Code} {T : State} {locs : List Loc} {cells slots : Nat} (X : Stand p l e R s m args below meth c T locs cells slots) (hexec : p.tables.exec = Jvm.exec) {own : String} {index : Nat} {y : MethodName} {bytes : ByteArray} {maxL : Nat} {ret : Option FieldType}
    (hown : s.vm.findClass own = some m.cls) (hlink : (Jvm.Cond.methodLink own index y).before args s = true) (hinst : (Jvm.Cond.instanceMethod y).before args s = true) (hnf : NotFace s y) (hpriv : s.PrivateAt y) (hcode : (Jvm.Cond.code y bytes maxL ret).before args s = true) (hy : y.cls ≠ "java/lang/invoke/MethodHandle" ∧ y.cls ≠ "java/lang/invoke/VarHandle")
    {W : Nat} {Pre : Pt → Array Value → Prop} {Post : Pt → Array Value → Option Value → Pt → Prop} (hK : BackS l R p e below s args y 3 W Pre Post) {b : Addr} {cB : ClassId} (hrecv : IsOf cB T b)
    {g : JFrame} (hg : g.method = m) (hsize : g.locals.size = c.maxLocals) {argsL rest : List Value} (hlen : ∀ sig, parseMethodDescriptor y.desc = some sig → argsL.length = sig.parameters.length) (hstack : g.stack = argsL.reverse ++ .ref b :: rest) (hW : 2 * g.monitorRoom + (rest.map fun v => v.category).sum ≤ W) (hdg : decode c.code g.pc = .ok (.invokevirtual index, 3))
    (hpre : ∀ vm₁, s.WarmedH vm₁ → Pre ⟨T.setVm vm₁, locs, cells, slots⟩ (.ref b :: argsL).toArray) :
    ∃ (v : Option Value) (vm₁ : Vm) (B : Pt), s.WarmedH vm₁ ∧ Stand p l e R (s.setVm B.U.vm) m args below meth c B.U B.locs B.cells B.slots ∧ s.Since B.U.vm B.U.heap.size ∧ T.heap.size ≤ B.U.heap.size ∧ Post ⟨T.setVm vm₁, locs, cells, slots⟩ (.ref b :: argsL).toArray v B ∧ Steps p.tables e below (T.setTop g) (B.U.setTop { g with pc := g.pc + 3, stack := v.toList ++ rest }) := by
  obtain ⟨cl, h1, h2, h3⟩ := hrecv
  obtain ⟨mk, mm, n1, n2, n3, n4⟩ := Cond.instanceMethod_spec hinst
  obtain ⟨mm', cM, q1, -, -, -, -, -, -, hsig⟩ := Cond.code_spec n1 hcode
  cases n2.symm.trans q1
  obtain ⟨kr, k1, k2⟩ := hnf mk n1
  obtain ⟨vm₁, X₁, go⟩ := X.invokevirtual hexec hown hlink n1 n2 n3 k1 k2 hy (a := b) (cell := cl) h1 (fun z h => by rw [h] at h3; cases h3) (selectMethod_private n2 (hpriv mk mm n1 n2)) n2 n4 k1 k2 (g := g) hg (argsL := argsL) (rest := rest) (hlen _ hsig) hstack hdg
  obtain ⟨v, B, X', hS, hgr, hpost, hst⟩ := hK m meth c ⟨T.setVm vm₁, locs, cells, slots⟩ { g with stack := rest } (.invokevirtual index) mk (.ref b :: argsL).toArray X₁ hg hsize hdg hW (X₁.named n1) (hpre vm₁ X₁.warmed)
  exact ⟨v, vm₁, B, X₁.warmed, X', hS, hgr, hpost, (go _ fun acts => by rw [doInvoke_state]; exact Steps.refl _).trans hst⟩
theorem Wk.callP {y : MethodName} {bytes : ByteArray} {ret : Option FieldType} {cml : Nat} {rm : Room} {Q : Option Value → HP → Prop} {argsL : List Value} {index Wd : Nat} (A : Wk l Z a0 EL own code ml nm rt R D pc ls (argsL.reverse ++ .ref a :: st) H k n) (w1 : (Jvm.Cond.methodLink own index y).before a0 Z = true) {C' : String} {y2 : MethodName} (w3 : (Jvm.Cond.selects C' y2 y2).before a0 Z = true) (hc2 : y2.cls = y.cls) (w4 : (Jvm.Cond.privateMethod y).before a0 Z = true) (w5 : (Jvm.Cond.instanceMethod y).before a0 Z = true) (wz : (Jvm.Cond.initialized y.cls).before a0 Z = true) (wc : (Jvm.Cond.code y bytes cml ret).before a0 Z = true) (E : Exa Z H.1 a C) (hM : Ct l Z EL y bytes cml ret rm [] (.ref a :: argsL) H Q) (hy : y.cls ≠ "java/lang/invoke/MethodHandle" ∧ y.cls ≠ "java/lang/invoke/VarHandle") (hlen : ∃ ps r, parseMethodDescriptor y.desc = some ⟨ps, r⟩ ∧ argsL.length = ps.length) (hd : decode code pc = .ok (.invokevirtual index, 3)) (hf : rm.frames + 1 ≤ R.frames) (hW : (st.map fun v => v.category).sum ≤ Wd) (hlo : Wd + (cml + 11) + rm.locals ≤ R.locals) (hcl : k + rm.cells ≤ R.cells) (hsl : n + rm.slots ≤ R.slots) :
    ∃ (v : Option Value) (H' : HP), Q v H' ∧ Wk l Z a0 EL own code ml nm rt R D (pc + 3) ls (v.toList ++ st) H' (k + rm.cells) (n + rm.slots) ∧ (∀ x, H.2 x → H'.2 x) ∧ H.1.size ≤ H'.1.size := by
  obtain ⟨p, e, s, m, args, below, meth, c, s0, H0⟩ := D
  obtain ⟨hx, hown, hc, hml, hnm, hrt, hlk, hEL, hSA, hls, T, L, vm0, k0, X, eT, hS, hk, hZ, hG, hF, hMo, hst⟩ := A
  dsimp only at hx hown hc hml hnm hrt hlk X hS hMo hst
  have hown' : (s.setVm vm0).vm.findClass own = some m.cls := (hS.1.alike.findClass _ _).trans hown
  have hZ' : Z.Warmed39 (s.setVm vm0).vm := hZ
  obtain ⟨cB, kB, i1, i2, i3⟩ := isOf (s := (s.setVm vm0)) hZ' eT E
  obtain ⟨v, vm1, ⟨T', L', c', n'⟩, -, X', hS2, hgr, ⟨Lc, O, hQ, hmo, hG', hFc, l1, l2, l3⟩, st'⟩ := privS X hx hown' (mvT hZ' w1) (mvT hZ' w5) (notFace_cls (mvT hZ' (args := #[]) w3) hc2) (Cond.privateMethod_at (mvT hZ' (args := #[]) w4)) (mvT hZ' wc) hy (ctBack hM hZ wc wz hf hlo hEL hG) i3 (g := mkF m pc ls.toArray (argsL.reverse ++ .ref a :: st)) rfl (by simp [hls, hml]) (by obtain ⟨ps, r, q1, q2⟩ := hlen; exact lenOf q1 q2) rfl (by simpa using hW) (hb hc hd) (fun _ _ => ⟨rfl, eT, hcl, hsl⟩)
  dsimp only [Pt.U, Pt.locs, Pt.cells, Pt.slots] at X' hS2 hgr hQ hmo hG' l1 l2 l3 st'
  subst l1 l2 l3
  have hS' := hS.trans hS2 (by rw [eT] at hgr; exact Nat.le_trans hk hgr)
  exact ⟨v, (T'.heap, O), hQ, ⟨hx, hown, hc, hml, hnm, hrt, hlk, hEL, hSA, hls, T', _, T'.vm, T'.heap.size, X', rfl, hS', (Nat.le_refl _), (State.Warmed39.trans (t := s.setVm vm0) hZ hS2.1), hG', (hF.app hFc), ⟨fun x q => hmo.1 x (hMo.1 x q), Nat.le_trans hMo.2 hmo.2⟩, hst.trans st'⟩, hmo.1, hmo.2⟩
theorem Wk.newAE {aty : ArrayType} {z : Int32} (A : Wk l Z a0 EL own code ml nm rt R D pc ls (.int z :: st) H k n) (w : (Jvm.Cond.arrayClass (newarray.typeOf aty)).before a0 Z = true) (hd : decode code pc = .ok (.newarray aty, 2)) {N : Nat} (hN : N.toInt32 = z) {cap : Nat} (hcap : N ≤ cap) (hbg : cap * 8 ≤ 536870912) (hcl : k + 1 ≤ R.cells) (hsl : n + cap ≤ R.slots) {ad : String} (had : "[" ++ (newarray.typeOf aty).toString = ad) :
    ∃ (a : Addr) (H' : HP), Wk l Z a0 EL own code ml nm rt R D (pc + 2) ls (.ref a :: st) H' (k + 1) (n + cap) ∧ H.1.size ≤ a ∧ Kp H H' [] ∧ Ar Z H' a (newarray.typeOf aty) (List.replicate N (defaultValue (newarray.typeOf aty))) ∧ H'.2 a ∧ Exa Z H'.1 a ad := by
  obtain ⟨p, e, s, m, args, below, meth, c, s0, H0⟩ := D
  obtain ⟨hx, hown, hc, hml, hnm, hrt, hlk, hEL, hSA, hls, T, L, vm0, k0, X, eT, hS, hk, hZ, hG, hF, hMo, hst⟩ := A
  dsimp only at hx hown hc hml hnm hrt hlk X hS hMo hst
  have hown' : (s.setVm vm0).vm.findClass own = some m.cls := (hS.1.alike.findClass _ _).trans hown
  have hZ' : Z.Warmed39 (s.setVm vm0).vm := hZ
  subst hN
  have hN2 : N < 2 ^ 31 := by omega
  obtain ⟨T', h', cA, X', e', E, Ex, Ea, st'⟩ := RoadKit.newPE X hx hZ' w eT (g := mkF m pc ls.toArray (.int N.toInt32 :: st)) rfl (hb hc hd) rfl (nonneg_nat hN2) (cap := cap) (by rw [clamp_nat hN2]; exact hcap) hbg hcl hsl had
  refine ⟨H.1.size, (h', fun y => H.2 y ∨ y = H.1.size), ⟨hx, hown, hc, hml, hnm, hrt, hlk, hEL, hSA, hls, T', L, vm0, k0, X', e', hS, (Nat.le_trans hk E.1), hZ, (hG.ext E Ex.lt), hF, ⟨fun x q => Or.inl (hMo.1 x q), Nat.le_trans hMo.2 E.1⟩, hst.trans (st' _ (Steps.refl _))⟩, Nat.le_refl _, ⟨(Keep.refl _ _).ext E, fun _ q => Or.inl q⟩, ⟨_, Ex, by simp [Jvm.RoadKit.newA, clamp_nat hN2], by simpa using hN2, fun v hv => ?_⟩, Or.inr rfl, Ea⟩
  obtain ⟨-, rfl⟩ := List.mem_replicate.mp hv
  cases aty <;> rfl
theorem Wk.clone {ad : String} {index Wd : Nat} (A : Wk l Z a0 EL own code ml nm rt R D pc ls (.ref a :: st) H k n) (w1 : (Jvm.Cond.methodLink own index ⟨ad, "clone", "()Ljava/lang/Object;"⟩).before a0 Z = true) (w2 : (Jvm.Cond.sameMethod ad "java/lang/Object" "clone" "()Ljava/lang/Object;").before a0 Z = true) (w3 : (Jvm.Cond.native ⟨"java/lang/Object", "clone", "()Ljava/lang/Object;"⟩).before a0 Z = true) (w4 : (Jvm.Cond.instanceMethod ⟨"java/lang/Object", "clone", "()Ljava/lang/Object;"⟩).before a0 Z = true) (w5 : (Jvm.Cond.selects ad ⟨ad, "clone", "()Ljava/lang/Object;"⟩ ⟨"java/lang/Object", "clone", "()Ljava/lang/Object;"⟩).before a0 Z = true) (w6 : (Jvm.Cond.castable ad "java/lang/Cloneable").before a0 Z = true) (F : Ar Z H a ty vs) (E : Exa Z H.1 a ad) (hd : decode code pc = .ok (.invokevirtual index, 3)) (hf : 1 ≤ R.frames) (hW : (st.map fun v => v.category).sum ≤ Wd) (hlo : Wd + 14 ≤ R.locals) {cap : Nat} (hcap : vs.length ≤ cap) (hcl : k + 1 ≤ R.cells) (hsl : n + cap ≤ R.slots) :
    ∃ (b : Addr) (H' : HP), Wk l Z a0 EL own code ml nm rt R D (pc + 3) ls (.ref b :: st) H' (k + 1) (n + cap) ∧ H.1.size ≤ b ∧ Kp H H' [] ∧ Ar Z H' b ty vs ∧ H'.2 b ∧ Exa Z H'.1 b ad := by
  obtain ⟨p, e, s, m, args, below, meth, c, s0, H0⟩ := D
  obtain ⟨hx, hown, hc, hml, hnm, hrt, hlk, hEL, hSA, hls, T, L, vm0, k0, X, eT, hS, hk, hZ, hG, hF, hMo, hst⟩ := A
  dsimp only at hx hown hc hml hnm hrt hlk X hS hMo hst
  have hown' : (s.setVm vm0).vm.findClass own = some m.cls := (hS.1.alike.findClass _ _).trans hown
  have hZ' : Z.Warmed39 (s.setVm vm0).vm := hZ
  obtain ⟨cl, A0, q1, q2, q3⟩ := F
  obtain ⟨T', h', X', e', Ex, A', E', st'⟩ := RoadKit.cloneA X hx hZ' hown' w1 w2 w3 w4 w5 w6 eT A0 E (RoadKit.fitC_of A0 fun i hi v hv => q3 v (by rw [q1] at hv; simp at hv; exact List.mem_of_getElem? hv)) (g := mkF m pc ls.toArray (.ref a :: st)) rfl (by simp [hls, hml]) rfl (hb hc hd) hf (by simpa using hW) hlo (cap := cap) (by rw [q1]; simpa using hcap) hcl hsl
  exact ⟨H.1.size, (h', fun y => H.2 y ∨ y = H.1.size), ⟨hx, hown, hc, hml, hnm, hrt, hlk, hEL, hSA, hls, T', L, vm0, k0, X', e', hS, (Nat.le_trans hk Ex.1), hZ, (hG.ext Ex A'.lt), hF, ⟨fun x q => Or.inl (hMo.1 x q), Nat.le_trans hMo.2 Ex.1⟩, hst.trans (st' _ (Steps.refl _))⟩, Nat.le_refl _, ⟨(Keep.refl _ _).ext Ex, fun _ q => Or.inl q⟩, ⟨_, A', q1, q2, q3⟩, Or.inr rfl, E'⟩
theorem Wk.anew {C0 : String} {index : Nat} {z : Int32} (A : Wk l Z a0 EL own code ml nm rt R D pc ls (.int z :: st) H k n) (w : (Jvm.Cond.classLink own index C0).before a0 Z = true) (w2 : (Jvm.Cond.arrayOver (.object C0)).before a0 Z = true) (hd : decode code pc = .ok (.anewarray index, 3)) {N : Nat} (hN : N.toInt32 = z) {cap : Nat} (hcap : N ≤ cap) (hbg : cap * 8 ≤ 536870912) (hcl : k + 1 ≤ R.cells) (hsl : n + cap ≤ R.slots) {ad : String} (had : "[" ++ (FieldType.object C0).toString = ad) :
    ∃ (a : Addr) (H' : HP), Wk l Z a0 EL own code ml nm rt R D (pc + 3) ls (.ref a :: st) H' (k + 1) (n + cap) ∧ H.1.size ≤ a ∧ Kp H H' [] ∧ Ar Z H' a (.object C0) (List.replicate N .null) ∧ H'.2 a ∧ Exa Z H'.1 a ad := by
  obtain ⟨p, e, s, m, args, below, meth, c, s0, H0⟩ := D
  obtain ⟨hx, hown, hc, hml, hnm, hrt, hlk, hEL, hSA, hls, T, L, vm0, k0, X, eT, hS, hk, hZ, hG, hF, hMo, hst⟩ := A
  dsimp only at hx hown hc hml hnm hrt hlk X hS hMo hst
  have hown' : (s.setVm vm0).vm.findClass own = some m.cls := (hS.1.alike.findClass _ _).trans hown
  have hZ' : Z.Warmed39 (s.setVm vm0).vm := hZ
  subst hN
  have hN2 : N < 2 ^ 31 := by omega
  obtain ⟨T', h', cA, X', e', E, Ex, Ea, -, st'⟩ := RoadKit.newRE X hx hZ' hown' w w2 eT (g := mkF m pc ls.toArray (.int N.toInt32 :: st)) rfl (hb hc hd) rfl (nonneg_nat hN2) (cap := cap) (by rw [clamp_nat hN2]; exact hcap) hbg hcl hsl had
  refine ⟨H.1.size, (h', fun y => H.2 y ∨ y = H.1.size), ⟨hx, hown, hc, hml, hnm, hrt, hlk, hEL, hSA, hls, T', L, vm0, k0, X', e', hS, (Nat.le_trans hk E.1), hZ, (hG.ext E Ex.lt), hF, ⟨fun x q => Or.inl (hMo.1 x q), Nat.le_trans hMo.2 E.1⟩, hst.trans (st' _ (Steps.refl _))⟩, Nat.le_refl _, ⟨(Keep.refl _ _).ext E, fun _ q => Or.inl q⟩, ⟨_, Ex, by simp [Jvm.RoadKit.newA, clamp_nat hN2, defaultValue], by simpa using hN2, fun v hv => ?_⟩, Or.inr rfl, Ea⟩
  obtain ⟨-, rfl⟩ := List.mem_replicate.mp hv
  rfl
theorem Wk.aast {C0 ad : String} {i : Nat} {j : Int32} {y : Addr} (A : Wk l Z a0 EL own code ml nm rt R D pc ls (.ref y :: .int j :: .ref a :: st) H k n) (F : Ar Z H a (.object C0) vs) (E : Exa Z H.1 a ad) (had : "[" ++ (FieldType.object C0).toString = ad) (w2 : (Jvm.Cond.arrayOver (.object C0)).before a0 Z = true) (I : Ins Z H.1 y C0 true) (o : H.2 a) (hd : decode code pc = .ok (.aastore, 1)) (hj : i.toInt32 = j) (hi : i < vs.length) :
    ∃ H' : HP, Wk l Z a0 EL own code ml nm rt R D (pc + 1) ls st H' k n ∧ Kp H H' [a] ∧ Ar Z H' a (.object C0) (vs.set i (.ref y)) := by
  obtain ⟨p, e, s, m, args, below, meth, c, s0, H0⟩ := D
  obtain ⟨hx, hown, hc, hml, hnm, hrt, hlk, hEL, hSA, hls, T, L, vm0, k0, X, eT, hS, hk, hZ, hG, hF, hMo, hst⟩ := A
  dsimp only at hx hown hc hml hnm hrt hlk X hS hMo hst
  have hown' : (s.setVm vm0).vm.findClass own = some m.cls := (hS.1.alike.findClass _ _).trans hown
  have hZ' : Z.Warmed39 (s.setVm vm0).vm := hZ
  subst hj
  obtain ⟨cl, Aq, hsl, hlen, hft⟩ := F
  have hsz : cl.slots.size = vs.length := by rw [hsl]; simp
  have hi2 : i < 2 ^ 31 := Nat.lt_trans hi hlen
  have O : Ovr Z cl.cls C0 := by
    obtain ⟨cell, kc, h1, h2, -⟩ := E
    cases Aq.1.symm.trans h1
    obtain ⟨comp, cA, kA, q1, -, q3, q4, q5⟩ := Cond.arrayOver_spec w2
    rw [had] at q5
    cases h2.symm.trans q5
    exact ⟨kA, comp, q3, q4, q1⟩
  obtain ⟨T', h', X', e', Wr1, st'⟩ := RoadKit.stR X hx hZ' eT Aq (by rw [hsz]; exact idx_in hi hlen) rfl (Sto.of Aq O I) (g := mkF m pc ls.toArray (.ref y :: .int i.toInt32 :: .ref a :: st)) rfl rfl (hb hc hd)
  have o2 := hG.2.1 a o
  refine ⟨(h', H.2), ⟨hx, hown, hc, hml, hnm, hrt, hlk, hEL, hSA, hls, T', (L ++ [_]), vm0, k0, X', e', hS, (by show _ ≤ h'.size; rw [Wr1.size]; exact hk), hZ, (hG.wr Wr1 o), (hF.app fun y hy => by cases List.mem_singleton.mp hy; exact o2.1), ⟨hMo.1, by show _ ≤ h'.size; rw [Wr1.size]; exact hMo.2⟩, hst.trans (st' _ (Steps.refl _))⟩, ⟨Keep.of_wr Wr1, fun _ q => q⟩, ⟨_, Aq.same Wr1, ?_, by simpa using hlen, fun v hv => ?_⟩⟩
  · rw [clamp_nat hi2]; show cl.slots.setIfInBounds i _ = _; rw [hsl]; simp
  · rcases List.mem_or_eq_of_mem_set hv with q | rfl
    · exact hft v q
    · rfl
end Laws

abbrev EL0 : List (String × Nat) := consts_1
def Glb (Z : State) (a0 : Array Value) : Prop := (∀ d ∈ tables_1, d.before a0 Z = true) ∧ (∀ d ∈ jdkStatics_1, d.before a0 Z = true) ∧ Fit Z ∧ narrow_1.value a0 Z none Z [] = some true
def txtAt (k : Nat) : String := match tables_1[k]? with
  | some (.stringLink _ _ t) => t
  | _ => ""
theorem wd_0 {Z : State} {a0 : Array Value} (G : Glb Z a0) : (Jvm.Cond.methodLink "com/example/holdfast/holdfast/LockLostToStringPinLaw" (12 : Nat) ({ cls := "java/lang/String", name := "valueOf", desc := "(C)Ljava/lang/String;" } : Jvm.MethodName)).before a0 Z = true := G.1 _ (List.mem_of_getElem? (i := 0) rfl)
theorem wd_1 {Z : State} {a0 : Array Value} (G : Glb Z a0) : (Jvm.Cond.static ({ cls := "java/lang/String", name := "valueOf", desc := "(C)Ljava/lang/String;" } : Jvm.MethodName)).before a0 Z = true := G.1 _ (List.mem_of_getElem? (i := 1) rfl)
theorem wd_2 {Z : State} {a0 : Array Value} (G : Glb Z a0) : (Jvm.Cond.initialized "java/lang/String").before a0 Z = true := G.1 _ (List.mem_of_getElem? (i := 2) rfl)
theorem wd_3 {Z : State} {a0 : Array Value} (G : Glb Z a0) : (Jvm.Cond.code ({ cls := "java/lang/String", name := "valueOf", desc := "(C)Ljava/lang/String;" } : Jvm.MethodName) jdk_42_method_139_code (1 : Nat) (Option.some (Jvm.ClassFile.FieldType.object "java/lang/String"))).before a0 Z = true := G.1 _ (List.mem_of_getElem? (i := 3) rfl)
theorem wd_4 {Z : State} {a0 : Array Value} (G : Glb Z a0) : (Jvm.Cond.fieldLink "java/lang/String" (38 : Nat) "java/lang/String" "COMPACT_STRINGS" "Z").before a0 Z = true := G.1 _ (List.mem_of_getElem? (i := 4) rfl)
theorem wd_5 {Z : State} {a0 : Array Value} (G : Glb Z a0) : (Jvm.Cond.methodLink "java/lang/String" (1015 : Nat) ({ cls := "java/lang/StringLatin1", name := "canEncode", desc := "(C)Z" } : Jvm.MethodName)).before a0 Z = true := G.1 _ (List.mem_of_getElem? (i := 5) rfl)
theorem wd_6 {Z : State} {a0 : Array Value} (G : Glb Z a0) : (Jvm.Cond.static ({ cls := "java/lang/StringLatin1", name := "canEncode", desc := "(C)Z" } : Jvm.MethodName)).before a0 Z = true := G.1 _ (List.mem_of_getElem? (i := 6) rfl)
theorem wd_7 {Z : State} {a0 : Array Value} (G : Glb Z a0) : (Jvm.Cond.initialized "java/lang/StringLatin1").before a0 Z = true := G.1 _ (List.mem_of_getElem? (i := 7) rfl)
theorem wd_8 {Z : State} {a0 : Array Value} (G : Glb Z a0) : (Jvm.Cond.code ({ cls := "java/lang/StringLatin1", name := "canEncode", desc := "(C)Z" } : Jvm.MethodName) jdk_43_method_3_code (1 : Nat) (Option.some Jvm.ClassFile.FieldType.boolean)).before a0 Z = true := G.1 _ (List.mem_of_getElem? (i := 8) rfl)
theorem wd_9 {Z : State} {a0 : Array Value} (G : Glb Z a0) : (Jvm.Cond.classLink "java/lang/String" (10 : Nat) "java/lang/String").before a0 Z = true := G.1 _ (List.mem_of_getElem? (i := 9) rfl)
theorem wd_10 {Z : State} {a0 : Array Value} (G : Glb Z a0) : (Jvm.Cond.instantiable "java/lang/String" (4 : Nat)).before a0 Z = true := G.1 _ (List.mem_of_getElem? (i := 10) rfl)
theorem wd_11 {Z : State} {a0 : Array Value} (G : Glb Z a0) : (Jvm.Cond.methodLink "java/lang/String" (1018 : Nat) ({ cls := "java/lang/StringLatin1", name := "toBytes", desc := "(C)[B" } : Jvm.MethodName)).before a0 Z = true := G.1 _ (List.mem_of_getElem? (i := 11) rfl)
theorem wd_12 {Z : State} {a0 : Array Value} (G : Glb Z a0) : (Jvm.Cond.static ({ cls := "java/lang/StringLatin1", name := "toBytes", desc := "(C)[B" } : Jvm.MethodName)).before a0 Z = true := G.1 _ (List.mem_of_getElem? (i := 12) rfl)
theorem wd_13 {Z : State} {a0 : Array Value} (G : Glb Z a0) : (Jvm.Cond.code ({ cls := "java/lang/StringLatin1", name := "toBytes", desc := "(C)[B" } : Jvm.MethodName) jdk_43_method_46_code (1 : Nat) (Option.some (Jvm.ClassFile.FieldType.array Jvm.ClassFile.FieldType.byte))).before a0 Z = true := G.1 _ (List.mem_of_getElem? (i := 13) rfl)
theorem wd_14 {Z : State} {a0 : Array Value} (G : Glb Z a0) : (Jvm.Cond.arrayClass Jvm.ClassFile.FieldType.byte).before a0 Z = true := G.1 _ (List.mem_of_getElem? (i := 14) rfl)
theorem wd_15 {Z : State} {a0 : Array Value} (G : Glb Z a0) : (Jvm.Cond.methodLink "java/lang/String" (209 : Nat) ({ cls := "java/lang/String", name := "<init>", desc := "([BB)V" } : Jvm.MethodName)).before a0 Z = true := G.1 _ (List.mem_of_getElem? (i := 15) rfl)
theorem wd_16 {Z : State} {a0 : Array Value} (G : Glb Z a0) : (Jvm.Cond.instanceMethod ({ cls := "java/lang/String", name := "<init>", desc := "([BB)V" } : Jvm.MethodName)).before a0 Z = true := G.1 _ (List.mem_of_getElem? (i := 16) rfl)
theorem wd_18 {Z : State} {a0 : Array Value} (G : Glb Z a0) : (Jvm.Cond.code ({ cls := "java/lang/String", name := "<init>", desc := "([BB)V" } : Jvm.MethodName) jdk_42_method_151_code (3 : Nat) (Option.none : Option Jvm.ClassFile.FieldType)).before a0 Z = true := G.1 _ (List.mem_of_getElem? (i := 18) rfl)
theorem wd_19 {Z : State} {a0 : Array Value} (G : Glb Z a0) : (Jvm.Cond.methodLink "java/lang/String" (1 : Nat) ({ cls := "java/lang/Object", name := "<init>", desc := "()V" } : Jvm.MethodName)).before a0 Z = true := G.1 _ (List.mem_of_getElem? (i := 19) rfl)
theorem wd_20 {Z : State} {a0 : Array Value} (G : Glb Z a0) : (Jvm.Cond.instanceMethod ({ cls := "java/lang/Object", name := "<init>", desc := "()V" } : Jvm.MethodName)).before a0 Z = true := G.1 _ (List.mem_of_getElem? (i := 20) rfl)
theorem wd_21 {Z : State} {a0 : Array Value} (G : Glb Z a0) : (Jvm.Cond.code ({ cls := "java/lang/Object", name := "<init>", desc := "()V" } : Jvm.MethodName) object_method_1_code (1 : Nat) (Option.none : Option Jvm.ClassFile.FieldType)).before a0 Z = true := G.1 _ (List.mem_of_getElem? (i := 21) rfl)
theorem wd_22 {Z : State} {a0 : Array Value} (G : Glb Z a0) : (Jvm.Cond.fieldLink "java/lang/String" (9 : Nat) "java/lang/String" "value" "[B").before a0 Z = true := G.1 _ (List.mem_of_getElem? (i := 22) rfl)
theorem wd_23 {Z : State} {a0 : Array Value} (G : Glb Z a0) : (Jvm.Cond.laysFinal "java/lang/String" "java/lang/String" "value" "[B").before a0 Z = true := G.1 _ (List.mem_of_getElem? (i := 23) rfl)
theorem wd_24 {Z : State} {a0 : Array Value} (G : Glb Z a0) : (Jvm.Cond.fieldLink "java/lang/String" (15 : Nat) "java/lang/String" "coder" "B").before a0 Z = true := G.1 _ (List.mem_of_getElem? (i := 24) rfl)
theorem wd_25 {Z : State} {a0 : Array Value} (G : Glb Z a0) : (Jvm.Cond.laysFinal "java/lang/String" "java/lang/String" "coder" "B").before a0 Z = true := G.1 _ (List.mem_of_getElem? (i := 25) rfl)
theorem wd_26 {Z : State} {a0 : Array Value} (G : Glb Z a0) : (Jvm.Cond.classLink "com/example/holdfast/holdfast/LockLostToStringPinLaw" (16 : Nat) "com/example/holdfast/holdfast/LockLost").before a0 Z = true := G.1 _ (List.mem_of_getElem? (i := 26) rfl)
theorem wd_27 {Z : State} {a0 : Array Value} (G : Glb Z a0) : (Jvm.Cond.instantiable "com/example/holdfast/holdfast/LockLost" (2 : Nat)).before a0 Z = true := G.1 _ (List.mem_of_getElem? (i := 27) rfl)
theorem wd_28 {Z : State} {a0 : Array Value} (G : Glb Z a0) : (Jvm.Cond.initialized "com/example/holdfast/holdfast/LockLost").before a0 Z = true := G.1 _ (List.mem_of_getElem? (i := 28) rfl)
theorem wd_29 {Z : State} {a0 : Array Value} (G : Glb Z a0) : (Jvm.Cond.methodLink "com/example/holdfast/holdfast/LockLostToStringPinLaw" (18 : Nat) ({ cls := "com/example/holdfast/holdfast/LockLost", name := "<init>", desc := "(Ljava/lang/String;J)V" } : Jvm.MethodName)).before a0 Z = true := G.1 _ (List.mem_of_getElem? (i := 29) rfl)
theorem wd_30 {Z : State} {a0 : Array Value} (G : Glb Z a0) : (Jvm.Cond.instanceMethod ({ cls := "com/example/holdfast/holdfast/LockLost", name := "<init>", desc := "(Ljava/lang/String;J)V" } : Jvm.MethodName)).before a0 Z = true := G.1 _ (List.mem_of_getElem? (i := 30) rfl)
theorem wd_31 {Z : State} {a0 : Array Value} (G : Glb Z a0) : (Jvm.Cond.code ({ cls := "com/example/holdfast/holdfast/LockLost", name := "<init>", desc := "(Ljava/lang/String;J)V" } : Jvm.MethodName) prog_4_method_1_code (4 : Nat) (Option.none : Option Jvm.ClassFile.FieldType)).before a0 Z = true := G.1 _ (List.mem_of_getElem? (i := 31) rfl)
theorem wd_32 {Z : State} {a0 : Array Value} (G : Glb Z a0) : (Jvm.Cond.methodLink "com/example/holdfast/holdfast/LockLost" (1 : Nat) ({ cls := "java/lang/Object", name := "<init>", desc := "()V" } : Jvm.MethodName)).before a0 Z = true := G.1 _ (List.mem_of_getElem? (i := 32) rfl)
theorem wd_33 {Z : State} {a0 : Array Value} (G : Glb Z a0) : (Jvm.Cond.fieldLink "com/example/holdfast/holdfast/LockLost" (7 : Nat) "com/example/holdfast/holdfast/LockLost" "lockName" "Ljava/lang/String;").before a0 Z = true := G.1 _ (List.mem_of_getElem? (i := 33) rfl)
theorem wd_34 {Z : State} {a0 : Array Value} (G : Glb Z a0) : (Jvm.Cond.laysFinal "com/example/holdfast/holdfast/LockLost" "com/example/holdfast/holdfast/LockLost" "lockName" "Ljava/lang/String;").before a0 Z = true := G.1 _ (List.mem_of_getElem? (i := 34) rfl)
theorem wd_35 {Z : State} {a0 : Array Value} (G : Glb Z a0) : (Jvm.Cond.fieldLink "com/example/holdfast/holdfast/LockLost" (13 : Nat) "com/example/holdfast/holdfast/LockLost" "fencingToken" "J").before a0 Z = true := G.1 _ (List.mem_of_getElem? (i := 35) rfl)
theorem wd_36 {Z : State} {a0 : Array Value} (G : Glb Z a0) : (Jvm.Cond.laysFinal "com/example/holdfast/holdfast/LockLost" "com/example/holdfast/holdfast/LockLost" "fencingToken" "J").before a0 Z = true := G.1 _ (List.mem_of_getElem? (i := 36) rfl)
theorem wd_37 {Z : State} {a0 : Array Value} (G : Glb Z a0) : (Jvm.Cond.methodLink "com/example/holdfast/holdfast/LockLostToStringPinLaw" (21 : Nat) ({ cls := "com/example/holdfast/holdfast/LockLost", name := "toString", desc := "()Ljava/lang/String;" } : Jvm.MethodName)).before a0 Z = true := G.1 _ (List.mem_of_getElem? (i := 37) rfl)
theorem wd_38 {Z : State} {a0 : Array Value} (G : Glb Z a0) : (Jvm.Cond.declares ({ cls := "com/example/holdfast/holdfast/LockLost", name := "toString", desc := "()Ljava/lang/String;" } : Jvm.MethodName)).before a0 Z = true := G.1 _ (List.mem_of_getElem? (i := 38) rfl)
theorem wd_39 {Z : State} {a0 : Array Value} (G : Glb Z a0) : (Jvm.Cond.instanceMethod ({ cls := "com/example/holdfast/holdfast/LockLost", name := "toString", desc := "()Ljava/lang/String;" } : Jvm.MethodName)).before a0 Z = true := G.1 _ (List.mem_of_getElem? (i := 39) rfl)
theorem wd_40 {Z : State} {a0 : Array Value} (G : Glb Z a0) : (Jvm.Cond.selects "com/example/holdfast/holdfast/LockLost" ({ cls := "com/example/holdfast/holdfast/LockLost", name := "toString", desc := "()Ljava/lang/String;" } : Jvm.MethodName) ({ cls := "com/example/holdfast/holdfast/LockLost", name := "toString", desc := "()Ljava/lang/String;" } : Jvm.MethodName)).before a0 Z = true := G.1 _ (List.mem_of_getElem? (i := 40) rfl)
theorem wd_41 {Z : State} {a0 : Array Value} (G : Glb Z a0) : (Jvm.Cond.code ({ cls := "com/example/holdfast/holdfast/LockLost", name := "toString", desc := "()Ljava/lang/String;" } : Jvm.MethodName) prog_4_method_4_code (2 : Nat) (Option.some (Jvm.ClassFile.FieldType.object "java/lang/String"))).before a0 Z = true := G.1 _ (List.mem_of_getElem? (i := 41) rfl)
theorem wd_42 {Z : State} {a0 : Array Value} (G : Glb Z a0) : (Jvm.Cond.classLink "com/example/holdfast/holdfast/LockLost" (19 : Nat) "java/lang/StringBuilder").before a0 Z = true := G.1 _ (List.mem_of_getElem? (i := 42) rfl)
theorem wd_43 {Z : State} {a0 : Array Value} (G : Glb Z a0) : (Jvm.Cond.instantiable "java/lang/StringBuilder" (4 : Nat)).before a0 Z = true := G.1 _ (List.mem_of_getElem? (i := 43) rfl)
theorem wd_44 {Z : State} {a0 : Array Value} (G : Glb Z a0) : (Jvm.Cond.initialized "java/lang/StringBuilder").before a0 Z = true := G.1 _ (List.mem_of_getElem? (i := 44) rfl)
theorem wd_45 {Z : State} {a0 : Array Value} (G : Glb Z a0) : (Jvm.Cond.methodLink "com/example/holdfast/holdfast/LockLost" (21 : Nat) ({ cls := "java/lang/StringBuilder", name := "<init>", desc := "()V" } : Jvm.MethodName)).before a0 Z = true := G.1 _ (List.mem_of_getElem? (i := 45) rfl)
theorem wd_46 {Z : State} {a0 : Array Value} (G : Glb Z a0) : (Jvm.Cond.instanceMethod ({ cls := "java/lang/StringBuilder", name := "<init>", desc := "()V" } : Jvm.MethodName)).before a0 Z = true := G.1 _ (List.mem_of_getElem? (i := 46) rfl)
theorem wd_47 {Z : State} {a0 : Array Value} (G : Glb Z a0) : (Jvm.Cond.code ({ cls := "java/lang/StringBuilder", name := "<init>", desc := "()V" } : Jvm.MethodName) jdk_67_method_1_code (1 : Nat) (Option.none : Option Jvm.ClassFile.FieldType)).before a0 Z = true := G.1 _ (List.mem_of_getElem? (i := 47) rfl)
theorem wd_48 {Z : State} {a0 : Array Value} (G : Glb Z a0) : (Jvm.Cond.methodLink "java/lang/StringBuilder" (1 : Nat) ({ cls := "java/lang/AbstractStringBuilder", name := "<init>", desc := "(I)V" } : Jvm.MethodName)).before a0 Z = true := G.1 _ (List.mem_of_getElem? (i := 48) rfl)
theorem wd_49 {Z : State} {a0 : Array Value} (G : Glb Z a0) : (Jvm.Cond.instanceMethod ({ cls := "java/lang/AbstractStringBuilder", name := "<init>", desc := "(I)V" } : Jvm.MethodName)).before a0 Z = true := G.1 _ (List.mem_of_getElem? (i := 49) rfl)
theorem wd_52 {Z : State} {a0 : Array Value} (G : Glb Z a0) : (Jvm.Cond.initialized "java/lang/AbstractStringBuilder").before a0 Z = true := G.1 _ (List.mem_of_getElem? (i := 52) rfl)
theorem wd_53 {Z : State} {a0 : Array Value} (G : Glb Z a0) : (Jvm.Cond.code ({ cls := "java/lang/AbstractStringBuilder", name := "<init>", desc := "(I)V" } : Jvm.MethodName) jdk_68_method_2_code (2 : Nat) (Option.none : Option Jvm.ClassFile.FieldType)).before a0 Z = true := G.1 _ (List.mem_of_getElem? (i := 53) rfl)
theorem wd_54 {Z : State} {a0 : Array Value} (G : Glb Z a0) : (Jvm.Cond.methodLink "java/lang/AbstractStringBuilder" (3 : Nat) ({ cls := "java/lang/Object", name := "<init>", desc := "()V" } : Jvm.MethodName)).before a0 Z = true := G.1 _ (List.mem_of_getElem? (i := 54) rfl)
theorem wd_55 {Z : State} {a0 : Array Value} (G : Glb Z a0) : (Jvm.Cond.fieldLink "java/lang/AbstractStringBuilder" (18 : Nat) "java/lang/String" "COMPACT_STRINGS" "Z").before a0 Z = true := G.1 _ (List.mem_of_getElem? (i := 55) rfl)
theorem wd_56 {Z : State} {a0 : Array Value} (G : Glb Z a0) : (Jvm.Cond.fieldLink "java/lang/AbstractStringBuilder" (15 : Nat) "java/lang/AbstractStringBuilder" "value" "[B").before a0 Z = true := G.1 _ (List.mem_of_getElem? (i := 56) rfl)
theorem wd_57 {Z : State} {a0 : Array Value} (G : Glb Z a0) : (Jvm.Cond.lays "java/lang/StringBuilder" "java/lang/AbstractStringBuilder" "value" "[B").before a0 Z = true := G.1 _ (List.mem_of_getElem? (i := 57) rfl)
theorem wd_58 {Z : State} {a0 : Array Value} (G : Glb Z a0) : (Jvm.Cond.fieldLink "java/lang/AbstractStringBuilder" (22 : Nat) "java/lang/AbstractStringBuilder" "coder" "B").before a0 Z = true := G.1 _ (List.mem_of_getElem? (i := 58) rfl)
theorem wd_59 {Z : State} {a0 : Array Value} (G : Glb Z a0) : (Jvm.Cond.lays "java/lang/StringBuilder" "java/lang/AbstractStringBuilder" "coder" "B").before a0 Z = true := G.1 _ (List.mem_of_getElem? (i := 59) rfl)
set_option maxRecDepth 65536 in
theorem wd_60 {Z : State} {a0 : Array Value} (G : Glb Z a0) : (Jvm.Cond.stringLink "com/example/holdfast/holdfast/LockLost" (22 : Nat) (txtAt 60)).before a0 Z = true := G.1 _ (List.mem_of_getElem? (i := 60) rfl)
theorem wd_63 {Z : State} {a0 : Array Value} (G : Glb Z a0) : (Jvm.Cond.methodLink "com/example/holdfast/holdfast/LockLost" (24 : Nat) ({ cls := "java/lang/StringBuilder", name := "append", desc := "(Ljava/lang/String;)Ljava/lang/StringBuilder;" } : Jvm.MethodName)).before a0 Z = true := G.1 _ (List.mem_of_getElem? (i := 63) rfl)
theorem wd_64 {Z : State} {a0 : Array Value} (G : Glb Z a0) : (Jvm.Cond.declares ({ cls := "java/lang/StringBuilder", name := "append", desc := "(Ljava/lang/String;)Ljava/lang/StringBuilder;" } : Jvm.MethodName)).before a0 Z = true := G.1 _ (List.mem_of_getElem? (i := 64) rfl)
theorem wd_65 {Z : State} {a0 : Array Value} (G : Glb Z a0) : (Jvm.Cond.instanceMethod ({ cls := "java/lang/StringBuilder", name := "append", desc := "(Ljava/lang/String;)Ljava/lang/StringBuilder;" } : Jvm.MethodName)).before a0 Z = true := G.1 _ (List.mem_of_getElem? (i := 65) rfl)
theorem wd_66 {Z : State} {a0 : Array Value} (G : Glb Z a0) : (Jvm.Cond.selects "java/lang/StringBuilder" ({ cls := "java/lang/StringBuilder", name := "append", desc := "(Ljava/lang/String;)Ljava/lang/StringBuilder;" } : Jvm.MethodName) ({ cls := "java/lang/StringBuilder", name := "append", desc := "(Ljava/lang/String;)Ljava/lang/StringBuilder;" } : Jvm.MethodName)).before a0 Z = true := G.1 _ (List.mem_of_getElem? (i := 66) rfl)
theorem wd_67 {Z : State} {a0 : Array Value} (G : Glb Z a0) : (Jvm.Cond.code ({ cls := "java/lang/StringBuilder", name := "append", desc := "(Ljava/lang/String;)Ljava/lang/StringBuilder;" } : Jvm.MethodName) jdk_67_method_7_code (2 : Nat) (Option.some (Jvm.ClassFile.FieldType.object "java/lang/StringBuilder"))).before a0 Z = true := G.1 _ (List.mem_of_getElem? (i := 67) rfl)
theorem wd_68 {Z : State} {a0 : Array Value} (G : Glb Z a0) : (Jvm.Cond.methodLink "java/lang/StringBuilder" (29 : Nat) ({ cls := "java/lang/AbstractStringBuilder", name := "append", desc := "(Ljava/lang/String;)Ljava/lang/AbstractStringBuilder;" } : Jvm.MethodName)).before a0 Z = true := G.1 _ (List.mem_of_getElem? (i := 68) rfl)
theorem wd_69 {Z : State} {a0 : Array Value} (G : Glb Z a0) : (Jvm.Cond.instanceMethod ({ cls := "java/lang/AbstractStringBuilder", name := "append", desc := "(Ljava/lang/String;)Ljava/lang/AbstractStringBuilder;" } : Jvm.MethodName)).before a0 Z = true := G.1 _ (List.mem_of_getElem? (i := 69) rfl)
theorem wd_70 {Z : State} {a0 : Array Value} (G : Glb Z a0) : (Jvm.Cond.superclass "java/lang/StringBuilder" "java/lang/AbstractStringBuilder").before a0 Z = true := G.1 _ (List.mem_of_getElem? (i := 70) rfl)
theorem wd_71 {Z : State} {a0 : Array Value} (G : Glb Z a0) : (Jvm.Cond.declares ({ cls := "java/lang/AbstractStringBuilder", name := "append", desc := "(Ljava/lang/String;)Ljava/lang/AbstractStringBuilder;" } : Jvm.MethodName)).before a0 Z = true := G.1 _ (List.mem_of_getElem? (i := 71) rfl)
theorem wd_72 {Z : State} {a0 : Array Value} (G : Glb Z a0) : (Jvm.Cond.code ({ cls := "java/lang/AbstractStringBuilder", name := "append", desc := "(Ljava/lang/String;)Ljava/lang/AbstractStringBuilder;" } : Jvm.MethodName) jdk_68_method_22_code (3 : Nat) (Option.some (Jvm.ClassFile.FieldType.object "java/lang/AbstractStringBuilder"))).before a0 Z = true := G.1 _ (List.mem_of_getElem? (i := 72) rfl)
theorem wd_73 {Z : State} {a0 : Array Value} (G : Glb Z a0) : (Jvm.Cond.methodLink "java/lang/AbstractStringBuilder" (32 : Nat) ({ cls := "java/lang/String", name := "length", desc := "()I" } : Jvm.MethodName)).before a0 Z = true := G.1 _ (List.mem_of_getElem? (i := 73) rfl)
theorem wd_74 {Z : State} {a0 : Array Value} (G : Glb Z a0) : (Jvm.Cond.declares ({ cls := "java/lang/String", name := "length", desc := "()I" } : Jvm.MethodName)).before a0 Z = true := G.1 _ (List.mem_of_getElem? (i := 74) rfl)
theorem wd_75 {Z : State} {a0 : Array Value} (G : Glb Z a0) : (Jvm.Cond.instanceMethod ({ cls := "java/lang/String", name := "length", desc := "()I" } : Jvm.MethodName)).before a0 Z = true := G.1 _ (List.mem_of_getElem? (i := 75) rfl)
theorem wd_76 {Z : State} {a0 : Array Value} (G : Glb Z a0) : (Jvm.Cond.selects "java/lang/String" ({ cls := "java/lang/String", name := "length", desc := "()I" } : Jvm.MethodName) ({ cls := "java/lang/String", name := "length", desc := "()I" } : Jvm.MethodName)).before a0 Z = true := G.1 _ (List.mem_of_getElem? (i := 76) rfl)
theorem wd_77 {Z : State} {a0 : Array Value} (G : Glb Z a0) : (Jvm.Cond.code ({ cls := "java/lang/String", name := "length", desc := "()I" } : Jvm.MethodName) jdk_42_method_54_code (1 : Nat) (Option.some Jvm.ClassFile.FieldType.int)).before a0 Z = true := G.1 _ (List.mem_of_getElem? (i := 77) rfl)
theorem wd_78 {Z : State} {a0 : Array Value} (G : Glb Z a0) : (Jvm.Cond.methodLink "java/lang/String" (335 : Nat) ({ cls := "java/lang/String", name := "coder", desc := "()B" } : Jvm.MethodName)).before a0 Z = true := G.1 _ (List.mem_of_getElem? (i := 78) rfl)
theorem wd_79 {Z : State} {a0 : Array Value} (G : Glb Z a0) : (Jvm.Cond.declares ({ cls := "java/lang/String", name := "coder", desc := "()B" } : Jvm.MethodName)).before a0 Z = true := G.1 _ (List.mem_of_getElem? (i := 79) rfl)
theorem wd_80 {Z : State} {a0 : Array Value} (G : Glb Z a0) : (Jvm.Cond.instanceMethod ({ cls := "java/lang/String", name := "coder", desc := "()B" } : Jvm.MethodName)).before a0 Z = true := G.1 _ (List.mem_of_getElem? (i := 80) rfl)
theorem wd_81 {Z : State} {a0 : Array Value} (G : Glb Z a0) : (Jvm.Cond.selects "java/lang/String" ({ cls := "java/lang/String", name := "coder", desc := "()B" } : Jvm.MethodName) ({ cls := "java/lang/String", name := "coder", desc := "()B" } : Jvm.MethodName)).before a0 Z = true := G.1 _ (List.mem_of_getElem? (i := 81) rfl)
theorem wd_82 {Z : State} {a0 : Array Value} (G : Glb Z a0) : (Jvm.Cond.code ({ cls := "java/lang/String", name := "coder", desc := "()B" } : Jvm.MethodName) jdk_42_method_152_code (1 : Nat) (Option.some Jvm.ClassFile.FieldType.byte)).before a0 Z = true := G.1 _ (List.mem_of_getElem? (i := 82) rfl)
theorem wd_83 {Z : State} {a0 : Array Value} (G : Glb Z a0) : (Jvm.Cond.fieldLink "java/lang/AbstractStringBuilder" (79 : Nat) "java/lang/AbstractStringBuilder" "count" "I").before a0 Z = true := G.1 _ (List.mem_of_getElem? (i := 83) rfl)
theorem wd_84 {Z : State} {a0 : Array Value} (G : Glb Z a0) : (Jvm.Cond.lays "java/lang/StringBuilder" "java/lang/AbstractStringBuilder" "count" "I").before a0 Z = true := G.1 _ (List.mem_of_getElem? (i := 84) rfl)
theorem wd_85 {Z : State} {a0 : Array Value} (G : Glb Z a0) : (Jvm.Cond.methodLink "java/lang/AbstractStringBuilder" (100 : Nat) ({ cls := "java/lang/AbstractStringBuilder", name := "ensureCapacityInternal", desc := "(I)V" } : Jvm.MethodName)).before a0 Z = true := G.1 _ (List.mem_of_getElem? (i := 85) rfl)
theorem wd_86 {Z : State} {a0 : Array Value} (G : Glb Z a0) : (Jvm.Cond.instanceMethod ({ cls := "java/lang/AbstractStringBuilder", name := "ensureCapacityInternal", desc := "(I)V" } : Jvm.MethodName)).before a0 Z = true := G.1 _ (List.mem_of_getElem? (i := 86) rfl)
theorem wd_88 {Z : State} {a0 : Array Value} (G : Glb Z a0) : (Jvm.Cond.selects "java/lang/StringBuilder" ({ cls := "java/lang/AbstractStringBuilder", name := "ensureCapacityInternal", desc := "(I)V" } : Jvm.MethodName) ({ cls := "java/lang/AbstractStringBuilder", name := "ensureCapacityInternal", desc := "(I)V" } : Jvm.MethodName)).before a0 Z = true := G.1 _ (List.mem_of_getElem? (i := 88) rfl)
theorem wd_89 {Z : State} {a0 : Array Value} (G : Glb Z a0) : (Jvm.Cond.code ({ cls := "java/lang/AbstractStringBuilder", name := "ensureCapacityInternal", desc := "(I)V" } : Jvm.MethodName) jdk_68_method_9_code (3 : Nat) (Option.none : Option Jvm.ClassFile.FieldType)).before a0 Z = true := G.1 _ (List.mem_of_getElem? (i := 89) rfl)
theorem wd_90 {Z : State} {a0 : Array Value} (G : Glb Z a0) : (Jvm.Cond.methodLink "java/lang/AbstractStringBuilder" (208 : Nat) ({ cls := "java/lang/AbstractStringBuilder", name := "putStringAt", desc := "(ILjava/lang/String;)V" } : Jvm.MethodName)).before a0 Z = true := G.1 _ (List.mem_of_getElem? (i := 90) rfl)
theorem wd_91 {Z : State} {a0 : Array Value} (G : Glb Z a0) : (Jvm.Cond.instanceMethod ({ cls := "java/lang/AbstractStringBuilder", name := "putStringAt", desc := "(ILjava/lang/String;)V" } : Jvm.MethodName)).before a0 Z = true := G.1 _ (List.mem_of_getElem? (i := 91) rfl)
theorem wd_93 {Z : State} {a0 : Array Value} (G : Glb Z a0) : (Jvm.Cond.selects "java/lang/StringBuilder" ({ cls := "java/lang/AbstractStringBuilder", name := "putStringAt", desc := "(ILjava/lang/String;)V" } : Jvm.MethodName) ({ cls := "java/lang/AbstractStringBuilder", name := "putStringAt", desc := "(ILjava/lang/String;)V" } : Jvm.MethodName)).before a0 Z = true := G.1 _ (List.mem_of_getElem? (i := 93) rfl)
theorem wd_94 {Z : State} {a0 : Array Value} (G : Glb Z a0) : (Jvm.Cond.code ({ cls := "java/lang/AbstractStringBuilder", name := "putStringAt", desc := "(ILjava/lang/String;)V" } : Jvm.MethodName) jdk_68_method_73_code (3 : Nat) (Option.none : Option Jvm.ClassFile.FieldType)).before a0 Z = true := G.1 _ (List.mem_of_getElem? (i := 94) rfl)
theorem wd_95 {Z : State} {a0 : Array Value} (G : Glb Z a0) : (Jvm.Cond.methodLink "java/lang/AbstractStringBuilder" (397 : Nat) ({ cls := "java/lang/AbstractStringBuilder", name := "inflateIfNeededFor", desc := "(Ljava/lang/String;)V" } : Jvm.MethodName)).before a0 Z = true := G.1 _ (List.mem_of_getElem? (i := 95) rfl)
theorem wd_96 {Z : State} {a0 : Array Value} (G : Glb Z a0) : (Jvm.Cond.instanceMethod ({ cls := "java/lang/AbstractStringBuilder", name := "inflateIfNeededFor", desc := "(Ljava/lang/String;)V" } : Jvm.MethodName)).before a0 Z = true := G.1 _ (List.mem_of_getElem? (i := 96) rfl)
theorem wd_98 {Z : State} {a0 : Array Value} (G : Glb Z a0) : (Jvm.Cond.selects "java/lang/StringBuilder" ({ cls := "java/lang/AbstractStringBuilder", name := "inflateIfNeededFor", desc := "(Ljava/lang/String;)V" } : Jvm.MethodName) ({ cls := "java/lang/AbstractStringBuilder", name := "inflateIfNeededFor", desc := "(Ljava/lang/String;)V" } : Jvm.MethodName)).before a0 Z = true := G.1 _ (List.mem_of_getElem? (i := 98) rfl)
theorem wd_99 {Z : State} {a0 : Array Value} (G : Glb Z a0) : (Jvm.Cond.code ({ cls := "java/lang/AbstractStringBuilder", name := "inflateIfNeededFor", desc := "(Ljava/lang/String;)V" } : Jvm.MethodName) jdk_68_method_71_code (2 : Nat) (Option.none : Option Jvm.ClassFile.FieldType)).before a0 Z = true := G.1 _ (List.mem_of_getElem? (i := 99) rfl)
theorem wd_100 {Z : State} {a0 : Array Value} (G : Glb Z a0) : (Jvm.Cond.methodLink "java/lang/AbstractStringBuilder" (40 : Nat) ({ cls := "java/lang/String", name := "coder", desc := "()B" } : Jvm.MethodName)).before a0 Z = true := G.1 _ (List.mem_of_getElem? (i := 100) rfl)
theorem wd_101 {Z : State} {a0 : Array Value} (G : Glb Z a0) : (Jvm.Cond.methodLink "java/lang/AbstractStringBuilder" (399 : Nat) ({ cls := "java/lang/String", name := "getBytes", desc := "([BIB)V" } : Jvm.MethodName)).before a0 Z = true := G.1 _ (List.mem_of_getElem? (i := 101) rfl)
theorem wd_102 {Z : State} {a0 : Array Value} (G : Glb Z a0) : (Jvm.Cond.declares ({ cls := "java/lang/String", name := "getBytes", desc := "([BIB)V" } : Jvm.MethodName)).before a0 Z = true := G.1 _ (List.mem_of_getElem? (i := 102) rfl)
theorem wd_103 {Z : State} {a0 : Array Value} (G : Glb Z a0) : (Jvm.Cond.instanceMethod ({ cls := "java/lang/String", name := "getBytes", desc := "([BIB)V" } : Jvm.MethodName)).before a0 Z = true := G.1 _ (List.mem_of_getElem? (i := 103) rfl)
theorem wd_104 {Z : State} {a0 : Array Value} (G : Glb Z a0) : (Jvm.Cond.selects "java/lang/String" ({ cls := "java/lang/String", name := "getBytes", desc := "([BIB)V" } : Jvm.MethodName) ({ cls := "java/lang/String", name := "getBytes", desc := "([BIB)V" } : Jvm.MethodName)).before a0 Z = true := G.1 _ (List.mem_of_getElem? (i := 104) rfl)
theorem wd_105 {Z : State} {a0 : Array Value} (G : Glb Z a0) : (Jvm.Cond.code ({ cls := "java/lang/String", name := "getBytes", desc := "([BIB)V" } : Jvm.MethodName) jdk_42_method_147_code (4 : Nat) (Option.none : Option Jvm.ClassFile.FieldType)).before a0 Z = true := G.1 _ (List.mem_of_getElem? (i := 105) rfl)
theorem wd_106 {Z : State} {a0 : Array Value} (G : Glb Z a0) : (Jvm.Cond.methodLink "java/lang/String" (212 : Nat) ({ cls := "java/lang/System", name := "arraycopy", desc := "(Ljava/lang/Object;ILjava/lang/Object;II)V" } : Jvm.MethodName)).before a0 Z = true := G.1 _ (List.mem_of_getElem? (i := 106) rfl)
theorem wd_107 {Z : State} {a0 : Array Value} (G : Glb Z a0) : (Jvm.Cond.static ({ cls := "java/lang/System", name := "arraycopy", desc := "(Ljava/lang/Object;ILjava/lang/Object;II)V" } : Jvm.MethodName)).before a0 Z = true := G.1 _ (List.mem_of_getElem? (i := 107) rfl)
theorem wd_108 {Z : State} {a0 : Array Value} (G : Glb Z a0) : (Jvm.Cond.initialized "java/lang/System").before a0 Z = true := G.1 _ (List.mem_of_getElem? (i := 108) rfl)
theorem wd_109 {Z : State} {a0 : Array Value} (G : Glb Z a0) : (Jvm.Cond.native ({ cls := "java/lang/System", name := "arraycopy", desc := "(Ljava/lang/Object;ILjava/lang/Object;II)V" } : Jvm.MethodName)).before a0 Z = true := G.1 _ (List.mem_of_getElem? (i := 109) rfl)
theorem wd_110 {Z : State} {a0 : Array Value} (G : Glb Z a0) : (Jvm.Cond.methodLink "com/example/holdfast/holdfast/LockLost" (28 : Nat) ({ cls := "java/lang/StringBuilder", name := "append", desc := "(J)Ljava/lang/StringBuilder;" } : Jvm.MethodName)).before a0 Z = true := G.1 _ (List.mem_of_getElem? (i := 110) rfl)
theorem wd_111 {Z : State} {a0 : Array Value} (G : Glb Z a0) : (Jvm.Cond.declares ({ cls := "java/lang/StringBuilder", name := "append", desc := "(J)Ljava/lang/StringBuilder;" } : Jvm.MethodName)).before a0 Z = true := G.1 _ (List.mem_of_getElem? (i := 111) rfl)
theorem wd_112 {Z : State} {a0 : Array Value} (G : Glb Z a0) : (Jvm.Cond.instanceMethod ({ cls := "java/lang/StringBuilder", name := "append", desc := "(J)Ljava/lang/StringBuilder;" } : Jvm.MethodName)).before a0 Z = true := G.1 _ (List.mem_of_getElem? (i := 112) rfl)
theorem wd_113 {Z : State} {a0 : Array Value} (G : Glb Z a0) : (Jvm.Cond.selects "java/lang/StringBuilder" ({ cls := "java/lang/StringBuilder", name := "append", desc := "(J)Ljava/lang/StringBuilder;" } : Jvm.MethodName) ({ cls := "java/lang/StringBuilder", name := "append", desc := "(J)Ljava/lang/StringBuilder;" } : Jvm.MethodName)).before a0 Z = true := G.1 _ (List.mem_of_getElem? (i := 113) rfl)
theorem wd_114 {Z : State} {a0 : Array Value} (G : Glb Z a0) : (Jvm.Cond.code ({ cls := "java/lang/StringBuilder", name := "append", desc := "(J)Ljava/lang/StringBuilder;" } : Jvm.MethodName) jdk_67_method_16_code (3 : Nat) (Option.some (Jvm.ClassFile.FieldType.object "java/lang/StringBuilder"))).before a0 Z = true := G.1 _ (List.mem_of_getElem? (i := 114) rfl)
theorem wd_115 {Z : State} {a0 : Array Value} (G : Glb Z a0) : (Jvm.Cond.methodLink "java/lang/StringBuilder" (56 : Nat) ({ cls := "java/lang/AbstractStringBuilder", name := "append", desc := "(J)Ljava/lang/AbstractStringBuilder;" } : Jvm.MethodName)).before a0 Z = true := G.1 _ (List.mem_of_getElem? (i := 115) rfl)
theorem wd_116 {Z : State} {a0 : Array Value} (G : Glb Z a0) : (Jvm.Cond.instanceMethod ({ cls := "java/lang/AbstractStringBuilder", name := "append", desc := "(J)Ljava/lang/AbstractStringBuilder;" } : Jvm.MethodName)).before a0 Z = true := G.1 _ (List.mem_of_getElem? (i := 116) rfl)
theorem wd_117 {Z : State} {a0 : Array Value} (G : Glb Z a0) : (Jvm.Cond.declares ({ cls := "java/lang/AbstractStringBuilder", name := "append", desc := "(J)Ljava/lang/AbstractStringBuilder;" } : Jvm.MethodName)).before a0 Z = true := G.1 _ (List.mem_of_getElem? (i := 117) rfl)
theorem wd_118 {Z : State} {a0 : Array Value} (G : Glb Z a0) : (Jvm.Cond.code ({ cls := "java/lang/AbstractStringBuilder", name := "append", desc := "(J)Ljava/lang/AbstractStringBuilder;" } : Jvm.MethodName) jdk_68_method_33_code (5 : Nat) (Option.some (Jvm.ClassFile.FieldType.object "java/lang/AbstractStringBuilder"))).before a0 Z = true := G.1 _ (List.mem_of_getElem? (i := 118) rfl)
theorem wd_119 {Z : State} {a0 : Array Value} (G : Glb Z a0) : (Jvm.Cond.methodLink "java/lang/AbstractStringBuilder" (254 : Nat) ({ cls := "java/lang/Long", name := "stringSize", desc := "(J)I" } : Jvm.MethodName)).before a0 Z = true := G.1 _ (List.mem_of_getElem? (i := 119) rfl)
theorem wd_120 {Z : State} {a0 : Array Value} (G : Glb Z a0) : (Jvm.Cond.static ({ cls := "java/lang/Long", name := "stringSize", desc := "(J)I" } : Jvm.MethodName)).before a0 Z = true := G.1 _ (List.mem_of_getElem? (i := 120) rfl)
theorem wd_121 {Z : State} {a0 : Array Value} (G : Glb Z a0) : (Jvm.Cond.initialized "java/lang/Long").before a0 Z = true := G.1 _ (List.mem_of_getElem? (i := 121) rfl)
theorem wd_122 {Z : State} {a0 : Array Value} (G : Glb Z a0) : (Jvm.Cond.code ({ cls := "java/lang/Long", name := "stringSize", desc := "(J)I" } : Jvm.MethodName) jdk_35_method_15_code (6 : Nat) (Option.some Jvm.ClassFile.FieldType.int)).before a0 Z = true := G.1 _ (List.mem_of_getElem? (i := 122) rfl)
theorem wd_123 {Z : State} {a0 : Array Value} (G : Glb Z a0) : (Jvm.Cond.constantLong "java/lang/Long" (140 : Nat) (-10 : Int64)).before a0 Z = true := G.1 _ (List.mem_of_getElem? (i := 123) rfl)
theorem wd_124 {Z : State} {a0 : Array Value} (G : Glb Z a0) : (Jvm.Cond.constantLong "java/lang/Long" (53 : Nat) (10 : Int64)).before a0 Z = true := G.1 _ (List.mem_of_getElem? (i := 124) rfl)
theorem wd_125 {Z : State} {a0 : Array Value} (G : Glb Z a0) : (Jvm.Cond.methodLink "java/lang/AbstractStringBuilder" (104 : Nat) ({ cls := "java/lang/AbstractStringBuilder", name := "newCapacity", desc := "(I)I" } : Jvm.MethodName)).before a0 Z = true := G.1 _ (List.mem_of_getElem? (i := 125) rfl)
theorem wd_126 {Z : State} {a0 : Array Value} (G : Glb Z a0) : (Jvm.Cond.instanceMethod ({ cls := "java/lang/AbstractStringBuilder", name := "newCapacity", desc := "(I)I" } : Jvm.MethodName)).before a0 Z = true := G.1 _ (List.mem_of_getElem? (i := 126) rfl)
theorem wd_128 {Z : State} {a0 : Array Value} (G : Glb Z a0) : (Jvm.Cond.selects "java/lang/StringBuilder" ({ cls := "java/lang/AbstractStringBuilder", name := "newCapacity", desc := "(I)I" } : Jvm.MethodName) ({ cls := "java/lang/AbstractStringBuilder", name := "newCapacity", desc := "(I)I" } : Jvm.MethodName)).before a0 Z = true := G.1 _ (List.mem_of_getElem? (i := 128) rfl)
theorem wd_129 {Z : State} {a0 : Array Value} (G : Glb Z a0) : (Jvm.Cond.code ({ cls := "java/lang/AbstractStringBuilder", name := "newCapacity", desc := "(I)I" } : Jvm.MethodName) jdk_68_method_10_code (6 : Nat) (Option.some Jvm.ClassFile.FieldType.int)).before a0 Z = true := G.1 _ (List.mem_of_getElem? (i := 129) rfl)
theorem wd_130 {Z : State} {a0 : Array Value} (G : Glb Z a0) : (Jvm.Cond.methodLink "java/lang/AbstractStringBuilder" (114 : Nat) ({ cls := "jdk/internal/util/ArraysSupport", name := "newLength", desc := "(III)I" } : Jvm.MethodName)).before a0 Z = true := G.1 _ (List.mem_of_getElem? (i := 130) rfl)
theorem wd_131 {Z : State} {a0 : Array Value} (G : Glb Z a0) : (Jvm.Cond.static ({ cls := "jdk/internal/util/ArraysSupport", name := "newLength", desc := "(III)I" } : Jvm.MethodName)).before a0 Z = true := G.1 _ (List.mem_of_getElem? (i := 131) rfl)
theorem wd_132 {Z : State} {a0 : Array Value} (G : Glb Z a0) : (Jvm.Cond.initialized "jdk/internal/util/ArraysSupport").before a0 Z = true := G.1 _ (List.mem_of_getElem? (i := 132) rfl)
theorem wd_133 {Z : State} {a0 : Array Value} (G : Glb Z a0) : (Jvm.Cond.code ({ cls := "jdk/internal/util/ArraysSupport", name := "newLength", desc := "(III)I" } : Jvm.MethodName) jdk_48_method_27_code (4 : Nat) (Option.some Jvm.ClassFile.FieldType.int)).before a0 Z = true := G.1 _ (List.mem_of_getElem? (i := 133) rfl)
theorem wd_134 {Z : State} {a0 : Array Value} (G : Glb Z a0) : (Jvm.Cond.methodLink "jdk/internal/util/ArraysSupport" (194 : Nat) ({ cls := "java/lang/Math", name := "max", desc := "(II)I" } : Jvm.MethodName)).before a0 Z = true := G.1 _ (List.mem_of_getElem? (i := 134) rfl)
theorem wd_135 {Z : State} {a0 : Array Value} (G : Glb Z a0) : (Jvm.Cond.static ({ cls := "java/lang/Math", name := "max", desc := "(II)I" } : Jvm.MethodName)).before a0 Z = true := G.1 _ (List.mem_of_getElem? (i := 135) rfl)
theorem wd_136 {Z : State} {a0 : Array Value} (G : Glb Z a0) : (Jvm.Cond.initialized "java/lang/Math").before a0 Z = true := G.1 _ (List.mem_of_getElem? (i := 136) rfl)
theorem wd_137 {Z : State} {a0 : Array Value} (G : Glb Z a0) : (Jvm.Cond.code ({ cls := "java/lang/Math", name := "max", desc := "(II)I" } : Jvm.MethodName) jdk_29_method_65_code (2 : Nat) (Option.some Jvm.ClassFile.FieldType.int)).before a0 Z = true := G.1 _ (List.mem_of_getElem? (i := 137) rfl)
theorem wd_138 {Z : State} {a0 : Array Value} (G : Glb Z a0) : (Jvm.Cond.constant "jdk/internal/util/ArraysSupport" (200 : Nat) (2147483639 : Int32)).before a0 Z = true := G.1 _ (List.mem_of_getElem? (i := 138) rfl)
theorem wd_139 {Z : State} {a0 : Array Value} (G : Glb Z a0) : (Jvm.Cond.constant "java/lang/AbstractStringBuilder" (39 : Nat) (2147483647 : Int32)).before a0 Z = true := G.1 _ (List.mem_of_getElem? (i := 139) rfl)
theorem wd_140 {Z : State} {a0 : Array Value} (G : Glb Z a0) : (Jvm.Cond.methodLink "java/lang/AbstractStringBuilder" (108 : Nat) ({ cls := "java/util/Arrays", name := "copyOf", desc := "([BI)[B" } : Jvm.MethodName)).before a0 Z = true := G.1 _ (List.mem_of_getElem? (i := 140) rfl)
theorem wd_141 {Z : State} {a0 : Array Value} (G : Glb Z a0) : (Jvm.Cond.static ({ cls := "java/util/Arrays", name := "copyOf", desc := "([BI)[B" } : Jvm.MethodName)).before a0 Z = true := G.1 _ (List.mem_of_getElem? (i := 141) rfl)
theorem wd_142 {Z : State} {a0 : Array Value} (G : Glb Z a0) : (Jvm.Cond.initialized "java/util/Arrays").before a0 Z = true := G.1 _ (List.mem_of_getElem? (i := 142) rfl)
theorem wd_143 {Z : State} {a0 : Array Value} (G : Glb Z a0) : (Jvm.Cond.code ({ cls := "java/util/Arrays", name := "copyOf", desc := "([BI)[B" } : Jvm.MethodName) jdk_65_method_121_code (3 : Nat) (Option.some (Jvm.ClassFile.FieldType.array Jvm.ClassFile.FieldType.byte))).before a0 Z = true := G.1 _ (List.mem_of_getElem? (i := 143) rfl)
theorem wd_144 {Z : State} {a0 : Array Value} (G : Glb Z a0) : (Jvm.Cond.methodLink "java/util/Arrays" (304 : Nat) ({ cls := "java/lang/Math", name := "min", desc := "(II)I" } : Jvm.MethodName)).before a0 Z = true := G.1 _ (List.mem_of_getElem? (i := 144) rfl)
theorem wd_145 {Z : State} {a0 : Array Value} (G : Glb Z a0) : (Jvm.Cond.static ({ cls := "java/lang/Math", name := "min", desc := "(II)I" } : Jvm.MethodName)).before a0 Z = true := G.1 _ (List.mem_of_getElem? (i := 145) rfl)
theorem wd_146 {Z : State} {a0 : Array Value} (G : Glb Z a0) : (Jvm.Cond.code ({ cls := "java/lang/Math", name := "min", desc := "(II)I" } : Jvm.MethodName) jdk_29_method_69_code (2 : Nat) (Option.some Jvm.ClassFile.FieldType.int)).before a0 Z = true := G.1 _ (List.mem_of_getElem? (i := 146) rfl)
theorem wd_147 {Z : State} {a0 : Array Value} (G : Glb Z a0) : (Jvm.Cond.methodLink "java/util/Arrays" (150 : Nat) ({ cls := "java/lang/System", name := "arraycopy", desc := "(Ljava/lang/Object;ILjava/lang/Object;II)V" } : Jvm.MethodName)).before a0 Z = true := G.1 _ (List.mem_of_getElem? (i := 147) rfl)
theorem wd_148 {Z : State} {a0 : Array Value} (G : Glb Z a0) : (Jvm.Cond.methodLink "java/lang/AbstractStringBuilder" (83 : Nat) ({ cls := "java/lang/AbstractStringBuilder", name := "isLatin1", desc := "()Z" } : Jvm.MethodName)).before a0 Z = true := G.1 _ (List.mem_of_getElem? (i := 148) rfl)
theorem wd_149 {Z : State} {a0 : Array Value} (G : Glb Z a0) : (Jvm.Cond.declares ({ cls := "java/lang/AbstractStringBuilder", name := "isLatin1", desc := "()Z" } : Jvm.MethodName)).before a0 Z = true := G.1 _ (List.mem_of_getElem? (i := 149) rfl)
theorem wd_150 {Z : State} {a0 : Array Value} (G : Glb Z a0) : (Jvm.Cond.instanceMethod ({ cls := "java/lang/AbstractStringBuilder", name := "isLatin1", desc := "()Z" } : Jvm.MethodName)).before a0 Z = true := G.1 _ (List.mem_of_getElem? (i := 150) rfl)
theorem wd_151 {Z : State} {a0 : Array Value} (G : Glb Z a0) : (Jvm.Cond.selects "java/lang/StringBuilder" ({ cls := "java/lang/AbstractStringBuilder", name := "isLatin1", desc := "()Z" } : Jvm.MethodName) ({ cls := "java/lang/AbstractStringBuilder", name := "isLatin1", desc := "()Z" } : Jvm.MethodName)).before a0 Z = true := G.1 _ (List.mem_of_getElem? (i := 151) rfl)
theorem wd_152 {Z : State} {a0 : Array Value} (G : Glb Z a0) : (Jvm.Cond.code ({ cls := "java/lang/AbstractStringBuilder", name := "isLatin1", desc := "()Z" } : Jvm.MethodName) jdk_68_method_68_code (1 : Nat) (Option.some Jvm.ClassFile.FieldType.boolean)).before a0 Z = true := G.1 _ (List.mem_of_getElem? (i := 152) rfl)
theorem wd_153 {Z : State} {a0 : Array Value} (G : Glb Z a0) : (Jvm.Cond.methodLink "java/lang/AbstractStringBuilder" (259 : Nat) ({ cls := "java/lang/Long", name := "getChars", desc := "(JI[B)I" } : Jvm.MethodName)).before a0 Z = true := G.1 _ (List.mem_of_getElem? (i := 153) rfl)
theorem wd_154 {Z : State} {a0 : Array Value} (G : Glb Z a0) : (Jvm.Cond.static ({ cls := "java/lang/Long", name := "getChars", desc := "(JI[B)I" } : Jvm.MethodName)).before a0 Z = true := G.1 _ (List.mem_of_getElem? (i := 154) rfl)
theorem wd_155 {Z : State} {a0 : Array Value} (G : Glb Z a0) : (Jvm.Cond.code ({ cls := "java/lang/Long", name := "getChars", desc := "(JI[B)I" } : Jvm.MethodName) jdk_35_method_14_code (11 : Nat) (Option.some Jvm.ClassFile.FieldType.int)).before a0 Z = true := G.1 _ (List.mem_of_getElem? (i := 155) rfl)
theorem wd_156 {Z : State} {a0 : Array Value} (G : Glb Z a0) : (Jvm.Cond.constantLong "java/lang/Long" (129 : Nat) (-2147483648 : Int64)).before a0 Z = true := G.1 _ (List.mem_of_getElem? (i := 156) rfl)
theorem wd_157 {Z : State} {a0 : Array Value} (G : Glb Z a0) : (Jvm.Cond.constantLong "java/lang/Long" (131 : Nat) (100 : Int64)).before a0 Z = true := G.1 _ (List.mem_of_getElem? (i := 157) rfl)
theorem wd_158 {Z : State} {a0 : Array Value} (G : Glb Z a0) : (Jvm.Cond.fieldLink "java/lang/Long" (133 : Nat) "java/lang/Integer" "DigitOnes" "[B").before a0 Z = true := G.1 _ (List.mem_of_getElem? (i := 158) rfl)
theorem wd_160 {Z : State} {a0 : Array Value} (G : Glb Z a0) : (Jvm.Cond.fieldLink "java/lang/Long" (137 : Nat) "java/lang/Integer" "DigitTens" "[B").before a0 Z = true := G.1 _ (List.mem_of_getElem? (i := 160) rfl)
theorem wd_161 {Z : State} {a0 : Array Value} (G : Glb Z a0) : (Jvm.Cond.methodLink "com/example/holdfast/holdfast/LockLost" (31 : Nat) ({ cls := "java/lang/StringBuilder", name := "toString", desc := "()Ljava/lang/String;" } : Jvm.MethodName)).before a0 Z = true := G.1 _ (List.mem_of_getElem? (i := 161) rfl)
theorem wd_162 {Z : State} {a0 : Array Value} (G : Glb Z a0) : (Jvm.Cond.declares ({ cls := "java/lang/StringBuilder", name := "toString", desc := "()Ljava/lang/String;" } : Jvm.MethodName)).before a0 Z = true := G.1 _ (List.mem_of_getElem? (i := 162) rfl)
theorem wd_163 {Z : State} {a0 : Array Value} (G : Glb Z a0) : (Jvm.Cond.instanceMethod ({ cls := "java/lang/StringBuilder", name := "toString", desc := "()Ljava/lang/String;" } : Jvm.MethodName)).before a0 Z = true := G.1 _ (List.mem_of_getElem? (i := 163) rfl)
theorem wd_164 {Z : State} {a0 : Array Value} (G : Glb Z a0) : (Jvm.Cond.selects "java/lang/StringBuilder" ({ cls := "java/lang/StringBuilder", name := "toString", desc := "()Ljava/lang/String;" } : Jvm.MethodName) ({ cls := "java/lang/StringBuilder", name := "toString", desc := "()Ljava/lang/String;" } : Jvm.MethodName)).before a0 Z = true := G.1 _ (List.mem_of_getElem? (i := 164) rfl)
theorem wd_165 {Z : State} {a0 : Array Value} (G : Glb Z a0) : (Jvm.Cond.code ({ cls := "java/lang/StringBuilder", name := "toString", desc := "()Ljava/lang/String;" } : Jvm.MethodName) jdk_67_method_42_code (1 : Nat) (Option.some (Jvm.ClassFile.FieldType.object "java/lang/String"))).before a0 Z = true := G.1 _ (List.mem_of_getElem? (i := 165) rfl)
theorem wd_166 {Z : State} {a0 : Array Value} (G : Glb Z a0) : (Jvm.Cond.classLink "java/lang/StringBuilder" (18 : Nat) "java/lang/String").before a0 Z = true := G.1 _ (List.mem_of_getElem? (i := 166) rfl)
theorem wd_167 {Z : State} {a0 : Array Value} (G : Glb Z a0) : (Jvm.Cond.methodLink "java/lang/StringBuilder" (137 : Nat) ({ cls := "java/lang/String", name := "<init>", desc := "(Ljava/lang/StringBuilder;)V" } : Jvm.MethodName)).before a0 Z = true := G.1 _ (List.mem_of_getElem? (i := 167) rfl)
theorem wd_168 {Z : State} {a0 : Array Value} (G : Glb Z a0) : (Jvm.Cond.instanceMethod ({ cls := "java/lang/String", name := "<init>", desc := "(Ljava/lang/StringBuilder;)V" } : Jvm.MethodName)).before a0 Z = true := G.1 _ (List.mem_of_getElem? (i := 168) rfl)
theorem wd_169 {Z : State} {a0 : Array Value} (G : Glb Z a0) : (Jvm.Cond.code ({ cls := "java/lang/String", name := "<init>", desc := "(Ljava/lang/StringBuilder;)V" } : Jvm.MethodName) jdk_42_method_53_code (2 : Nat) (Option.none : Option Jvm.ClassFile.FieldType)).before a0 Z = true := G.1 _ (List.mem_of_getElem? (i := 169) rfl)
theorem wd_170 {Z : State} {a0 : Array Value} (G : Glb Z a0) : (Jvm.Cond.methodLink "java/lang/String" (489 : Nat) ({ cls := "java/lang/String", name := "<init>", desc := "(Ljava/lang/AbstractStringBuilder;Ljava/lang/Void;)V" } : Jvm.MethodName)).before a0 Z = true := G.1 _ (List.mem_of_getElem? (i := 170) rfl)
theorem wd_171 {Z : State} {a0 : Array Value} (G : Glb Z a0) : (Jvm.Cond.instanceMethod ({ cls := "java/lang/String", name := "<init>", desc := "(Ljava/lang/AbstractStringBuilder;Ljava/lang/Void;)V" } : Jvm.MethodName)).before a0 Z = true := G.1 _ (List.mem_of_getElem? (i := 171) rfl)
theorem wd_172 {Z : State} {a0 : Array Value} (G : Glb Z a0) : (Jvm.Cond.code ({ cls := "java/lang/String", name := "<init>", desc := "(Ljava/lang/AbstractStringBuilder;Ljava/lang/Void;)V" } : Jvm.MethodName) jdk_42_method_150_code (5 : Nat) (Option.none : Option Jvm.ClassFile.FieldType)).before a0 Z = true := G.1 _ (List.mem_of_getElem? (i := 172) rfl)
theorem wd_173 {Z : State} {a0 : Array Value} (G : Glb Z a0) : (Jvm.Cond.methodLink "java/lang/String" (552 : Nat) ({ cls := "java/lang/AbstractStringBuilder", name := "getValue", desc := "()[B" } : Jvm.MethodName)).before a0 Z = true := G.1 _ (List.mem_of_getElem? (i := 173) rfl)
theorem wd_174 {Z : State} {a0 : Array Value} (G : Glb Z a0) : (Jvm.Cond.declares ({ cls := "java/lang/AbstractStringBuilder", name := "getValue", desc := "()[B" } : Jvm.MethodName)).before a0 Z = true := G.1 _ (List.mem_of_getElem? (i := 174) rfl)
theorem wd_175 {Z : State} {a0 : Array Value} (G : Glb Z a0) : (Jvm.Cond.instanceMethod ({ cls := "java/lang/AbstractStringBuilder", name := "getValue", desc := "()[B" } : Jvm.MethodName)).before a0 Z = true := G.1 _ (List.mem_of_getElem? (i := 175) rfl)
theorem wd_176 {Z : State} {a0 : Array Value} (G : Glb Z a0) : (Jvm.Cond.selects "java/lang/StringBuilder" ({ cls := "java/lang/AbstractStringBuilder", name := "getValue", desc := "()[B" } : Jvm.MethodName) ({ cls := "java/lang/AbstractStringBuilder", name := "getValue", desc := "()[B" } : Jvm.MethodName)).before a0 Z = true := G.1 _ (List.mem_of_getElem? (i := 176) rfl)
theorem wd_177 {Z : State} {a0 : Array Value} (G : Glb Z a0) : (Jvm.Cond.code ({ cls := "java/lang/AbstractStringBuilder", name := "getValue", desc := "()[B" } : Jvm.MethodName) jdk_68_method_64_code (1 : Nat) (Option.some (Jvm.ClassFile.FieldType.array Jvm.ClassFile.FieldType.byte))).before a0 Z = true := G.1 _ (List.mem_of_getElem? (i := 177) rfl)
theorem wd_178 {Z : State} {a0 : Array Value} (G : Glb Z a0) : (Jvm.Cond.methodLink "java/lang/String" (549 : Nat) ({ cls := "java/lang/AbstractStringBuilder", name := "length", desc := "()I" } : Jvm.MethodName)).before a0 Z = true := G.1 _ (List.mem_of_getElem? (i := 178) rfl)
theorem wd_179 {Z : State} {a0 : Array Value} (G : Glb Z a0) : (Jvm.Cond.declares ({ cls := "java/lang/AbstractStringBuilder", name := "length", desc := "()I" } : Jvm.MethodName)).before a0 Z = true := G.1 _ (List.mem_of_getElem? (i := 179) rfl)
theorem wd_180 {Z : State} {a0 : Array Value} (G : Glb Z a0) : (Jvm.Cond.instanceMethod ({ cls := "java/lang/AbstractStringBuilder", name := "length", desc := "()I" } : Jvm.MethodName)).before a0 Z = true := G.1 _ (List.mem_of_getElem? (i := 180) rfl)
theorem wd_181 {Z : State} {a0 : Array Value} (G : Glb Z a0) : (Jvm.Cond.selects "java/lang/StringBuilder" ({ cls := "java/lang/AbstractStringBuilder", name := "length", desc := "()I" } : Jvm.MethodName) ({ cls := "java/lang/StringBuilder", name := "length", desc := "()I" } : Jvm.MethodName)).before a0 Z = true := G.1 _ (List.mem_of_getElem? (i := 181) rfl)
theorem wd_182 {Z : State} {a0 : Array Value} (G : Glb Z a0) : (Jvm.Cond.instanceMethod ({ cls := "java/lang/StringBuilder", name := "length", desc := "()I" } : Jvm.MethodName)).before a0 Z = true := G.1 _ (List.mem_of_getElem? (i := 182) rfl)
theorem wd_183 {Z : State} {a0 : Array Value} (G : Glb Z a0) : (Jvm.Cond.code ({ cls := "java/lang/StringBuilder", name := "length", desc := "()I" } : Jvm.MethodName) jdk_67_method_93_code (1 : Nat) (Option.some Jvm.ClassFile.FieldType.int)).before a0 Z = true := G.1 _ (List.mem_of_getElem? (i := 183) rfl)
theorem wd_184 {Z : State} {a0 : Array Value} (G : Glb Z a0) : (Jvm.Cond.methodLink "java/lang/StringBuilder" (343 : Nat) ({ cls := "java/lang/AbstractStringBuilder", name := "length", desc := "()I" } : Jvm.MethodName)).before a0 Z = true := G.1 _ (List.mem_of_getElem? (i := 184) rfl)
theorem wd_185 {Z : State} {a0 : Array Value} (G : Glb Z a0) : (Jvm.Cond.code ({ cls := "java/lang/AbstractStringBuilder", name := "length", desc := "()I" } : Jvm.MethodName) jdk_68_method_6_code (1 : Nat) (Option.some Jvm.ClassFile.FieldType.int)).before a0 Z = true := G.1 _ (List.mem_of_getElem? (i := 185) rfl)
theorem wd_186 {Z : State} {a0 : Array Value} (G : Glb Z a0) : (Jvm.Cond.methodLink "java/lang/String" (1047 : Nat) ({ cls := "java/lang/AbstractStringBuilder", name := "isLatin1", desc := "()Z" } : Jvm.MethodName)).before a0 Z = true := G.1 _ (List.mem_of_getElem? (i := 186) rfl)
theorem wd_187 {Z : State} {a0 : Array Value} (G : Glb Z a0) : (Jvm.Cond.methodLink "java/lang/String" (54 : Nat) ({ cls := "java/util/Arrays", name := "copyOfRange", desc := "([BII)[B" } : Jvm.MethodName)).before a0 Z = true := G.1 _ (List.mem_of_getElem? (i := 187) rfl)
theorem wd_188 {Z : State} {a0 : Array Value} (G : Glb Z a0) : (Jvm.Cond.static ({ cls := "java/util/Arrays", name := "copyOfRange", desc := "([BII)[B" } : Jvm.MethodName)).before a0 Z = true := G.1 _ (List.mem_of_getElem? (i := 188) rfl)
theorem wd_189 {Z : State} {a0 : Array Value} (G : Glb Z a0) : (Jvm.Cond.code ({ cls := "java/util/Arrays", name := "copyOfRange", desc := "([BII)[B" } : Jvm.MethodName) jdk_65_method_132_code (3 : Nat) (Option.some (Jvm.ClassFile.FieldType.array Jvm.ClassFile.FieldType.byte))).before a0 Z = true := G.1 _ (List.mem_of_getElem? (i := 189) rfl)
theorem wd_190 {Z : State} {a0 : Array Value} (G : Glb Z a0) : (Jvm.Cond.methodLink "java/util/Arrays" (310 : Nat) ({ cls := "[B", name := "clone", desc := "()Ljava/lang/Object;" } : Jvm.MethodName)).before a0 Z = true := G.1 _ (List.mem_of_getElem? (i := 190) rfl)
theorem wd_191 {Z : State} {a0 : Array Value} (G : Glb Z a0) : (Jvm.Cond.sameMethod "[B" "java/lang/Object" "clone" "()Ljava/lang/Object;").before a0 Z = true := G.1 _ (List.mem_of_getElem? (i := 191) rfl)
theorem wd_193 {Z : State} {a0 : Array Value} (G : Glb Z a0) : (Jvm.Cond.instanceMethod ({ cls := "java/lang/Object", name := "clone", desc := "()Ljava/lang/Object;" } : Jvm.MethodName)).before a0 Z = true := G.1 _ (List.mem_of_getElem? (i := 193) rfl)
theorem wd_194 {Z : State} {a0 : Array Value} (G : Glb Z a0) : (Jvm.Cond.selects "[B" ({ cls := "[B", name := "clone", desc := "()Ljava/lang/Object;" } : Jvm.MethodName) ({ cls := "java/lang/Object", name := "clone", desc := "()Ljava/lang/Object;" } : Jvm.MethodName)).before a0 Z = true := G.1 _ (List.mem_of_getElem? (i := 194) rfl)
theorem wd_195 {Z : State} {a0 : Array Value} (G : Glb Z a0) : (Jvm.Cond.native ({ cls := "java/lang/Object", name := "clone", desc := "()Ljava/lang/Object;" } : Jvm.MethodName)).before a0 Z = true := G.1 _ (List.mem_of_getElem? (i := 195) rfl)
theorem wd_196 {Z : State} {a0 : Array Value} (G : Glb Z a0) : (Jvm.Cond.castable "[B" "java/lang/Cloneable").before a0 Z = true := G.1 _ (List.mem_of_getElem? (i := 196) rfl)
theorem wd_197 {Z : State} {a0 : Array Value} (G : Glb Z a0) : (Jvm.Cond.classLink "java/util/Arrays" (311 : Nat) "[B").before a0 Z = true := G.1 _ (List.mem_of_getElem? (i := 197) rfl)
set_option maxRecDepth 65536 in
theorem wd_199 {Z : State} {a0 : Array Value} (G : Glb Z a0) : (Jvm.Cond.stringLink "com/example/holdfast/holdfast/LockLost" (35 : Nat) (txtAt 199)).before a0 Z = true := G.1 _ (List.mem_of_getElem? (i := 199) rfl)
set_option maxRecDepth 65536 in
theorem wd_200 {Z : State} {a0 : Array Value} (G : Glb Z a0) : (Jvm.Cond.stringLink "com/example/holdfast/holdfast/LockLost" (37 : Nat) (txtAt 200)).before a0 Z = true := G.1 _ (List.mem_of_getElem? (i := 200) rfl)
theorem wd_201 {Z : State} {a0 : Array Value} (G : Glb Z a0) : (Jvm.Cond.methodLink "java/util/Arrays" (339 : Nat) ({ cls := "java/util/Arrays", name := "copyOfRangeByte", desc := "([BII)[B" } : Jvm.MethodName)).before a0 Z = true := G.1 _ (List.mem_of_getElem? (i := 201) rfl)
theorem wd_202 {Z : State} {a0 : Array Value} (G : Glb Z a0) : (Jvm.Cond.static ({ cls := "java/util/Arrays", name := "copyOfRangeByte", desc := "([BII)[B" } : Jvm.MethodName)).before a0 Z = true := G.1 _ (List.mem_of_getElem? (i := 202) rfl)
theorem wd_203 {Z : State} {a0 : Array Value} (G : Glb Z a0) : (Jvm.Cond.code ({ cls := "java/util/Arrays", name := "copyOfRangeByte", desc := "([BII)[B" } : Jvm.MethodName) jdk_65_method_133_code (5 : Nat) (Option.some (Jvm.ClassFile.FieldType.array Jvm.ClassFile.FieldType.byte))).before a0 Z = true := G.1 _ (List.mem_of_getElem? (i := 203) rfl)
theorem wd_204 {Z : State} {a0 : Array Value} (G : Glb Z a0) : (Jvm.Cond.methodLink "java/util/Arrays" (343 : Nat) ({ cls := "java/util/Arrays", name := "checkLength", desc := "(II)V" } : Jvm.MethodName)).before a0 Z = true := G.1 _ (List.mem_of_getElem? (i := 204) rfl)
theorem wd_205 {Z : State} {a0 : Array Value} (G : Glb Z a0) : (Jvm.Cond.static ({ cls := "java/util/Arrays", name := "checkLength", desc := "(II)V" } : Jvm.MethodName)).before a0 Z = true := G.1 _ (List.mem_of_getElem? (i := 205) rfl)
theorem wd_206 {Z : State} {a0 : Array Value} (G : Glb Z a0) : (Jvm.Cond.code ({ cls := "java/util/Arrays", name := "checkLength", desc := "(II)V" } : Jvm.MethodName) jdk_65_method_131_code (2 : Nat) (Option.none : Option Jvm.ClassFile.FieldType)).before a0 Z = true := G.1 _ (List.mem_of_getElem? (i := 206) rfl)
theorem wd_207 {Z : State} {a0 : Array Value} (G : Glb Z a0) : (Jvm.Cond.methodLink "com/example/holdfast/holdfast/LockLostToStringPinLaw" (25 : Nat) ({ cls := "com/example/holdfast/holdfast/LockLostToStringPinLaw", name := "digitCount", desc := "(J)I" } : Jvm.MethodName)).before a0 Z = true := G.1 _ (List.mem_of_getElem? (i := 207) rfl)
theorem wd_208 {Z : State} {a0 : Array Value} (G : Glb Z a0) : (Jvm.Cond.static ({ cls := "com/example/holdfast/holdfast/LockLostToStringPinLaw", name := "digitCount", desc := "(J)I" } : Jvm.MethodName)).before a0 Z = true := G.1 _ (List.mem_of_getElem? (i := 208) rfl)
theorem wd_209 {Z : State} {a0 : Array Value} (G : Glb Z a0) : (Jvm.Cond.initialized "com/example/holdfast/holdfast/LockLostToStringPinLaw").before a0 Z = true := G.1 _ (List.mem_of_getElem? (i := 209) rfl)
theorem wd_210 {Z : State} {a0 : Array Value} (G : Glb Z a0) : (Jvm.Cond.code ({ cls := "com/example/holdfast/holdfast/LockLostToStringPinLaw", name := "digitCount", desc := "(J)I" } : Jvm.MethodName) method_5_code (5 : Nat) (Option.some Jvm.ClassFile.FieldType.int)).before a0 Z = true := G.1 _ (List.mem_of_getElem? (i := 210) rfl)
theorem wd_211 {Z : State} {a0 : Array Value} (G : Glb Z a0) : (Jvm.Cond.constantLong "com/example/holdfast/holdfast/LockLostToStringPinLaw" (51 : Nat) (10 : Int64)).before a0 Z = true := G.1 _ (List.mem_of_getElem? (i := 211) rfl)
theorem wd_212 {Z : State} {a0 : Array Value} (G : Glb Z a0) : (Jvm.Cond.methodLink "com/example/holdfast/holdfast/LockLostToStringPinLaw" (31 : Nat) ({ cls := "java/lang/String", name := "length", desc := "()I" } : Jvm.MethodName)).before a0 Z = true := G.1 _ (List.mem_of_getElem? (i := 212) rfl)
theorem wd_213 {Z : State} {a0 : Array Value} (G : Glb Z a0) : (Jvm.Cond.methodLink "com/example/holdfast/holdfast/LockLostToStringPinLaw" (35 : Nat) ({ cls := "com/example/holdfast/holdfast/LockLostToStringPinLaw", name := "prefixOk", desc := "(Ljava/lang/String;)Z" } : Jvm.MethodName)).before a0 Z = true := G.1 _ (List.mem_of_getElem? (i := 213) rfl)
theorem wd_214 {Z : State} {a0 : Array Value} (G : Glb Z a0) : (Jvm.Cond.static ({ cls := "com/example/holdfast/holdfast/LockLostToStringPinLaw", name := "prefixOk", desc := "(Ljava/lang/String;)Z" } : Jvm.MethodName)).before a0 Z = true := G.1 _ (List.mem_of_getElem? (i := 214) rfl)
theorem wd_215 {Z : State} {a0 : Array Value} (G : Glb Z a0) : (Jvm.Cond.code ({ cls := "com/example/holdfast/holdfast/LockLostToStringPinLaw", name := "prefixOk", desc := "(Ljava/lang/String;)Z" } : Jvm.MethodName) method_3_code (1 : Nat) (Option.some Jvm.ClassFile.FieldType.boolean)).before a0 Z = true := G.1 _ (List.mem_of_getElem? (i := 215) rfl)
theorem wd_216 {Z : State} {a0 : Array Value} (G : Glb Z a0) : (Jvm.Cond.methodLink "com/example/holdfast/holdfast/LockLostToStringPinLaw" (39 : Nat) ({ cls := "java/lang/String", name := "charAt", desc := "(I)C" } : Jvm.MethodName)).before a0 Z = true := G.1 _ (List.mem_of_getElem? (i := 216) rfl)
theorem wd_217 {Z : State} {a0 : Array Value} (G : Glb Z a0) : (Jvm.Cond.declares ({ cls := "java/lang/String", name := "charAt", desc := "(I)C" } : Jvm.MethodName)).before a0 Z = true := G.1 _ (List.mem_of_getElem? (i := 217) rfl)
theorem wd_218 {Z : State} {a0 : Array Value} (G : Glb Z a0) : (Jvm.Cond.instanceMethod ({ cls := "java/lang/String", name := "charAt", desc := "(I)C" } : Jvm.MethodName)).before a0 Z = true := G.1 _ (List.mem_of_getElem? (i := 218) rfl)
theorem wd_219 {Z : State} {a0 : Array Value} (G : Glb Z a0) : (Jvm.Cond.selects "java/lang/String" ({ cls := "java/lang/String", name := "charAt", desc := "(I)C" } : Jvm.MethodName) ({ cls := "java/lang/String", name := "charAt", desc := "(I)C" } : Jvm.MethodName)).before a0 Z = true := G.1 _ (List.mem_of_getElem? (i := 219) rfl)
theorem wd_220 {Z : State} {a0 : Array Value} (G : Glb Z a0) : (Jvm.Cond.code ({ cls := "java/lang/String", name := "charAt", desc := "(I)C" } : Jvm.MethodName) jdk_42_method_56_code (2 : Nat) (Option.some Jvm.ClassFile.FieldType.char)).before a0 Z = true := G.1 _ (List.mem_of_getElem? (i := 220) rfl)
theorem wd_221 {Z : State} {a0 : Array Value} (G : Glb Z a0) : (Jvm.Cond.methodLink "java/lang/String" (492 : Nat) ({ cls := "java/lang/String", name := "isLatin1", desc := "()Z" } : Jvm.MethodName)).before a0 Z = true := G.1 _ (List.mem_of_getElem? (i := 221) rfl)
theorem wd_222 {Z : State} {a0 : Array Value} (G : Glb Z a0) : (Jvm.Cond.declares ({ cls := "java/lang/String", name := "isLatin1", desc := "()Z" } : Jvm.MethodName)).before a0 Z = true := G.1 _ (List.mem_of_getElem? (i := 222) rfl)
theorem wd_223 {Z : State} {a0 : Array Value} (G : Glb Z a0) : (Jvm.Cond.instanceMethod ({ cls := "java/lang/String", name := "isLatin1", desc := "()Z" } : Jvm.MethodName)).before a0 Z = true := G.1 _ (List.mem_of_getElem? (i := 223) rfl)
theorem wd_224 {Z : State} {a0 : Array Value} (G : Glb Z a0) : (Jvm.Cond.selects "java/lang/String" ({ cls := "java/lang/String", name := "isLatin1", desc := "()Z" } : Jvm.MethodName) ({ cls := "java/lang/String", name := "isLatin1", desc := "()Z" } : Jvm.MethodName)).before a0 Z = true := G.1 _ (List.mem_of_getElem? (i := 224) rfl)
theorem wd_225 {Z : State} {a0 : Array Value} (G : Glb Z a0) : (Jvm.Cond.code ({ cls := "java/lang/String", name := "isLatin1", desc := "()Z" } : Jvm.MethodName) jdk_42_method_154_code (1 : Nat) (Option.some Jvm.ClassFile.FieldType.boolean)).before a0 Z = true := G.1 _ (List.mem_of_getElem? (i := 225) rfl)
theorem wd_226 {Z : State} {a0 : Array Value} (G : Glb Z a0) : (Jvm.Cond.methodLink "java/lang/String" (495 : Nat) ({ cls := "java/lang/StringLatin1", name := "charAt", desc := "([BI)C" } : Jvm.MethodName)).before a0 Z = true := G.1 _ (List.mem_of_getElem? (i := 226) rfl)
theorem wd_227 {Z : State} {a0 : Array Value} (G : Glb Z a0) : (Jvm.Cond.static ({ cls := "java/lang/StringLatin1", name := "charAt", desc := "([BI)C" } : Jvm.MethodName)).before a0 Z = true := G.1 _ (List.mem_of_getElem? (i := 227) rfl)
theorem wd_228 {Z : State} {a0 : Array Value} (G : Glb Z a0) : (Jvm.Cond.code ({ cls := "java/lang/StringLatin1", name := "charAt", desc := "([BI)C" } : Jvm.MethodName) jdk_43_method_2_code (2 : Nat) (Option.some Jvm.ClassFile.FieldType.char)).before a0 Z = true := G.1 _ (List.mem_of_getElem? (i := 228) rfl)
theorem wd_229 {Z : State} {a0 : Array Value} (G : Glb Z a0) : (Jvm.Cond.methodLink "java/lang/StringLatin1" (9 : Nat) ({ cls := "java/lang/String", name := "checkIndex", desc := "(II)V" } : Jvm.MethodName)).before a0 Z = true := G.1 _ (List.mem_of_getElem? (i := 229) rfl)
theorem wd_230 {Z : State} {a0 : Array Value} (G : Glb Z a0) : (Jvm.Cond.static ({ cls := "java/lang/String", name := "checkIndex", desc := "(II)V" } : Jvm.MethodName)).before a0 Z = true := G.1 _ (List.mem_of_getElem? (i := 230) rfl)
theorem wd_231 {Z : State} {a0 : Array Value} (G : Glb Z a0) : (Jvm.Cond.code ({ cls := "java/lang/String", name := "checkIndex", desc := "(II)V" } : Jvm.MethodName) jdk_42_method_155_code (2 : Nat) (Option.none : Option Jvm.ClassFile.FieldType)).before a0 Z = true := G.1 _ (List.mem_of_getElem? (i := 231) rfl)
theorem wd_232 {Z : State} {a0 : Array Value} (G : Glb Z a0) : (Jvm.Cond.fieldLink "java/lang/String" (1053 : Nat) "jdk/internal/util/Preconditions" "SIOOBE_FORMATTER" "Ljava/util/function/BiFunction;").before a0 Z = true := G.1 _ (List.mem_of_getElem? (i := 232) rfl)
theorem wd_233 {Z : State} {a0 : Array Value} (G : Glb Z a0) : (Jvm.Cond.initialized "jdk/internal/util/Preconditions").before a0 Z = true := G.1 _ (List.mem_of_getElem? (i := 233) rfl)
theorem wd_234 {Z : State} {a0 : Array Value} (G : Glb Z a0) : (Jvm.Cond.methodLink "java/lang/String" (1059 : Nat) ({ cls := "jdk/internal/util/Preconditions", name := "checkIndex", desc := "(IILjava/util/function/BiFunction;)I" } : Jvm.MethodName)).before a0 Z = true := G.1 _ (List.mem_of_getElem? (i := 234) rfl)
theorem wd_235 {Z : State} {a0 : Array Value} (G : Glb Z a0) : (Jvm.Cond.static ({ cls := "jdk/internal/util/Preconditions", name := "checkIndex", desc := "(IILjava/util/function/BiFunction;)I" } : Jvm.MethodName)).before a0 Z = true := G.1 _ (List.mem_of_getElem? (i := 235) rfl)
theorem wd_236 {Z : State} {a0 : Array Value} (G : Glb Z a0) : (Jvm.Cond.code ({ cls := "jdk/internal/util/Preconditions", name := "checkIndex", desc := "(IILjava/util/function/BiFunction;)I" } : Jvm.MethodName) jdk_41_method_11_code (3 : Nat) (Option.some Jvm.ClassFile.FieldType.int)).before a0 Z = true := G.1 _ (List.mem_of_getElem? (i := 236) rfl)
theorem wd_237 {Z : State} {a0 : Array Value} (G : Glb Z a0) : (Jvm.Cond.methodLink "com/example/holdfast/holdfast/LockLostToStringPinLaw" (43 : Nat) ({ cls := "com/example/holdfast/holdfast/LockLostToStringPinLaw", name := "fencingOk", desc := "(Ljava/lang/String;I)Z" } : Jvm.MethodName)).before a0 Z = true := G.1 _ (List.mem_of_getElem? (i := 237) rfl)
theorem wd_238 {Z : State} {a0 : Array Value} (G : Glb Z a0) : (Jvm.Cond.static ({ cls := "com/example/holdfast/holdfast/LockLostToStringPinLaw", name := "fencingOk", desc := "(Ljava/lang/String;I)Z" } : Jvm.MethodName)).before a0 Z = true := G.1 _ (List.mem_of_getElem? (i := 238) rfl)
theorem wd_239 {Z : State} {a0 : Array Value} (G : Glb Z a0) : (Jvm.Cond.code ({ cls := "com/example/holdfast/holdfast/LockLostToStringPinLaw", name := "fencingOk", desc := "(Ljava/lang/String;I)Z" } : Jvm.MethodName) method_4_code (2 : Nat) (Option.some Jvm.ClassFile.FieldType.boolean)).before a0 Z = true := G.1 _ (List.mem_of_getElem? (i := 239) rfl)
theorem wd_240 {Z : State} {a0 : Array Value} (G : Glb Z a0) : (Jvm.Cond.methodLink "com/example/holdfast/holdfast/LockLostToStringPinLaw" (47 : Nat) ({ cls := "com/example/holdfast/holdfast/LockLostToStringPinLaw", name := "digitsOk", desc := "(Ljava/lang/String;IIJ)Z" } : Jvm.MethodName)).before a0 Z = true := G.1 _ (List.mem_of_getElem? (i := 240) rfl)
theorem wd_241 {Z : State} {a0 : Array Value} (G : Glb Z a0) : (Jvm.Cond.static ({ cls := "com/example/holdfast/holdfast/LockLostToStringPinLaw", name := "digitsOk", desc := "(Ljava/lang/String;IIJ)Z" } : Jvm.MethodName)).before a0 Z = true := G.1 _ (List.mem_of_getElem? (i := 241) rfl)
theorem wd_242 {Z : State} {a0 : Array Value} (G : Glb Z a0) : (Jvm.Cond.code ({ cls := "com/example/holdfast/holdfast/LockLostToStringPinLaw", name := "digitsOk", desc := "(Ljava/lang/String;IIJ)Z" } : Jvm.MethodName) method_7_code (8 : Nat) (Option.some Jvm.ClassFile.FieldType.boolean)).before a0 Z = true := G.1 _ (List.mem_of_getElem? (i := 242) rfl)
theorem wd_243 {Z : State} {a0 : Array Value} (G : Glb Z a0) : (Jvm.Cond.methodLink "com/example/holdfast/holdfast/LockLostToStringPinLaw" (53 : Nat) ({ cls := "com/example/holdfast/holdfast/LockLostToStringPinLaw", name := "digitOk", desc := "(Ljava/lang/String;IIIJ)Z" } : Jvm.MethodName)).before a0 Z = true := G.1 _ (List.mem_of_getElem? (i := 243) rfl)
theorem wd_244 {Z : State} {a0 : Array Value} (G : Glb Z a0) : (Jvm.Cond.static ({ cls := "com/example/holdfast/holdfast/LockLostToStringPinLaw", name := "digitOk", desc := "(Ljava/lang/String;IIIJ)Z" } : Jvm.MethodName)).before a0 Z = true := G.1 _ (List.mem_of_getElem? (i := 244) rfl)
theorem wd_245 {Z : State} {a0 : Array Value} (G : Glb Z a0) : (Jvm.Cond.code ({ cls := "com/example/holdfast/holdfast/LockLostToStringPinLaw", name := "digitOk", desc := "(Ljava/lang/String;IIIJ)Z" } : Jvm.MethodName) method_6_code (6 : Nat) (Option.some Jvm.ClassFile.FieldType.boolean)).before a0 Z = true := G.1 _ (List.mem_of_getElem? (i := 245) rfl)
theorem wd_246 {Z : State} {a0 : Array Value} (G : Glb Z a0) : (Jvm.Cond.classLink "com/example/holdfast/holdfast/LockLostToStringPinLaw" (7 : Nat) "java/lang/String").before a0 Z = true := G.1 _ (List.mem_of_getElem? (i := 246) rfl)
theorem wd_247 {Z : State} {a0 : Array Value} (G : Glb Z a0) : (Jvm.Cond.arrayClass Jvm.ClassFile.FieldType.char).before a0 Z = true := G.1 _ (List.mem_of_getElem? (i := 247) rfl)
theorem wd_248 {Z : State} {a0 : Array Value} (G : Glb Z a0) : (Jvm.Cond.methodLink "com/example/holdfast/holdfast/LockLostToStringPinLaw" (9 : Nat) ({ cls := "java/lang/String", name := "<init>", desc := "([C)V" } : Jvm.MethodName)).before a0 Z = true := G.1 _ (List.mem_of_getElem? (i := 248) rfl)
theorem wd_249 {Z : State} {a0 : Array Value} (G : Glb Z a0) : (Jvm.Cond.instanceMethod ({ cls := "java/lang/String", name := "<init>", desc := "([C)V" } : Jvm.MethodName)).before a0 Z = true := G.1 _ (List.mem_of_getElem? (i := 249) rfl)
theorem wd_250 {Z : State} {a0 : Array Value} (G : Glb Z a0) : (Jvm.Cond.code ({ cls := "java/lang/String", name := "<init>", desc := "([C)V" } : Jvm.MethodName) jdk_42_method_3_code (2 : Nat) (Option.none : Option Jvm.ClassFile.FieldType)).before a0 Z = true := G.1 _ (List.mem_of_getElem? (i := 250) rfl)
theorem wd_251 {Z : State} {a0 : Array Value} (G : Glb Z a0) : (Jvm.Cond.methodLink "java/lang/String" (27 : Nat) ({ cls := "java/lang/String", name := "<init>", desc := "([CIILjava/lang/Void;)V" } : Jvm.MethodName)).before a0 Z = true := G.1 _ (List.mem_of_getElem? (i := 251) rfl)
theorem wd_252 {Z : State} {a0 : Array Value} (G : Glb Z a0) : (Jvm.Cond.instanceMethod ({ cls := "java/lang/String", name := "<init>", desc := "([CIILjava/lang/Void;)V" } : Jvm.MethodName)).before a0 Z = true := G.1 _ (List.mem_of_getElem? (i := 252) rfl)
theorem wd_253 {Z : State} {a0 : Array Value} (G : Glb Z a0) : (Jvm.Cond.code ({ cls := "java/lang/String", name := "<init>", desc := "([CIILjava/lang/Void;)V" } : Jvm.MethodName) jdk_42_method_149_code (6 : Nat) (Option.none : Option Jvm.ClassFile.FieldType)).before a0 Z = true := G.1 _ (List.mem_of_getElem? (i := 253) rfl)
set_option maxRecDepth 65536 in
theorem wd_254 {Z : State} {a0 : Array Value} (G : Glb Z a0) : (Jvm.Cond.stringLink "java/lang/String" (7 : Nat) (txtAt 254)).before a0 Z = true := G.1 _ (List.mem_of_getElem? (i := 254) rfl)
theorem wd_255 {Z : State} {a0 : Array Value} (G : Glb Z a0) : (Jvm.Cond.methodLink "java/lang/String" (177 : Nat) ({ cls := "java/lang/StringUTF16", name := "compress", desc := "([CII)[B" } : Jvm.MethodName)).before a0 Z = true := G.1 _ (List.mem_of_getElem? (i := 255) rfl)
theorem wd_256 {Z : State} {a0 : Array Value} (G : Glb Z a0) : (Jvm.Cond.static ({ cls := "java/lang/StringUTF16", name := "compress", desc := "([CII)[B" } : Jvm.MethodName)).before a0 Z = true := G.1 _ (List.mem_of_getElem? (i := 256) rfl)
theorem wd_257 {Z : State} {a0 : Array Value} (G : Glb Z a0) : (Jvm.Cond.initialized "java/lang/StringUTF16").before a0 Z = true := G.1 _ (List.mem_of_getElem? (i := 257) rfl)
theorem wd_258 {Z : State} {a0 : Array Value} (G : Glb Z a0) : (Jvm.Cond.code ({ cls := "java/lang/StringUTF16", name := "compress", desc := "([CII)[B" } : Jvm.MethodName) jdk_52_method_16_code (6 : Nat) (Option.some (Jvm.ClassFile.FieldType.array Jvm.ClassFile.FieldType.byte))).before a0 Z = true := G.1 _ (List.mem_of_getElem? (i := 258) rfl)
theorem wd_259 {Z : State} {a0 : Array Value} (G : Glb Z a0) : (Jvm.Cond.methodLink "java/lang/StringUTF16" (115 : Nat) ({ cls := "java/lang/StringUTF16", name := "compress", desc := "([CI[BII)I" } : Jvm.MethodName)).before a0 Z = true := G.1 _ (List.mem_of_getElem? (i := 259) rfl)
theorem wd_260 {Z : State} {a0 : Array Value} (G : Glb Z a0) : (Jvm.Cond.static ({ cls := "java/lang/StringUTF16", name := "compress", desc := "([CI[BII)I" } : Jvm.MethodName)).before a0 Z = true := G.1 _ (List.mem_of_getElem? (i := 260) rfl)
theorem wd_261 {Z : State} {a0 : Array Value} (G : Glb Z a0) : (Jvm.Cond.code ({ cls := "java/lang/StringUTF16", name := "compress", desc := "([CI[BII)I" } : Jvm.MethodName) jdk_52_method_21_code (7 : Nat) (Option.some Jvm.ClassFile.FieldType.int)).before a0 Z = true := G.1 _ (List.mem_of_getElem? (i := 261) rfl)
theorem wd_262 {Z : State} {a0 : Array Value} (G : Glb Z a0) : (Jvm.Cond.methodLink "java/lang/String" (47 : Nat) ({ cls := "java/lang/StringUTF16", name := "coderFromArrayLen", desc := "([BI)B" } : Jvm.MethodName)).before a0 Z = true := G.1 _ (List.mem_of_getElem? (i := 262) rfl)
theorem wd_263 {Z : State} {a0 : Array Value} (G : Glb Z a0) : (Jvm.Cond.static ({ cls := "java/lang/StringUTF16", name := "coderFromArrayLen", desc := "([BI)B" } : Jvm.MethodName)).before a0 Z = true := G.1 _ (List.mem_of_getElem? (i := 263) rfl)
theorem wd_264 {Z : State} {a0 : Array Value} (G : Glb Z a0) : (Jvm.Cond.code ({ cls := "java/lang/StringUTF16", name := "coderFromArrayLen", desc := "([BI)B" } : Jvm.MethodName) jdk_52_method_15_code (2 : Nat) (Option.some Jvm.ClassFile.FieldType.byte)).before a0 Z = true := G.1 _ (List.mem_of_getElem? (i := 264) rfl)
set_option maxRecDepth 65536 in
theorem wd_265 {Z : State} {a0 : Array Value} (G : Glb Z a0) : (Jvm.Cond.stringLink "com/example/holdfast/holdfast/LockLost" (17 : Nat) (txtAt 265)).before a0 Z = true := G.1 _ (List.mem_of_getElem? (i := 265) rfl)
theorem G_SA {Z : State} {a0 : Array Value} (G : Glb Z a0) : ∀ a ∈ Bundle.stringAtoms, a.before a0 Z = true := fun a ha => G.1 a ((by decide +kernel : ∀ a ∈ Bundle.stringAtoms, a ∈ tables_1) a ha)
theorem G_EL {Z : State} {a0 : Array Value} (G : Glb Z a0) : EW Z a0 EL0 := (show EW Z a0 [("com/example/holdfast/holdfast/LockLost", 17), ("com/example/holdfast/holdfast/LockLost", 22), ("com/example/holdfast/holdfast/LockLost", 35), ("com/example/holdfast/holdfast/LockLost", 37), ("java/lang/String", 7)] from EW.cons (wd_265 G) (by decide +kernel) (EW.cons (wd_60 G) (by decide +kernel) (EW.cons (wd_199 G) (by decide +kernel) (EW.cons (wd_200 G) (by decide +kernel) (EW.cons (wd_254 G) (by decide +kernel) (EW.nil))))))
theorem Ct.in {l : Launch} {Z : State} {a0 : Array Value} (G : Glb Z a0) {ml : Nat} {H : HP} {ls : List Slot} {y : MethodName} {bytes : ByteArray} {ret : Option FieldType} {rm : Room} {wz : List Jvm.Cond} {as : List Value} {Q : Option Value → HP → Prop} (hpl : plainFor y = true) (hls : locsOf as ml = ls) (hlen : ls.length = ml)
    (body : ∀ D, Wk l Z a0 EL0 y.cls bytes ml y.name ret rm D 0 ls [] H 0 0 → ∃ v H' k n, Rt Z EL0 D v H' k n ∧ Q v H' ∧ k ≤ rm.cells ∧ n ≤ rm.slots) : Ct l Z EL0 y bytes ml ret rm wz as H Q := Ct.intro hpl (G_EL G) (G_SA G) hls hlen body

/-! numbers -/
theorem n32_toInt {i : Nat} (h : i < 2 ^ 31) : (i.toInt32).toInt = i := by simp [Nat.toInt32, Int32.toInt_ofNat_of_lt h]
theorem n32_lt {i j : Nat} (hi : i < 2 ^ 31) (hj : j < 2 ^ 31) : i.toInt32 < j.toInt32 ↔ i < j := by
  rw [Int32.lt_iff_toInt_lt, n32_toInt hi, n32_toInt hj]; omega
theorem n32_inj {i j : Nat} (hi : i < 2 ^ 31) (hj : j < 2 ^ 31) : i.toInt32 = j.toInt32 ↔ i = j := by
  constructor
  · intro h; have := congrArg Int32.toInt h; rw [n32_toInt hi, n32_toInt hj] at this; omega
  · rintro rfl; rfl
theorem n32_succ (i : Nat) : i.toInt32 + 1 = (i + 1).toInt32 := by
  show Int32.ofNat i + Int32.ofNat 1 = Int32.ofNat (i + 1)
  rw [Int32.ofNat_add]
theorem n32_add (i j : Nat) : i.toInt32 + j.toInt32 = (i + j).toInt32 := by
  show Int32.ofNat i + Int32.ofNat j = Int32.ofNat (i + j)
  rw [Int32.ofNat_add]
theorem n32_shl0 (x : Int32) : x <<< ((0 : Int32) &&& 31) = x := by
  apply Int32.toInt_inj.mp
  have a := c_ishl x 0 0 (by decide)
  have r1 := rng32 (x <<< ((0 : Int32) &&& 31))
  have r2 := rng32 x
  simp only [Nat.pow_zero] at a
  omega

theorem G_compact {Z : State} {a0 : Array Value} (G : Glb Z a0) : ∃ x : Int32, ¬ x = 0 ∧ Sta Z Z.heap "java/lang/String" "COMPACT_STRINGS" "Z" (.int x) := by
  obtain ⟨x, e⟩ := is_v (Cond.before_iff.mp (G.2.1 _ (List.mem_of_getElem? (i := 1) rfl)))
  have n := not_v (Cond.before_iff.mp (G.2.1 _ (List.mem_of_getElem? (i := 2) rfl)))
  exact ⟨x, gotF (Cond.eq_ints e (Term.int_eval 0)) n, Sta.start e (Or.inl (G.2.1 _ (List.mem_of_getElem? (i := 0) rfl)))⟩

theorem stEq {args : Array Value} {s : State} {t : Term} {z : Int32} (h : (Jvm.Cond.eq t (.int z)).value args s none s [] = some true) : t.eval args s none [] s = some (.int z) := by
  obtain ⟨x, y, hx, hy, k1, -⟩ := cmp_v (Or.inl h)
  cases (Term.int_eval z).symm.trans hy
  cases x <;> simp [Kin, Value.isRef] at k1
  rename_i v
  have q : v = z := by simpa [Cond.value, hx, Term.eval] using h
  rw [hx, q]


/-! ## new String(char[]) -/
abbrev chs (cs : List Int32) : List Value := cs.map Value.int
abbrev b8 (c : Int32) : Int32 := c.toInt8.toInt32
abbrev lo8 (cs : List Int32) : List Value := cs.map fun c => Value.int (b8 c)
def pfx : List Int32 → Nat
  | [] => 0
  | c :: r => if (255 : Int32) < c then 0 else pfx r + 1
theorem pfx_le : ∀ cs, pfx cs ≤ cs.length
  | [] => Nat.le_refl _
  | c :: r => by unfold pfx; split <;> simp [pfx_le r]
theorem pfx_all : ∀ {cs}, (∀ c ∈ cs, ¬ (255 : Int32) < c) → pfx cs = cs.length
  | [], _ => rfl
  | c :: r, h => by
    unfold pfx
    rw [if_neg (h c (List.mem_cons_self ..)), pfx_all fun x hx => h x (List.mem_cons_of_mem _ hx)]; rfl
section JStr
variable {l : Launch} {Z : State} {a0 : Array Value} {D : Dyn} {H : HP}
set_option maxRecDepth 65536 in
theorem l_cmp5 (G : Glb Z a0) {s t : Addr} {cs : List Int32} {vs : List Value} (F : Ar Z H s .char (chs cs)) (hl : vs.length = cs.length) (hne : s ≠ t) :
    ∀ (q : List Int32) (i : Nat) (H1 : HP) (s6 : Slot), cs.drop i = q → i ≤ cs.length → Kp H H1 [t] → H1.2 t → Ar Z H1 t .byte (lo8 (cs.take i) ++ vs.drop i) → (s6 = .unset ∨ ∃ x, s6 = .val (.int x)) →
      Wk l Z a0 EL0 "java/lang/StringUTF16" jdk_52_method_21_code 7 "compress" (some .int) ({ frames := 0, cells := 0, slots := 0, locals := 0 } : Room) D 3 [.val (.ref s), .val (.int i.toInt32), .val (.ref t), .val (.int i.toInt32), .val (.int cs.length.toInt32), .val (.int i.toInt32), s6] [] H1 0 0 →
      ∃ H', Rt Z EL0 D (some (.int (i + pfx q).toInt32)) H' 0 0 ∧ Kp H H' [t] ∧ Ar Z H' t .byte (lo8 (cs.take (i + pfx q)) ++ vs.drop (i + pfx q)) := by
  have hn : cs.length < 2 ^ 31 := by simpa using F.len
  intro q
  induction q with
  | nil =>
    intro i H1 s6 hd hi K o T h6 A0
    have e : i = cs.length := by have := List.drop_eq_nil_iff.mp hd; omega
    subst e
    have A1 := A0.run [(3, .iload 5, 5, 0), (5, .iload 4, 7, 0)] (pe := 7) (by decide +kernel) rfl
    have A2 := A1.icT (cd := .ge) (o := 37) (by decide +kernel) Int32.lt_irrefl (pe := 44) (by decide)
    have A3 := A2.run [(44, .iload 4, 46, 0)] (pe := 46) (by decide +kernel) rfl
    have A4 := A3.retI (by decide +kernel)
    exact ⟨_, A4, K, T⟩
  | cons c r ih =>
    intro i H1 s6 hd hi K o T h6 A0
    have hlt : i < cs.length := by
      rcases Nat.lt_or_ge i cs.length with h | h
      · exact h
      · rw [List.drop_eq_nil_of_le h] at hd; cases hd
    have hc : cs[i]? = some c := by have := congrArg List.head? hd; simpa [List.head?_drop] using this
    have hr : cs.drop (i + 1) = r := by have := congrArg List.tail hd; simpa using this
    have A1 := A0.run [(3, .iload 5, 5, 0), (5, .iload 4, 7, 0)] (pe := 7) (by decide +kernel) rfl
    have A2 := A1.icF (cd := .ge) (o := 37) (by decide +kernel) (by show ¬ ¬ _ < _; exact not_not_intro ((n32_lt (by omega) hn).mpr hlt))
    have A3 := A2.run [(10, .aload_n 0, 11, 0), (11, .iload_n 1, 12, 0)] (pe := 12) (by decide +kernel) rfl
    have A4 := A3.caload (F.ky K (by simpa using hne)) (by decide +kernel) rfl (v := .int c) (by simp [hc])
    have A6 : Wk l Z a0 EL0 "java/lang/StringUTF16" jdk_52_method_21_code 7 "compress" (some .int) ({ frames := 0, cells := 0, slots := 0, locals := 0 } : Room) D 20 [.val (.ref s), .val (.int i.toInt32), .val (.ref t), .val (.int i.toInt32), .val (.int cs.length.toInt32), .val (.int i.toInt32), .val (.int c)] [.int 255, .int c] H1 0 0 := by
      rcases h6 with rfl | ⟨x, rfl⟩
      · exact A4.run [(13, .istore 6, 15, 0), (15, .iload 6, 17, 0), (17, .sipush 255, 20, 255)] (pe := 20) (by decide +kernel) rfl
      · exact A4.run [(13, .istore 6, 15, 0), (15, .iload 6, 17, 0), (17, .sipush 255, 20, 255)] (pe := 20) (by decide +kernel) rfl
    by_cases h255 : (255 : Int32) < c
    · have A7 := A6.icF (cd := .le) (o := 6) (by decide +kernel) (by show ¬ ¬ _ < _; exact not_not_intro h255)
      have A8 := A7.run [(23, .iload 5, 25, 0)] (pe := 25) (by decide +kernel) rfl
      have A9 := A8.retI (by decide +kernel)
      have e : pfx (c :: r) = 0 := by simp [pfx, h255]
      rw [e]
      exact ⟨_, A9, K, T⟩
    · have A7 := A6.icT (cd := .le) (o := 6) (by decide +kernel) (by show ¬ _ < _; exact h255) (pe := 26) (by decide)
      have A8 := A7.run [(26, .aload_n 2, 27, 0), (27, .iload_n 3, 28, 0), (28, .iload 6, 30, 0), (30, .i2b, 31, 0)] (pe := 31) (by decide +kernel) rfl
      obtain ⟨H2, A9, K2, T2⟩ := A8.bastore T o (by decide +kernel) rfl (by simp; omega) (x2 := b8 c) (by simp [nar])
      have A10 := A9.run [(32, .iinc 1 1, 35, 1), (35, .iinc 3 1, 38, 1), (38, .iinc 5 1, 41, 1), (41, .goto (-38), 3, 0)] (pe := 3) (by decide +kernel) rfl
      have e : pfx (c :: r) = pfx r + 1 := by simp [pfx, h255]
      have hl2 : (lo8 (cs.take i) ++ vs.drop i).set i (.int (b8 c)) = lo8 (cs.take (i + 1)) ++ vs.drop (i + 1) := by
        have h1 : (lo8 (cs.take i)).length = i := by simp; omega
        have h2 : vs.drop i = vs[i]'(by omega) :: vs.drop (i + 1) := by rw [List.drop_eq_getElem_cons]
        rw [List.set_append_right _ _ (by omega), h1, Nat.sub_self, h2, List.set_cons_zero]
        rw [List.take_add_one, hc]
        simp
      rw [hl2] at T2
      rw [n32_succ] at A10
      obtain ⟨H', B1, B2, B3⟩ := ih (i + 1) H2 _ hr hlt (K.trans K2 fun x hx => Or.inl hx) (K2.2 _ o) T2 (Or.inr ⟨c, rfl⟩) A10
      rw [e]
      rw [show i + (pfx r + 1) = i + 1 + pfx r by omega]
      exact ⟨H', B1, B2, B3⟩
theorem c_cmp5 (G : Glb Z a0) {s t : Addr} {cs : List Int32} {vs : List Value} (F : Ar Z H s .char (chs cs)) (T : Ar Z H t .byte vs) (o : H.2 t) (hl : vs.length = cs.length) (hne : s ≠ t) :
    Ct l Z EL0 (⟨"java/lang/StringUTF16", "compress", "([CI[BII)I"⟩ : MethodName) jdk_52_method_21_code 7 ((some .int)) ({ frames := 0, cells := 0, slots := 0, locals := 0 } : Room) [] [.ref s, .int 0, .ref t, .int 0, .int cs.length.toInt32] H (fun v H' => v = some (.int (pfx cs).toInt32) ∧ Kp H H' [t] ∧ Ar Z H' t .byte (lo8 (cs.take (pfx cs)) ++ vs.drop (pfx cs))) := by
  refine Ct.in G (by first | exact plainFor_of_name (by simp [plainName, overriddenIn]; done) | decide +kernel) (ls := [.val (.ref s), .val (.int 0), .val (.ref t), .val (.int 0), .val (.int cs.length.toInt32), .unset, .unset]) rfl rfl fun D A0 => ?_
  have A1 := A0.run [(0, .iconst 0, 1, 0), (1, .istore 5, 3, 0)] (pe := 3) (by decide +kernel) rfl
  obtain ⟨H', B1, B2, B3⟩ := l_cmp5 G F hl hne cs 0 H .unset rfl (Nat.zero_le _) (Kp.refl H |>.wide fun x hx => nomatch hx) o (by simpa using T) (Or.inl rfl) A1
  rw [Nat.zero_add] at B1 B3
  exact ⟨_, H', 0, 0, B1, ⟨rfl, B2, B3⟩, Nat.le_refl _, Nat.le_refl _⟩
/-- all chars below 256 -/
abbrev Lat (cs : List Int32) : Prop := ∀ c ∈ cs, ¬ (255 : Int32) < c
theorem c_cmp3 (G : Glb Z a0) {s : Addr} {cs : List Int32} (F : Ar Z H s .char (chs cs)) (hn : cs.length ≤ 3) (hla : Lat cs) :
    Ct l Z EL0 (⟨"java/lang/StringUTF16", "compress", "([CII)[B"⟩ : MethodName) jdk_52_method_16_code 6 ((some (.array .byte))) ({ frames := 1, cells := 1, slots := 3, locals := 18 } : Room) [] [.ref s, .int 0, .int cs.length.toInt32] H (fun v H' => ∃ t, v = some (.ref t) ∧ H.1.size ≤ t ∧ Kp H H' [] ∧ Ar Z H' t .byte (lo8 cs) ∧ H'.2 t) := by
  refine Ct.in G (by first | exact plainFor_of_name (by simp [plainName, overriddenIn]; done) | decide +kernel) (ls := [.val (.ref s), .val (.int 0), .val (.int cs.length.toInt32), .unset, .unset, .unset]) rfl rfl fun D A0 => ?_
  have A1 := A0.run [(0, .iload_n 2, 1, 0)] (pe := 1) (by decide +kernel) rfl
  obtain ⟨t, H1, A2, hge, K1, T1, o1⟩ := A1.newA (aty := .byte) (wd_14 G) (by decide +kernel) rfl (cap := 3) hn (by decide) (by decide) (by decide)
  have A3 := A2.run [(3, .astore_n 3, 4, 0), (4, .aload_n 0, 5, 0), (5, .iload_n 1, 6, 0), (6, .aload_n 3, 7, 0), (7, .iconst 0, 8, 0), (8, .iload_n 2, 9, 0)] (pe := 9) (by decide +kernel) rfl
  have hne : s ≠ t := Nat.ne_of_lt (Nat.lt_of_lt_of_le F.lt hge)
  obtain ⟨_, HA4, qA4, A4, moA4, szA4⟩ := A3.callS (argsL := [.ref s, .int 0, .ref t, .int 0, .int cs.length.toInt32]) (wd_259 G) (wd_260 G) (wd_257 G) (wd_261 G) (c_cmp5 G (F.ky K1) T1 o1 (by simp) hne) (by decide) ⟨_, _, (by decide +kernel : parseMethodDescriptor "([CI[BII)I" = some ⟨[(.array .char), .int, (.array .byte), .int, .int], some .int⟩), rfl⟩ (by decide +kernel) (Wd := 0) (by decide) (Nat.le_of_ble_eq_true rfl) (by decide) (by decide) (by decide)
  obtain ⟨rfl, K2, T2⟩ := qA4
  rw [pfx_all hla] at T2 A4
  have A5 := A4.run [(12, .istore 4, 14, 0), (14, .iload 4, 16, 0), (16, .iload_n 2, 17, 0)] (pe := 17) (by decide +kernel) rfl
  have A6 := A5.icT (cd := .eq) (o := 40) (by decide +kernel) rfl (pe := 57) (by decide)
  have A7 := A6.run [(57, .aload_n 3, 58, 0)] (pe := 58) (by decide +kernel) rfl
  have A8 := A7.retA (by decide +kernel) rfl rfl
  refine ⟨_, _, _, _, A8, ⟨t, rfl, hge, K1.trans K2 (fun x hx => Or.inr ?_), by simpa using T2, moA4 _ o1⟩, by decide, by decide⟩
  cases List.mem_singleton.mp hx; exact hge
theorem c_cfa (G : Glb Z a0) {t : Addr} {n : Nat} {vs : List Value} (F : Ar Z H t .byte vs) (hl : vs.length = n) :
    Ct l Z EL0 (⟨"java/lang/StringUTF16", "coderFromArrayLen", "([BI)B"⟩ : MethodName) jdk_52_method_15_code 2 ((some .byte)) ({ frames := 0, cells := 0, slots := 0, locals := 0 } : Room) [] [.ref t, .int n.toInt32] H (fun v H' => v = some (.int 0) ∧ H = H') := by
  refine Ct.in G (by first | exact plainFor_of_name (by simp [plainName, overriddenIn]; done) | decide +kernel) (ls := [.val (.ref t), .val (.int n.toInt32)]) rfl rfl fun D A0 => ?_
  have A1 := A0.run [(0, .iload_n 1, 1, 0), (1, .aload_n 0, 2, 0)] (pe := 2) (by decide +kernel) rfl
  have A2 := A1.alen F (by decide +kernel) (z := n.toInt32) (by rw [hl])
  have A3 := A2.run [(3, .isub, 4, 0), (4, .bipush 31, 6, 31), (6, .iushr, 7, 0), (7, .i2b, 8, 0)] (pe := 8) (by decide +kernel) rfl
  have A4 := A3.retB (by decide +kernel) (x2 := 0) (by rw [Int32.sub_self]; decide)
  exact ⟨_, _, _, _, A4, ⟨rfl, rfl⟩, Nat.le_refl _, Nat.le_refl _⟩
/-- a char's value -/
abbrev isC (c : Int32) : Prop := 0 ≤ c.toInt ∧ c.toInt < 65536
abbrev e16 (c : Int32) : List Value := [.int (b8 c), .int (b8 (c >>> (8 &&& 31)))]
abbrev enc16 (cs : List Int32) : List Value := cs.flatMap e16
/-- the String a says cs -/
def Str (Z : State) (H : HP) (a : Addr) (cs : List Int32) : Prop := Exa Z H.1 a "java/lang/String" ∧ (∀ c ∈ cs, isC c) ∧ ∃ t, Fld Z H.1 a "java/lang/String" "value" "[B" (.ref t) ∧
  (Lat cs ∧ Fld Z H.1 a "java/lang/String" "coder" "B" (.int 0) ∧ Ar Z H t .byte (lo8 cs) ∨ ¬ Lat cs ∧ Fld Z H.1 a "java/lang/String" "coder" "B" (.int 1) ∧ Ar Z H t .byte (enc16 cs))
theorem Str.ky {H H' : HP} {a : Addr} {cs : List Int32} (S : Str Z H a cs) (K : Kp H H' []) : Str Z H' a cs := by
  obtain ⟨h1, h2, t, h3, h4⟩ := S
  exact ⟨h1.ky K, h2, t, h3.ky K, h4.imp (fun ⟨q1, q2, q3⟩ => ⟨q1, q2.ky K, q3.ky K⟩) (fun ⟨q1, q2, q3⟩ => ⟨q1, q2.ky K, q3.ky K⟩)⟩
theorem Ar.kyE {H H' : HP} {t x : Addr} {ty : FieldType} {vs : List Value} {C : String} {q : Nat} (F : Ar Z H t ty vs) (K : Kp H H' [x]) (E : Exa Z H.1 x C) (wi : (Jvm.Cond.instantiable C q).before a0 Z = true) : Ar Z H' t ty vs :=
  F.ky K (by obtain ⟨c, A, -⟩ := F; simpa using Ne.symm (ne_arr E wi A))
theorem Str.kyE {H H' : HP} {a x : Addr} {cs : List Int32} {C : String} {q : Nat} (S : Str Z H a cs) (K : Kp H H' [x]) (E : Exa Z H.1 x C) (hC : C ≠ "java/lang/String") (wi : (Jvm.Cond.instantiable C q).before a0 Z = true) : Str Z H' a cs := by
  obtain ⟨h1, h2, t, h3, h4⟩ := S
  have ha : a ∉ [x] := by simpa using Ne.symm (ne_exa E h1 hC)
  exact ⟨h1.ky K, h2, t, h3.ky K ha, h4.imp (fun ⟨q1, q2, q3⟩ => ⟨q1, q2.ky K ha, q3.kyE K E wi⟩) (fun ⟨q1, q2, q3⟩ => ⟨q1, q2.ky K ha, q3.kyE K E wi⟩)⟩
theorem Str.lt {H : HP} {a : Addr} {cs : List Int32} (S : Str Z H a cs) : a < H.1.size := S.1.lt
theorem Str.opL {H : HP} {a : Addr} {cs : List Int32} (S : Str Z H a cs) (h : Lat cs) : Exa Z H.1 a "java/lang/String" ∧ ∃ t, Fld Z H.1 a "java/lang/String" "value" "[B" (.ref t) ∧ Fld Z H.1 a "java/lang/String" "coder" "B" (.int 0) ∧ Ar Z H t .byte (lo8 cs) := by
  obtain ⟨h1, h2, t, h3, h4⟩ := S
  rcases h4 with ⟨-, q⟩ | ⟨q, -⟩
  · exact ⟨h1, t, h3, q⟩
  · exact absurd h q
theorem Str.opU {H : HP} {a : Addr} {cs : List Int32} (S : Str Z H a cs) (h : ¬ Lat cs) : Exa Z H.1 a "java/lang/String" ∧ ∃ t, Fld Z H.1 a "java/lang/String" "value" "[B" (.ref t) ∧ Fld Z H.1 a "java/lang/String" "coder" "B" (.int 1) ∧ Ar Z H t .byte (enc16 cs) := by
  obtain ⟨h1, h2, t, h3, h4⟩ := S
  rcases h4 with ⟨q, -⟩ | ⟨-, q⟩
  · exact absurd q h
  · exact ⟨h1, t, h3, q⟩
theorem isC_of {H : HP} {s : Addr} {cs : List Int32} (F : Ar Z H s .char (chs cs)) : ∀ c ∈ cs, isC c := fun c hc => by
  have h := rng_char (F.fits (.int c) (List.mem_map_of_mem hc))
  rw [Int32.lt_iff_toInt_lt, Int32.lt_iff_toInt_lt] at h
  have e1 : (0 : Int32).toInt = 0 := by decide
  have e2 : (65535 : Int32).toInt = 65535 := by decide
  omega
set_option maxRecDepth 65536 in
theorem c_sI4L (G : Glb Z a0) {x s : Addr} {cs : List Int32} (F : Ar Z H s .char (chs cs)) (hn : cs.length ≤ 3) (h0 : cs ≠ []) (hla : Lat cs) (E : Exa Z H.1 x "java/lang/String") (V : Fld Z H.1 x "java/lang/String" "value" "[B" .null) (C : Fld Z H.1 x "java/lang/String" "coder" "B" (.int 0)) (o : H.2 x) :
    Ct l Z EL0 (⟨"java/lang/String", "<init>", "([CIILjava/lang/Void;)V"⟩ : MethodName) jdk_42_method_149_code 6 (none) ({ frames := 2, cells := 4, slots := 12, locals := 35 } : Room) [] [.ref x, .ref s, .int 0, .int cs.length.toInt32, .null] H (fun v H' => v = none ∧ Kp H H' [x] ∧ Str Z H' x cs) := by
  refine Ct.in G (by first | exact plainFor_of_name (by simp [plainName, overriddenIn]; done) | decide +kernel) (ls := [.val (.ref x), .val (.ref s), .val (.int 0), .val (.int cs.length.toInt32), .val .null, .unset]) rfl rfl fun D A0 => ?_
  have hn31 : cs.length < 2 ^ 31 := by omega
  obtain ⟨cz, hcz, cS⟩ := G_compact G
  have A1 := A0.run [(0, .aload_n 0, 1, 0)] (pe := 1) (by decide +kernel) rfl
  have A2 := A1.initO (wd_19 G) (wd_20 G) (wd_21 G) (by decide +kernel) (Wd := 0) (by decide) (Nat.le_of_ble_eq_true rfl) (by decide)
  have A3 := A2.run [(4, .iload_n 3, 5, 0)] (pe := 5) (by decide +kernel) rfl
  have A4 := A3.ifT (cd := .ne) (o := 22) (by decide +kernel) (by show ¬ _ = _; exact fun e => h0 (List.length_eq_zero_iff.mp ((n32_inj (j := 0) hn31 (by decide)).mp e))) (pe := 27) (by decide)
  have A5 := A4.getS (wd_4 G) cS (by decide +kernel)
  have A6 := A5.ifF (cd := .eq) (o := 28) (by decide +kernel) hcz
  have A7 := A6.run [(33, .aload_n 1, 34, 0), (34, .iload_n 2, 35, 0), (35, .iload_n 3, 36, 0)] (pe := 36) (by decide +kernel) rfl
  obtain ⟨_, HA8, qA8, A8, moA8, szA8⟩ := A7.callS (argsL := [.ref s, .int 0, .int cs.length.toInt32]) (wd_255 G) (wd_256 G) (wd_257 G) (wd_258 G) (c_cmp3 G F hn hla) (by decide) ⟨_, _, (by decide +kernel : parseMethodDescriptor "([CII)[B" = some ⟨[(.array .char), .int, .int], some (.array .byte)⟩), rfl⟩ (by decide +kernel) (Wd := 0) (by decide) (Nat.le_of_ble_eq_true rfl) (by decide) (by decide) (by decide)
  obtain ⟨t, rfl, hge, K1, T1, o1⟩ := qA8
  have A9 := A8.run [(39, .astore 5, 41, 0), (41, .aload_n 0, 42, 0), (42, .aload 5, 44, 0), (44, .iload_n 3, 45, 0)] (pe := 45) (by decide +kernel) rfl
  obtain ⟨_, HA10, qA10, A10, moA10, szA10⟩ := A9.callS (argsL := [.ref t, .int cs.length.toInt32]) (wd_262 G) (wd_263 G) (wd_257 G) (wd_264 G) (c_cfa G T1 (by simp)) (by decide) ⟨_, _, (by decide +kernel : parseMethodDescriptor "([BI)B" = some ⟨[(.array .byte), .int], some .byte⟩), rfl⟩ (by decide +kernel) (Wd := 1) (by decide) (Nat.le_of_ble_eq_true rfl) (by decide) (by decide) (by decide)
  obtain ⟨rfl, rfl⟩ := qA10
  obtain ⟨H2, A11, K2, W2⟩ := A10.putFin (wd_24 G) (C.ky K1) (E.ky K1) (wd_25 G) rfl rfl (wd_10 G) (K1.2 _ o) (by decide +kernel) (ty := .byte) (by decide) rfl rfl
  have A12 := A11.run [(51, .aload_n 0, 52, 0), (52, .aload 5, 54, 0)] (pe := 54) (by decide +kernel) rfl
  have V2 := (V.ky K1).other W2 (Or.inr (slot_ne (Or.inr (wd_23 G)) (Or.inr (wd_25 G)) (by decide) (t := .array .byte) (by decide) (t' := .byte) (by decide)))
  obtain ⟨H3, A13, K3, W3⟩ := A12.putFin (wd_22 G) V2 ((E.ky K1).ky K2) (wd_23 G) rfl rfl (wd_10 G) (K2.2 _ (K1.2 _ o)) (by decide +kernel) (ty := .array .byte) (by decide) rfl rfl
  have A14 := A13.ret (by decide +kernel)
  have hxt : t ≠ x := Nat.ne_of_gt (Nat.lt_of_lt_of_le E.lt hge)
  have C3 := ((C.ky K1).same W2).other W3 (Or.inr (slot_ne (Or.inr (wd_25 G)) (Or.inr (wd_23 G)) (by decide) (t := .byte) (by decide) (t' := .array .byte) (by decide)))
  refine ⟨_, _, _, _, A14, ⟨rfl, (K1.wide fun x hx => nomatch hx).trans (K2.trans K3 fun x hx => Or.inl hx) fun x hx => Or.inl hx, (((E.ky K1).ky K2).ky K3), isC_of F, t, V2.same W3, Or.inl ⟨hla, C3, (T1.ky K2 (by simpa using hxt)).ky K3 (by simpa using hxt)⟩⟩, by decide, by decide⟩
theorem c_sI1 (G : Glb Z a0) {x s : Addr} {cs : List Int32} (F : Ar Z H s .char (chs cs)) (M : Ct l Z EL0 (⟨"java/lang/String", "<init>", "([CIILjava/lang/Void;)V"⟩ : MethodName) jdk_42_method_149_code 6 (none) ({ frames := 2, cells := 4, slots := 12, locals := 35 } : Room) [] [.ref x, .ref s, .int 0, .int cs.length.toInt32, .null] H (fun v H' => v = none ∧ Kp H H' [x] ∧ Str Z H' x cs)) :
    Ct l Z EL0 (⟨"java/lang/String", "<init>", "([C)V"⟩ : MethodName) jdk_42_method_3_code 2 (none) ({ frames := 3, cells := 4, slots := 12, locals := 52 } : Room) [] [.ref x, .ref s] H (fun v H' => v = none ∧ Kp H H' [x] ∧ Str Z H' x cs) := by
  refine Ct.in G (by first | exact plainFor_of_name (by simp [plainName, overriddenIn]; done) | decide +kernel) (ls := [.val (.ref x), .val (.ref s)]) rfl rfl fun D A0 => ?_
  have A1 := A0.run [(0, .aload_n 0, 1, 0), (1, .aload_n 1, 2, 0), (2, .iconst 0, 3, 0), (3, .aload_n 1, 4, 0)] (pe := 4) (by decide +kernel) rfl
  have A2 := A1.alen F (by decide +kernel) (z := cs.length.toInt32) (by simp)
  have A3 := A2.run [(5, .aconst_null, 6, 0)] (pe := 6) (by decide +kernel) rfl
  obtain ⟨_, HA4, qA4, A4, moA4, szA4⟩ := A3.callI (argsL := [.ref s, .int 0, .int cs.length.toInt32, .null]) rfl (wd_251 G) (wd_252 G) (wd_2 G) (wd_253 G) (M) (by decide) ⟨_, _, (by decide +kernel : parseMethodDescriptor "([CIILjava/lang/Void;)V" = some ⟨[(.array .char), .int, .int, (.object "java/lang/Void")], none⟩), rfl⟩ (by decide +kernel) (Wd := 0) (by decide) (Nat.le_of_ble_eq_true rfl) (by decide) (by decide) (by decide)
  obtain ⟨rfl, K1, S1⟩ := qA4
  have A5 := A4.ret (by decide +kernel)
  exact ⟨_, _, _, _, A5, ⟨rfl, K1, S1⟩, by decide, by decide⟩
end JStr

section JEmpty
variable {l : Launch} {Z : State} {a0 : Array Value} {D : Dyn} {H : HP}
set_option maxRecDepth 65536 in
theorem c_sI4E (G : Glb Z a0) {x s : Addr} (E : Exa Z H.1 x "java/lang/String") (V : Fld Z H.1 x "java/lang/String" "value" "[B" .null) (C : Fld Z H.1 x "java/lang/String" "coder" "B" (.int 0)) (o : H.2 x) :
    Ct l Z EL0 (⟨"java/lang/String", "<init>", "([CIILjava/lang/Void;)V"⟩ : MethodName) jdk_42_method_149_code 6 (none) ({ frames := 2, cells := 4, slots := 12, locals := 35 } : Room) [] [.ref x, .ref s, .int 0, .int 0, .null] H (fun v H' => v = none ∧ Kp H H' [x] ∧ Str Z H' x []) := by
  refine Ct.in G (by first | exact plainFor_of_name (by simp [plainName, overriddenIn]; done) | decide +kernel) (ls := [.val (.ref x), .val (.ref s), .val (.int 0), .val (.int 0), .val .null, .unset]) rfl rfl fun D A0 => ?_
  have A1 := A0.run [(0, .aload_n 0, 1, 0)] (pe := 1) (by decide +kernel) rfl
  have A2 := A1.initO (wd_19 G) (wd_20 G) (wd_21 G) (by decide +kernel) (Wd := 0) (by decide) (Nat.le_of_ble_eq_true rfl) (by decide)
  have A3 := A2.run [(4, .iload_n 3, 5, 0)] (pe := 5) (by decide +kernel) rfl
  have A4 := A3.ifF (cd := .ne) (o := 22) (by decide +kernel) (by show ¬ ¬ _ = _; decide)
  have A5 := A4.run [(8, .aload_n 0, 9, 0)] (pe := 9) (by decide +kernel) rfl
  obtain ⟨a1, b1, H1, A6, K1, E1, C1, V1, T1, n1⟩ := A5.ldcS (wd_254 G) (by decide +kernel) (vs := []) ⟨by decide +kernel, rfl⟩ (by decide +kernel) (z := 0) (by decide) rfl (q := 0) (by decide +kernel) (by decide) (by decide) (by decide)
  have A7 := A6.getF (wd_22 G) V1 (by decide +kernel)
  obtain ⟨H2, A8, K2, W2⟩ := A7.putFin (wd_22 G) (V.ky K1) (E.ky K1) (wd_23 G) rfl rfl (wd_10 G) (K1.2 _ o) (by decide +kernel) (ty := .array .byte) (by decide) rfl rfl
  have A9 := A8.run [(17, .aload_n 0, 18, 0)] (pe := 18) (by decide +kernel) rfl
  obtain ⟨a3, b3, H3, A10, K3, E3, C3, V3, T3, n3⟩ := A9.ldcS (wd_254 G) (by decide +kernel) (vs := []) ⟨by decide +kernel, rfl⟩ (by decide +kernel) (z := 0) (by decide) rfl (q := 0) (by decide +kernel) (by decide) (by decide) (by decide)
  have A11 := A10.getF (wd_24 G) C3 (by decide +kernel)
  have sne := slot_ne (Z := Z) (Or.inr (wd_25 G)) (Or.inr (wd_23 G)) (by decide) (t := .byte) (by decide) (t' := .array .byte) (by decide)
  have C4 := (((C.ky K1).other W2 (Or.inr sne)).ky K3)
  have o3 := K3.2 _ (K2.2 _ (K1.2 _ o))
  obtain ⟨H4, A12, K4, W4⟩ := A11.putFin (wd_24 G) C4 (((E.ky K1).ky K2).ky K3) (wd_25 G) rfl rfl (wd_10 G) o3 (by decide +kernel) (ty := .byte) (by decide) rfl rfl
  have hb : b1 ≠ x := (n1 x (K1.2 _ o)).2.symm
  refine ⟨_, _, _, _, A12.ret (by decide +kernel), ⟨rfl, ?_, ((((E.ky K1).ky K2).ky K3).ky K4), (fun c hc => nomatch hc), b1, ((((V.ky K1).same W2).ky K3).other W4 (Or.inr (Ne.symm sne))), Or.inl ⟨(fun c hc => nomatch hc), C4.same W4, (((T1.ky K2 (by simpa using hb)).ky K3).ky K4 (by simpa using hb))⟩⟩, by decide, by decide⟩
  exact (((K1.wide fun x hx => nomatch hx).trans K2 fun x hx => Or.inl hx).trans K3 fun x hx => nomatch hx).trans K4 fun x hx => Or.inl hx
end JEmpty

theorem b8_back {c : Int32} (h : isC c) (h2 : ¬ (255 : Int32) < c) : (b8 c &&& 255).toUInt32.toUInt16.toUInt32.toInt32 = c := by
  rw [i2c_mask]
  apply Int32.toInt_inj.mp
  rw [c_mask _ 255 8 (by decide) (by decide)]
  have h3 := c_i2b c
  show (b8 c).toInt % _ = _
  simp only [b8] at *
  rw [Int32.lt_iff_toInt_lt, show (255 : Int32).toInt = 255 by decide] at h2
  omega
theorem b8_back' {c : Int32} (h : isC c) (h2 : ¬ (255 : Int32) < c) : b8 c &&& 255 = c := by rw [← i2c_mask]; exact b8_back h h2
theorem isC_nar {c : Int32} (h : isC c) : nar .char c = c := by
  apply Int32.toInt_inj.mp
  have := c_i2c c
  show (c.toUInt32.toUInt16.toUInt32.toInt32).toInt = _
  omega
theorem okc_mask (i : Int32) : isC (i &&& 255) ∧ ¬ (255 : Int32) < i &&& 255 := by
  have h := c_and i 255 (by decide)
  have e : (255 : Int32).toInt = 255 := by decide
  rw [Int32.lt_iff_toInt_lt]
  simp only [isC]; omega
theorem okc_i2c (i : Int32) : (i &&& 255).toUInt32.toUInt16.toUInt32.toInt32 = i &&& 255 := i2c_mask i
theorem lat1 {a : Int32} (ha : ¬ (255 : Int32) < a) : Lat [a] := fun e he => by simp at he; subst he; exact ha
theorem latC {a : Int32} {cs : List Int32} (ha : ¬ (255 : Int32) < a) (h : Lat cs) : Lat (a :: cs) := fun e he => by
  rcases List.mem_cons.mp he with rfl | he
  · exact ha
  · exact h e he
theorem lat2 {a b : Int32} (ha : ¬ (255 : Int32) < a) (hb : ¬ (255 : Int32) < b) : Lat [a, b] := latC ha (lat1 hb)
theorem lat3 {a b c : Int32} (ha : ¬ (255 : Int32) < a) (hb : ¬ (255 : Int32) < b) (hc : ¬ (255 : Int32) < c) : Lat [a, b, c] := latC ha (lat2 hb hc)

/-! longs -/
theorem n64_toInt {i : Nat} (h : i < 2 ^ 63) : (i.toInt64).toInt = i := by simp [Nat.toInt64, Int64.toInt_ofNat_of_lt h]
theorem n64_inj {i j : Nat} (hi : i < 2 ^ 63) (hj : j < 2 ^ 63) : i.toInt64 = j.toInt64 ↔ i = j := by
  constructor
  · intro h; have := congrArg Int64.toInt h; rw [n64_toInt hi, n64_toInt hj] at this; omega
  · rintro rfl; rfl
theorem n64_add (i j : Nat) : i.toInt64 + j.toInt64 = (i + j).toInt64 := by
  show Int64.ofNat i + Int64.ofNat j = Int64.ofNat (i + j)
  rw [Int64.ofNat_add]
theorem n64_mul (i j : Nat) : i.toInt64 * j.toInt64 = (i * j).toInt64 := by
  show Int64.ofNat i * Int64.ofNat j = Int64.ofNat (i * j)
  rw [Int64.ofNat_mul]
theorem n64_div {i j : Nat} (hi : i < 2 ^ 63) (hj : j < 2 ^ 63) : i.toInt64 / j.toInt64 = (i / j).toInt64 := by
  have q : i / j < 2 ^ 63 := Nat.lt_of_le_of_lt (Nat.div_le_self _ _) hi
  apply Int64.toInt_inj.mp
  have h1 : j.toInt64 ≠ -1 := fun e => by have := congrArg Int64.toInt e; rw [n64_toInt hj, show (-1 : Int64).toInt = -1 by decide] at this; omega
  rw [(c_ldiv i.toInt64 j.toInt64 j (n64_toInt hj) h1).1 (by rw [n64_toInt hi]; omega), n64_toInt hi, n64_toInt q]
  rfl
theorem n64_mod {i j : Nat} (hi : i < 2 ^ 63) (hj : j < 2 ^ 63) : i.toInt64 % j.toInt64 = (i % j).toInt64 := by
  have q : i % j < 2 ^ 63 := Nat.lt_of_le_of_lt (Nat.mod_le _ _) hi
  apply Int64.toInt_inj.mp
  have h := (c_lrem i.toInt64 j.toInt64 j (n64_toInt hj)).1 (by rw [n64_toInt hi]; omega)
  rw [lrem_mod] at h
  rw [h, n64_toInt hi, n64_toInt q]
  rfl
theorem n64_32 (i : Nat) : i.toInt64.toInt32 = i.toInt32 := by
  apply Int32.toInt_inj.mp
  rw [Int64.toInt_toInt32]
  simp only [Nat.toInt64, Nat.toInt32, Int64.toInt_ofNat', Int32.toInt_ofNat']
  exact Int.bmod_bmod_of_dvd (by decide)
theorem n32_64 {i : Nat} (h : i < 2 ^ 31) : i.toInt32.toInt64 = i.toInt64 := by
  apply Int64.toInt_inj.mp
  rw [c_i2l, n32_toInt h, n64_toInt (by omega)]
theorem n32_sub {i j : Nat} (h : j ≤ i) : i.toInt32 - j.toInt32 = (i - j).toInt32 := by
  have e : i.toInt32 = (i - j).toInt32 + j.toInt32 := by rw [n32_add]; congr 1; omega
  rw [e, Int32.add_sub_cancel]
theorem n32_c {i : Nat} (h : i < 65536) : isC i.toInt32 := by
  have := n32_toInt (i := i) (by omega)
  simp only [isC]; omega
theorem n32_i2c {i : Nat} (h : i < 65536) : i.toInt32.toUInt32.toUInt16.toUInt32.toInt32 = i.toInt32 := isC_nar (n32_c h)
theorem cmp_same (x : Int64) : XT.cmpL x x = 0 := by simp [XT.cmpL]


section JLen
variable {l : Launch} {Z : State} {a0 : Array Value} {D : Dyn} {H : HP}
theorem enc16_len : ∀ cs : List Int32, (enc16 cs).length = 2 * cs.length
  | [] => rfl
  | c :: r => by have := enc16_len r; simp only [enc16, List.flatMap_cons, List.length_append] at this ⊢; simp [e16]; simp at this; omega
theorem c_sCod (G : Glb Z a0) {a : Addr} {b : Int32} (F : Fld Z H.1 a "java/lang/String" "coder" "B" (.int b)) (hb : b = 0 ∨ b = 1) :
    Ct l Z EL0 (⟨"java/lang/String", "coder", "()B"⟩ : MethodName) jdk_42_method_152_code 1 ((some .byte)) ({ frames := 0, cells := 0, slots := 0, locals := 0 } : Room) [] [.ref a] H (fun v H' => v = some (.int b) ∧ H = H') := by
  refine Ct.in G (by first | exact plainFor_of_name (by simp [plainName, overriddenIn]; done) | decide +kernel) (ls := [.val (.ref a)]) rfl rfl fun D A0 => ?_
  obtain ⟨cz, hcz, cS⟩ := G_compact G
  have A1 := A0.getS (wd_4 G) cS (by decide +kernel)
  have A2 := A1.ifF (cd := .eq) (o := 10) (by decide +kernel) hcz
  have A3 := A2.run [(6, .aload_n 0, 7, 0)] (pe := 7) (by decide +kernel) rfl
  have A4 := A3.getF (wd_24 G) F (by decide +kernel)
  have A5 := A4.run [(10, .goto 4, 14, 0)] (pe := 14) (by decide +kernel) rfl
  exact ⟨_, _, _, _, A5.retB (by decide +kernel) (x2 := b) (by rcases hb with rfl | rfl <;> decide), ⟨rfl, rfl⟩, by decide, by decide⟩
theorem n32_shr1 {n : Nat} (h : 2 * n < 2 ^ 31) : (2 * n).toInt32 >>> ((1 : Int32) &&& 31) = n.toInt32 := by
  apply Int32.toInt_inj.mp
  rw [c_ishr _ 1 1 (by decide), n32_toInt h, n32_toInt (by omega)]
  omega
theorem n32_shr0 (x : Int32) : x >>> ((0 : Int32) &&& 31) = x := by
  apply Int32.toInt_inj.mp
  rw [c_ishr _ 0 0 (by decide)]; simp
theorem c_sLen (G : Glb Z a0) {a : Addr} {cs : List Int32} (S : Str Z H a cs) :
    Ct l Z EL0 (⟨"java/lang/String", "length", "()I"⟩ : MethodName) jdk_42_method_54_code 1 ((some .int)) ({ frames := 1, cells := 0, slots := 0, locals := 13 } : Room) [] [.ref a] H (fun v H' => v = some (.int cs.length.toInt32) ∧ H = H') := by
  refine Ct.in G (by first | exact plainFor_of_name (by simp [plainName, overriddenIn]; done) | decide +kernel) (ls := [.val (.ref a)]) rfl rfl fun D A0 => ?_
  obtain ⟨E, hC, t, F, q⟩ := S
  have A1 := A0.run [(0, .aload_n 0, 1, 0)] (pe := 1) (by decide +kernel) rfl
  have A2 := A1.getF (wd_22 G) F (by decide +kernel)
  rcases q with ⟨-, C, T⟩ | ⟨-, C, T⟩
  · have A3 := A2.alen T (by decide +kernel) (z := cs.length.toInt32) (by simp)
    have A4 := A3.run [(5, .aload_n 0, 6, 0)] (pe := 6) (by decide +kernel) rfl
    obtain ⟨_, HA5, qA5, A5, moA5, szA5⟩ := A4.callV (argsL := []) (wd_78 G) (wd_79 G) (wd_81 G) rfl (wd_81 G) (wd_80 G) (wd_2 G) (wd_82 G) E (c_sCod G C (Or.inl rfl)) (by decide) ⟨_, _, (by decide +kernel : parseMethodDescriptor "()B" = some ⟨[], some .byte⟩), rfl⟩ (by decide +kernel) (Wd := 1) (by decide) (Nat.le_of_ble_eq_true rfl) (by decide) (by decide) (by decide)
    obtain ⟨rfl, rfl⟩ := qA5
    have A6 := A5.run [(9, .ishr, 10, 0)] (pe := 10) (by decide +kernel) rfl
    rw [n32_shr0] at A6
    exact ⟨_, _, _, _, A6.retI (by decide +kernel), ⟨rfl, rfl⟩, by decide, by decide⟩
  · have A3 := A2.alen T (by decide +kernel) (z := (2 * cs.length).toInt32) (by rw [enc16_len])
    have A4 := A3.run [(5, .aload_n 0, 6, 0)] (pe := 6) (by decide +kernel) rfl
    obtain ⟨_, HA5, qA5, A5, moA5, szA5⟩ := A4.callV (argsL := []) (wd_78 G) (wd_79 G) (wd_81 G) rfl (wd_81 G) (wd_80 G) (wd_2 G) (wd_82 G) E (c_sCod G C (Or.inr rfl)) (by decide) ⟨_, _, (by decide +kernel : parseMethodDescriptor "()B" = some ⟨[], some .byte⟩), rfl⟩ (by decide +kernel) (Wd := 1) (by decide) (Nat.le_of_ble_eq_true rfl) (by decide) (by decide) (by decide)
    obtain ⟨rfl, rfl⟩ := qA5
    have A6 := A5.run [(9, .ishr, 10, 0)] (pe := 10) (by decide +kernel) rfl
    rw [n32_shr1 (by rw [← enc16_len]; exact T.len)] at A6
    exact ⟨_, _, _, _, A6.retI (by decide +kernel), ⟨rfl, rfl⟩, by decide, by decide⟩
end JLen


section JCh
variable {l : Launch} {Z : State} {a0 : Array Value} {D : Dyn} {H : HP}
theorem G_fmt {Z : State} {a0 : Array Value} (G : Glb Z a0) : ∃ x : Value, x.isRef = true ∧ Sta Z Z.heap "jdk/internal/util/Preconditions" "SIOOBE_FORMATTER" "Ljava/util/function/BiFunction;" x := by
  obtain ⟨x, e, r⟩ := isR_v (Cond.before_iff.mp (G.2.1 _ (List.mem_of_getElem? (i := 8) rfl)))
  exact ⟨x, r, Sta.start e (Or.inl (G.2.1 _ (List.mem_of_getElem? (i := 7) rfl)))⟩
theorem c_isL (G : Glb Z a0) {a : Addr} {b : Int32} (F : Fld Z H.1 a "java/lang/String" "coder" "B" (.int b)) (r : Int32) (hb : b = 0 ∧ r = 1 ∨ b = 1 ∧ r = 0) :
    Ct l Z EL0 (⟨"java/lang/String", "isLatin1", "()Z"⟩ : MethodName) jdk_42_method_154_code 1 ((some .boolean)) ({ frames := 0, cells := 0, slots := 0, locals := 0 } : Room) [] [.ref a] H (fun v H' => v = some (.int r) ∧ H = H') := by
  refine Ct.in G (by first | exact plainFor_of_name (by simp [plainName, overriddenIn]; done) | decide +kernel) (ls := [.val (.ref a)]) rfl rfl fun D A0 => ?_
  obtain ⟨cz, hcz, cS⟩ := G_compact G
  have A1 := A0.getS (wd_4 G) cS (by decide +kernel)
  have A2 := A1.ifF (cd := .eq) (o := 14) (by decide +kernel) hcz
  have A3 := A2.run [(6, .aload_n 0, 7, 0)] (pe := 7) (by decide +kernel) rfl
  have A4 := A3.getF (wd_24 G) F (by decide +kernel)
  rcases hb with ⟨rfl, rfl⟩ | ⟨rfl, rfl⟩
  · have A5 := A4.ifF (cd := .ne) (o := 7) (by decide +kernel) (by show ¬ ¬ _ = _; decide)
    have A6 := A5.run [(13, .iconst 1, 14, 1), (14, .goto 4, 18, 0)] (pe := 18) (by decide +kernel) rfl
    exact ⟨_, _, _, _, A6.retZ (by decide +kernel) rfl, ⟨rfl, rfl⟩, by decide, by decide⟩
  · have A5 := A4.ifT (cd := .ne) (o := 7) (by decide +kernel) (by show ¬ _ = _; decide) (pe := 17) (by decide)
    have A6 := A5.run [(17, .iconst 0, 18, 0)] (pe := 18) (by decide +kernel) rfl
    exact ⟨_, _, _, _, A6.retZ (by decide +kernel) rfl, ⟨rfl, rfl⟩, by decide, by decide⟩
theorem c_pci (G : Glb Z a0) {i n : Nat} {f : Value} (hf : f.isRef = true) (hi : i < n) (hn : n < 2 ^ 31) :
    Ct l Z EL0 (⟨"jdk/internal/util/Preconditions", "checkIndex", "(IILjava/util/function/BiFunction;)I"⟩ : MethodName) jdk_41_method_11_code 3 ((some .int)) ({ frames := 0, cells := 0, slots := 0, locals := 0 } : Room) [] [.int i.toInt32, .int n.toInt32, f] H (fun v H' => v = some (.int i.toInt32) ∧ H = H') := by
  have key : ∀ s : Slot, locsOf [.int i.toInt32, .int n.toInt32, f] 3 = [.val (.int i.toInt32), .val (.int n.toInt32), s] → Ct l Z EL0 (⟨"jdk/internal/util/Preconditions", "checkIndex", "(IILjava/util/function/BiFunction;)I"⟩ : MethodName) jdk_41_method_11_code 3 ((some .int)) ({ frames := 0, cells := 0, slots := 0, locals := 0 } : Room) [] [.int i.toInt32, .int n.toInt32, f] H (fun v H' => v = some (.int i.toInt32) ∧ H = H') := by
    intro s hs
    refine Ct.in G (by first | exact plainFor_of_name (by simp [plainName, overriddenIn]; done) | decide +kernel) (ls := [.val (.int i.toInt32), .val (.int n.toInt32), s]) hs rfl fun D A0 => ?_
    have A1 := A0.run [(0, .iload_n 0, 1, 0)] (pe := 1) (by decide +kernel) rfl
    have A2 := A1.ifF (cd := .lt) (o := 8) (by decide +kernel) (nonneg_nat (by omega))
    have A3 := A2.run [(4, .iload_n 0, 5, 0), (5, .iload_n 1, 6, 0)] (pe := 6) (by decide +kernel) rfl
    have A4 := A3.icT (cd := .lt) (o := 10) (by decide +kernel) ((n32_lt (by omega) hn).mpr hi) (pe := 16) (by decide)
    have A5 := A4.run [(16, .iload_n 0, 17, 0)] (pe := 17) (by decide +kernel) rfl
    exact ⟨_, _, _, _, A5.retI (by decide +kernel), ⟨rfl, rfl⟩, by decide, by decide⟩
  rcases ref_cases hf with rfl | ⟨x, rfl⟩ <;> exact key _ rfl
theorem c_sci (G : Glb Z a0) {i n : Nat} (hi : i < n) (hn : n < 2 ^ 31) :
    Ct l Z EL0 (⟨"java/lang/String", "checkIndex", "(II)V"⟩ : MethodName) jdk_42_method_155_code 2 (none) ({ frames := 1, cells := 0, slots := 0, locals := 14 } : Room) [] [.int i.toInt32, .int n.toInt32] H (fun v H' => v = none ∧ H = H') := by
  refine Ct.in G (by first | exact plainFor_of_name (by simp [plainName, overriddenIn]; done) | decide +kernel) (ls := [.val (.int i.toInt32), .val (.int n.toInt32)]) rfl rfl fun D A0 => ?_
  obtain ⟨f, hf, fS⟩ := G_fmt G
  have A1 := A0.run [(0, .iload_n 0, 1, 0), (1, .iload_n 1, 2, 0)] (pe := 2) (by decide +kernel) rfl
  have A2 := A1.getS (wd_232 G) fS (by decide +kernel)
  obtain ⟨_, HA3, qA3, A3, moA3, szA3⟩ := A2.callS (argsL := [.int i.toInt32, .int n.toInt32, f]) (wd_234 G) (wd_235 G) (wd_233 G) (wd_236 G) (c_pci G hf hi hn) (by decide) ⟨_, _, (by decide +kernel : parseMethodDescriptor "(IILjava/util/function/BiFunction;)I" = some ⟨[.int, .int, (.object "java/util/function/BiFunction")], some .int⟩), rfl⟩ (by decide +kernel) (Wd := 0) (by decide) (Nat.le_of_ble_eq_true rfl) (by decide) (by decide) (by decide)
  obtain ⟨rfl, rfl⟩ := qA3
  have A4 := A3.run [(8, .pop, 9, 0)] (pe := 9) (by decide +kernel) rfl
  exact ⟨_, _, _, _, A4.ret (by decide +kernel), ⟨rfl, rfl⟩, by decide, by decide⟩
end JCh


section JCh1
variable {l : Launch} {Z : State} {a0 : Array Value} {D : Dyn} {H : HP}
theorem c_lch (G : Glb Z a0) {t : Addr} {cs : List Int32} {i : Nat} {c : Int32} (T : Ar Z H t .byte (lo8 cs)) (hla : Lat cs) (hC : ∀ c ∈ cs, isC c) (hc : cs[i]? = some c) :
    Ct l Z EL0 (⟨"java/lang/StringLatin1", "charAt", "([BI)C"⟩ : MethodName) jdk_43_method_2_code 2 ((some .char)) ({ frames := 2, cells := 0, slots := 0, locals := 27 } : Room) [] [.ref t, .int i.toInt32] H (fun v H' => v = some (.int c) ∧ H = H') := by
  refine Ct.in G (by first | exact plainFor_of_name (by simp [plainName, overriddenIn]; done) | decide +kernel) (ls := [.val (.ref t), .val (.int i.toInt32)]) rfl rfl fun D A0 => ?_
  have hi : i < cs.length := (List.getElem?_eq_some_iff.mp hc).1
  have hm : c ∈ cs := List.mem_of_getElem? hc
  have hn : cs.length < 2 ^ 31 := by simpa using T.len
  have A1 := A0.run [(0, .iload_n 1, 1, 0), (1, .aload_n 0, 2, 0)] (pe := 2) (by decide +kernel) rfl
  have A2 := A1.alen T (by decide +kernel) (z := cs.length.toInt32) (by simp)
  obtain ⟨_, HA3, qA3, A3, moA3, szA3⟩ := A2.callS (argsL := [.int i.toInt32, .int cs.length.toInt32]) (wd_229 G) (wd_230 G) (wd_2 G) (wd_231 G) (c_sci G hi hn) (by decide) ⟨_, _, (by decide +kernel : parseMethodDescriptor "(II)V" = some ⟨[.int, .int], none⟩), rfl⟩ (by decide +kernel) (Wd := 0) (by decide) (Nat.le_of_ble_eq_true rfl) (by decide) (by decide) (by decide)
  obtain ⟨rfl, rfl⟩ := qA3
  have A4 := A3.run [(6, .aload_n 0, 7, 0), (7, .iload_n 1, 8, 0)] (pe := 8) (by decide +kernel) rfl
  have A5 := A4.baload T (by decide +kernel) rfl (v := .int (b8 c)) (by simp [hc])
  have A6 := A5.run [(9, .sipush 255, 12, 255), (12, .iand, 13, 0), (13, .i2c, 14, 0)] (pe := 14) (by decide +kernel) rfl
  rw [b8_back (hC c hm) (hla c hm)] at A6
  exact ⟨_, _, _, _, A6.retC (by decide +kernel) (isC_nar (hC c hm)), ⟨rfl, rfl⟩, by decide, by decide⟩
theorem c_schL (G : Glb Z a0) {a : Addr} {cs : List Int32} {i : Nat} {c : Int32} (S : Str Z H a cs) (hla : Lat cs) (hc : cs[i]? = some c) :
    Ct l Z EL0 (⟨"java/lang/String", "charAt", "(I)C"⟩ : MethodName) jdk_42_method_56_code 2 ((some .char)) ({ frames := 3, cells := 0, slots := 0, locals := 40 } : Room) [] [.ref a, .int i.toInt32] H (fun v H' => v = some (.int c) ∧ H = H') := by
  refine Ct.in G (by first | exact plainFor_of_name (by simp [plainName, overriddenIn]; done) | decide +kernel) (ls := [.val (.ref a), .val (.int i.toInt32)]) rfl rfl fun D A0 => ?_
  have hC := S.2.1
  obtain ⟨E, t, F, C, T⟩ := S.opL hla
  have A1 := A0.run [(0, .aload_n 0, 1, 0)] (pe := 1) (by decide +kernel) rfl
  obtain ⟨_, HA2, qA2, A2, moA2, szA2⟩ := A1.callV (argsL := []) (wd_221 G) (wd_222 G) (wd_224 G) rfl (wd_224 G) (wd_223 G) (wd_2 G) (wd_225 G) E (c_isL G C 1 (Or.inl ⟨rfl, rfl⟩)) (by decide) ⟨_, _, (by decide +kernel : parseMethodDescriptor "()Z" = some ⟨[], some .boolean⟩), rfl⟩ (by decide +kernel) (Wd := 0) (by decide) (Nat.le_of_ble_eq_true rfl) (by decide) (by decide) (by decide)
  obtain ⟨rfl, rfl⟩ := qA2
  have A3 := A2.ifF (cd := .eq) (o := 12) (by decide +kernel) (by show ¬ _ = _; decide)
  have A4 := A3.run [(7, .aload_n 0, 8, 0)] (pe := 8) (by decide +kernel) rfl
  have A5 := A4.getF (wd_22 G) F (by decide +kernel)
  have A6 := A5.run [(11, .iload_n 1, 12, 0)] (pe := 12) (by decide +kernel) rfl
  obtain ⟨_, HA7, qA7, A7, moA7, szA7⟩ := A6.callS (argsL := [.ref t, .int i.toInt32]) (wd_226 G) (wd_227 G) (wd_7 G) (wd_228 G) (c_lch G T hla hC hc) (by decide) ⟨_, _, (by decide +kernel : parseMethodDescriptor "([BI)C" = some ⟨[(.array .byte), .int], some .char⟩), rfl⟩ (by decide +kernel) (Wd := 0) (by decide) (Nat.le_of_ble_eq_true rfl) (by decide) (by decide) (by decide)
  obtain ⟨rfl, rfl⟩ := qA7
  exact ⟨_, _, _, _, A7.retC (by decide +kernel) (isC_nar (hC c (List.mem_of_getElem? hc))), ⟨rfl, rfl⟩, by decide, by decide⟩
end JCh1

abbrev bit (p : Prop) [Decidable p] : Int32 := if p then 1 else 0
theorem bit_isB (p : Prop) [Decidable p] : nar .boolean (bit p) = bit p := by by_cases h : p <;> simp [bit, h, nar]


section JVof
variable {l : Launch} {Z : State} {a0 : Array Value} {D : Dyn} {H : HP}
theorem c_can (G : Glb Z a0) {c : Int32} (h : ¬ (255 : Int32) < c) : Ct l Z EL0 (⟨"java/lang/StringLatin1", "canEncode", "(C)Z"⟩ : MethodName) jdk_43_method_3_code 1 ((some .boolean)) ({ frames := 0, cells := 0, slots := 0, locals := 0 } : Room) [] [.int c] H (fun v H' => v = some (.int 1) ∧ H = H') := by
  refine Ct.in G (by first | exact plainFor_of_name (by simp [plainName, overriddenIn]; done) | decide +kernel) (ls := [.val (.int c)]) rfl rfl fun D A0 => ?_
  have A1 := A0.run [(0, .iload_n 0, 1, 0), (1, .sipush 255, 4, 255)] (pe := 4) (by decide +kernel) rfl
  have A2 := A1.icF (cd := .gt) (o := 7) (by decide +kernel) h
  have A3 := A2.run [(7, .iconst 1, 8, 1), (8, .goto 4, 12, 0)] (pe := 12) (by decide +kernel) rfl
  exact ⟨_, _, _, _, A3.retZ (by decide +kernel) rfl, ⟨rfl, rfl⟩, by decide, by decide⟩
theorem c_tb1 (G : Glb Z a0) {c : Int32} : Ct l Z EL0 (⟨"java/lang/StringLatin1", "toBytes", "(C)[B"⟩ : MethodName) jdk_43_method_46_code 1 ((some (.array .byte))) ({ frames := 0, cells := 1, slots := 1, locals := 0 } : Room) [] [.int c] H (fun v H' => ∃ t, v = some (.ref t) ∧ H.1.size ≤ t ∧ Kp H H' [] ∧ Ar Z H' t .byte (lo8 [c]) ∧ H'.2 t) := by
  refine Ct.in G (by first | exact plainFor_of_name (by simp [plainName, overriddenIn]; done) | decide +kernel) (ls := [.val (.int c)]) rfl rfl fun D A0 => ?_
  have A1 := A0.run [(0, .iconst 1, 1, 1)] (pe := 1) (by decide +kernel) rfl
  obtain ⟨t, H1, A2, hge, K1, T1, o1⟩ := A1.newA (aty := .byte) (wd_14 G) (by decide +kernel) (N := 1) rfl (cap := 1) (by decide) (by decide) (by decide) (by decide)
  have A3 := A2.run [(3, .dup, 4, 0), (4, .iconst 0, 5, 0), (5, .iload_n 0, 6, 0), (6, .i2b, 7, 0)] (pe := 7) (by decide +kernel) rfl
  obtain ⟨H2, A4, K2, T2⟩ := A3.bastore T1 o1 (by decide +kernel) (i := 0) rfl (by simp) (x2 := b8 c) (by
    have h := c_i2b c
    apply Int32.toInt_inj.mp
    have h2 := c_i2b (c.toInt8.toInt32)
    show (c.toInt8.toInt32.toInt8.toInt32).toInt = (c.toInt8.toInt32).toInt
    omega)
  exact ⟨_, _, _, _, A4.retA (by decide +kernel) rfl rfl, ⟨t, rfl, hge, K1.trans K2 (fun y hy => by cases List.mem_singleton.mp hy; exact Or.inr hge), T2, K2.2 _ o1⟩, by decide, by decide⟩
set_option maxRecDepth 65536 in
theorem c_sIB (G : Glb Z a0) {x t : Addr} {b : Int32} {cs : List Int32} (hC : ∀ c ∈ cs, isC c) (hb : Lat cs ∧ b = 0 ∧ Ar Z H t .byte (lo8 cs) ∨ ¬ Lat cs ∧ b = 1 ∧ Ar Z H t .byte (enc16 cs)) (E : Exa Z H.1 x "java/lang/String") (V : Fld Z H.1 x "java/lang/String" "value" "[B" .null) (C : Fld Z H.1 x "java/lang/String" "coder" "B" (.int 0)) (o : H.2 x) :
    Ct l Z EL0 (⟨"java/lang/String", "<init>", "([BB)V"⟩ : MethodName) jdk_42_method_151_code 3 (none) ({ frames := 1, cells := 0, slots := 0, locals := 12 } : Room) [] [.ref x, .ref t, .int b] H (fun v H' => v = none ∧ Kp H H' [x] ∧ Str Z H' x cs) := by
  refine Ct.in G (by first | exact plainFor_of_name (by simp [plainName, overriddenIn]; done) | decide +kernel) (ls := [.val (.ref x), .val (.ref t), .val (.int b)]) rfl rfl fun D A0 => ?_
  have A1 := A0.run [(0, .aload_n 0, 1, 0)] (pe := 1) (by decide +kernel) rfl
  have A2 := A1.initO (wd_19 G) (wd_20 G) (wd_21 G) (by decide +kernel) (Wd := 0) (by decide) (Nat.le_of_ble_eq_true rfl) (by decide)
  have A3 := A2.run [(4, .aload_n 0, 5, 0), (5, .aload_n 1, 6, 0)] (pe := 6) (by decide +kernel) rfl
  have hb2 : b = 0 ∨ b = 1 := hb.imp (fun q => q.2.1) (fun q => q.2.1)
  obtain ⟨H2, A4, K2, W2⟩ := A3.putFin (wd_22 G) V E (wd_23 G) rfl rfl (wd_10 G) o (by decide +kernel) (ty := .array .byte) (by decide) rfl rfl
  have A5 := A4.run [(9, .aload_n 0, 10, 0), (10, .iload_n 2, 11, 0)] (pe := 11) (by decide +kernel) rfl
  have sne := slot_ne (Z := Z) (Or.inr (wd_25 G)) (Or.inr (wd_23 G)) (by decide) (t := .byte) (by decide) (t' := .array .byte) (by decide)
  have C2 := C.other W2 (Or.inr sne)
  obtain ⟨H3, A6, K3, W3⟩ := A5.putFin (wd_24 G) C2 (E.ky K2) (wd_25 G) rfl rfl (wd_10 G) (K2.2 _ o) (by decide +kernel) (ty := .byte) (by decide) (by rcases hb2 with rfl | rfl <;> decide) (by rcases hb2 with rfl | rfl <;> decide)
  have hA : ∀ {vs : List Value}, Ar Z H t .byte vs → Ar Z H3 t .byte vs := fun {vs} F => by
    have ht : t ∉ [x] := by obtain ⟨c, A, -⟩ := F; simpa using Ne.symm (ne_arr E (wd_10 G) A)
    exact (F.ky K2 ht).ky K3 ht
  refine ⟨_, _, _, _, A6.ret (by decide +kernel), ⟨rfl, K2.trans K3 fun x hx => Or.inl hx, (E.ky K2).ky K3, hC, t, (V.same W2).other W3 (Or.inr (Ne.symm sne)), ?_⟩, by decide, by decide⟩
  rcases hb with ⟨q1, rfl, q3⟩ | ⟨q1, rfl, q3⟩
  · exact Or.inl ⟨q1, C2.same W3, hA q3⟩
  · exact Or.inr ⟨q1, C2.same W3, hA q3⟩
theorem c_vofL (G : Glb Z a0) {c : Int32} (hC : isC c) (h : ¬ (255 : Int32) < c) : Ct l Z EL0 (⟨"java/lang/String", "valueOf", "(C)Ljava/lang/String;"⟩ : MethodName) jdk_42_method_139_code 1 ((some (.object "java/lang/String"))) ({ frames := 2, cells := 2, slots := 5, locals := 27 } : Room) [] [.int c] H (fun v H' => ∃ s, v = some (.ref s) ∧ H.1.size ≤ s ∧ Kp H H' [] ∧ Str Z H' s [c]) := by
  refine Ct.in G (by first | exact plainFor_of_name (by simp [plainName, overriddenIn]; done) | decide +kernel) (ls := [.val (.int c)]) rfl rfl fun D A0 => ?_
  obtain ⟨cz, hcz, cS⟩ := G_compact G
  have A1 := A0.getS (wd_4 G) cS (by decide +kernel)
  have A2 := A1.ifF (cd := .eq) (o := 23) (by decide +kernel) hcz
  have A3 := A2.run [(6, .iload_n 0, 7, 0)] (pe := 7) (by decide +kernel) rfl
  obtain ⟨_, HA4, qA4, A4, moA4, szA4⟩ := A3.callS (argsL := [.int c]) (wd_5 G) (wd_6 G) (wd_7 G) (wd_8 G) (c_can G h) (by decide) ⟨_, _, (by decide +kernel : parseMethodDescriptor "(C)Z" = some ⟨[.char], some .boolean⟩), rfl⟩ (by decide +kernel) (Wd := 0) (by decide) (Nat.le_of_ble_eq_true rfl) (by decide) (by decide) (by decide)
  obtain ⟨rfl, rfl⟩ := qA4
  have A5 := A4.ifF (cd := .eq) (o := 16) (by decide +kernel) (by show ¬ _ = _; decide)
  obtain ⟨s, H1, A6, hge, K1, E, o, Df⟩ := A5.newO (wd_9 G) (wd_10 G) (wd_2 G) (by decide +kernel) (by decide) (by decide)
  have A7 := A6.run [(16, .dup, 17, 0), (17, .iload_n 0, 18, 0)] (pe := 18) (by decide +kernel) rfl
  obtain ⟨_, HA8, qA8, A8, moA8, szA8⟩ := A7.callS (argsL := [.int c]) (wd_11 G) (wd_12 G) (wd_7 G) (wd_13 G) (c_tb1 G) (by decide) ⟨_, _, (by decide +kernel : parseMethodDescriptor "(C)[B" = some ⟨[.char], some (.array .byte)⟩), rfl⟩ (by decide +kernel) (Wd := 2) (by decide) (Nat.le_of_ble_eq_true rfl) (by decide) (by decide) (by decide)
  obtain ⟨t, rfl, ht, K2, T, o2⟩ := qA8
  have A9 := A8.run [(21, .iconst 0, 22, 0)] (pe := 22) (by decide +kernel) rfl
  obtain ⟨_, HA10, qA10, A10, moA10, szA10⟩ := A9.callI (argsL := [.ref t, .int 0]) rfl (wd_15 G) (wd_16 G) (wd_2 G) (wd_18 G) (c_sIB G (cs := [c]) (fun d hd => by cases List.mem_singleton.mp hd; exact hC) (Or.inl ⟨lat1 h, rfl, T⟩) (E.ky K2) ((Df (Or.inr (wd_23 G)) (t := .array .byte) (by decide)).ky K2) ((Df (Or.inr (wd_25 G)) (t := .byte) (by decide)).ky K2) (K2.2 _ o)) (by decide) ⟨_, _, (by decide +kernel : parseMethodDescriptor "([BB)V" = some ⟨[(.array .byte), .byte], none⟩), rfl⟩ (by decide +kernel) (Wd := 1) (by decide) (Nat.le_of_ble_eq_true rfl) (by decide) (by decide) (by decide)
  obtain ⟨rfl, K3, S⟩ := qA10
  exact ⟨_, _, _, _, A10.retA (by decide +kernel) rfl rfl, ⟨s, rfl, hge, (K1.tr K2).trans K3 (fun y hy => by cases List.mem_singleton.mp hy; exact Or.inr hge), S⟩, by decide, by decide⟩
end JVof


/-! ## StringBuilder, Latin-1, with room -/
abbrev SBn : String := "java/lang/StringBuilder"
abbrev ASB : String := "java/lang/AbstractStringBuilder"
section JSb
variable {l : Launch} {Z : State} {a0 : Array Value} {D : Dyn} {H : HP}
/-- a String with its array named -/
def StrT (Z : State) (H : HP) (a t : Addr) (cs : List Int32) : Prop := Exa Z H.1 a "java/lang/String" ∧ (∀ c ∈ cs, isC c) ∧ Fld Z H.1 a "java/lang/String" "value" "[B" (.ref t) ∧
  (Lat cs ∧ Fld Z H.1 a "java/lang/String" "coder" "B" (.int 0) ∧ Ar Z H t .byte (lo8 cs) ∨ ¬ Lat cs ∧ Fld Z H.1 a "java/lang/String" "coder" "B" (.int 1) ∧ Ar Z H t .byte (enc16 cs))
theorem StrT.str {a t : Addr} {cs : List Int32} (S : StrT Z H a t cs) : Str Z H a cs := ⟨S.1, S.2.1, t, S.2.2.1, S.2.2.2⟩
theorem Str.t {a : Addr} {cs : List Int32} (S : Str Z H a cs) : ∃ t, StrT Z H a t cs ∧ t < H.1.size := by
  obtain ⟨h1, h2, t, h3, h4⟩ := S
  refine ⟨t, ⟨h1, h2, h3, h4⟩, ?_⟩
  rcases h4 with ⟨-, -, T⟩ | ⟨-, -, T⟩ <;> exact T.lt
theorem StrT.ky {H H' : HP} {a t : Addr} {cs : List Int32} {ws : List Addr} (S : StrT Z H a t cs) (K : Kp H H' ws) (ha : a ∉ ws) (ht : t ∉ ws) : StrT Z H' a t cs := by
  obtain ⟨h1, h2, h3, h4⟩ := S
  exact ⟨h1.ky K, h2, h3.ky K ha, h4.imp (fun ⟨q1, q2, q3⟩ => ⟨q1, q2.ky K ha, q3.ky K ht⟩) (fun ⟨q1, q2, q3⟩ => ⟨q1, q2.ky K ha, q3.ky K ht⟩)⟩
theorem StrT.lat {a t : Addr} {cs : List Int32} (S : StrT Z H a t cs) (h : Lat cs) : Fld Z H.1 a "java/lang/String" "coder" "B" (.int 0) ∧ Ar Z H t .byte (lo8 cs) := by
  obtain ⟨-, -, -, h4⟩ := S
  rcases h4 with ⟨-, q⟩ | ⟨q, -⟩
  · exact q
  · exact absurd h q
/-- a Latin-1 builder that says cs -/
def SB (Z : State) (H : HP) (a v : Addr) (cs : List Int32) (rs : List Value) : Prop :=
  Exa Z H.1 a SBn ∧ Fld Z H.1 a ASB "value" "[B" (.ref v) ∧ Fld Z H.1 a ASB "coder" "B" (.int 0) ∧ Fld Z H.1 a ASB "count" "I" (.int cs.length.toInt32) ∧ Ar Z H v .byte (lo8 cs ++ rs) ∧ Lat cs ∧ (∀ c ∈ cs, isC c) ∧ H.2 a ∧ H.2 v
theorem SB.ky {H H' : HP} {a v : Addr} {cs : List Int32} {rs : List Value} {ws : List Addr} (S : SB Z H a v cs rs) (K : Kp H H' ws) (ha : a ∉ ws := by exact List.not_mem_nil) (hv : v ∉ ws := by exact List.not_mem_nil) : SB Z H' a v cs rs := by
  obtain ⟨h1, h2, h3, h4, h5, h6, h7, h8, h9⟩ := S
  exact ⟨h1.ky K, h2.ky K ha, h3.ky K ha, h4.ky K ha, h5.ky K hv, h6, h7, K.2 _ h8, K.2 _ h9⟩
theorem SB.ne (G : Glb Z a0) {a v : Addr} {cs : List Int32} {rs : List Value} (S : SB Z H a v cs rs) : a ≠ v := by
  obtain ⟨h1, -, -, -, ⟨c, A, -⟩, -⟩ := S
  exact ne_arr h1 (wd_43 G) A
theorem sl_vc (G : Glb Z a0) : Jvm.RoadKit.slotOf Z ASB "value" "[B" ≠ Jvm.RoadKit.slotOf Z ASB "coder" "B" := slot_ne (Or.inl (wd_57 G)) (Or.inl (wd_59 G)) (by decide) (t := .array .byte) (by decide) (t' := .byte) (by decide)
theorem sl_vn (G : Glb Z a0) : Jvm.RoadKit.slotOf Z ASB "value" "[B" ≠ Jvm.RoadKit.slotOf Z ASB "count" "I" := slot_ne (Or.inl (wd_57 G)) (Or.inl (wd_84 G)) (by decide) (t := .array .byte) (by decide) (t' := .int) (by decide)
theorem sl_cn (G : Glb Z a0) : Jvm.RoadKit.slotOf Z ASB "coder" "B" ≠ Jvm.RoadKit.slotOf Z ASB "count" "I" := slot_ne (Or.inl (wd_59 G)) (Or.inl (wd_84 G)) (by decide) (t := .byte) (by decide) (t' := .int) (by decide)
set_option maxRecDepth 65536 in
theorem c_asbI (G : Glb Z a0) {x : Addr} (E : Exa Z H.1 x SBn) (V : Fld Z H.1 x ASB "value" "[B" .null) (C : Fld Z H.1 x ASB "coder" "B" (.int 0)) (N : Fld Z H.1 x ASB "count" "I" (.int 0)) (o : H.2 x) :
    Ct l Z EL0 (⟨"java/lang/AbstractStringBuilder", "<init>", "(I)V"⟩ : MethodName) jdk_68_method_2_code 2 (none) ({ frames := 1, cells := 1, slots := 16, locals := 12 } : Room) [] [.ref x, .int 16] H (fun v H' => v = none ∧ Kp H H' [x] ∧ ∃ t, H.1.size ≤ t ∧ SB Z H' x t [] (List.replicate 16 (.int 0))) := by
  refine Ct.in G (by first | exact plainFor_of_name (by simp [plainName, overriddenIn]; done) | decide +kernel) (ls := [.val (.ref x), .val (.int 16)]) rfl rfl fun D A0 => ?_
  obtain ⟨cz, hcz, cS⟩ := G_compact G
  have A1 := A0.run [(0, .aload_n 0, 1, 0)] (pe := 1) (by decide +kernel) rfl
  have A2 := A1.initO (wd_54 G) (wd_20 G) (wd_21 G) (by decide +kernel) (Wd := 0) (by decide) (Nat.le_of_ble_eq_true rfl) (by decide)
  have A3 := A2.getS (wd_55 G) cS (by decide +kernel)
  have A4 := A3.ifF (cd := .eq) (o := 18) (by decide +kernel) hcz
  have A5 := A4.run [(10, .aload_n 0, 11, 0), (11, .iload_n 1, 12, 0)] (pe := 12) (by decide +kernel) rfl
  obtain ⟨t, H1, A6, hge, K1, T1, o1⟩ := A5.newA (aty := .byte) (wd_14 G) (by decide +kernel) (N := 16) rfl (cap := 16) (by decide) (by decide) (by decide) (by decide)
  obtain ⟨H2, A7, K2, W2⟩ := A6.putF (wd_56 G) (V.ky K1) (E.ky K1) (wd_57 G) (wd_43 G) (K1.2 _ o) (by decide +kernel) (ty := .array .byte) (by decide) rfl rfl
  have A8 := A7.run [(17, .aload_n 0, 18, 0), (18, .iconst 0, 19, 0)] (pe := 19) (by decide +kernel) rfl
  have C2 := (C.ky K1).other W2 (Or.inr (Ne.symm (sl_vc G)))
  obtain ⟨H3, A9, K3, W3⟩ := A8.putF (wd_58 G) C2 ((E.ky K1).ky K2) (wd_59 G) (wd_43 G) (K2.2 _ (K1.2 _ o)) (by decide +kernel) (ty := .byte) (by decide) rfl rfl
  have A10 := A9.run [(22, .goto 16, 38, 0)] (pe := 38) (by decide +kernel) rfl
  have A11 := A10.ret (by decide +kernel)
  have htx : t ∉ [x] := by simpa using Nat.ne_of_gt (Nat.lt_of_lt_of_le E.lt hge)
  refine ⟨_, _, _, _, A11, ⟨rfl, ((K1.wide fun x hx => nomatch hx).trans K2 fun x hx => Or.inl hx).trans K3 fun x hx => Or.inl hx, t, hge, ((E.ky K1).ky K2).ky K3, ((V.ky K1).same W2).other W3 (Or.inr (sl_vc G)), C2.same W3, ((N.ky K1).other W2 (Or.inr (Ne.symm (sl_vn G)))).other W3 (Or.inr (Ne.symm (sl_cn G))), (T1.ky K2 htx).ky K3 htx, (fun c hc => nomatch hc), (fun c hc => nomatch hc), K3.2 _ (K2.2 _ (K1.2 _ o)), K3.2 _ (K2.2 _ o1)⟩, by decide, by decide⟩
theorem c_sbI (G : Glb Z a0) {x : Addr} (E : Exa Z H.1 x SBn) (V : Fld Z H.1 x ASB "value" "[B" .null) (C : Fld Z H.1 x ASB "coder" "B" (.int 0)) (N : Fld Z H.1 x ASB "count" "I" (.int 0)) (o : H.2 x) :
    Ct l Z EL0 (⟨"java/lang/StringBuilder", "<init>", "()V"⟩ : MethodName) jdk_67_method_1_code 1 (none) ({ frames := 2, cells := 1, slots := 16, locals := 25 } : Room) [] [.ref x] H (fun v H' => v = none ∧ Kp H H' [x] ∧ ∃ t, H.1.size ≤ t ∧ SB Z H' x t [] (List.replicate 16 (.int 0))) := by
  refine Ct.in G (by first | exact plainFor_of_name (by simp [plainName, overriddenIn]; done) | decide +kernel) (ls := [.val (.ref x)]) rfl rfl fun D A0 => ?_
  have A1 := A0.run [(0, .aload_n 0, 1, 0), (1, .bipush 16, 3, 16)] (pe := 3) (by decide +kernel) rfl
  obtain ⟨_, HA2, qA2, A2, moA2, szA2⟩ := A1.callI (argsL := [.int 16]) rfl (wd_48 G) (wd_49 G) (wd_52 G) (wd_53 G) (c_asbI G E V C N o) (by decide) ⟨_, _, (by decide +kernel : parseMethodDescriptor "(I)V" = some ⟨[.int], none⟩), rfl⟩ (by decide +kernel) (Wd := 0) (by decide) (Nat.le_of_ble_eq_true rfl) (by decide) (by decide) (by decide)
  obtain ⟨rfl, K, q⟩ := qA2
  exact ⟨_, _, _, _, A2.ret (by decide +kernel), ⟨rfl, K, q⟩, by decide, by decide⟩
/-- there is room: nothing is done -/
theorem c_ens (G : Glb Z a0) {a v : Addr} {cs : List Int32} {rs : List Value} {m : Nat} (S : SB Z H a v cs rs) (hm : m ≤ cs.length + rs.length) :
    Ct l Z EL0 (⟨"java/lang/AbstractStringBuilder", "ensureCapacityInternal", "(I)V"⟩ : MethodName) jdk_68_method_9_code 3 (none) ({ frames := 0, cells := 0, slots := 0, locals := 0 } : Room) [] [.ref a, .int m.toInt32] H (fun v H' => v = none ∧ H = H') := by
  refine Ct.in G (by first | exact plainFor_of_name (by simp [plainName, overriddenIn]; done) | decide +kernel) (ls := [.val (.ref a), .val (.int m.toInt32), .unset]) rfl rfl fun D A0 => ?_
  obtain ⟨E, V, C, N, T, -⟩ := S
  have hL := T.len; simp at hL
  have A1 := A0.run [(0, .aload_n 0, 1, 0)] (pe := 1) (by decide +kernel) rfl
  have A2 := A1.getF (wd_56 G) V (by decide +kernel)
  have A3 := A2.alen T (by decide +kernel) (z := (cs.length + rs.length).toInt32) (by simp)
  have A4 := A3.run [(5, .aload_n 0, 6, 0)] (pe := 6) (by decide +kernel) rfl
  have A5 := A4.getF (wd_58 G) C (by decide +kernel)
  have A6 := A5.run [(9, .ishr, 10, 0)] (pe := 10) (by decide +kernel) rfl
  rw [n32_shr0] at A6
  have A7 := A6.run [(10, .istore_n 2, 11, 0), (11, .iload_n 1, 12, 0), (12, .iload_n 2, 13, 0), (13, .isub, 14, 0)] (pe := 14) (by decide +kernel) rfl
  have hle : ¬ (0 : Int32) < m.toInt32 - (cs.length + rs.length).toInt32 := by
    have e := c_isub m.toInt32 (cs.length + rs.length).toInt32
    rw [n32_toInt (by omega), n32_toInt hL] at e
    have r := rng32 (m.toInt32 - (cs.length + rs.length).toInt32)
    rw [Int32.lt_iff_toInt_lt, show (0 : Int32).toInt = 0 by decide]; omega
  have A8 := A7.ifT (cd := .le) (o := 24) (by decide +kernel) hle (pe := 38) (by decide)
  exact ⟨_, _, _, _, A8.ret (by decide +kernel), ⟨rfl, rfl⟩, Nat.zero_le _, Nat.zero_le _⟩
theorem c_inf (G : Glb Z a0) {a v s t : Addr} {cs ds : List Int32} {rs : List Value} (S : SB Z H a v cs rs) (T : StrT Z H s t ds) (hla : Lat ds) :
    Ct l Z EL0 (⟨"java/lang/AbstractStringBuilder", "inflateIfNeededFor", "(Ljava/lang/String;)V"⟩ : MethodName) jdk_68_method_71_code 2 (none) ({ frames := 1, cells := 0, slots := 0, locals := 13 } : Room) [] [.ref a, .ref s] H (fun v H' => v = none ∧ H = H') := by
  refine Ct.in G (by first | exact plainFor_of_name (by simp [plainName, overriddenIn]; done) | decide +kernel) (ls := [.val (.ref a), .val (.ref s)]) rfl rfl fun D A0 => ?_
  obtain ⟨cz, hcz, cS⟩ := G_compact G
  have A1 := A0.getS (wd_55 G) cS (by decide +kernel)
  have A2 := A1.ifF (cd := .eq) (o := 18) (by decide +kernel) hcz
  have A3 := A2.run [(6, .aload_n 0, 7, 0)] (pe := 7) (by decide +kernel) rfl
  have A4 := A3.getF (wd_58 G) S.2.2.1 (by decide +kernel)
  have A5 := A4.run [(10, .aload_n 1, 11, 0)] (pe := 11) (by decide +kernel) rfl
  obtain ⟨_, HA6, qA6, A6, moA6, szA6⟩ := A5.callV (argsL := []) (wd_100 G) (wd_79 G) (wd_81 G) rfl (wd_81 G) (wd_80 G) (wd_2 G) (wd_82 G) T.1 (c_sCod G (T.lat hla).1 (Or.inl rfl)) (by decide) ⟨_, _, (by decide +kernel : parseMethodDescriptor "()B" = some ⟨[], some .byte⟩), rfl⟩ (by decide +kernel) (Wd := 1) (by decide) (Nat.le_of_ble_eq_true rfl) (by decide) (by decide) (by decide)
  obtain ⟨rfl, rfl⟩ := qA6
  have A7 := A6.icT (cd := .eq) (o := 7) (by decide +kernel) rfl (pe := 21) (by decide)
  exact ⟨_, _, _, _, A7.ret (by decide +kernel), ⟨rfl, rfl⟩, by decide, by decide⟩
theorem c_gby (G : Glb Z a0) {s t v : Addr} {ds : List Int32} {vs : List Value} {i : Nat} (T : StrT Z H s t ds) (hla : Lat ds) (B : Ar Z H v .byte vs) (o : H.2 v) (hi : i + ds.length ≤ vs.length) :
    Ct l Z EL0 (⟨"java/lang/String", "getBytes", "([BIB)V"⟩ : MethodName) jdk_42_method_147_code 4 (none) ({ frames := 1, cells := 0, slots := 0, locals := 18 } : Room) [] [.ref s, .ref v, .int i.toInt32, .int 0] H (fun v' H' => v' = none ∧ Kp H H' [v] ∧ Ar Z H' v .byte (vs.take i ++ lo8 ds ++ vs.drop (i + ds.length))) := by
  refine Ct.in G (by first | exact plainFor_of_name (by simp [plainName, overriddenIn]; done) | decide +kernel) (ls := [.val (.ref s), .val (.ref v), .val (.int i.toInt32), .val (.int 0)]) rfl rfl fun D A0 => ?_
  obtain ⟨hc0, hT⟩ := T.lat hla
  have A1 := A0.run [(0, .aload_n 0, 1, 0)] (pe := 1) (by decide +kernel) rfl
  obtain ⟨_, HA2, qA2, A2, moA2, szA2⟩ := A1.callV (argsL := []) (wd_78 G) (wd_79 G) (wd_81 G) rfl (wd_81 G) (wd_80 G) (wd_2 G) (wd_82 G) T.1 (c_sCod G hc0 (Or.inl rfl)) (by decide) ⟨_, _, (by decide +kernel : parseMethodDescriptor "()B" = some ⟨[], some .byte⟩), rfl⟩ (by decide +kernel) (Wd := 0) (by decide) (Nat.le_of_ble_eq_true rfl) (by decide) (by decide) (by decide)
  obtain ⟨rfl, rfl⟩ := qA2
  have A3 := A2.run [(4, .iload_n 3, 5, 0)] (pe := 5) (by decide +kernel) rfl
  have A4 := A3.icF (cd := .ne) (o := 23) (by decide +kernel) (not_not_intro rfl)
  have A5 := A4.run [(8, .aload_n 0, 9, 0)] (pe := 9) (by decide +kernel) rfl
  have A6 := A5.getF (wd_22 G) T.2.2.1 (by decide +kernel)
  have A7 := A6.run [(12, .iconst 0, 13, 0), (13, .aload_n 1, 14, 0), (14, .iload_n 2, 15, 0), (15, .iload_n 3, 16, 0), (16, .ishl, 17, 0), (17, .aload_n 0, 18, 0)] (pe := 18) (by decide +kernel) rfl
  rw [n32_shl0] at A7
  have A8 := A7.getF (wd_22 G) T.2.2.1 (by decide +kernel)
  have A9 := A8.alen hT (by decide +kernel) (z := ds.length.toInt32) (by simp)
  obtain ⟨H1, A10, K, B1⟩ := A9.copy (wd_106 G) (wd_109 G) (wd_107 G) (wd_108 G) hT B rfl o (i := 0) rfl rfl (q := ds.length) rfl (by simp) hi (by decide +kernel) (by decide) (Wd := 0) (by decide) (Nat.le_of_ble_eq_true rfl)
  have A11 := A10.run [(25, .goto 18, 43, 0)] (pe := 43) (by decide +kernel) rfl
  have e : (lo8 ds).take ds.length = lo8 ds := List.take_of_length_le (by simp)
  rw [List.drop_zero, e] at B1
  exact ⟨_, _, _, _, A11.ret (by decide +kernel), ⟨rfl, K, B1⟩, by decide, by decide⟩
theorem c_psa (G : Glb Z a0) {a v s t : Addr} {cs ds : List Int32} {rs : List Value} (S : SB Z H a v cs rs) (T : StrT Z H s t ds) (hla : Lat ds) (hr : ds.length ≤ rs.length) :
    Ct l Z EL0 (⟨"java/lang/AbstractStringBuilder", "putStringAt", "(ILjava/lang/String;)V"⟩ : MethodName) jdk_68_method_73_code 3 (none) ({ frames := 2, cells := 0, slots := 0, locals := 33 } : Room) [] [.ref a, .int cs.length.toInt32, .ref s] H (fun v' H' => v' = none ∧ Kp H H' [v] ∧ Ar Z H' v .byte (lo8 (cs ++ ds) ++ rs.drop ds.length)) := by
  refine Ct.in G (by first | exact plainFor_of_name (by simp [plainName, overriddenIn]; done) | decide +kernel) (ls := [.val (.ref a), .val (.int cs.length.toInt32), .val (.ref s)]) rfl rfl fun D A0 => ?_
  have A1 := A0.run [(0, .aload_n 0, 1, 0), (1, .aload_n 2, 2, 0)] (pe := 2) (by decide +kernel) rfl
  obtain ⟨_, HA2, qA2, A2, moA2, szA2⟩ := A1.callV (argsL := [.ref s]) (wd_95 G) (decl_of (wd_96 G) (wd_99 G)) (wd_98 G) rfl (wd_98 G) (wd_96 G) (wd_52 G) (wd_99 G) S.1 (c_inf G S T hla) (by decide) ⟨_, _, (by decide +kernel : parseMethodDescriptor "(Ljava/lang/String;)V" = some ⟨[(.object "java/lang/String")], none⟩), rfl⟩ (by decide +kernel) (Wd := 0) (by decide) (Nat.le_of_ble_eq_true rfl) (by decide) (by decide) (by decide)
  obtain ⟨rfl, rfl⟩ := qA2
  have A3 := A2.run [(5, .aload_n 2, 6, 0), (6, .aload_n 0, 7, 0)] (pe := 7) (by decide +kernel) rfl
  have A4 := A3.getF (wd_56 G) S.2.1 (by decide +kernel)
  have A5 := A4.run [(10, .iload_n 1, 11, 0), (11, .aload_n 0, 12, 0)] (pe := 12) (by decide +kernel) rfl
  have A6 := A5.getF (wd_58 G) S.2.2.1 (by decide +kernel)
  obtain ⟨_, HA7, qA7, A7, moA7, szA7⟩ := A6.callV (argsL := [.ref v, .int cs.length.toInt32, .int 0]) (wd_101 G) (wd_102 G) (wd_104 G) rfl (wd_104 G) (wd_103 G) (wd_2 G) (wd_105 G) T.1 (c_gby G T hla S.2.2.2.2.1 S.2.2.2.2.2.2.2.2 (by simp; omega)) (by decide) ⟨_, _, (by decide +kernel : parseMethodDescriptor "([BIB)V" = some ⟨[(.array .byte), .int, .byte], none⟩), rfl⟩ (by decide +kernel) (Wd := 0) (by decide) (Nat.le_of_ble_eq_true rfl) (by decide) (by decide) (by decide)
  obtain ⟨rfl, K, B⟩ := qA7
  refine ⟨_, _, _, _, A7.ret (by decide +kernel), ⟨rfl, K, ?_⟩, by decide, by decide⟩
  have e : (lo8 cs ++ rs).take cs.length = lo8 cs := by rw [List.take_append_of_le_length (by simp)]; exact List.take_of_length_le (by simp)
  have e2 : (lo8 cs ++ rs).drop (cs.length + ds.length) = rs.drop ds.length := by rw [List.drop_append]; simp
  rw [e, e2] at B
  rw [show lo8 (cs ++ ds) = lo8 cs ++ lo8 ds from List.map_append]
  exact B
set_option maxRecDepth 65536 in
theorem c_asbA (G : Glb Z a0) {a v s t : Addr} {cs ds : List Int32} {rs : List Value} (S : SB Z H a v cs rs) (T : StrT Z H s t ds) (hla : Lat ds) (hr : ds.length ≤ rs.length) :
    Ct l Z EL0 (⟨"java/lang/AbstractStringBuilder", "append", "(Ljava/lang/String;)Ljava/lang/AbstractStringBuilder;"⟩ : MethodName) jdk_68_method_22_code 3 ((some (.object "java/lang/AbstractStringBuilder"))) ({ frames := 3, cells := 0, slots := 0, locals := 47 } : Room) [] [.ref a, .ref s] H (fun v' H' => v' = some (.ref a) ∧ Kp H H' [a, v] ∧ SB Z H' a v (cs ++ ds) (rs.drop ds.length)) := by
  refine Ct.in G (by first | exact plainFor_of_name (by simp [plainName, overriddenIn]; done) | decide +kernel) (ls := [.val (.ref a), .val (.ref s), .unset]) rfl rfl fun D A0 => ?_
  have A1 := A0.run [(0, .aload_n 1, 1, 0)] (pe := 1) (by decide +kernel) rfl
  have A2 := A1.nnullT (o := 8) (by decide +kernel) (pe := 9) (by decide)
  have A3 := A2.run [(9, .aload_n 1, 10, 0)] (pe := 10) (by decide +kernel) rfl
  obtain ⟨_, HA4, qA4, A4, moA4, szA4⟩ := A3.callV (argsL := []) (wd_73 G) (wd_74 G) (wd_76 G) rfl (wd_76 G) (wd_75 G) (wd_2 G) (wd_77 G) T.1 (c_sLen G T.str) (by decide) ⟨_, _, (by decide +kernel : parseMethodDescriptor "()I" = some ⟨[], some .int⟩), rfl⟩ (by decide +kernel) (Wd := 0) (by decide) (Nat.le_of_ble_eq_true rfl) (by decide) (by decide) (by decide)
  obtain ⟨rfl, rfl⟩ := qA4
  have A5 := A4.run [(13, .istore_n 2, 14, 0), (14, .aload_n 0, 15, 0), (15, .aload_n 0, 16, 0)] (pe := 16) (by decide +kernel) rfl
  have A6 := A5.getF (wd_83 G) S.2.2.2.1 (by decide +kernel)
  have A7 := A6.run [(19, .iload_n 2, 20, 0), (20, .iadd, 21, 0)] (pe := 21) (by decide +kernel) rfl
  rw [n32_add] at A7
  obtain ⟨_, HA8, qA8, A8, moA8, szA8⟩ := A7.callV (argsL := [.int (cs.length + ds.length).toInt32]) (wd_85 G) (decl_of (wd_86 G) (wd_89 G)) (wd_88 G) rfl (wd_88 G) (wd_86 G) (wd_52 G) (wd_89 G) S.1 (c_ens G S (by omega)) (by decide) ⟨_, _, (by decide +kernel : parseMethodDescriptor "(I)V" = some ⟨[.int], none⟩), rfl⟩ (by decide +kernel) (Wd := 0) (by decide) (Nat.le_of_ble_eq_true rfl) (by decide) (by decide) (by decide)
  obtain ⟨rfl, rfl⟩ := qA8
  have A9 := A8.run [(24, .aload_n 0, 25, 0), (25, .aload_n 0, 26, 0)] (pe := 26) (by decide +kernel) rfl
  have A10 := A9.getF (wd_83 G) S.2.2.2.1 (by decide +kernel)
  have A11 := A10.run [(29, .aload_n 1, 30, 0)] (pe := 30) (by decide +kernel) rfl
  obtain ⟨_, HA12, qA12, A12, moA12, szA12⟩ := A11.callV (argsL := [.int cs.length.toInt32, .ref s]) (wd_90 G) (decl_of (wd_91 G) (wd_94 G)) (wd_93 G) rfl (wd_93 G) (wd_91 G) (wd_52 G) (wd_94 G) S.1 (c_psa G S T hla hr) (by decide) ⟨_, _, (by decide +kernel : parseMethodDescriptor "(ILjava/lang/String;)V" = some ⟨[.int, (.object "java/lang/String")], none⟩), rfl⟩ (by decide +kernel) (Wd := 0) (by decide) (Nat.le_of_ble_eq_true rfl) (by decide) (by decide) (by decide)
  obtain ⟨rfl, K1, B1⟩ := qA12
  have hav : a ∉ [v] := by simpa using S.ne G
  have hva : v ∉ [a] := by simpa using Ne.symm (S.ne G)
  obtain ⟨E, V, C, N, T0, la, lc, o1, o2⟩ := S
  have A13 := A12.run [(33, .aload_n 0, 34, 0), (34, .dup, 35, 0)] (pe := 35) (by decide +kernel) rfl
  have A14 := A13.getF (wd_83 G) (N.ky K1 hav) (by decide +kernel)
  have A15 := A14.run [(38, .iload_n 2, 39, 0), (39, .iadd, 40, 0)] (pe := 40) (by decide +kernel) rfl
  rw [n32_add] at A15
  obtain ⟨H3, A16, K3, W3⟩ := A15.putF (wd_83 G) (N.ky K1 hav) (E.ky K1) (wd_84 G) (wd_43 G) (K1.2 _ o1) (by decide +kernel) (ty := .int) (by decide) rfl rfl
  have A17 := A16.run [(43, .aload_n 0, 44, 0)] (pe := 44) (by decide +kernel) rfl
  refine ⟨_, _, _, _, A17.retA (by decide +kernel) rfl rfl, ⟨rfl, (K1.wide fun x hx => Or.inl (by simp at hx; simp [hx])).trans K3 fun x hx => Or.inl (by simp at hx; simp [hx]), (E.ky K1).ky K3, (V.ky K1 hav).other W3 (Or.inr (sl_vn G)), (C.ky K1 hav).other W3 (Or.inr (sl_cn G)), by rw [List.length_append]; exact (N.ky K1 hav).same W3, B1.ky K3 hva, ?_, ?_, K3.2 _ (K1.2 _ o1), K3.2 _ (K1.2 _ o2)⟩, by decide, by decide⟩
  · exact fun c hc => (List.mem_append.mp hc).elim (la c) (hla c)
  · exact fun c hc => (List.mem_append.mp hc).elim (lc c) (T.2.1 c)
theorem c_sbA (G : Glb Z a0) {a v s t : Addr} {cs ds : List Int32} {rs : List Value} (S : SB Z H a v cs rs) (T : StrT Z H s t ds) (hla : Lat ds) (hr : ds.length ≤ rs.length) :
    Ct l Z EL0 (⟨"java/lang/StringBuilder", "append", "(Ljava/lang/String;)Ljava/lang/StringBuilder;"⟩ : MethodName) jdk_67_method_7_code 2 ((some (.object "java/lang/StringBuilder"))) ({ frames := 4, cells := 0, slots := 0, locals := 61 } : Room) [] [.ref a, .ref s] H (fun v' H' => v' = some (.ref a) ∧ Kp H H' [a, v] ∧ SB Z H' a v (cs ++ ds) (rs.drop ds.length)) := by
  refine Ct.in G (by first | exact plainFor_of_name (by simp [plainName, overriddenIn]; done) | decide +kernel) (ls := [.val (.ref a), .val (.ref s)]) rfl rfl fun D A0 => ?_
  have A1 := A0.run [(0, .aload_n 0, 1, 0), (1, .aload_n 1, 2, 0)] (pe := 2) (by decide +kernel) rfl
  obtain ⟨_, HA2, qA2, A2, moA2, szA2⟩ := A1.callU (argsL := [.ref s]) (wd_68 G) (wd_71 G) (wd_88 G) rfl (wd_70 G) (wd_69 G) (by decide) (wd_52 G) (wd_72 G) S.1 (c_asbA G S T hla hr) (by decide) ⟨_, _, (by decide +kernel : parseMethodDescriptor "(Ljava/lang/String;)Ljava/lang/AbstractStringBuilder;" = some ⟨[(.object "java/lang/String")], some (.object "java/lang/AbstractStringBuilder")⟩), rfl⟩ (by decide +kernel) (Wd := 0) (by decide) (Nat.le_of_ble_eq_true rfl) (by decide) (by decide) (by decide)
  obtain ⟨rfl, K, S2⟩ := qA2
  have A3 := A2.run [(5, .pop, 6, 0), (6, .aload_n 0, 7, 0)] (pe := 7) (by decide +kernel) rfl
  exact ⟨_, _, _, _, A3.retA (by decide +kernel) rfl rfl, ⟨rfl, K, S2⟩, by decide, by decide⟩
end JSb

section JCpr
variable {l : Launch} {Z : State} {a0 : Array Value} {D : Dyn} {H : HP}
theorem c_mmin (G : Glb Z a0) {i j : Nat} (hi : i < 2 ^ 31) (hj : j < 2 ^ 31) : Ct l Z EL0 (⟨"java/lang/Math", "min", "(II)I"⟩ : MethodName) jdk_29_method_69_code 2 ((some .int)) ({ frames := 0, cells := 0, slots := 0, locals := 0 } : Room) [] [.int i.toInt32, .int j.toInt32] H (fun v H' => v = some (.int (min i j).toInt32) ∧ H = H') := by
  refine Ct.in G (by decide +kernel) (ls := [.val (.int i.toInt32), .val (.int j.toInt32)]) rfl rfl fun D A0 => ?_
  have A1 := A0.run [(0, .iload_n 0, 1, 0), (1, .iload_n 1, 2, 0)] (pe := 2) (by decide +kernel) rfl
  by_cases h : j < i
  · have A2 := A1.icT (cd := .gt) (o := 7) (by decide +kernel) ((n32_lt hj hi).mpr h) (pe := 9) (by decide)
    have A3 := A2.run [(9, .iload_n 1, 10, 0)] (pe := 10) (by decide +kernel) rfl
    exact ⟨_, _, _, _, A3.retI (by decide +kernel), ⟨by rw [Nat.min_eq_right (by omega)], rfl⟩, by decide, by decide⟩
  · have A2 := A1.icF (cd := .gt) (o := 7) (by decide +kernel) (fun q => h ((n32_lt hj hi).mp q))
    have A3 := A2.run [(5, .iload_n 0, 6, 0), (6, .goto 4, 10, 0)] (pe := 10) (by decide +kernel) rfl
    exact ⟨_, _, _, _, A3.retI (by decide +kernel), ⟨by rw [Nat.min_eq_left (by omega)], rfl⟩, by decide, by decide⟩
theorem c_chl (G : Glb Z a0) {i j : Nat} (hi : i < 2 ^ 31) (hj : j < 2 ^ 31) (h : i ≤ j) : Ct l Z EL0 (⟨"java/util/Arrays", "checkLength", "(II)V"⟩ : MethodName) jdk_65_method_131_code 2 (none) ({ frames := 0, cells := 0, slots := 0, locals := 0 } : Room) [] [.int i.toInt32, .int j.toInt32] H (fun v H' => v = none ∧ H = H') := by
  refine Ct.in G (by first | exact plainFor_of_name (by simp [plainName, overriddenIn]; done) | decide +kernel) (ls := [.val (.int i.toInt32), .val (.int j.toInt32)]) rfl rfl fun D A0 => ?_
  have A1 := A0.run [(0, .iload_n 1, 1, 0), (1, .iload_n 0, 2, 0)] (pe := 2) (by decide +kernel) rfl
  have A2 := A1.icT (cd := .ge) (o := 35) (by decide +kernel) (fun q => by have := (n32_lt hj hi).mp q; omega) (pe := 37) (by decide)
  exact ⟨_, _, _, _, A2.ret (by decide +kernel), ⟨rfl, rfl⟩, by decide, by decide⟩
set_option maxRecDepth 65536 in
theorem c_cpb (G : Glb Z a0) {t : Addr} {vs : List Value} {i j : Nat} (T : Ar Z H t .byte vs) (h1 : i ≤ j) (h2 : j ≤ vs.length) (h3 : j - i ≤ 52) :
    Ct l Z EL0 (⟨"java/util/Arrays", "copyOfRangeByte", "([BII)[B"⟩ : MethodName) jdk_65_method_133_code 5 ((some (.array .byte))) ({ frames := 1, cells := 1, slots := 52, locals := 18 } : Room) [] [.ref t, .int i.toInt32, .int j.toInt32] H (fun v H' => ∃ u, v = some (.ref u) ∧ H.1.size ≤ u ∧ Kp H H' [] ∧ Ar Z H' u .byte ((vs.drop i).take (j - i)) ∧ H'.2 u) := by
  refine Ct.in G (by first | exact plainFor_of_name (by simp [plainName, overriddenIn]; done) | decide +kernel) (ls := [.val (.ref t), .val (.int i.toInt32), .val (.int j.toInt32), .unset, .unset]) rfl rfl fun D A0 => ?_
  have hL := T.len
  have A1 := A0.run [(0, .iload_n 1, 1, 0), (1, .iload_n 2, 2, 0)] (pe := 2) (by decide +kernel) rfl
  obtain ⟨_, HA2, qA2, A2, moA2, szA2⟩ := A1.callS (argsL := [.int i.toInt32, .int j.toInt32]) (wd_204 G) (wd_205 G) (wd_142 G) (wd_206 G) (c_chl G (by omega) (by omega) h1) (by decide) ⟨_, _, (by decide +kernel : parseMethodDescriptor "(II)V" = some ⟨[.int, .int], none⟩), rfl⟩ (by decide +kernel) (Wd := 0) (by decide) (Nat.le_of_ble_eq_true rfl) (by decide) (by decide) (by decide)
  obtain ⟨rfl, rfl⟩ := qA2
  have A3 := A2.run [(5, .iload_n 2, 6, 0), (6, .iload_n 1, 7, 0), (7, .isub, 8, 0)] (pe := 8) (by decide +kernel) rfl
  rw [n32_sub h1] at A3
  have A4 := A3.run [(8, .istore_n 3, 9, 0), (9, .iload_n 3, 10, 0)] (pe := 10) (by decide +kernel) rfl
  obtain ⟨u, H1, A5, hge, K1, U1, o1⟩ := A4.newA (aty := .byte) (wd_14 G) (by decide +kernel) (N := j - i) rfl (cap := 52) h3 (by decide) (by decide) (by decide)
  have A6 := A5.run [(12, .astore 4, 14, 0), (14, .aload_n 0, 15, 0), (15, .iload_n 1, 16, 0), (16, .aload 4, 18, 0), (18, .iconst 0, 19, 0), (19, .aload_n 0, 20, 0)] (pe := 20) (by decide +kernel) rfl
  have A7 := A6.alen (T.ky K1) (by decide +kernel) rfl
  have A8 := A7.run [(21, .iload_n 1, 22, 0), (22, .isub, 23, 0)] (pe := 23) (by decide +kernel) rfl
  rw [n32_sub (by omega)] at A8
  have A9 := A8.run [(23, .iload_n 3, 24, 0)] (pe := 24) (by decide +kernel) rfl
  obtain ⟨_, HA10, qA10, A10, moA10, szA10⟩ := A9.callS (argsL := [.int (vs.length - i).toInt32, .int (j - i).toInt32]) (wd_144 G) (wd_145 G) (wd_136 G) (wd_146 G) (c_mmin G (by omega) (by omega)) (by decide) ⟨_, _, (by decide +kernel : parseMethodDescriptor "(II)I" = some ⟨[.int, .int], some .int⟩), rfl⟩ (by decide +kernel) (Wd := 4) (by decide) (Nat.le_of_ble_eq_true rfl) (by decide) (by decide) (by decide)
  obtain ⟨rfl, rfl⟩ := qA10
  rw [Nat.min_eq_right (by omega)] at A10
  obtain ⟨H2, A11, K2, U2⟩ := A10.copy (wd_147 G) (wd_109 G) (wd_107 G) (wd_108 G) (T.ky K1) U1 rfl o1 (i := i) rfl (j := 0) rfl (q := j - i) rfl (by omega) (by simp) (by decide +kernel) (by decide) (Wd := 0) (by decide) (Nat.le_of_ble_eq_true rfl)
  have A12 := A11.run [(30, .aload 4, 32, 0)] (pe := 32) (by decide +kernel) rfl
  have e : (List.replicate (j - i) (defaultValue (newarray.typeOf .byte))).drop (0 + (j - i)) = [] := List.drop_eq_nil_of_le (by simp)
  rw [e, List.take_zero, List.nil_append, List.append_nil] at U2
  exact ⟨_, _, _, _, A12.retA (by decide +kernel) rfl rfl, ⟨u, rfl, hge, K1.trans K2 (fun y hy => by cases List.mem_singleton.mp hy; exact Or.inr hge), U2, K2.2 _ o1⟩, by decide, by decide⟩
theorem c_cpr (G : Glb Z a0) {t : Addr} {vs : List Value} {i j : Nat} (T : Ar Z H t .byte vs) (h1 : i ≤ j) (h2 : j ≤ vs.length) (h3 : j - i ≤ 52) (h4 : i = 0 → j ≠ vs.length) :
    Ct l Z EL0 (⟨"java/util/Arrays", "copyOfRange", "([BII)[B"⟩ : MethodName) jdk_65_method_132_code 3 ((some (.array .byte))) ({ frames := 2, cells := 1, slots := 52, locals := 34 } : Room) [] [.ref t, .int i.toInt32, .int j.toInt32] H (fun v H' => ∃ u, v = some (.ref u) ∧ H.1.size ≤ u ∧ Kp H H' [] ∧ Ar Z H' u .byte ((vs.drop i).take (j - i)) ∧ H'.2 u) := by
  refine Ct.in G (by first | exact plainFor_of_name (by simp [plainName, overriddenIn]; done) | decide +kernel) (ls := [.val (.ref t), .val (.int i.toInt32), .val (.int j.toInt32)]) rfl rfl fun D A0 => ?_
  have hL := T.len
  have A1 := A0.run [(0, .iload_n 1, 1, 0)] (pe := 1) (by decide +kernel) rfl
  have key : Wk l Z a0 EL0 "java/util/Arrays" jdk_65_method_132_code 3 "copyOfRange" (some (.array .byte)) ({ frames := 2, cells := 1, slots := 52, locals := 34 } : Room) D 10 [.val (.ref t), .val (.int i.toInt32), .val (.int j.toInt32)] [] H 0 0 := by
    by_cases h : i = 0
    · have B1 := A1.ifF (cd := .ne) (o := 9) (by decide +kernel) (not_not_intro (by rw [h]; rfl))
      have B2 := B1.run [(4, .iload_n 2, 5, 0), (5, .aload_n 0, 6, 0)] (pe := 6) (by decide +kernel) rfl
      have B3 := B2.alen T (by decide +kernel) rfl
      have B4 := B3.icF (cd := .eq) (o := 10) (by decide +kernel) (fun q => h4 h ((n32_inj (by omega) hL).mp q))
      exact B4
    · have B1 := A1.ifT (cd := .ne) (o := 9) (by decide +kernel) (fun q => h ((n32_inj (j := 0) (by omega) (by decide)).mp q)) (pe := 10) (by decide)
      exact B1
  have A2 := key.run [(10, .aload_n 0, 11, 0), (11, .iload_n 1, 12, 0), (12, .iload_n 2, 13, 0)] (pe := 13) (by decide +kernel) rfl
  obtain ⟨_, HA3, qA3, A3, moA3, szA3⟩ := A2.callS (argsL := [.ref t, .int i.toInt32, .int j.toInt32]) (wd_201 G) (wd_202 G) (wd_142 G) (wd_203 G) (c_cpb G T h1 h2 h3) (by decide) ⟨_, _, (by decide +kernel : parseMethodDescriptor "([BII)[B" = some ⟨[(.array .byte), .int, .int], some (.array .byte)⟩), rfl⟩ (by decide +kernel) (Wd := 0) (by decide) (Nat.le_of_ble_eq_true rfl) (by decide) (by decide) (by decide)
  obtain ⟨u, rfl, q⟩ := qA3
  exact ⟨_, _, _, _, A3.retA (by decide +kernel) rfl rfl, ⟨u, rfl, q⟩, by decide, by decide⟩
end JCpr

section JSb2
variable {l : Launch} {Z : State} {a0 : Array Value} {D : Dyn} {H : HP}
theorem c_gva (G : Glb Z a0) {a v : Addr} (V : Fld Z H.1 a ASB "value" "[B" (.ref v)) : Ct l Z EL0 (⟨"java/lang/AbstractStringBuilder", "getValue", "()[B"⟩ : MethodName) jdk_68_method_64_code 1 ((some (.array .byte))) ({ frames := 0, cells := 0, slots := 0, locals := 0 } : Room) [] [.ref a] H (fun v' H' => v' = some (.ref v) ∧ H = H') := by
  refine Ct.in G (by first | exact plainFor_of_name (by simp [plainName, overriddenIn]; done) | decide +kernel) (ls := [.val (.ref a)]) rfl rfl fun D A0 => ?_
  have A1 := A0.run [(0, .aload_n 0, 1, 0)] (pe := 1) (by decide +kernel) rfl
  have A2 := A1.getF (wd_56 G) V (by decide +kernel)
  exact ⟨_, _, _, _, A2.retA (by decide +kernel) rfl rfl, ⟨rfl, rfl⟩, by decide, by decide⟩
theorem c_asbL (G : Glb Z a0) {a : Addr} {n : Int32} (N : Fld Z H.1 a ASB "count" "I" (.int n)) : Ct l Z EL0 (⟨"java/lang/AbstractStringBuilder", "length", "()I"⟩ : MethodName) jdk_68_method_6_code 1 ((some .int)) ({ frames := 0, cells := 0, slots := 0, locals := 0 } : Room) [] [.ref a] H (fun v' H' => v' = some (.int n) ∧ H = H') := by
  refine Ct.in G (by first | exact plainFor_of_name (by simp [plainName, overriddenIn]; done) | decide +kernel) (ls := [.val (.ref a)]) rfl rfl fun D A0 => ?_
  have A1 := A0.run [(0, .aload_n 0, 1, 0)] (pe := 1) (by decide +kernel) rfl
  have A2 := A1.getF (wd_83 G) N (by decide +kernel)
  exact ⟨_, _, _, _, A2.retI (by decide +kernel), ⟨rfl, rfl⟩, by decide, by decide⟩
theorem c_sbL (G : Glb Z a0) {a : Addr} {n : Int32} (E : Exa Z H.1 a SBn) (N : Fld Z H.1 a ASB "count" "I" (.int n)) : Ct l Z EL0 (⟨"java/lang/StringBuilder", "length", "()I"⟩ : MethodName) jdk_67_method_93_code 1 ((some .int)) ({ frames := 1, cells := 0, slots := 0, locals := 12 } : Room) [] [.ref a] H (fun v' H' => v' = some (.int n) ∧ H = H') := by
  refine Ct.in G (by first | exact plainFor_of_name (by simp [plainName, overriddenIn]; done) | decide +kernel) (ls := [.val (.ref a)]) rfl rfl fun D A0 => ?_
  have A1 := A0.run [(0, .aload_n 0, 1, 0)] (pe := 1) (by decide +kernel) rfl
  obtain ⟨_, HA2, qA2, A2, moA2, szA2⟩ := A1.callU (argsL := []) (wd_184 G) (wd_179 G) (wd_88 G) rfl (wd_70 G) (wd_180 G) (by decide) (wd_52 G) (wd_185 G) E (c_asbL G N) (by decide) ⟨_, _, (by decide +kernel : parseMethodDescriptor "()I" = some ⟨[], some .int⟩), rfl⟩ (by decide +kernel) (Wd := 0) (by decide) (Nat.le_of_ble_eq_true rfl) (by decide) (by decide) (by decide)
  obtain ⟨rfl, rfl⟩ := qA2
  exact ⟨_, _, _, _, A2.retI (by decide +kernel), ⟨rfl, rfl⟩, by decide, by decide⟩
theorem c_asbLat (G : Glb Z a0) {a : Addr} (C : Fld Z H.1 a ASB "coder" "B" (.int 0)) : Ct l Z EL0 (⟨"java/lang/AbstractStringBuilder", "isLatin1", "()Z"⟩ : MethodName) jdk_68_method_68_code 1 ((some .boolean)) ({ frames := 0, cells := 0, slots := 0, locals := 0 } : Room) [] [.ref a] H (fun v' H' => v' = some (.int 1) ∧ H = H') := by
  refine Ct.in G (by first | exact plainFor_of_name (by simp [plainName, overriddenIn]; done) | decide +kernel) (ls := [.val (.ref a)]) rfl rfl fun D A0 => ?_
  obtain ⟨cz, hcz, cS⟩ := G_compact G
  have A1 := A0.getS (wd_55 G) cS (by decide +kernel)
  have A2 := A1.ifF (cd := .eq) (o := 14) (by decide +kernel) hcz
  have A3 := A2.run [(6, .aload_n 0, 7, 0)] (pe := 7) (by decide +kernel) rfl
  have A4 := A3.getF (wd_58 G) C (by decide +kernel)
  have A5 := A4.ifF (cd := .ne) (o := 7) (by decide +kernel) (not_not_intro rfl)
  have A6 := A5.run [(13, .iconst 1, 14, 1), (14, .goto 4, 18, 0)] (pe := 18) (by decide +kernel) rfl
  exact ⟨_, _, _, _, A6.retZ (by decide +kernel) rfl, ⟨rfl, rfl⟩, by decide, by decide⟩
set_option maxRecDepth 65536 in
theorem c_sIA (G : Glb Z a0) {x a v : Addr} {cs : List Int32} {rs : List Value} (S : SB Z H a v cs rs) (hr : rs ≠ []) (hc : cs.length ≤ 52) (E : Exa Z H.1 x "java/lang/String") (V : Fld Z H.1 x "java/lang/String" "value" "[B" .null) (C : Fld Z H.1 x "java/lang/String" "coder" "B" (.int 0)) (o : H.2 x) :
    Ct l Z EL0 (⟨"java/lang/String", "<init>", "(Ljava/lang/AbstractStringBuilder;Ljava/lang/Void;)V"⟩ : MethodName) jdk_42_method_150_code 5 (none) ({ frames := 3, cells := 1, slots := 52, locals := 49 } : Room) [] [.ref x, .ref a, .null] H (fun v' H' => v' = none ∧ Kp H H' [x] ∧ Str Z H' x cs) := by
  refine Ct.in G (by first | exact plainFor_of_name (by simp [plainName, overriddenIn]; done) | decide +kernel) (ls := [.val (.ref x), .val (.ref a), .val .null, .unset, .unset]) rfl rfl fun D A0 => ?_
  obtain ⟨SE, SV, SC, SN, ST, la, lc, o1, o2⟩ := S
  have hL := ST.len; simp at hL
  have hr' : 0 < rs.length := List.length_pos_iff.mpr hr
  have A1 := A0.run [(0, .aload_n 0, 1, 0)] (pe := 1) (by decide +kernel) rfl
  have A2 := A1.initO (wd_19 G) (wd_20 G) (wd_21 G) (by decide +kernel) (Wd := 0) (by decide) (Nat.le_of_ble_eq_true rfl) (by decide)
  have A3 := A2.run [(4, .aload_n 1, 5, 0)] (pe := 5) (by decide +kernel) rfl
  obtain ⟨_, HA4, qA4, A4, moA4, szA4⟩ := A3.callV (argsL := []) (wd_173 G) (wd_174 G) (wd_176 G) rfl (wd_176 G) (wd_175 G) (wd_52 G) (wd_177 G) SE (c_gva G SV) (by decide) ⟨_, _, (by decide +kernel : parseMethodDescriptor "()[B" = some ⟨[], some (.array .byte)⟩), rfl⟩ (by decide +kernel) (Wd := 0) (by decide) (Nat.le_of_ble_eq_true rfl) (by decide) (by decide) (by decide)
  obtain ⟨rfl, rfl⟩ := qA4
  have A5 := A4.run [(8, .astore_n 3, 9, 0), (9, .aload_n 1, 10, 0)] (pe := 10) (by decide +kernel) rfl
  obtain ⟨_, HA6, qA6, A6, moA6, szA6⟩ := A5.callV (argsL := []) (wd_178 G) (wd_179 G) (wd_88 G) rfl (wd_181 G) (wd_182 G) (wd_44 G) (wd_183 G) SE (c_sbL G SE SN) (by decide) ⟨_, _, (by decide +kernel : parseMethodDescriptor "()I" = some ⟨[], some .int⟩), rfl⟩ (by decide +kernel) (Wd := 0) (by decide) (Nat.le_of_ble_eq_true rfl) (by decide) (by decide) (by decide)
  obtain ⟨rfl, rfl⟩ := qA6
  have A7 := A6.run [(13, .istore 4, 15, 0), (15, .aload_n 1, 16, 0)] (pe := 16) (by decide +kernel) rfl
  obtain ⟨_, HA8, qA8, A8, moA8, szA8⟩ := A7.callV (argsL := []) (wd_186 G) (wd_149 G) (wd_151 G) rfl (wd_151 G) (wd_150 G) (wd_52 G) (wd_152 G) SE (c_asbLat G SC) (by decide) ⟨_, _, (by decide +kernel : parseMethodDescriptor "()Z" = some ⟨[], some .boolean⟩), rfl⟩ (by decide +kernel) (Wd := 0) (by decide) (Nat.le_of_ble_eq_true rfl) (by decide) (by decide) (by decide)
  obtain ⟨rfl, rfl⟩ := qA8
  have A9 := A8.ifF (cd := .eq) (o := 22) (by decide +kernel) (by show ¬ _ = _; decide)
  have A10 := A9.run [(22, .aload_n 0, 23, 0), (23, .iconst 0, 24, 0)] (pe := 24) (by decide +kernel) rfl
  obtain ⟨H2, A11, K2, W2⟩ := A10.putFin (wd_24 G) C E (wd_25 G) rfl rfl (wd_10 G) o (by decide +kernel) (ty := .byte) (by decide) rfl rfl
  have A12 := A11.run [(27, .aload_n 0, 28, 0), (28, .aload_n 3, 29, 0), (29, .iconst 0, 30, 0), (30, .iload 4, 32, 0)] (pe := 32) (by decide +kernel) rfl
  have hvx : v ∉ [x] := by
    obtain ⟨cA, A, -⟩ := ST
    simpa using Ne.symm (ne_arr E (wd_10 G) A)
  obtain ⟨_, HA13, qA13, A13, moA13, szA13⟩ := A12.callS (argsL := [.ref v, .int (0 : Nat).toInt32, .int cs.length.toInt32]) (wd_187 G) (wd_188 G) (wd_142 G) (wd_189 G) (c_cpr G (ST.ky K2 hvx) (i := 0) (j := cs.length) (by omega) (by simp) (by omega) (fun _ => by simp; omega)) (by decide) ⟨_, _, (by decide +kernel : parseMethodDescriptor "([BII)[B" = some ⟨[(.array .byte), .int, .int], some (.array .byte)⟩), rfl⟩ (by decide +kernel) (Wd := 1) (by decide) (Nat.le_of_ble_eq_true rfl) (by decide) (by decide) (by decide)
  obtain ⟨u, rfl, hge, K3, U, o3⟩ := qA13
  have sne := slot_ne (Z := Z) (Or.inr (wd_25 G)) (Or.inr (wd_23 G)) (by decide) (t := .byte) (by decide) (t' := .array .byte) (by decide)
  have V3 := ((V.other W2 (Or.inr (Ne.symm sne))).ky K3)
  obtain ⟨H4, A14, K4, W4⟩ := A13.putFin (wd_22 G) V3 ((E.ky K2).ky K3) (wd_23 G) rfl rfl (wd_10 G) (K3.2 _ (K2.2 _ o)) (by decide +kernel) (ty := .array .byte) (by decide) rfl rfl
  have A15 := A14.run [(38, .goto 59, 97, 0)] (pe := 97) (by decide +kernel) rfl
  have e : ((lo8 cs ++ rs).drop 0).take (cs.length - 0) = lo8 cs := by
    rw [List.drop_zero, Nat.sub_zero, List.take_append_of_le_length (by simp)]; exact List.take_of_length_le (by simp)
  rw [e] at U
  have hux : u ∉ [x] := by simpa using Nat.ne_of_gt (Nat.lt_of_lt_of_le (E.ky K2).lt hge)
  refine ⟨_, _, _, _, A15.ret (by decide +kernel), ⟨rfl, (K2.trans K3 fun x hx => nomatch hx).trans K4 fun x hx => Or.inl hx, ((E.ky K2).ky K3).ky K4, lc, u, V3.same W4, Or.inl ⟨la, ((C.same W2).ky K3).other W4 (Or.inr sne), U.ky K4 hux⟩⟩, by decide, by decide⟩
theorem c_sIS (G : Glb Z a0) {x a v : Addr} {cs : List Int32} {rs : List Value} (S : SB Z H a v cs rs) (hr : rs ≠ []) (hc : cs.length ≤ 52) (E : Exa Z H.1 x "java/lang/String") (V : Fld Z H.1 x "java/lang/String" "value" "[B" .null) (C : Fld Z H.1 x "java/lang/String" "coder" "B" (.int 0)) (o : H.2 x) :
    Ct l Z EL0 (⟨"java/lang/String", "<init>", "(Ljava/lang/StringBuilder;)V"⟩ : MethodName) jdk_42_method_53_code 2 (none) ({ frames := 4, cells := 1, slots := 52, locals := 65 } : Room) [] [.ref x, .ref a] H (fun v' H' => v' = none ∧ Kp H H' [x] ∧ Str Z H' x cs) := by
  refine Ct.in G (by first | exact plainFor_of_name (by simp [plainName, overriddenIn]; done) | decide +kernel) (ls := [.val (.ref x), .val (.ref a)]) rfl rfl fun D A0 => ?_
  have A1 := A0.run [(0, .aload_n 0, 1, 0), (1, .aload_n 1, 2, 0), (2, .aconst_null, 3, 0)] (pe := 3) (by decide +kernel) rfl
  obtain ⟨_, HA2, qA2, A2, moA2, szA2⟩ := A1.callI (argsL := [.ref a, .null]) rfl (wd_170 G) (wd_171 G) (wd_2 G) (wd_172 G) (c_sIA G S hr hc E V C o) (by decide) ⟨_, _, (by decide +kernel : parseMethodDescriptor "(Ljava/lang/AbstractStringBuilder;Ljava/lang/Void;)V" = some ⟨[(.object "java/lang/AbstractStringBuilder"), (.object "java/lang/Void")], none⟩), rfl⟩ (by decide +kernel) (Wd := 0) (by decide) (Nat.le_of_ble_eq_true rfl) (by decide) (by decide) (by decide)
  obtain ⟨rfl, q⟩ := qA2
  exact ⟨_, _, _, _, A2.ret (by decide +kernel), ⟨rfl, q⟩, by decide, by decide⟩
theorem c_tos (G : Glb Z a0) {a v : Addr} {cs : List Int32} {rs : List Value} (S : SB Z H a v cs rs) (hr : rs ≠ []) (hc : cs.length ≤ 52) :
    Ct l Z EL0 (⟨"java/lang/StringBuilder", "toString", "()Ljava/lang/String;"⟩ : MethodName) jdk_67_method_42_code 1 ((some (.object "java/lang/String"))) ({ frames := 5, cells := 2, slots := 56, locals := 79 } : Room) [] [.ref a] H (fun v' H' => ∃ s, v' = some (.ref s) ∧ H.1.size ≤ s ∧ Kp H H' [] ∧ Str Z H' s cs) := by
  refine Ct.in G (by first | exact plainFor_of_name (by simp [plainName, overriddenIn]; done) | decide +kernel) (ls := [.val (.ref a)]) rfl rfl fun D A0 => ?_
  obtain ⟨s, H1, A1, hge, K1, E, o, Df⟩ := A0.newO (wd_166 G) (wd_10 G) (wd_2 G) (by decide +kernel) (by decide) (by decide)
  have A2 := A1.run [(3, .dup, 4, 0), (4, .aload_n 0, 5, 0)] (pe := 5) (by decide +kernel) rfl
  obtain ⟨_, HA3, qA3, A3, moA3, szA3⟩ := A2.callI (argsL := [.ref a]) rfl (wd_167 G) (wd_168 G) (wd_2 G) (wd_169 G) (c_sIS G (S.ky K1) hr hc E (Df (Or.inr (wd_23 G)) (t := .array .byte) (by decide)) (Df (Or.inr (wd_25 G)) (t := .byte) (by decide)) o) (by decide) ⟨_, _, (by decide +kernel : parseMethodDescriptor "(Ljava/lang/StringBuilder;)V" = some ⟨[(.object "java/lang/StringBuilder")], none⟩), rfl⟩ (by decide +kernel) (Wd := 1) (by decide) (Nat.le_of_ble_eq_true rfl) (by decide) (by decide) (by decide)
  obtain ⟨rfl, K2, S2⟩ := qA3
  exact ⟨_, _, _, _, A3.retA (by decide +kernel) rfl rfl, ⟨s, rfl, hge, K1.trans K2 (fun y hy => by cases List.mem_singleton.mp hy; exact Or.inr hge), S2⟩, by decide, by decide⟩
end JSb2


/-! ## StringBuilder, Latin-1, that may grow -/
section JGrow
variable {l : Launch} {Z : State} {a0 : Array Value} {D : Dyn} {H : HP}
theorem c_maxI (G : Glb Z a0) {i j : Nat} (hi : i < 2 ^ 31) (hj : j < 2 ^ 31) : Ct l Z EL0 (⟨"java/lang/Math", "max", "(II)I"⟩ : MethodName) jdk_29_method_65_code 2 ((some .int)) ({ frames := 0, cells := 0, slots := 0, locals := 0 } : Room) [] [.int i.toInt32, .int j.toInt32] H (fun v H' => v = some (.int (max i j).toInt32) ∧ H = H') := by
  refine Ct.in G (by decide +kernel) (ls := [.val (.int i.toInt32), .val (.int j.toInt32)]) rfl rfl fun D A0 => ?_
  have A1 := A0.run [(0, .iload_n 0, 1, 0), (1, .iload_n 1, 2, 0)] (pe := 2) (by decide +kernel) rfl
  by_cases h : i < j
  · have A2 := A1.icT (cd := .lt) (o := 7) (by decide +kernel) ((n32_lt hi hj).mpr h) (pe := 9) (by decide)
    have A3 := A2.run [(9, .iload_n 1, 10, 0)] (pe := 10) (by decide +kernel) rfl
    exact ⟨_, _, _, _, A3.retI (by decide +kernel), ⟨by rw [Nat.max_eq_right (by omega)], rfl⟩, by decide, by decide⟩
  · have A2 := A1.icF (cd := .lt) (o := 7) (by decide +kernel) (fun q => h ((n32_lt hi hj).mp q))
    have A3 := A2.run [(5, .iload_n 0, 6, 0), (6, .goto 4, 10, 0)] (pe := 10) (by decide +kernel) rfl
    exact ⟨_, _, _, _, A3.retI (by decide +kernel), ⟨by rw [Nat.max_eq_left (by omega)], rfl⟩, by decide, by decide⟩
theorem c_nlen (G : Glb Z a0) {o i j : Nat} (h : o + max i j < 2 ^ 30) (h0 : 0 < o) : Ct l Z EL0 (⟨"jdk/internal/util/ArraysSupport", "newLength", "(III)I"⟩ : MethodName) jdk_48_method_27_code 4 ((some .int)) ({ frames := 1, cells := 0, slots := 0, locals := 14 } : Room) [] [.int o.toInt32, .int i.toInt32, .int j.toInt32] H (fun v H' => v = some (.int (o + max i j).toInt32) ∧ H = H') := by
  refine Ct.in G (by first | exact plainFor_of_name (by simp [plainName, overriddenIn]; done) | decide +kernel) (ls := [.val (.int o.toInt32), .val (.int i.toInt32), .val (.int j.toInt32), .unset]) rfl rfl fun D A0 => ?_
  have hi := Nat.le_max_left i j
  have hj := Nat.le_max_right i j
  have A1 := A0.run [(0, .iload_n 0, 1, 0), (1, .iload_n 1, 2, 0), (2, .iload_n 2, 3, 0)] (pe := 3) (by decide +kernel) rfl
  obtain ⟨_, HA2, qA2, A2, moA2, szA2⟩ := A1.callS (argsL := [.int i.toInt32, .int j.toInt32]) (wd_134 G) (wd_135 G) (wd_136 G) (wd_137 G) (c_maxI G (by omega) (by omega)) (by decide) ⟨_, _, (by decide +kernel : parseMethodDescriptor "(II)I" = some ⟨[.int, .int], some .int⟩), rfl⟩ (by decide +kernel) (Wd := 1) (by decide) (Nat.le_of_ble_eq_true rfl) (by decide) (by decide) (by decide)
  obtain ⟨rfl, rfl⟩ := qA2
  have A3 := A2.run [(6, .iadd, 7, 0)] (pe := 7) (by decide +kernel) rfl
  rw [n32_add] at A3
  have A4 := A3.run [(7, .istore_n 3, 8, 0), (8, .iconst 0, 9, 0), (9, .iload_n 3, 10, 0)] (pe := 10) (by decide +kernel) rfl
  have A5 := A4.icF (cd := .ge) (o := 11) (by decide +kernel) (not_not_intro ((n32_lt (i := 0) (by decide) (by omega)).mpr (by omega)))
  have A6 := A5.run [(13, .iload_n 3, 14, 0)] (pe := 14) (by decide +kernel) rfl
  have A7 := A6.ldcI (wd_138 G) (by decide +kernel)
  have A8 := A7.icF (cd := .gt) (o := 5) (by decide +kernel) (fun (q : (2147483639 : Int32) < (o + max i j).toInt32) => by rw [Int32.lt_iff_toInt_lt, n32_toInt (by omega), show (2147483639 : Int32).toInt = 2147483639 by decide] at q; omega)
  have A9 := A8.run [(19, .iload_n 3, 20, 0)] (pe := 20) (by decide +kernel) rfl
  exact ⟨_, _, _, _, A9.retI (by decide +kernel), ⟨rfl, rfl⟩, by decide, by decide⟩
theorem n32_shl0' (x : Int32) : x <<< ((0 : Int32) &&& 31) = x := n32_shl0 x
set_option maxRecDepth 65536 in
theorem c_ncap (G : Glb Z a0) {a v : Addr} {cs : List Int32} {rs : List Value} {C m : Nat} (S : SB Z H a v cs rs) (hC : cs.length + rs.length = C) (h1 : C < m) (h2 : m < 2 ^ 28) (h0 : 0 < C) :
    Ct l Z EL0 (⟨"java/lang/AbstractStringBuilder", "newCapacity", "(I)I"⟩ : MethodName) jdk_68_method_10_code 6 ((some .int)) ({ frames := 2, cells := 0, slots := 0, locals := 29 } : Room) [] [.ref a, .int m.toInt32] H (fun v' H' => v' = some (.int (max m (2 * C + 2)).toInt32) ∧ H = H') := by
  refine Ct.in G (by first | exact plainFor_of_name (by simp [plainName, overriddenIn]; done) | decide +kernel) (ls := [.val (.ref a), .val (.int m.toInt32), .unset, .unset, .unset, .unset]) rfl rfl fun D A0 => ?_
  obtain ⟨E, V, Cd, N, T, -⟩ := S
  have A1 := A0.run [(0, .aload_n 0, 1, 0)] (pe := 1) (by decide +kernel) rfl
  have A2 := A1.getF (wd_56 G) V (by decide +kernel)
  have A3 := A2.alen T (by decide +kernel) (z := C.toInt32) (by rw [← hC]; simp)
  have A4 := A3.run [(5, .istore_n 2, 6, 0), (6, .iload_n 1, 7, 0), (7, .aload_n 0, 8, 0)] (pe := 8) (by decide +kernel) rfl
  have A5 := A4.getF (wd_58 G) Cd (by decide +kernel)
  have A6 := A5.run [(11, .ishl, 12, 0)] (pe := 12) (by decide +kernel) rfl
  rw [n32_shl0] at A6
  have A7 := A6.run [(12, .istore_n 3, 13, 0), (13, .iload_n 3, 14, 0), (14, .iload_n 2, 15, 0), (15, .isub, 16, 0)] (pe := 16) (by decide +kernel) rfl
  rw [n32_sub (by omega)] at A7
  have A8 := A7.run [(16, .istore 4, 18, 0), (18, .iload_n 2, 19, 0), (19, .iload 4, 21, 0), (21, .iload_n 2, 22, 0), (22, .iconst 2, 23, 2), (23, .aload_n 0, 24, 0)] (pe := 24) (by decide +kernel) rfl
  have A9 := A8.getF (wd_58 G) Cd (by decide +kernel)
  have A10 := A9.run [(27, .ishl, 28, 0), (28, .iadd, 29, 0)] (pe := 29) (by decide +kernel) rfl
  rw [n32_shl0, show C.toInt32 + 2 = (C + 2).toInt32 from n32_add C 2] at A10
  obtain ⟨_, HA11, qA11, A11, moA11, szA11⟩ := A10.callS (argsL := [.int C.toInt32, .int (m - C).toInt32, .int (C + 2).toInt32]) (wd_130 G) (wd_131 G) (wd_132 G) (wd_133 G) (c_nlen G (by omega) h0) (by decide) ⟨_, _, (by decide +kernel : parseMethodDescriptor "(III)I" = some ⟨[.int, .int, .int], some .int⟩), rfl⟩ (by decide +kernel) (Wd := 0) (by decide) (Nat.le_of_ble_eq_true rfl) (by decide) (by decide) (by decide)
  obtain ⟨rfl, rfl⟩ := qA11
  rw [show C + max (m - C) (C + 2) = max m (2 * C + 2) by omega] at A11
  have A12 := A11.run [(32, .istore 5, 34, 0), (34, .iload 5, 36, 0)] (pe := 36) (by decide +kernel) rfl
  have A13 := A12.ldcI (wd_139 G) (by decide +kernel)
  have A14 := A13.icT (cd := .ne) (o := 13) (by decide +kernel) (fun q => by have := congrArg Int32.toInt q; rw [n32_toInt (by omega), show (2147483647 : Int32).toInt = 2147483647 by decide] at this; omega) (pe := 51) (by decide)
  have A15 := A14.run [(51, .iload 5, 53, 0), (53, .aload_n 0, 54, 0)] (pe := 54) (by decide +kernel) rfl
  have A16 := A15.getF (wd_58 G) Cd (by decide +kernel)
  have A17 := A16.run [(57, .ishr, 58, 0)] (pe := 58) (by decide +kernel) rfl
  rw [n32_shr0] at A17
  exact ⟨_, _, _, _, A17.retI (by decide +kernel), ⟨rfl, rfl⟩, by decide, by decide⟩
set_option maxRecDepth 65536 in
theorem c_cpo (G : Glb Z a0) {t : Addr} {vs : List Value} {n : Nat} (T : Ar Z H t .byte vs) (h1 : vs.length < n) (h2 : n ≤ 98) :
    Ct l Z EL0 (⟨"java/util/Arrays", "copyOf", "([BI)[B"⟩ : MethodName) jdk_65_method_121_code 3 ((some (.array .byte))) ({ frames := 1, cells := 1, slots := 98, locals := 18 } : Room) [] [.ref t, .int n.toInt32] H (fun v H' => ∃ u, v = some (.ref u) ∧ H.1.size ≤ u ∧ Kp H H' [] ∧ Ar Z H' u .byte (vs ++ List.replicate (n - vs.length) (.int 0)) ∧ H'.2 u ∧ Exa Z H'.1 u "[B") := by
  refine Ct.in G (by first | exact plainFor_of_name (by simp [plainName, overriddenIn]; done) | decide +kernel) (ls := [.val (.ref t), .val (.int n.toInt32), .unset]) rfl rfl fun D A0 => ?_
  have hL := T.len
  have hn31 : n < 2 ^ 31 := by omega
  have A1 := A0.run [(0, .iload_n 1, 1, 0), (1, .aload_n 0, 2, 0)] (pe := 2) (by decide +kernel) rfl
  have A2 := A1.alen T (by decide +kernel) rfl
  have A3 := A2.icT (cd := .ne) (o := 11) (by decide +kernel) (fun q => by have := (n32_inj hn31 hL).mp q; omega) (pe := 14) (by decide)
  have A4 := A3.run [(14, .iload_n 1, 15, 0)] (pe := 15) (by decide +kernel) rfl
  obtain ⟨u, H1, A5, hge, K1, U1, o1, Eu⟩ := A4.newAE (aty := .byte) (wd_14 G) (by decide +kernel) (N := n) rfl (cap := 98) h2 (by decide) (by decide) (by decide) (ad := "[B") (by decide)
  have A6 := A5.run [(17, .astore_n 2, 18, 0), (18, .aload_n 0, 19, 0), (19, .iconst 0, 20, 0), (20, .aload_n 2, 21, 0), (21, .iconst 0, 22, 0), (22, .aload_n 0, 23, 0)] (pe := 23) (by decide +kernel) rfl
  have A7 := A6.alen (T.ky K1) (by decide +kernel) rfl
  have A8 := A7.run [(24, .iload_n 1, 25, 0)] (pe := 25) (by decide +kernel) rfl
  obtain ⟨_, HA9, qA9, A9, moA9, szA9⟩ := A8.callS (argsL := [.int vs.length.toInt32, .int n.toInt32]) (wd_144 G) (wd_145 G) (wd_136 G) (wd_146 G) (c_mmin G hL hn31) (by decide) ⟨_, _, (by decide +kernel : parseMethodDescriptor "(II)I" = some ⟨[.int, .int], some .int⟩), rfl⟩ (by decide +kernel) (Wd := 4) (by decide) (Nat.le_of_ble_eq_true rfl) (by decide) (by decide) (by decide)
  obtain ⟨rfl, rfl⟩ := qA9
  rw [Nat.min_eq_left (by omega)] at A9
  obtain ⟨H2, A10, K2, U2⟩ := A9.copy (wd_147 G) (wd_109 G) (wd_107 G) (wd_108 G) (T.ky K1) U1 rfl o1 (i := 0) rfl (j := 0) rfl (q := vs.length) rfl (by omega) (by simp; omega) (by decide +kernel) (by decide) (Wd := 0) (by decide) (Nat.le_of_ble_eq_true rfl)
  have A11 := A10.run [(31, .aload_n 2, 32, 0)] (pe := 32) (by decide +kernel) rfl
  have e : (List.replicate n (defaultValue (newarray.typeOf .byte))).take 0 ++ (vs.drop 0).take vs.length ++ (List.replicate n (defaultValue (newarray.typeOf .byte))).drop (0 + vs.length) = vs ++ List.replicate (n - vs.length) (.int 0) := by
    rw [List.take_zero, List.nil_append, List.drop_zero, List.take_length, List.drop_replicate, Nat.zero_add]; rfl
  rw [e] at U2
  exact ⟨_, _, _, _, A11.retA (by decide +kernel) rfl rfl, ⟨u, rfl, hge, K1.trans K2 (fun y hy => by cases List.mem_singleton.mp hy; exact Or.inr hge), U2, K2.2 _ o1, Eu.ky K2⟩, by decide, by decide⟩
/-- a Latin-1 builder of capacity C that says cs -/
def SBx (Z : State) (H : HP) (a v : Addr) (C : Nat) (cs : List Int32) : Prop := ∃ rs, cs.length + rs.length = C ∧ SB Z H a v cs rs ∧ Exa Z H.1 v "[B"
theorem SBx.ky {H H' : HP} {a v : Addr} {C : Nat} {cs : List Int32} (S : SBx Z H a v C cs) (K : Kp H H' []) : SBx Z H' a v C cs := by
  obtain ⟨rs, h1, h2, h3⟩ := S; exact ⟨rs, h1, h2.ky K, h3.ky K⟩
theorem SBx.e {a v : Addr} {C : Nat} {cs : List Int32} (S : SBx Z H a v C cs) : Exa Z H.1 a SBn := by obtain ⟨rs, h1, h2, h3⟩ := S; exact h2.1
theorem SBx.o {a v : Addr} {C : Nat} {cs : List Int32} (S : SBx Z H a v C cs) : H.2 a ∧ H.2 v := by obtain ⟨rs, h1, h2, h3⟩ := S; exact h2.2.2.2.2.2.2.2
theorem SBx.le {a v : Addr} {C : Nat} {cs : List Int32} (S : SBx Z H a v C cs) : cs.length ≤ C := by obtain ⟨rs, h1, h2, h3⟩ := S; omega
theorem SBx.lat {a v : Addr} {C : Nat} {cs : List Int32} (S : SBx Z H a v C cs) : Lat cs := by obtain ⟨rs, h1, h2, h3⟩ := S; exact h2.2.2.2.2.2.1
abbrev Gr (C m C' : Nat) : Prop := m ≤ C ∧ C' = C ∨ C < m ∧ C' = max m (2 * C + 2)
set_option maxRecDepth 65536 in
theorem c_ensx (G : Glb Z a0) {a v : Addr} {cs : List Int32} {C m : Nat} (S : SBx Z H a v C cs) (h0 : 0 < C) (hg : max m (2 * C + 2) ≤ 98) :
    Ct l Z EL0 (⟨"java/lang/AbstractStringBuilder", "ensureCapacityInternal", "(I)V"⟩ : MethodName) jdk_68_method_9_code 3 (none) ({ frames := 3, cells := 1, slots := 98, locals := 48 } : Room) [] [.ref a, .int m.toInt32] H (fun r H' => r = none ∧ Kp H H' [a] ∧ ∃ v' C', (v' = v ∨ H.1.size ≤ v') ∧ SBx Z H' a v' C' cs ∧ Gr C m C') := by
  refine Ct.in G (by first | exact plainFor_of_name (by simp [plainName, overriddenIn]; done) | decide +kernel) (ls := [.val (.ref a), .val (.int m.toInt32), .unset]) rfl rfl fun D A0 => ?_
  obtain ⟨rs, hC, S0, Ev⟩ := S
  have hav : v ∉ [a] := by simpa using Ne.symm (S0.ne G)
  have S1 := S0
  obtain ⟨E, V, Cd, N, T, la, lc, o1, o2⟩ := S0
  have A1 := A0.run [(0, .aload_n 0, 1, 0)] (pe := 1) (by decide +kernel) rfl
  have A2 := A1.getF (wd_56 G) V (by decide +kernel)
  have A3 := A2.alen T (by decide +kernel) (z := C.toInt32) (by rw [← hC]; simp)
  have A4 := A3.run [(5, .aload_n 0, 6, 0)] (pe := 6) (by decide +kernel) rfl
  have A5 := A4.getF (wd_58 G) Cd (by decide +kernel)
  have A6 := A5.run [(9, .ishr, 10, 0)] (pe := 10) (by decide +kernel) rfl
  rw [n32_shr0] at A6
  have A7 := A6.run [(10, .istore_n 2, 11, 0), (11, .iload_n 1, 12, 0), (12, .iload_n 2, 13, 0), (13, .isub, 14, 0)] (pe := 14) (by decide +kernel) rfl
  have hiff : (0 : Int32) < m.toInt32 - C.toInt32 ↔ C < m := by
    have e := c_isub m.toInt32 C.toInt32
    rw [n32_toInt (by omega), n32_toInt (by omega)] at e
    have r := rng32 (m.toInt32 - C.toInt32)
    rw [Int32.lt_iff_toInt_lt, show (0 : Int32).toInt = 0 by decide]; omega
  by_cases h : C < m
  · have A8 := A7.ifF (cd := .le) (o := 24) (by decide +kernel) (not_not_intro (hiff.mpr h))
    have A9 := A8.run [(17, .aload_n 0, 18, 0), (18, .aload_n 0, 19, 0)] (pe := 19) (by decide +kernel) rfl
    have A10 := A9.getF (wd_56 G) V (by decide +kernel)
    have A11 := A10.run [(22, .aload_n 0, 23, 0), (23, .iload_n 1, 24, 0)] (pe := 24) (by decide +kernel) rfl
    obtain ⟨_, HA12, qA12, A12, moA12, szA12⟩ := A11.callV (argsL := [.int m.toInt32]) (wd_125 G) (decl_of (wd_126 G) (wd_129 G)) (wd_128 G) rfl (wd_128 G) (wd_126 G) (wd_52 G) (wd_129 G) E (c_ncap G S1 hC h (by omega) h0) (by decide) ⟨_, _, (by decide +kernel : parseMethodDescriptor "(I)I" = some ⟨[.int], some .int⟩), rfl⟩ (by decide +kernel) (Wd := 2) (by decide) (Nat.le_of_ble_eq_true rfl) (by decide) (by decide) (by decide)
    obtain ⟨rfl, rfl⟩ := qA12
    have A13 := A12.run [(27, .aload_n 0, 28, 0)] (pe := 28) (by decide +kernel) rfl
    have A14 := A13.getF (wd_58 G) Cd (by decide +kernel)
    have A15 := A14.run [(31, .ishl, 32, 0)] (pe := 32) (by decide +kernel) rfl
    rw [n32_shl0] at A15
    obtain ⟨_, HA16, qA16, A16, moA16, szA16⟩ := A15.callS (argsL := [.ref v, .int (max m (2 * C + 2)).toInt32]) (wd_140 G) (wd_141 G) (wd_142 G) (wd_143 G) (c_cpo G T (by rw [List.length_append, List.length_map, hC]; omega) hg) (by decide) ⟨_, _, (by decide +kernel : parseMethodDescriptor "([BI)[B" = some ⟨[(.array .byte), .int], some (.array .byte)⟩), rfl⟩ (by decide +kernel) (Wd := 1) (by decide) (Nat.le_of_ble_eq_true rfl) (by decide) (by decide) (by decide)
    obtain ⟨u, rfl, hge, K1, U, ou, Eu⟩ := qA16
    obtain ⟨H2, A17, K2, W2⟩ := A16.putF (wd_56 G) (V.ky K1) (E.ky K1) (wd_57 G) (wd_43 G) (K1.2 _ o1) (by decide +kernel) (ty := .array .byte) (by decide) rfl rfl
    have hua : u ∉ [a] := by simpa using Nat.ne_of_gt (Nat.lt_of_lt_of_le E.lt hge)
    refine ⟨_, _, _, _, A17.ret (by decide +kernel), ⟨rfl, (K1.wide fun x hx => nomatch hx).trans K2 fun x hx => Or.inl hx, u, max m (2 * C + 2), Or.inr hge, ⟨rs ++ List.replicate (max m (2 * C + 2) - C) (.int 0), by simp; omega, ⟨(E.ky K1).ky K2, (V.ky K1).same W2, (Cd.ky K1).other W2 (Or.inr (Ne.symm (sl_vc G))), (N.ky K1).other W2 (Or.inr (Ne.symm (sl_vn G))), ?_, la, lc, K2.2 _ (K1.2 _ o1), K2.2 _ ou⟩, Eu.ky K2⟩, Or.inr ⟨h, rfl⟩⟩, by decide, by decide⟩
    have U2 := U.ky K2 hua
    rw [List.length_append, List.length_map, hC, List.append_assoc] at U2
    exact U2
  · have A8 := A7.ifT (cd := .le) (o := 24) (by decide +kernel) (fun q => h (hiff.mp q)) (pe := 38) (by decide)
    exact ⟨_, _, _, _, A8.ret (by decide +kernel), ⟨rfl, (Kp.refl H).wide (fun x hx => nomatch hx), v, C, Or.inl rfl, ⟨rs, hC, S1, Ev⟩, Or.inl ⟨by omega, rfl⟩⟩, by decide, by decide⟩
theorem StrT.kyA (G : Glb Z a0) {H H' : HP} {a s t : Addr} {ds : List Int32} (T : StrT Z H s t ds) (K : Kp H H' [a]) (E : Exa Z H.1 a SBn) : StrT Z H' s t ds := by
  refine T.ky K (by simpa using Ne.symm (ne_exa E T.1 (by decide))) ?_
  obtain ⟨-, -, -, h⟩ := T
  rcases h with ⟨-, -, ⟨c, A, -⟩⟩ | ⟨-, -, ⟨c, A, -⟩⟩ <;> simpa using Ne.symm (ne_arr E (wd_43 G) A)
set_option maxRecDepth 65536 in
theorem c_asbAx (G : Glb Z a0) {a v s t : Addr} {cs ds : List Int32} {C : Nat} (S : SBx Z H a v C cs) (T : StrT Z H s t ds) (hla : Lat ds) (h0 : 0 < C) (hg : max (cs.length + ds.length) (2 * C + 2) ≤ 98) :
    Ct l Z EL0 (⟨"java/lang/AbstractStringBuilder", "append", "(Ljava/lang/String;)Ljava/lang/AbstractStringBuilder;"⟩ : MethodName) jdk_68_method_22_code 3 ((some (.object "java/lang/AbstractStringBuilder"))) ({ frames := 4, cells := 1, slots := 98, locals := 62 } : Room) [] [.ref a, .ref s] H (fun r H' => r = some (.ref a) ∧ Kp H H' [a, v] ∧ ∃ v' C', (v' = v ∨ H.1.size ≤ v') ∧ SBx Z H' a v' C' (cs ++ ds) ∧ Gr C (cs.length + ds.length) C') := by
  refine Ct.in G (by first | exact plainFor_of_name (by simp [plainName, overriddenIn]; done) | decide +kernel) (ls := [.val (.ref a), .val (.ref s), .unset]) rfl rfl fun D A0 => ?_
  have A1 := A0.run [(0, .aload_n 1, 1, 0)] (pe := 1) (by decide +kernel) rfl
  have A2 := A1.nnullT (o := 8) (by decide +kernel) (pe := 9) (by decide)
  have A3 := A2.run [(9, .aload_n 1, 10, 0)] (pe := 10) (by decide +kernel) rfl
  obtain ⟨_, HA4, qA4, A4, moA4, szA4⟩ := A3.callV (argsL := []) (wd_73 G) (wd_74 G) (wd_76 G) rfl (wd_76 G) (wd_75 G) (wd_2 G) (wd_77 G) T.1 (c_sLen G T.str) (by decide) ⟨_, _, (by decide +kernel : parseMethodDescriptor "()I" = some ⟨[], some .int⟩), rfl⟩ (by decide +kernel) (Wd := 0) (by decide) (Nat.le_of_ble_eq_true rfl) (by decide) (by decide) (by decide)
  obtain ⟨rfl, rfl⟩ := qA4
  have A5 := A4.run [(13, .istore_n 2, 14, 0), (14, .aload_n 0, 15, 0), (15, .aload_n 0, 16, 0)] (pe := 16) (by decide +kernel) rfl
  have E0 := S.e
  have N0 : Fld Z H.1 a ASB "count" "I" (.int cs.length.toInt32) := by obtain ⟨rs, -, q, -⟩ := S; exact q.2.2.2.1
  have A6 := A5.getF (wd_83 G) N0 (by decide +kernel)
  have A7 := A6.run [(19, .iload_n 2, 20, 0), (20, .iadd, 21, 0)] (pe := 21) (by decide +kernel) rfl
  rw [n32_add] at A7
  obtain ⟨_, HA8, qA8, A8, moA8, szA8⟩ := A7.callV (argsL := [.int (cs.length + ds.length).toInt32]) (wd_85 G) (decl_of (wd_86 G) (wd_89 G)) (wd_88 G) rfl (wd_88 G) (wd_86 G) (wd_52 G) (wd_89 G) E0 (c_ensx G S h0 hg) (by decide) ⟨_, _, (by decide +kernel : parseMethodDescriptor "(I)V" = some ⟨[.int], none⟩), rfl⟩ (by decide +kernel) (Wd := 0) (by decide) (Nat.le_of_ble_eq_true rfl) (by decide) (by decide) (by decide)
  obtain ⟨rfl, K0, v', C', hv', ⟨rs, hC', S1, Ev⟩, hG⟩ := qA8
  have T1 := T.kyA G K0 E0
  have hr : ds.length ≤ rs.length := by rcases hG with ⟨h, rfl⟩ | ⟨h, rfl⟩ <;> omega
  have A9 := A8.run [(24, .aload_n 0, 25, 0), (25, .aload_n 0, 26, 0)] (pe := 26) (by decide +kernel) rfl
  have A10 := A9.getF (wd_83 G) S1.2.2.2.1 (by decide +kernel)
  have A11 := A10.run [(29, .aload_n 1, 30, 0)] (pe := 30) (by decide +kernel) rfl
  obtain ⟨_, HA12, qA12, A12, moA12, szA12⟩ := A11.callV (argsL := [.int cs.length.toInt32, .ref s]) (wd_90 G) (decl_of (wd_91 G) (wd_94 G)) (wd_93 G) rfl (wd_93 G) (wd_91 G) (wd_52 G) (wd_94 G) S1.1 (c_psa G S1 T1 hla hr) (by decide) ⟨_, _, (by decide +kernel : parseMethodDescriptor "(ILjava/lang/String;)V" = some ⟨[.int, (.object "java/lang/String")], none⟩), rfl⟩ (by decide +kernel) (Wd := 0) (by decide) (Nat.le_of_ble_eq_true rfl) (by decide) (by decide) (by decide)
  obtain ⟨rfl, K1, B1⟩ := qA12
  have hav : a ∉ [v'] := by simpa using S1.ne G
  have hva : v' ∉ [a] := by simpa using Ne.symm (S1.ne G)
  obtain ⟨E, V, Cd, N, T0, la, lc, o1, o2⟩ := S1
  have A13 := A12.run [(33, .aload_n 0, 34, 0), (34, .dup, 35, 0)] (pe := 35) (by decide +kernel) rfl
  have A14 := A13.getF (wd_83 G) (N.ky K1 hav) (by decide +kernel)
  have A15 := A14.run [(38, .iload_n 2, 39, 0), (39, .iadd, 40, 0)] (pe := 40) (by decide +kernel) rfl
  rw [n32_add] at A15
  obtain ⟨H3, A16, K3, W3⟩ := A15.putF (wd_83 G) (N.ky K1 hav) (E.ky K1) (wd_84 G) (wd_43 G) (K1.2 _ o1) (by decide +kernel) (ty := .int) (by decide) rfl rfl
  have A17 := A16.run [(43, .aload_n 0, 44, 0)] (pe := 44) (by decide +kernel) rfl
  have KK : Kp H H3 [a, v] := ((K0.wide fun x hx => Or.inl (by simp at hx; simp [hx])).trans K1 fun x hx => by
    cases List.mem_singleton.mp hx
    rcases hv' with rfl | h
    · exact Or.inl (by simp)
    · exact Or.inr h).trans K3 fun x hx => Or.inl (by simp at hx; simp [hx])
  refine ⟨_, _, _, _, A17.retA (by decide +kernel) rfl rfl, ⟨rfl, KK, v', C', hv', ⟨rs.drop ds.length, by simp; omega, ⟨(E.ky K1).ky K3, (V.ky K1 hav).other W3 (Or.inr (sl_vn G)), (Cd.ky K1 hav).other W3 (Or.inr (sl_cn G)), by rw [List.length_append]; exact (N.ky K1 hav).same W3, B1.ky K3 hva, ?_, ?_, K3.2 _ (K1.2 _ o1), K3.2 _ (K1.2 _ o2)⟩, (Ev.ky K1).ky K3⟩, hG⟩, by decide, by decide⟩
  · exact fun c hc => (List.mem_append.mp hc).elim (la c) (hla c)
  · exact fun c hc => (List.mem_append.mp hc).elim (lc c) (T.2.1 c)
theorem c_sbAx (G : Glb Z a0) {a v s t : Addr} {cs ds : List Int32} {C : Nat} (S : SBx Z H a v C cs) (T : StrT Z H s t ds) (hla : Lat ds) (h0 : 0 < C) (hg : max (cs.length + ds.length) (2 * C + 2) ≤ 98) :
    Ct l Z EL0 (⟨"java/lang/StringBuilder", "append", "(Ljava/lang/String;)Ljava/lang/StringBuilder;"⟩ : MethodName) jdk_67_method_7_code 2 ((some (.object "java/lang/StringBuilder"))) ({ frames := 5, cells := 1, slots := 98, locals := 76 } : Room) [] [.ref a, .ref s] H (fun r H' => r = some (.ref a) ∧ Kp H H' [a, v] ∧ ∃ v' C', (v' = v ∨ H.1.size ≤ v') ∧ SBx Z H' a v' C' (cs ++ ds) ∧ Gr C (cs.length + ds.length) C') := by
  refine Ct.in G (by first | exact plainFor_of_name (by simp [plainName, overriddenIn]; done) | decide +kernel) (ls := [.val (.ref a), .val (.ref s)]) rfl rfl fun D A0 => ?_
  have A1 := A0.run [(0, .aload_n 0, 1, 0), (1, .aload_n 1, 2, 0)] (pe := 2) (by decide +kernel) rfl
  obtain ⟨_, HA2, qA2, A2, moA2, szA2⟩ := A1.callU (argsL := [.ref s]) (wd_68 G) (wd_71 G) (wd_88 G) rfl (wd_70 G) (wd_69 G) (by decide) (wd_52 G) (wd_72 G) S.e (c_asbAx G S T hla h0 hg) (by decide) ⟨_, _, (by decide +kernel : parseMethodDescriptor "(Ljava/lang/String;)Ljava/lang/AbstractStringBuilder;" = some ⟨[(.object "java/lang/String")], some (.object "java/lang/AbstractStringBuilder")⟩), rfl⟩ (by decide +kernel) (Wd := 0) (by decide) (Nat.le_of_ble_eq_true rfl) (by decide) (by decide) (by decide)
  obtain ⟨rfl, q⟩ := qA2
  have A3 := A2.run [(5, .pop, 6, 0), (6, .aload_n 0, 7, 0)] (pe := 7) (by decide +kernel) rfl
  exact ⟨_, _, _, _, A3.retA (by decide +kernel) rfl rfl, ⟨rfl, q⟩, by decide, by decide⟩
set_option maxRecDepth 65536 in
theorem c_asbIx (G : Glb Z a0) {x : Addr} (E : Exa Z H.1 x SBn) (V : Fld Z H.1 x ASB "value" "[B" .null) (C : Fld Z H.1 x ASB "coder" "B" (.int 0)) (N : Fld Z H.1 x ASB "count" "I" (.int 0)) (o : H.2 x) :
    Ct l Z EL0 (⟨"java/lang/AbstractStringBuilder", "<init>", "(I)V"⟩ : MethodName) jdk_68_method_2_code 2 (none) ({ frames := 1, cells := 1, slots := 16, locals := 12 } : Room) [] [.ref x, .int 16] H (fun v H' => v = none ∧ Kp H H' [x] ∧ ∃ t, H.1.size ≤ t ∧ SBx Z H' x t 16 []) := by
  refine Ct.in G (by first | exact plainFor_of_name (by simp [plainName, overriddenIn]; done) | decide +kernel) (ls := [.val (.ref x), .val (.int 16)]) rfl rfl fun D A0 => ?_
  obtain ⟨cz, hcz, cS⟩ := G_compact G
  have A1 := A0.run [(0, .aload_n 0, 1, 0)] (pe := 1) (by decide +kernel) rfl
  have A2 := A1.initO (wd_54 G) (wd_20 G) (wd_21 G) (by decide +kernel) (Wd := 0) (by decide) (Nat.le_of_ble_eq_true rfl) (by decide)
  have A3 := A2.getS (wd_55 G) cS (by decide +kernel)
  have A4 := A3.ifF (cd := .eq) (o := 18) (by decide +kernel) hcz
  have A5 := A4.run [(10, .aload_n 0, 11, 0), (11, .iload_n 1, 12, 0)] (pe := 12) (by decide +kernel) rfl
  obtain ⟨t, H1, A6, hge, K1, T1, o1, Et⟩ := A5.newAE (aty := .byte) (wd_14 G) (by decide +kernel) (N := 16) rfl (cap := 16) (by decide) (by decide) (by decide) (by decide) (ad := "[B") (by decide)
  obtain ⟨H2, A7, K2, W2⟩ := A6.putF (wd_56 G) (V.ky K1) (E.ky K1) (wd_57 G) (wd_43 G) (K1.2 _ o) (by decide +kernel) (ty := .array .byte) (by decide) rfl rfl
  have A8 := A7.run [(17, .aload_n 0, 18, 0), (18, .iconst 0, 19, 0)] (pe := 19) (by decide +kernel) rfl
  have C2 := (C.ky K1).other W2 (Or.inr (Ne.symm (sl_vc G)))
  obtain ⟨H3, A9, K3, W3⟩ := A8.putF (wd_58 G) C2 ((E.ky K1).ky K2) (wd_59 G) (wd_43 G) (K2.2 _ (K1.2 _ o)) (by decide +kernel) (ty := .byte) (by decide) rfl rfl
  have A10 := A9.run [(22, .goto 16, 38, 0)] (pe := 38) (by decide +kernel) rfl
  have A11 := A10.ret (by decide +kernel)
  have htx : t ∉ [x] := by simpa using Nat.ne_of_gt (Nat.lt_of_lt_of_le E.lt hge)
  refine ⟨_, _, _, _, A11, ⟨rfl, ((K1.wide fun x hx => nomatch hx).trans K2 fun x hx => Or.inl hx).trans K3 fun x hx => Or.inl hx, t, hge, List.replicate 16 (.int 0), rfl, ⟨((E.ky K1).ky K2).ky K3, ((V.ky K1).same W2).other W3 (Or.inr (sl_vc G)), C2.same W3, ((N.ky K1).other W2 (Or.inr (Ne.symm (sl_vn G)))).other W3 (Or.inr (Ne.symm (sl_cn G))), (T1.ky K2 htx).ky K3 htx, (fun c hc => nomatch hc), (fun c hc => nomatch hc), K3.2 _ (K2.2 _ (K1.2 _ o)), K3.2 _ (K2.2 _ o1)⟩, (Et.ky K2).ky K3⟩, by decide, by decide⟩
theorem c_sbIx (G : Glb Z a0) {x : Addr} (E : Exa Z H.1 x SBn) (V : Fld Z H.1 x ASB "value" "[B" .null) (C : Fld Z H.1 x ASB "coder" "B" (.int 0)) (N : Fld Z H.1 x ASB "count" "I" (.int 0)) (o : H.2 x) :
    Ct l Z EL0 (⟨"java/lang/StringBuilder", "<init>", "()V"⟩ : MethodName) jdk_67_method_1_code 1 (none) ({ frames := 2, cells := 1, slots := 16, locals := 25 } : Room) [] [.ref x] H (fun v H' => v = none ∧ Kp H H' [x] ∧ ∃ t, H.1.size ≤ t ∧ SBx Z H' x t 16 []) := by
  refine Ct.in G (by first | exact plainFor_of_name (by simp [plainName, overriddenIn]; done) | decide +kernel) (ls := [.val (.ref x)]) rfl rfl fun D A0 => ?_
  have A1 := A0.run [(0, .aload_n 0, 1, 0), (1, .bipush 16, 3, 16)] (pe := 3) (by decide +kernel) rfl
  obtain ⟨_, HA2, qA2, A2, moA2, szA2⟩ := A1.callI (argsL := [.int 16]) rfl (wd_48 G) (wd_49 G) (wd_52 G) (wd_53 G) (c_asbIx G E V C N o) (by decide) ⟨_, _, (by decide +kernel : parseMethodDescriptor "(I)V" = some ⟨[.int], none⟩), rfl⟩ (by decide +kernel) (Wd := 0) (by decide) (Nat.le_of_ble_eq_true rfl) (by decide) (by decide) (by decide)
  obtain ⟨rfl, K, q⟩ := qA2
  exact ⟨_, _, _, _, A2.ret (by decide +kernel), ⟨rfl, K, q⟩, by decide, by decide⟩
theorem c_cprA (G : Glb Z a0) {t : Addr} {vs : List Value} {j : Nat} (T : Ar Z H t .byte vs) (Et : Exa Z H.1 t "[B") (h2 : j ≤ vs.length) (h3 : j ≤ 52) :
    Ct l Z EL0 (⟨"java/util/Arrays", "copyOfRange", "([BII)[B"⟩ : MethodName) jdk_65_method_132_code 3 ((some (.array .byte))) ({ frames := 2, cells := 1, slots := 52, locals := 34 } : Room) [] [.ref t, .int (0 : Nat).toInt32, .int j.toInt32] H (fun v H' => ∃ u, v = some (.ref u) ∧ H.1.size ≤ u ∧ Kp H H' [] ∧ Ar Z H' u .byte ((vs.drop 0).take (j - 0)) ∧ H'.2 u) := by
  by_cases hw : j = vs.length
  · refine Ct.in G (by first | exact plainFor_of_name (by simp [plainName, overriddenIn]; done) | decide +kernel) (ls := [.val (.ref t), .val (.int (0 : Nat).toInt32), .val (.int j.toInt32)]) rfl rfl fun D A0 => ?_
    have A1 := A0.run [(0, .iload_n 1, 1, 0)] (pe := 1) (by decide +kernel) rfl
    have A2 := A1.ifF (cd := .ne) (o := 9) (by decide +kernel) (not_not_intro rfl)
    have A3 := A2.run [(4, .iload_n 2, 5, 0), (5, .aload_n 0, 6, 0)] (pe := 6) (by decide +kernel) rfl
    have A4 := A3.alen T (by decide +kernel) rfl
    have A5 := A4.icT (cd := .eq) (o := 10) (by decide +kernel) (congrArg Nat.toInt32 hw) (pe := 17) (by decide)
    have A6 := A5.run [(17, .aload_n 0, 18, 0)] (pe := 18) (by decide +kernel) rfl
    obtain ⟨u, H1, A7, hge, K1, U, o1, Eu⟩ := A6.clone (wd_190 G) (wd_191 G) (wd_195 G) (wd_193 G) (wd_194 G) (wd_196 G) T Et (by decide +kernel) (by decide) (Wd := 0) (by decide) (by decide) (cap := 52) (by omega) (by decide) (by decide)
    have A8 := A7.castY (wd_197 G) (Ins.self Eu) (by decide +kernel)
    refine ⟨_, _, _, _, A8.retA (by decide +kernel) rfl rfl, ⟨u, rfl, hge, K1, ?_, o1⟩, by decide, by decide⟩
    rw [List.drop_zero, Nat.sub_zero, hw, List.take_length]; exact U
  · exact c_cpr G T (by omega) h2 (by omega) (fun _ => hw)
set_option maxRecDepth 65536 in
theorem c_sIAx (G : Glb Z a0) {x a v : Addr} {cs : List Int32} {rs : List Value} (S : SB Z H a v cs rs) (Ev : Exa Z H.1 v "[B") (hc : cs.length ≤ 52) (E : Exa Z H.1 x "java/lang/String") (V : Fld Z H.1 x "java/lang/String" "value" "[B" .null) (C : Fld Z H.1 x "java/lang/String" "coder" "B" (.int 0)) (o : H.2 x) :
    Ct l Z EL0 (⟨"java/lang/String", "<init>", "(Ljava/lang/AbstractStringBuilder;Ljava/lang/Void;)V"⟩ : MethodName) jdk_42_method_150_code 5 (none) ({ frames := 3, cells := 1, slots := 52, locals := 49 } : Room) [] [.ref x, .ref a, .null] H (fun v' H' => v' = none ∧ Kp H H' [x] ∧ Str Z H' x cs) := by
  refine Ct.in G (by first | exact plainFor_of_name (by simp [plainName, overriddenIn]; done) | decide +kernel) (ls := [.val (.ref x), .val (.ref a), .val .null, .unset, .unset]) rfl rfl fun D A0 => ?_
  obtain ⟨SE, SV, SC, SN, ST, la, lc, o1, o2⟩ := S
  have hL := ST.len; simp at hL
  have A1 := A0.run [(0, .aload_n 0, 1, 0)] (pe := 1) (by decide +kernel) rfl
  have A2 := A1.initO (wd_19 G) (wd_20 G) (wd_21 G) (by decide +kernel) (Wd := 0) (by decide) (Nat.le_of_ble_eq_true rfl) (by decide)
  have A3 := A2.run [(4, .aload_n 1, 5, 0)] (pe := 5) (by decide +kernel) rfl
  obtain ⟨_, HA4, qA4, A4, moA4, szA4⟩ := A3.callV (argsL := []) (wd_173 G) (wd_174 G) (wd_176 G) rfl (wd_176 G) (wd_175 G) (wd_52 G) (wd_177 G) SE (c_gva G SV) (by decide) ⟨_, _, (by decide +kernel : parseMethodDescriptor "()[B" = some ⟨[], some (.array .byte)⟩), rfl⟩ (by decide +kernel) (Wd := 0) (by decide) (Nat.le_of_ble_eq_true rfl) (by decide) (by decide) (by decide)
  obtain ⟨rfl, rfl⟩ := qA4
  have A5 := A4.run [(8, .astore_n 3, 9, 0), (9, .aload_n 1, 10, 0)] (pe := 10) (by decide +kernel) rfl
  obtain ⟨_, HA6, qA6, A6, moA6, szA6⟩ := A5.callV (argsL := []) (wd_178 G) (wd_179 G) (wd_88 G) rfl (wd_181 G) (wd_182 G) (wd_44 G) (wd_183 G) SE (c_sbL G SE SN) (by decide) ⟨_, _, (by decide +kernel : parseMethodDescriptor "()I" = some ⟨[], some .int⟩), rfl⟩ (by decide +kernel) (Wd := 0) (by decide) (Nat.le_of_ble_eq_true rfl) (by decide) (by decide) (by decide)
  obtain ⟨rfl, rfl⟩ := qA6
  have A7 := A6.run [(13, .istore 4, 15, 0), (15, .aload_n 1, 16, 0)] (pe := 16) (by decide +kernel) rfl
  obtain ⟨_, HA8, qA8, A8, moA8, szA8⟩ := A7.callV (argsL := []) (wd_186 G) (wd_149 G) (wd_151 G) rfl (wd_151 G) (wd_150 G) (wd_52 G) (wd_152 G) SE (c_asbLat G SC) (by decide) ⟨_, _, (by decide +kernel : parseMethodDescriptor "()Z" = some ⟨[], some .boolean⟩), rfl⟩ (by decide +kernel) (Wd := 0) (by decide) (Nat.le_of_ble_eq_true rfl) (by decide) (by decide) (by decide)
  obtain ⟨rfl, rfl⟩ := qA8
  have A9 := A8.ifF (cd := .eq) (o := 22) (by decide +kernel) (by show ¬ _ = _; decide)
  have A10 := A9.run [(22, .aload_n 0, 23, 0), (23, .iconst 0, 24, 0)] (pe := 24) (by decide +kernel) rfl
  obtain ⟨H2, A11, K2, W2⟩ := A10.putFin (wd_24 G) C E (wd_25 G) rfl rfl (wd_10 G) o (by decide +kernel) (ty := .byte) (by decide) rfl rfl
  have A12 := A11.run [(27, .aload_n 0, 28, 0), (28, .aload_n 3, 29, 0), (29, .iconst 0, 30, 0), (30, .iload 4, 32, 0)] (pe := 32) (by decide +kernel) rfl
  have hvx : v ∉ [x] := by
    obtain ⟨cA, A, -⟩ := ST
    simpa using Ne.symm (ne_arr E (wd_10 G) A)
  obtain ⟨_, HA13, qA13, A13, moA13, szA13⟩ := A12.callS (argsL := [.ref v, .int (0 : Nat).toInt32, .int cs.length.toInt32]) (wd_187 G) (wd_188 G) (wd_142 G) (wd_189 G) (c_cprA G (ST.ky K2 hvx) (Ev.ky K2) (j := cs.length) (by simp) (by omega)) (by decide) ⟨_, _, (by decide +kernel : parseMethodDescriptor "([BII)[B" = some ⟨[(.array .byte), .int, .int], some (.array .byte)⟩), rfl⟩ (by decide +kernel) (Wd := 1) (by decide) (Nat.le_of_ble_eq_true rfl) (by decide) (by decide) (by decide)
  obtain ⟨u, rfl, hge, K3, U, o3⟩ := qA13
  have sne := slot_ne (Z := Z) (Or.inr (wd_25 G)) (Or.inr (wd_23 G)) (by decide) (t := .byte) (by decide) (t' := .array .byte) (by decide)
  have V3 := ((V.other W2 (Or.inr (Ne.symm sne))).ky K3)
  obtain ⟨H4, A14, K4, W4⟩ := A13.putFin (wd_22 G) V3 ((E.ky K2).ky K3) (wd_23 G) rfl rfl (wd_10 G) (K3.2 _ (K2.2 _ o)) (by decide +kernel) (ty := .array .byte) (by decide) rfl rfl
  have A15 := A14.run [(38, .goto 59, 97, 0)] (pe := 97) (by decide +kernel) rfl
  have e : ((lo8 cs ++ rs).drop 0).take (cs.length - 0) = lo8 cs := by
    rw [List.drop_zero, Nat.sub_zero, List.take_append_of_le_length (by simp)]; exact List.take_of_length_le (by simp)
  rw [e] at U
  have hux : u ∉ [x] := by simpa using Nat.ne_of_gt (Nat.lt_of_lt_of_le (E.ky K2).lt hge)
  refine ⟨_, _, _, _, A15.ret (by decide +kernel), ⟨rfl, (K2.trans K3 fun x hx => nomatch hx).trans K4 fun x hx => Or.inl hx, ((E.ky K2).ky K3).ky K4, lc, u, V3.same W4, Or.inl ⟨la, ((C.same W2).ky K3).other W4 (Or.inr sne), U.ky K4 hux⟩⟩, by decide, by decide⟩
theorem c_sISx (G : Glb Z a0) {x a v : Addr} {cs : List Int32} {rs : List Value} (S : SB Z H a v cs rs) (Ev : Exa Z H.1 v "[B") (hc : cs.length ≤ 52) (E : Exa Z H.1 x "java/lang/String") (V : Fld Z H.1 x "java/lang/String" "value" "[B" .null) (C : Fld Z H.1 x "java/lang/String" "coder" "B" (.int 0)) (o : H.2 x) :
    Ct l Z EL0 (⟨"java/lang/String", "<init>", "(Ljava/lang/StringBuilder;)V"⟩ : MethodName) jdk_42_method_53_code 2 (none) ({ frames := 4, cells := 1, slots := 52, locals := 65 } : Room) [] [.ref x, .ref a] H (fun v' H' => v' = none ∧ Kp H H' [x] ∧ Str Z H' x cs) := by
  refine Ct.in G (by first | exact plainFor_of_name (by simp [plainName, overriddenIn]; done) | decide +kernel) (ls := [.val (.ref x), .val (.ref a)]) rfl rfl fun D A0 => ?_
  have A1 := A0.run [(0, .aload_n 0, 1, 0), (1, .aload_n 1, 2, 0), (2, .aconst_null, 3, 0)] (pe := 3) (by decide +kernel) rfl
  obtain ⟨_, HA2, qA2, A2, moA2, szA2⟩ := A1.callI (argsL := [.ref a, .null]) rfl (wd_170 G) (wd_171 G) (wd_2 G) (wd_172 G) (c_sIAx G S Ev hc E V C o) (by decide) ⟨_, _, (by decide +kernel : parseMethodDescriptor "(Ljava/lang/AbstractStringBuilder;Ljava/lang/Void;)V" = some ⟨[(.object "java/lang/AbstractStringBuilder"), (.object "java/lang/Void")], none⟩), rfl⟩ (by decide +kernel) (Wd := 0) (by decide) (Nat.le_of_ble_eq_true rfl) (by decide) (by decide) (by decide)
  obtain ⟨rfl, q⟩ := qA2
  exact ⟨_, _, _, _, A2.ret (by decide +kernel), ⟨rfl, q⟩, by decide, by decide⟩
theorem c_tosx (G : Glb Z a0) {a v : Addr} {cs : List Int32} {rs : List Value} (S : SB Z H a v cs rs) (Ev : Exa Z H.1 v "[B") (hc : cs.length ≤ 52) :
    Ct l Z EL0 (⟨"java/lang/StringBuilder", "toString", "()Ljava/lang/String;"⟩ : MethodName) jdk_67_method_42_code 1 ((some (.object "java/lang/String"))) ({ frames := 5, cells := 2, slots := 56, locals := 79 } : Room) [] [.ref a] H (fun v' H' => ∃ s, v' = some (.ref s) ∧ H.1.size ≤ s ∧ Kp H H' [] ∧ Str Z H' s cs) := by
  refine Ct.in G (by first | exact plainFor_of_name (by simp [plainName, overriddenIn]; done) | decide +kernel) (ls := [.val (.ref a)]) rfl rfl fun D A0 => ?_
  obtain ⟨s, H1, A1, hge, K1, E, o, Df⟩ := A0.newO (wd_166 G) (wd_10 G) (wd_2 G) (by decide +kernel) (by decide) (by decide)
  have A2 := A1.run [(3, .dup, 4, 0), (4, .aload_n 0, 5, 0)] (pe := 5) (by decide +kernel) rfl
  obtain ⟨_, HA3, qA3, A3, moA3, szA3⟩ := A2.callI (argsL := [.ref a]) rfl (wd_167 G) (wd_168 G) (wd_2 G) (wd_169 G) (c_sISx G (S.ky K1) (Ev.ky K1) hc E (Df (Or.inr (wd_23 G)) (t := .array .byte) (by decide)) (Df (Or.inr (wd_25 G)) (t := .byte) (by decide)) o) (by decide) ⟨_, _, (by decide +kernel : parseMethodDescriptor "(Ljava/lang/StringBuilder;)V" = some ⟨[(.object "java/lang/StringBuilder")], none⟩), rfl⟩ (by decide +kernel) (Wd := 1) (by decide) (Nat.le_of_ble_eq_true rfl) (by decide) (by decide) (by decide)
  obtain ⟨rfl, K2, S2⟩ := qA3
  exact ⟨_, _, _, _, A3.retA (by decide +kernel) rfl rfl, ⟨s, rfl, hge, K1.trans K2 (fun y hy => by cases List.mem_singleton.mp hy; exact Or.inr hge), S2⟩, by decide, by decide⟩
end JGrow


/-! ## decimal digits -/
theorem n32_pred {k : Nat} (h : 1 ≤ k) : k.toInt32 - 1 = (k - 1).toInt32 := n32_sub (i := k) (j := 1) h
def dgs (n : Nat) : List Int32 := if n < 10 then [(48 + n).toInt32] else dgs (n / 10) ++ [(48 + n % 10).toInt32]
termination_by n
decreasing_by omega
theorem dgs_lt {n : Nat} (h : n < 10) : dgs n = [(48 + n).toInt32] := by rw [dgs, if_pos h]
theorem dgs_ge {n : Nat} (h : ¬ n < 10) : dgs n = dgs (n / 10) ++ [(48 + n % 10).toInt32] := by rw [dgs, if_neg h]
theorem dgs_100 {n : Nat} (h : 100 ≤ n) : dgs n = dgs (n / 100) ++ [(48 + n % 100 / 10).toInt32, (48 + n % 100 % 10).toInt32] := by
  rw [dgs_ge (by omega), dgs_ge (n := n / 10) (by omega), Nat.div_div_eq_div_mul, List.append_assoc]
  rw [show n / 10 % 10 = n % 100 / 10 by omega, show n % 10 = n % 100 % 10 by omega]; rfl
theorem dgs_10 {n : Nat} (h : 10 ≤ n) (h2 : n < 100) : dgs n = [(48 + n / 10).toInt32, (48 + n % 10).toInt32] := by
  rw [dgs_ge (by omega), dgs_lt (by omega)]; rfl
theorem dgs_pos (n : Nat) : 0 < (dgs n).length := by
  by_cases h : n < 10
  · rw [dgs_lt h]; simp
  · rw [dgs_ge h]; simp
theorem dgs_len : ∀ (i n : Nat), n < 10 ^ (i + 1) → (i = 0 ∨ 10 ^ i ≤ n) → (dgs n).length = i + 1
  | 0, n, h, _ => by rw [dgs_lt (by simpa using h)]; rfl
  | i + 1, n, h, h2 => by
    have h3 : 10 ^ (i + 1) ≤ n := by omega
    have e : 10 ^ (i + 1) = 10 ^ i * 10 := Nat.pow_succ 10 i
    have e2 : 10 ^ (i + 1 + 1) = 10 ^ (i + 1) * 10 := Nat.pow_succ 10 (i + 1)
    have p : 0 < 10 ^ i := Nat.pow_pos (by decide)
    rw [dgs_ge (by omega), List.length_append, dgs_len i (n / 10) (by omega) (Or.inr (by omega))]; rfl
theorem dgs_get : ∀ (k n : Nat), k < (dgs n).length → (dgs n)[(dgs n).length - 1 - k]? = some (48 + n / 10 ^ k % 10).toInt32
  | 0, n, _ => by
    by_cases h : n < 10
    · rw [dgs_lt h]; simp [Nat.mod_eq_of_lt h]
    · rw [dgs_ge h]; simp
  | k + 1, n, hk => by
    by_cases h : n < 10
    · rw [dgs_lt h] at hk; simp at hk
    · rw [dgs_ge h] at hk ⊢
      have hk' : k < (dgs (n / 10)).length := by simp at hk; omega
      have q := dgs_get k (n / 10) hk'
      rw [List.length_append, List.length_singleton, List.getElem?_append_left (by omega), show (dgs (n / 10)).length + 1 - 1 - (k + 1) = (dgs (n / 10)).length - 1 - k by omega, q, Nat.pow_succ', Nat.div_div_eq_div_mul]
theorem dgs_mem : ∀ (n : Nat), ∀ c ∈ dgs n, ∃ d : Nat, d < 10 ∧ c = (48 + d).toInt32 := by
  intro n
  induction n using Nat.strongRecOn with
  | _ n ih =>
    intro c hc
    by_cases h : n < 10
    · rw [dgs_lt h] at hc; exact ⟨n, h, by simpa using hc⟩
    · rw [dgs_ge h] at hc
      rcases List.mem_append.mp hc with hc | hc
      · exact ih (n / 10) (by omega) c hc
      · exact ⟨n % 10, by omega, by simpa using hc⟩
abbrev INTn : String := "java/lang/Integer"
theorem digWord {Z : State} {a0 : Array Value} {nm : String} {f : Nat → Int32} {ft : Term} (hf : ∀ i, i < 100 → ft.eval a0 Z none [i] Z = some (.int (f i))) (w0 : (Jvm.Cond.initializedFor INTn nm "[B").before a0 Z = true) (w1 : (Jvm.Cond.exactly (.static INTn nm "[B") "[B").before a0 Z = true) (w2 : (Jvm.Cond.eq (.length (.static INTn nm "[B")) (.int 100)).before a0 Z = true) (w3 : (Jvm.Cond.all (.static INTn nm "[B") (.eq (.elem (.static INTn nm "[B") (.index 0)) ft)).before a0 Z = true) (wa : (Jvm.Cond.arrayClass .byte).before a0 Z = true) :
    ∃ d, Sta Z Z.heap INTn nm "[B" (.ref d) ∧ ∃ cl : Cell, Arr Z Z.heap d cl .byte ∧ cl.slots.size = 100 ∧ ∀ r, r < 100 → cl.slots[r]? = some (.int (f r)) := by
  have h1 := Cond.before_iff.mp w1
  obtain ⟨d, e⟩ := exa_v h1
  have hsta := Sta.start e (Or.inl w0)
  have eAll : ∀ idx, (Term.static INTn nm "[B").eval a0 Z none idx Z = some (.ref d) := fun idx => by rw [← e]; simp only [Term.eval]
  clear h1 w0
  generalize Term.static INTn nm "[B" = TT at w1 w2 w3 e eAll
  obtain ⟨d0, cB, Dc, kB, hev, hfcB, hcellD, hkB, hstatD, hclsD, -⟩ := Cond.exactly_spec w1
  cases e.symm.trans hev
  have hl := Cond.eq_int w2 rfl
  obtain ⟨d', D', hev', harrAt, hlen⟩ := Term.length_spec hl
  cases e.symm.trans hev'
  obtain ⟨hcellD', hknD, -, -⟩ := State.arrayAt?_spec harrAt
  cases hcellD.symm.trans hcellD'
  have h31 := Jvm.Free.SBG.length_lt hev harrAt hl
  have hsz : Dc.slots.size = 100 := by
    have e2 : (Term.length TT).eval a0 Z none [] Z = some (.int (Int32.ofNat Dc.slots.size)) := by simp [Term.eval, hev, harrAt, h31]
    have := Option.some.inj (e2.symm.trans hl)
    have h2 : Int32.ofNat Dc.slots.size = Int32.ofNat 100 := by simpa using this
    have := congrArg Int32.toInt h2
    rw [Int32.toInt_ofNat_small h31, Int32.toInt_ofNat_small (by omega)] at this; omega
  obtain ⟨cB', kB', comp, hnameB, hkB', hkindB⟩ := Cond.arrayClass_spec wa
  rw [show ("[" ++ FieldType.toString .byte) = "[B" by decide] at hnameB
  cases hfcB.symm.trans hnameB
  cases hkB.symm.trans hkB'
  refine ⟨d, hsta, Dc, ⟨hcellD, ⟨(fun q h => by rw [h] at hstatD; cases hstatD), kB, (by rw [hclsD]; exact hkB), comp, hkindB⟩, hknD⟩, hsz, fun r hr => ?_⟩
  have q := Cond.all_elim e harrAt (Cond.before_iff.mp w3) r (by omega)
  have hjj : r.toInt32.toNatClampNeg = r := clamp_nat (by omega)
  obtain ⟨x, y, hx, hy, -⟩ := cmp_v (Or.inl q)
  have hel : (Term.elem TT (.index 0)).eval a0 Z none [r] Z = Dc.slots[r]? := by
    simp [Term.eval, eAll [r], harrAt, hjj, nonneg_nat (show r < 2 ^ 31 by omega), hsz, hr]
  rw [hel] at hx
  cases (hf r hr).symm.trans hy
  rw [hx]
  have : (Jvm.Cond.eq (.elem TT (.index 0)) ft).value a0 Z none Z [r] = some true := q
  cases x <;> simp [Cond.value, hel, hx, hf r hr] at this
  rw [this]
section JAppI
variable {l : Launch} {Z : State} {a0 : Array Value} {D : Dyn} {H : HP}
theorem dig1 : ∀ i, i < 100 → i.toInt32 % 10 = Int32.ofNat (i % 10) := by decide
theorem dig2 : ∀ i, i < 100 → i.toInt32 / 10 = Int32.ofNat (i / 10) := by decide
theorem G_one (G : Glb Z a0) : ∃ d, Sta Z Z.heap INTn "DigitOnes" "[B" (.ref d) ∧ ∃ cl : Cell, Arr Z Z.heap d cl .byte ∧ cl.slots.size = 100 ∧ ∀ r, r < 100 → cl.slots[r]? = some (.int (48 + r % 10).toInt32) :=
  digWord (ft := .add (.int 48) (.rem (.index 0) (.int 10))) (fun i hi => by simp [Term.eval]; exact dig1 i hi) (G.2.1 _ (List.mem_of_getElem? (i := 11) rfl)) (G.2.1 _ (List.mem_of_getElem? (i := 12) rfl)) (G.2.1 _ (List.mem_of_getElem? (i := 13) rfl)) (G.2.1 _ (List.mem_of_getElem? (i := 14) rfl)) (wd_14 G)
theorem G_ten (G : Glb Z a0) : ∃ d, Sta Z Z.heap INTn "DigitTens" "[B" (.ref d) ∧ ∃ cl : Cell, Arr Z Z.heap d cl .byte ∧ cl.slots.size = 100 ∧ ∀ r, r < 100 → cl.slots[r]? = some (.int (48 + r / 10).toInt32) :=
  digWord (ft := .add (.int 48) (.div (.index 0) (.int 10))) (fun i hi => by simp [Term.eval]; exact dig2 i hi) (G.2.1 _ (List.mem_of_getElem? (i := 16) rfl)) (G.2.1 _ (List.mem_of_getElem? (i := 17) rfl)) (G.2.1 _ (List.mem_of_getElem? (i := 18) rfl)) (G.2.1 _ (List.mem_of_getElem? (i := 19) rfl)) (wd_14 G)
theorem Wk.ext {own : String} {code : ByteArray} {ml : Nat} {nm : String} {rt : Option FieldType} {R : Room} {pc : Nat} {ls : List Slot} {st : List Value} {k n : Nat} (A : Wk l Z a0 EL0 own code ml nm rt R D pc ls st H k n) : Ext Z.heap H.1 ∧ ∀ y, H.2 y → Z.heap.size ≤ y := by
  obtain ⟨p, e, s, m, args, below, meth, c, s0, H0⟩ := D
  obtain ⟨hx, hown, hc, hml, hnm, hrt, hlk, hEL, hSA, hls, T, L, vm0, k0, X, eT, hS, hk, hZ, hG, hF, hMo, hst⟩ := A
  exact ⟨hG.1, fun y hy => (hG.2.1 y hy).1⟩
/-- a table of digits, in the heap of now -/
theorem dg_now {d : Addr} {cl : Cell} {f : Nat → Nat} (A : Arr Z Z.heap d cl .byte) (hs : cl.slots.size = 100) (hv : ∀ r, r < 100 → cl.slots[r]? = some (.int (48 + f r).toInt32)) (hf : ∀ r, r < 100 → f r < 10) (X : Ext Z.heap H.1) : ∃ vs, Ar Z H d .byte vs ∧ ∀ r, r < 100 → vs[r]? = some (.int (48 + f r).toInt32) := by
  refine ⟨cl.slots.toList, ⟨cl, ⟨X.2 _ _ A.1, A.2⟩, by simp, by simp [hs], fun v hq => ?_⟩, fun r hr => by simpa using hv r hr⟩
  obtain ⟨i, hi⟩ := List.mem_iff_getElem?.mp hq
  have hi' : i < 100 := by have := (List.getElem?_eq_some_iff.mp hi).1; simpa [hs] using this
  have := hv i hi'
  simp at hi
  rw [this] at hi; cases hi
  have hfi := hf i hi'
  have : ∀ q, q < 10 → fits .byte (.int (48 + q).toInt32) = true := by decide
  exact this _ hfi
theorem cL_eq {x y : Int64} : XT.cmpL x y = 0 ↔ x = y := by
  unfold XT.cmpL
  split
  · rename_i h; exact ⟨fun q => absurd q (by decide), fun q => by subst q; exact absurd h (Int64.lt_irrefl)⟩
  · split
    · rename_i h; exact ⟨fun _ => h, fun _ => rfl⟩
    · rename_i h; exact ⟨fun q => absurd q (by decide), fun q => absurd q h⟩
theorem cL_lt {x y : Int64} : XT.cmpL x y < 0 ↔ x.toInt < y.toInt := by
  unfold XT.cmpL
  split
  · rename_i h; rw [Int64.lt_iff_toInt_lt] at h; exact ⟨fun q => absurd q (by decide), fun q => by omega⟩
  · rename_i h; rw [Int64.lt_iff_toInt_lt] at h
    split
    · rename_i h2; subst h2; exact ⟨fun q => absurd q (by decide), fun q => by omega⟩
    · rename_i h2
      exact ⟨fun _ => by have : x.toInt ≠ y.toInt := fun e => h2 (Int64.toInt_inj.mp e); omega, fun _ => by decide⟩
theorem cL_gt {x y : Int64} : 0 < XT.cmpL x y ↔ y.toInt < x.toInt := by
  unfold XT.cmpL
  split
  · rename_i h; rw [Int64.lt_iff_toInt_lt] at h; exact ⟨fun _ => h, fun _ => by decide⟩
  · rename_i h; rw [Int64.lt_iff_toInt_lt] at h
    split
    · rename_i h2; exact ⟨fun q => absurd q (by decide), fun q => absurd q h⟩
    · exact ⟨fun q => absurd q (by decide), fun q => absurd q h⟩
theorem z64 : (0 : Int64).toInt = 0 := by decide
theorem o64 : (1 : Int64).toInt = 1 := by decide
theorem n32_dec {p : Nat} (h : 1 ≤ p) : p.toInt32 + (-1) = (p - 1).toInt32 := by
  rw [← n32_pred h, Int32.sub_eq_add_neg]
theorem put2 {ws : List Value} {p : Nat} {x y : Value} (h2 : 2 ≤ p) (hp : p ≤ ws.length) : (ws.set (p - 1) y).set (p - 2) x = ws.take (p - 2) ++ [x, y] ++ ws.drop p := by
  obtain ⟨k, rfl⟩ : ∃ k, p = k + 2 := ⟨p - 2, by omega⟩
  have h : ws = ws.take k ++ (ws[k] :: ws[k + 1] :: ws.drop (k + 2)) := by
    rw [← List.drop_eq_getElem_cons (by omega : k + 1 < ws.length), ← List.drop_eq_getElem_cons (by omega : k < ws.length), List.take_append_drop]
  have hl : (ws.take k).length = k := by rw [List.length_take]; omega
  rw [show k + 2 - 1 = k + 1 by omega, show k + 2 - 2 = k by omega]
  conv => lhs; rw [h]
  rw [List.set_append_right _ _ (by omega), hl, show k + 1 - k = 0 + 1 by omega, List.set_cons_succ, List.set_cons_zero, List.set_append_right _ _ (by omega), hl, Nat.sub_self, List.set_cons_zero]
  simp
theorem put1 {ws : List Value} {p : Nat} {y : Value} (h2 : 1 ≤ p) (hp : p ≤ ws.length) : ws.set (p - 1) y = ws.take (p - 1) ++ [y] ++ ws.drop p := by
  rw [List.set_eq_take_append_cons_drop, if_pos (by omega), show p - 1 + 1 = p by omega]; simp
abbrev SU (s : Slot) : Prop := s = .unset ∨ ∃ x, s = .val (.int x)
theorem dgs_ok (n : Nat) : Lat (dgs n) ∧ ∀ c ∈ dgs n, isC c := by
  have key : ∀ d, d < 10 → isC (48 + d).toInt32 ∧ ¬ (255 : Int32) < (48 + d).toInt32 := by decide
  refine ⟨fun c hc => ?_, fun c hc => ?_⟩ <;> (obtain ⟨d, hd, rfl⟩ := dgs_mem n c hc)
  · exact (key d hd).2
  · exact (key d hd).1
/-- what a long is printed as -/
def lds (t : Int64) : List Int32 := if t.toInt < 0 then [45] ++ dgs t.toInt.natAbs else dgs t.toInt.natAbs
theorem lds_ok (t : Int64) : Lat (lds t) ∧ ∀ c ∈ lds t, isC c := by
  unfold lds
  obtain ⟨h1, h2⟩ := dgs_ok t.toInt.natAbs
  split
  · refine ⟨fun c hc => ?_, fun c hc => ?_⟩
    · rcases List.mem_append.mp hc with hc | hc
      · cases List.mem_singleton.mp hc; decide
      · exact h1 c hc
    · rcases List.mem_append.mp hc with hc | hc
      · cases List.mem_singleton.mp hc; constructor <;> decide
      · exact h2 c hc
  · exact ⟨h1, h2⟩
theorem l_ssJ (G : Glb Z a0) {n : Nat} (hn : n < 10 ^ 19) {x : Int64} (hx : x.toInt = -(n : Int)) {d : Nat} (hd : d ≤ 1) :
    ∀ (r i : Nat) (p : Int64), i + r = 18 → 1 ≤ i → p.toInt = -((10 ^ i : Nat) : Int) → (i = 1 ∨ 10 ^ (i - 1) ≤ n) → Wk l Z a0 EL0 "java/lang/Long" jdk_35_method_15_code 6 "stringSize" (some .int) ({ frames := 0, cells := 0, slots := 0, locals := 0 } : Room) D 20 [.val (.long x), .second, .val (.int d.toInt32), .val (.long p), .second, .val (.int i.toInt32)] [] H 0 0 → Rt Z EL0 D (some (.int ((dgs n).length + d).toInt32)) H 0 0 := by
  intro r
  induction r with
  | zero =>
    intro i p e h1 hp hi A0
    obtain rfl : i = 18 := by omega
    have A1 := A0.run [(20, .iload 5, 22, 0), (22, .bipush 19, 24, 19)] (pe := 24) (by decide +kernel) rfl
    have A2 := A1.icF (cd := .ge) (o := 26) (by decide +kernel) (by show ¬ ¬ _ < _; decide)
    have A3 := A2.run [(27, .lload_n 0, 28, 0), (28, .lload_n 3, 29, 0), (29, .lcmp, 30, 0)] (pe := 30) (by decide +kernel) rfl
    by_cases h : n < 10 ^ 18
    · have A4 := A3.ifF (cd := .le) (o := 8) (by decide +kernel) (not_not_intro (cL_gt.mpr (by rw [hx, hp]; omega)))
      have A5 := A4.run [(33, .iload 5, 35, 0), (35, .iload_n 2, 36, 0), (36, .iadd, 37, 0)] (pe := 37) (by decide +kernel) rfl
      have := dgs_len 17 n h (Or.inr (by omega))
      rw [this]
      rw [show (18 : Nat).toInt32 + d.toInt32 = (18 + d).toInt32 from n32_add 18 d] at A5
      exact A5.retI (by decide +kernel)
    · have A4 := A3.ifT (cd := .le) (o := 8) (by decide +kernel) (fun q => by have := cL_gt.mp q; rw [hx, hp] at this; omega) (pe := 38) (by decide)
      have A5 := A4.ldcJ (wd_124 G) (by decide +kernel)
      have A6 := A5.run [(41, .lload_n 3, 42, 0), (42, .lmul, 43, 0), (43, .lstore_n 3, 44, 0), (44, .iinc 5 1, 47, 1), (47, .goto (-27), 20, 0)] (pe := 20) (by decide +kernel) rfl
      have A7 := A6.run [(20, .iload 5, 22, 0), (22, .bipush 19, 24, 19)] (pe := 24) (by decide +kernel) rfl
      have A8 := A7.icT (cd := .ge) (o := 26) (by decide +kernel) (by show ¬ _ < _; decide) (pe := 50) (by decide)
      have A9 := A8.run [(50, .bipush 19, 52, 19), (52, .iload_n 2, 53, 0), (53, .iadd, 54, 0)] (pe := 54) (by decide +kernel) rfl
      have := dgs_len 18 n (by omega) (Or.inr (by omega))
      rw [this]
      rw [show 19 + d.toInt32 = (19 + d).toInt32 from n32_add 19 d] at A9
      exact A9.retI (by decide +kernel)
  | succ r ih =>
    intro i p e h1 hp hi A0
    have hb : 10 ^ i ≤ 10 ^ 17 := Nat.pow_le_pow_right (by decide) (by omega)
    have A1 := A0.run [(20, .iload 5, 22, 0), (22, .bipush 19, 24, 19)] (pe := 24) (by decide +kernel) rfl
    have A2 := A1.icF (cd := .ge) (o := 26) (by decide +kernel) (not_not_intro ((n32_lt (j := 19) (by omega) (by decide)).mpr (by omega)))
    have A3 := A2.run [(27, .lload_n 0, 28, 0), (28, .lload_n 3, 29, 0), (29, .lcmp, 30, 0)] (pe := 30) (by decide +kernel) rfl
    by_cases h : n < 10 ^ i
    · have A4 := A3.ifF (cd := .le) (o := 8) (by decide +kernel) (not_not_intro (cL_gt.mpr (by rw [hx, hp]; omega)))
      have A5 := A4.run [(33, .iload 5, 35, 0), (35, .iload_n 2, 36, 0), (36, .iadd, 37, 0)] (pe := 37) (by decide +kernel) rfl
      obtain ⟨j, rfl⟩ : ∃ j, i = j + 1 := ⟨i - 1, by omega⟩
      have := dgs_len j n h (hi.imp (fun hi => by omega) (fun hi => by simpa using hi))
      rw [this]
      rw [n32_add] at A5
      exact A5.retI (by decide +kernel)
    · have A4 := A3.ifT (cd := .le) (o := 8) (by decide +kernel) (fun q => by have := cL_gt.mp q; rw [hx, hp] at this; omega) (pe := 38) (by decide)
      have A5 := A4.ldcJ (wd_124 G) (by decide +kernel)
      have A6 := A5.run [(41, .lload_n 3, 42, 0), (42, .lmul, 43, 0), (43, .lstore_n 3, 44, 0), (44, .iinc 5 1, 47, 1), (47, .goto (-27), 20, 0)] (pe := 20) (by decide +kernel) rfl
      rw [n32_succ] at A6
      have m := c_lmul 10 p
      have r1 := rng64 (10 * p)
      rw [show (10 : Int64).toInt = 10 by decide, hp] at m
      have e10 : 10 ^ (i + 1) = 10 ^ i * 10 := Nat.pow_succ 10 i
      refine ih (i + 1) _ (by omega) (by omega) ?_ (Or.inr (by simpa using Nat.le_of_not_lt h)) A6
      rw [e10]; omega
theorem abs_lt (t : Int64) : t.toInt.natAbs < 10 ^ 19 := by have := rng64 t; omega
theorem lds_len (t : Int64) : (lds t).length = (dgs t.toInt.natAbs).length + (if t.toInt < 0 then 1 else 0) := by
  unfold lds; split <;> simp [Nat.add_comm]
theorem c_ssJ (G : Glb Z a0) {t : Int64} : Ct l Z EL0 (⟨"java/lang/Long", "stringSize", "(J)I"⟩ : MethodName) jdk_35_method_15_code 6 ((some .int)) ({ frames := 0, cells := 0, slots := 0, locals := 0 } : Room) [] [.long t] H (fun v H' => v = some (.int (lds t).length.toInt32) ∧ H = H') := by
  refine Ct.in G (by first | exact plainFor_of_name (by simp [plainName, overriddenIn]; done) | decide +kernel) (ls := [.val (.long t), .second, .unset, .unset, .unset, .unset]) rfl rfl fun D A0 => ?_
  have A1 := A0.run [(0, .iconst 1, 1, 1), (1, .istore_n 2, 2, 0), (2, .lload_n 0, 3, 0), (3, .lconst 0, 4, 0), (4, .lcmp, 5, 0)] (pe := 5) (by decide +kernel) rfl
  have hL := abs_lt t
  by_cases h : t.toInt < 0
  · have A2 := A1.ifT (cd := .lt) (o := 8) (by decide +kernel) (cL_lt.mpr h) (pe := 13) (by decide)
    have A3 := A2.ldcJ (wd_123 G) (by decide +kernel)
    have A4 := A3.run [(16, .lstore_n 3, 17, 0), (17, .iconst 1, 18, 1), (18, .istore 5, 20, 0)] (pe := 20) (by decide +kernel) rfl
    refine ⟨_, _, _, _, l_ssJ G hL (x := t) (by omega) (d := 1) (by decide) 17 1 _ (by decide) (by decide) (by decide) (Or.inl rfl) A4, ⟨by rw [lds_len, if_pos h], rfl⟩, by decide, by decide⟩
  · have A2 := A1.ifF (cd := .lt) (o := 8) (by decide +kernel) (fun q => h (cL_lt.mp q))
    have A3 := A2.run [(8, .iconst 0, 9, 0), (9, .istore_n 2, 10, 0), (10, .lload_n 0, 11, 0), (11, .lneg, 12, 0), (12, .lstore_n 0, 13, 0)] (pe := 13) (by decide +kernel) rfl
    have A4 := A3.ldcJ (wd_123 G) (by decide +kernel)
    have A5 := A4.run [(16, .lstore_n 3, 17, 0), (17, .iconst 1, 18, 1), (18, .istore 5, 20, 0)] (pe := 20) (by decide +kernel) rfl
    have e := c_lneg t
    have r := rng64 (-t)
    have r0 := rng64 t
    refine ⟨_, _, _, _, l_ssJ G hL (x := -t) (by omega) (d := 0) (by decide) 17 1 _ (by decide) (by decide) (by decide) (Or.inl rfl) A5, ⟨by rw [lds_len, if_neg h], rfl⟩, by decide, by decide⟩
abbrev SL (s s' : Slot) : Prop := s = .unset ∧ s' = .unset ∨ ∃ x, s = .val (.long x) ∧ s' = .second
set_option maxRecDepth 65536 in
set_option maxHeartbeats 1000000 in
theorem l_gcI (G : Glb Z a0) {v : Addr} {p0 : Int32} {H0 : HP} {x0 : Int64} {ng : Int32} {s4 s5 : Slot} : ∀ (m : Nat), m < 2 ^ 31 → ∀ (x : Int32) (p : Nat) (ws : List Value) (s6 s9 : Slot) (H : HP), x.toInt = -(m : Int) → SU s6 → SU s9 → (dgs m).length ≤ p → p ≤ ws.length → Kp H0 H [v] → H.2 v → Ar Z H v .byte ws →
      Wk l Z a0 EL0 "java/lang/Long" jdk_35_method_14_code 11 "getChars" (some .int) ({ frames := 0, cells := 0, slots := 0, locals := 0 } : Room) D 86 [.val (.long x0), .second, .val (.int p0), .val (.ref v), s4, s5, s6, .val (.int p.toInt32), .val (.int ng), s9, .val (.int x)] [] H 0 0 →
      ∃ H' s6' s9' x', Wk l Z a0 EL0 "java/lang/Long" jdk_35_method_14_code 11 "getChars" (some .int) ({ frames := 0, cells := 0, slots := 0, locals := 0 } : Room) D 178 [.val (.long x0), .second, .val (.int p0), .val (.ref v), s4, s5, s6', .val (.int (p - (dgs m).length).toInt32), .val (.int ng), s9', .val (.int x')] [] H' 0 0 ∧ Kp H0 H' [v] ∧ Ar Z H' v .byte (ws.take (p - (dgs m).length) ++ lo8 (dgs m) ++ ws.drop p) ∧ H'.2 v := by
  obtain ⟨d1, s1, c1, a1, z1, q1⟩ := G_one G
  obtain ⟨d2, s2, c2, a2, z2, q2⟩ := G_ten G
  intro m
  induction m using Nat.strongRecOn with
  | _ m ih =>
    intro hm x p ws s6 s9 H hx h6 h9 hl hp K o T A0
    have A1 := A0.run [(86, .iload 10, 88, 0), (88, .bipush (-100), 90, (-100))] (pe := 90) (by decide +kernel) rfl
    by_cases h : 100 ≤ m
    · have A2 := A1.icF (cd := .gt) (o := 53) (by decide +kernel) (fun (q : (-100 : Int32) < x) => by rw [Int32.lt_iff_toInt_lt, hx, show (-100 : Int32).toInt = -100 by decide] at q; omega)
      have A3 := A2.run [(93, .iload 10, 95, 0), (95, .bipush 100, 97, 100)] (pe := 97) (by decide +kernel) rfl
      have A4 := A3.idiv (by decide +kernel) (by decide)
      have e1 := (c_idiv x 100 100 (by decide) (by decide)).2 (by omega)
      have e2 := c_imul (x / 100) 100
      have e3 := c_isub (x / 100 * 100) x
      have r2 := rng32 (x / 100 * 100)
      have r3 := rng32 (x / 100 * 100 - x)
      rw [show (100 : Int32).toInt = 100 by decide] at e2
      have hr : x / 100 * 100 - x = (m % 100).toInt32 := Int32.toInt_inj.mp (by rw [n32_toInt (by omega)]; omega)
      have hlen : (dgs m).length = (dgs (m / 100)).length + 2 := by rw [dgs_100 h, List.length_append]; rfl
      have A5 : Wk l Z a0 EL0 "java/lang/Long" jdk_35_method_14_code 11 "getChars" (some .int) ({ frames := 0, cells := 0, slots := 0, locals := 0 } : Room) D 120 [.val (.long x0), .second, .val (.int p0), .val (.ref v), s4, s5, .val (.int (x / 100 * 100 - x)), .val (.int (p.toInt32 + -1)), .val (.int ng), .val (.int (x / 100)), .val (.int (x / 100))] [.int (p.toInt32 + -1), .ref v] H 0 0 := by
        rcases h6 with rfl | ⟨y3, rfl⟩ <;> rcases h9 with rfl | ⟨y4, rfl⟩ <;> exact A4.run [(98, .istore 9, 100, 0), (100, .iload 9, 102, 0), (102, .bipush 100, 104, 100), (104, .imul, 105, 0), (105, .iload 10, 107, 0), (107, .isub, 108, 0), (108, .istore 6, 110, 0), (110, .iload 9, 112, 0), (112, .istore 10, 114, 0), (114, .aload_n 3, 115, 0), (115, .iinc 7 (-1), 118, (-1)), (118, .iload 7, 120, 0)] (pe := 120) (by decide +kernel) rfl
      rw [n32_dec (by omega), hr] at A5
      have A6 := A5.getS (wd_158 G) s1 (by decide +kernel)
      have A7 := A6.run [(123, .iload 6, 125, 0)] (pe := 125) (by decide +kernel) rfl
      obtain ⟨vs1, V1, w1⟩ := dg_now a1 z1 q1 (f := fun r => r % 10) (fun r _ => by omega) A0.ext.1
      have A8 := A7.baload V1 (by decide +kernel) rfl (w1 (m % 100) (by omega))
      obtain ⟨H1, A9, K1, T1⟩ := A8.bastore T o (by decide +kernel) rfl (by omega) (x2 := b8 (48 + m % 100 % 10).toInt32) rfl
      have A10 := A9.run [(127, .aload_n 3, 128, 0), (128, .iinc 7 (-1), 131, (-1)), (131, .iload 7, 133, 0)] (pe := 133) (by decide +kernel) rfl
      rw [n32_dec (by omega)] at A10
      have A11 := A10.getS (wd_160 G) s2 (by decide +kernel)
      have A12 := A11.run [(136, .iload 6, 138, 0)] (pe := 138) (by decide +kernel) rfl
      obtain ⟨vs2, V2, w2⟩ := dg_now a2 z2 q2 (f := fun r => r / 10) (fun r _ => by omega) A9.ext.1
      have A13 := A12.baload V2 (by decide +kernel) rfl (w2 (m % 100) (by omega))
      obtain ⟨H2, A14, K2, T2⟩ := A13.bastore T1 (K1.2 _ o) (by decide +kernel) rfl (by simp; omega) (x2 := b8 (48 + m % 100 / 10).toInt32) rfl
      have A15 := A14.run [(140, .goto (-54), 86, 0)] (pe := 86) (by decide +kernel) rfl
      rw [show p - 1 - 1 = p - 2 by omega, put2 (by omega) hp] at T2
      rw [show p - 1 - 1 = p - 2 by omega] at A15
      have hKK : Kp H0 H2 [v] := (K.trans K1 fun y hy => Or.inl hy).trans K2 fun y hy => Or.inl hy
      obtain ⟨H', t6, t9, x', R, K', T', o'⟩ := ih (m / 100) (by omega) (by omega) (x / 100) (p - 2) _ _ _ H2 (by omega) (Or.inr ⟨_, rfl⟩) (Or.inr ⟨_, rfl⟩) (by omega) (by simp; omega) hKK (K2.2 _ (K1.2 _ o)) T2 A15
      rw [show p - 2 - (dgs (m / 100)).length = p - (dgs m).length by omega] at R T'
      refine ⟨H', t6, t9, x', R, K', ?_, o'⟩
      have e5 : (ws.take (p - 2) ++ [Value.int (b8 (48 + m % 100 / 10).toInt32), Value.int (b8 (48 + m % 100 % 10).toInt32)] ++ ws.drop p).take (p - (dgs m).length) = ws.take (p - (dgs m).length) := by
        rw [List.append_assoc, List.take_append_of_le_length (by simp; omega), List.take_take]; congr 1; omega
      have e6 : (ws.take (p - 2) ++ [Value.int (b8 (48 + m % 100 / 10).toInt32), Value.int (b8 (48 + m % 100 % 10).toInt32)] ++ ws.drop p).drop (p - 2) = [Value.int (b8 (48 + m % 100 / 10).toInt32), Value.int (b8 (48 + m % 100 % 10).toInt32)] ++ ws.drop p := by
        rw [List.append_assoc, List.drop_append_of_le_length (by simp; omega), List.drop_eq_nil_of_le (by simp; omega), List.nil_append]
      rw [e5, e6] at T'
      have e7 : lo8 (dgs m) = lo8 (dgs (m / 100)) ++ [Value.int (b8 (48 + m % 100 / 10).toInt32), Value.int (b8 (48 + m % 100 % 10).toInt32)] := by rw [dgs_100 h]; simp [List.map_append]
      rw [e7]
      simpa [List.append_assoc] using T'
    · have A2 := A1.icT (cd := .gt) (o := 53) (by decide +kernel) (by show _ < _; rw [Int32.lt_iff_toInt_lt, hx, show (-100 : Int32).toInt = -100 by decide]; omega) (pe := 143) (by decide)
      have A3 := A2.run [(143, .aload_n 3, 144, 0), (144, .iinc 7 (-1), 147, (-1)), (147, .iload 7, 149, 0)] (pe := 149) (by decide +kernel) rfl
      have p1 := dgs_pos m
      rw [n32_dec (by omega)] at A3
      have A4 := A3.getS (wd_158 G) s1 (by decide +kernel)
      have A5 := A4.run [(152, .iload 10, 154, 0), (154, .ineg, 155, 0)] (pe := 155) (by decide +kernel) rfl
      have e1 := c_ineg x
      have r1 := rng32 (-x)
      have hnx : -x = m.toInt32 := Int32.toInt_inj.mp (by rw [n32_toInt (by omega)]; omega)
      rw [hnx] at A5
      obtain ⟨vs1, V1, w1⟩ := dg_now a1 z1 q1 (f := fun r => r % 10) (fun r _ => by omega) A0.ext.1
      have A6 := A5.baload V1 (by decide +kernel) rfl (w1 m (by omega))
      obtain ⟨H1, A7, K1, T1⟩ := A6.bastore T o (by decide +kernel) rfl (by omega) (x2 := b8 (48 + m % 10).toInt32) rfl
      have A8 := A7.run [(157, .iload 10, 159, 0), (159, .bipush (-9), 161, (-9))] (pe := 161) (by decide +kernel) rfl
      have hK1 : Kp H0 H1 [v] := K.trans K1 fun y hy => Or.inl hy
      by_cases h9 : m < 10
      · have A9 := A8.icT (cd := .ge) (o := 17) (by decide +kernel) (fun q => by rw [Int32.lt_iff_toInt_lt, hx, show (-9 : Int32).toInt = -9 by decide] at q; omega) (pe := 178) (by decide)
        have hl1 : (dgs m).length = 1 := by rw [dgs_lt h9]; rfl
        rw [← hl1] at A9
        refine ⟨_, _, _, _, A9, hK1, ?_, K1.2 _ o⟩
        rw [put1 (by omega) hp] at T1
        rw [dgs_lt h9]
        rw [Nat.mod_eq_of_lt h9] at T1
        exact T1
      · have A9 := A8.icF (cd := .ge) (o := 17) (by decide +kernel) (not_not_intro (by rw [Int32.lt_iff_toInt_lt, hx, show (-9 : Int32).toInt = -9 by decide]; omega))
        have A10 := A9.run [(164, .aload_n 3, 165, 0), (165, .iinc 7 (-1), 168, (-1)), (168, .iload 7, 170, 0)] (pe := 170) (by decide +kernel) rfl
        have hlen : (dgs m).length = 2 := by rw [dgs_10 (by omega) (by omega)]; rfl
        rw [n32_dec (by omega)] at A10
        have A11 := A10.getS (wd_160 G) s2 (by decide +kernel)
        have A12 := A11.run [(173, .iload 10, 175, 0), (175, .ineg, 176, 0)] (pe := 176) (by decide +kernel) rfl
        rw [hnx] at A12
        obtain ⟨vs2, V2, w2⟩ := dg_now a2 z2 q2 (f := fun r => r / 10) (fun r _ => by omega) A7.ext.1
        have A13 := A12.baload V2 (by decide +kernel) rfl (w2 m (by omega))
        obtain ⟨H2, A14, K2, T2⟩ := A13.bastore T1 (K1.2 _ o) (by decide +kernel) rfl (by simp; omega) (x2 := b8 (48 + m / 10).toInt32) rfl
        rw [show p - 1 - 1 = p - (dgs m).length by omega] at A14
        refine ⟨_, _, _, _, A14, hK1.trans K2 fun y hy => Or.inl hy, ?_, K2.2 _ (K1.2 _ o)⟩
        rw [show p - 1 - 1 = p - 2 by omega, put2 (by omega) hp] at T2
        rw [dgs_10 (by omega) (by omega)]
        exact T2
set_option maxRecDepth 65536 in
set_option maxHeartbeats 1000000 in
theorem l_gcJ (G : Glb Z a0) {v : Addr} {p0 : Int32} {H0 : HP} {ng : Int32} : ∀ (m : Nat), m ≤ 2 ^ 63 → ∀ (x : Int64) (p : Nat) (ws : List Value) (s4 s5 s6 : Slot) (H : HP), x.toInt = -(m : Int) → SL s4 s5 → SU s6 → (dgs m).length ≤ p → p ≤ ws.length → Kp H0 H [v] → H.2 v → Ar Z H v .byte ws →
      Wk l Z a0 EL0 "java/lang/Long" jdk_35_method_14_code 11 "getChars" (some .int) ({ frames := 0, cells := 0, slots := 0, locals := 0 } : Room) D 24 [.val (.long x), .second, .val (.int p0), .val (.ref v), s4, s5, s6, .val (.int p.toInt32), .val (.int ng), .unset, .unset] [] H 0 0 →
      ∃ H' x0 t4 t5 s6' s9' x', Wk l Z a0 EL0 "java/lang/Long" jdk_35_method_14_code 11 "getChars" (some .int) ({ frames := 0, cells := 0, slots := 0, locals := 0 } : Room) D 178 [.val (.long x0), .second, .val (.int p0), .val (.ref v), t4, t5, s6', .val (.int (p - (dgs m).length).toInt32), .val (.int ng), s9', .val (.int x')] [] H' 0 0 ∧ Kp H0 H' [v] ∧ Ar Z H' v .byte (ws.take (p - (dgs m).length) ++ lo8 (dgs m) ++ ws.drop p) ∧ H'.2 v := by
  obtain ⟨d1, s1, c1, a1, z1, q1⟩ := G_one G
  obtain ⟨d2, s2, c2, a2, z2, q2⟩ := G_ten G
  intro m
  induction m using Nat.strongRecOn with
  | _ m ih =>
    intro hm x p ws s4 s5 s6 H hx h4 h6 hl hp K o T A0
    have A1 := A0.run [(24, .lload_n 0, 25, 0)] (pe := 25) (by decide +kernel) rfl
    have P1 := A1.ldcJ (wd_156 G) (by decide +kernel)
    have P2 := P1.run [(28, .lcmp, 29, 0)] (pe := 29) (by decide +kernel) rfl
    by_cases h : 2 ^ 31 ≤ m
    · have A2 := P2.ifF (cd := .gt) (o := 53) (by decide +kernel) (fun q => by have := cL_gt.mp q; rw [hx, show (-2147483648 : Int64).toInt = -2147483648 by decide] at this; omega)
      have P3 := A2.run [(32, .lload_n 0, 33, 0)] (pe := 33) (by decide +kernel) rfl
      have A3 := P3.ldcJ (wd_157 G) (by decide +kernel)
      have A4 := A3.ldiv (by decide +kernel) (by decide)
      have e1 := (c_ldiv x 100 100 (by decide) (by decide)).2 (by omega)
      have A4b : Wk l Z a0 EL0 "java/lang/Long" jdk_35_method_14_code 11 "getChars" (some .int) ({ frames := 0, cells := 0, slots := 0, locals := 0 } : Room) D 41 [.val (.long x), .second, .val (.int p0), .val (.ref v), .val (.long (x / 100)), .second, s6, .val (.int p.toInt32), .val (.int ng), .unset, .unset] [.long (x / 100)] H 0 0 := by
        rcases h4 with ⟨rfl, rfl⟩ | ⟨y, rfl, rfl⟩ <;> exact A4.run [(37, .lstore 4, 39, 0), (39, .lload 4, 41, 0)] (pe := 41) (by decide +kernel) rfl
      have A4c := A4b.ldcJ (wd_157 G) (by decide +kernel)
      have e2 := c_lmul (x / 100) 100
      have e3 := c_lsub (x / 100 * 100) x
      have r2 := rng64 (x / 100 * 100)
      have r3 := rng64 (x / 100 * 100 - x)
      rw [show (100 : Int64).toInt = 100 by decide] at e2
      have e4 := c_l2i (x / 100 * 100 - x)
      have r4 := rng32 (x / 100 * 100 - x).toInt32
      have hr : (x / 100 * 100 - x).toInt32 = (m % 100).toInt32 := Int32.toInt_inj.mp (by rw [n32_toInt (by omega)]; omega)
      have hlen : (dgs m).length = (dgs (m / 100)).length + 2 := by rw [dgs_100 (by omega), List.length_append]; rfl
      have A5 : Wk l Z a0 EL0 "java/lang/Long" jdk_35_method_14_code 11 "getChars" (some .int) ({ frames := 0, cells := 0, slots := 0, locals := 0 } : Room) D 59 [.val (.long (x / 100)), .second, .val (.int p0), .val (.ref v), .val (.long (x / 100)), .second, .val (.int (x / 100 * 100 - x).toInt32), .val (.int (p.toInt32 + -1)), .val (.int ng), .unset, .unset] [.int (p.toInt32 + -1), .ref v] H 0 0 := by
        rcases h6 with rfl | ⟨y3, rfl⟩ <;> exact A4c.run [(44, .lmul, 45, 0), (45, .lload_n 0, 46, 0), (46, .lsub, 47, 0), (47, .l2i, 48, 0), (48, .istore 6, 50, 0), (50, .lload 4, 52, 0), (52, .lstore_n 0, 53, 0), (53, .aload_n 3, 54, 0), (54, .iinc 7 (-1), 57, (-1)), (57, .iload 7, 59, 0)] (pe := 59) (by decide +kernel) rfl
      rw [n32_dec (by omega), hr] at A5
      have A6 := A5.getS (wd_158 G) s1 (by decide +kernel)
      have A7 := A6.run [(62, .iload 6, 64, 0)] (pe := 64) (by decide +kernel) rfl
      obtain ⟨vs1, V1, w1⟩ := dg_now a1 z1 q1 (f := fun r => r % 10) (fun r _ => by omega) A0.ext.1
      have A8 := A7.baload V1 (by decide +kernel) rfl (w1 (m % 100) (by omega))
      obtain ⟨H1, A9, K1, T1⟩ := A8.bastore T o (by decide +kernel) rfl (by omega) (x2 := b8 (48 + m % 100 % 10).toInt32) rfl
      have A10 := A9.run [(66, .aload_n 3, 67, 0), (67, .iinc 7 (-1), 70, (-1)), (70, .iload 7, 72, 0)] (pe := 72) (by decide +kernel) rfl
      rw [n32_dec (by omega)] at A10
      have A11 := A10.getS (wd_160 G) s2 (by decide +kernel)
      have A12 := A11.run [(75, .iload 6, 77, 0)] (pe := 77) (by decide +kernel) rfl
      obtain ⟨vs2, V2, w2⟩ := dg_now a2 z2 q2 (f := fun r => r / 10) (fun r _ => by omega) A9.ext.1
      have A13 := A12.baload V2 (by decide +kernel) rfl (w2 (m % 100) (by omega))
      obtain ⟨H2, A14, K2, T2⟩ := A13.bastore T1 (K1.2 _ o) (by decide +kernel) rfl (by simp; omega) (x2 := b8 (48 + m % 100 / 10).toInt32) rfl
      have A15 := A14.run [(79, .goto (-55), 24, 0)] (pe := 24) (by decide +kernel) rfl
      rw [show p - 1 - 1 = p - 2 by omega, put2 (by omega) hp] at T2
      rw [show p - 1 - 1 = p - 2 by omega] at A15
      have hKK : Kp H0 H2 [v] := (K.trans K1 fun y hy => Or.inl hy).trans K2 fun y hy => Or.inl hy
      obtain ⟨H', x0, t4, t5, t6, t9, x', R, K', T', o'⟩ := ih (m / 100) (by omega) (by omega) (x / 100) (p - 2) _ _ _ _ H2 (by omega) (Or.inr ⟨_, rfl, rfl⟩) (Or.inr ⟨_, rfl⟩) (by omega) (by simp; omega) hKK (K2.2 _ (K1.2 _ o)) T2 A15
      rw [show p - 2 - (dgs (m / 100)).length = p - (dgs m).length by omega] at R T'
      refine ⟨H', x0, t4, t5, t6, t9, x', R, K', ?_, o'⟩
      have e5 : (ws.take (p - 2) ++ [Value.int (b8 (48 + m % 100 / 10).toInt32), Value.int (b8 (48 + m % 100 % 10).toInt32)] ++ ws.drop p).take (p - (dgs m).length) = ws.take (p - (dgs m).length) := by
        rw [List.append_assoc, List.take_append_of_le_length (by simp; omega), List.take_take]; congr 1; omega
      have e6 : (ws.take (p - 2) ++ [Value.int (b8 (48 + m % 100 / 10).toInt32), Value.int (b8 (48 + m % 100 % 10).toInt32)] ++ ws.drop p).drop (p - 2) = [Value.int (b8 (48 + m % 100 / 10).toInt32), Value.int (b8 (48 + m % 100 % 10).toInt32)] ++ ws.drop p := by
        rw [List.append_assoc, List.drop_append_of_le_length (by simp; omega), List.drop_eq_nil_of_le (by simp; omega), List.nil_append]
      rw [e5, e6] at T'
      have e7 : lo8 (dgs m) = lo8 (dgs (m / 100)) ++ [Value.int (b8 (48 + m % 100 / 10).toInt32), Value.int (b8 (48 + m % 100 % 10).toInt32)] := by rw [dgs_100 (by omega)]; simp [List.map_append]
      rw [e7]
      simpa [List.append_assoc] using T'
    · have A2 := P2.ifT (cd := .gt) (o := 53) (by decide +kernel) (cL_gt.mpr (by rw [hx, show (-2147483648 : Int64).toInt = -2147483648 by decide]; omega)) (pe := 82) (by decide)
      have A3 := A2.run [(82, .lload_n 0, 83, 0), (83, .l2i, 84, 0), (84, .istore 10, 86, 0)] (pe := 86) (by decide +kernel) rfl
      have e4 := c_l2i x
      have r4 := rng32 x.toInt32
      obtain ⟨H', t6, t9, x', R, q⟩ := l_gcI G m (by omega) x.toInt32 p ws s6 .unset H (by omega) h6 (Or.inl rfl) hl hp K o T A3
      exact ⟨H', x, s4, s5, t6, t9, x', R, q⟩
theorem c_gcJ (G : Glb Z a0) {v : Addr} {t : Int64} {p : Nat} {vs : List Value} (T : Ar Z H v .byte vs) (o : H.2 v) (hl : (lds t).length ≤ p) (hp : p ≤ vs.length) :
    Ct l Z EL0 (⟨"java/lang/Long", "getChars", "(JI[B)I"⟩ : MethodName) jdk_35_method_14_code 11 ((some .int)) ({ frames := 0, cells := 0, slots := 0, locals := 0 } : Room) [] [.long t, .int p.toInt32, .ref v] H (fun r H' => (∃ z, r = some (.int z)) ∧ Kp H H' [v] ∧ Ar Z H' v .byte (vs.take (p - (lds t).length) ++ lo8 (lds t) ++ vs.drop p)) := by
  refine Ct.in G (by first | exact plainFor_of_name (by simp [plainName, overriddenIn]; done) | decide +kernel) (ls := [.val (.long t), .second, .val (.int p.toInt32), .val (.ref v), .unset, .unset, .unset, .unset, .unset, .unset, .unset]) rfl rfl fun D A0 => ?_
  have r0 := rng64 t
  have hT := T.len
  have hll := lds_len t
  have A1 := A0.run [(0, .iload_n 2, 1, 0), (1, .istore 7, 3, 0), (3, .lload_n 0, 4, 0), (4, .lconst 0, 5, 0), (5, .lcmp, 6, 0)] (pe := 6) (by decide +kernel) rfl
  by_cases h : t.toInt < 0
  · have A2 := A1.ifF (cd := .ge) (o := 7) (by decide +kernel) (not_not_intro (cL_lt.mpr h))
    have A3 := A2.run [(9, .iconst 1, 10, 1), (10, .goto 4, 14, 0), (14, .istore 8, 16, 0), (16, .iload 8, 18, 0)] (pe := 18) (by decide +kernel) rfl
    have A4 := A3.ifT (cd := .ne) (o := 6) (by decide +kernel) (by show ¬ _ = _; decide) (pe := 24) (by decide)
    rw [if_pos h] at hll
    obtain ⟨H', x0, t4, t5, t6, t9, x', R, K, T', o'⟩ := l_gcJ G t.toInt.natAbs (by omega) t p vs .unset .unset .unset H (by omega) (Or.inl ⟨rfl, rfl⟩) (Or.inl rfl) (by omega) hp ((Kp.refl H).wide fun x hx => nomatch hx) o T A4
    have A5 := R.run [(178, .iload 8, 180, 0)] (pe := 180) (by decide +kernel) rfl
    have A6 := A5.ifF (cd := .eq) (o := 12) (by decide +kernel) (by show ¬ _ = _; decide)
    have A7 := A6.run [(183, .aload_n 3, 184, 0), (184, .iinc 7 (-1), 187, (-1)), (187, .iload 7, 189, 0), (189, .bipush 45, 191, 45)] (pe := 191) (by decide +kernel) rfl
    rw [n32_dec (by omega)] at A7
    obtain ⟨H2, A8, K2, T2⟩ := A7.bastore T' o' (by decide +kernel) rfl (by simp; omega) (x2 := b8 45) (by decide)
    have A9 := A8.run [(192, .iload 7, 194, 0)] (pe := 194) (by decide +kernel) rfl
    refine ⟨_, _, _, _, A9.retI (by decide +kernel), ⟨⟨_, rfl⟩, K.trans K2 fun y hy => Or.inl hy, ?_⟩, by decide, by decide⟩
    have e : (vs.take (p - (dgs t.toInt.natAbs).length) ++ lo8 (dgs t.toInt.natAbs) ++ vs.drop p).set (p - (dgs t.toInt.natAbs).length - 1) (.int (b8 45)) = vs.take (p - (lds t).length) ++ lo8 (lds t) ++ vs.drop p := by
      rw [List.append_assoc, List.set_append_left _ _ (by simp; omega), put1 (by omega) (by simp; omega)]
      rw [show p - (dgs t.toInt.natAbs).length - 1 = p - (lds t).length by omega]
      rw [List.take_take, Nat.min_eq_left (by omega), List.drop_eq_nil_of_le (by simp; omega), List.append_nil]
      simp only [lds, if_pos h, List.map_append, List.append_assoc]; rfl
    rw [← e]; exact T2
  · have A2 := A1.ifT (cd := .ge) (o := 7) (by decide +kernel) (fun q => h (cL_lt.mp q)) (pe := 13) (by decide)
    have A3 := A2.run [(13, .iconst 0, 14, 0), (14, .istore 8, 16, 0), (16, .iload 8, 18, 0)] (pe := 18) (by decide +kernel) rfl
    have A4 := A3.ifF (cd := .ne) (o := 6) (by decide +kernel) (not_not_intro rfl)
    have A4' := A4.run [(21, .lload_n 0, 22, 0), (22, .lneg, 23, 0), (23, .lstore_n 0, 24, 0)] (pe := 24) (by decide +kernel) rfl
    have e := c_lneg t
    have r := rng64 (-t)
    rw [if_neg h] at hll
    obtain ⟨H', x0, t4, t5, t6, t9, x', R, K, T', o'⟩ := l_gcJ G t.toInt.natAbs (by omega) (-t) p vs .unset .unset .unset H (by omega) (Or.inl ⟨rfl, rfl⟩) (Or.inl rfl) (by omega) hp ((Kp.refl H).wide fun x hx => nomatch hx) o T A4'
    have A5 := R.run [(178, .iload 8, 180, 0)] (pe := 180) (by decide +kernel) rfl
    have A6 := A5.ifT (cd := .eq) (o := 12) (by decide +kernel) rfl (pe := 192) (by decide)
    have A7 := A6.run [(192, .iload 7, 194, 0)] (pe := 194) (by decide +kernel) rfl
    refine ⟨_, _, _, _, A7.retI (by decide +kernel), ⟨⟨_, rfl⟩, K, ?_⟩, by decide, by decide⟩
    simp only [lds, if_neg h]; exact T'
set_option maxRecDepth 65536 in
theorem c_asbJ (G : Glb Z a0) {a v : Addr} {cs : List Int32} {C : Nat} {t : Int64} (S : SBx Z H a v C cs) (h0 : 0 < C) (hg : max (cs.length + (lds t).length) (2 * C + 2) ≤ 98) :
    Ct l Z EL0 (⟨"java/lang/AbstractStringBuilder", "append", "(J)Ljava/lang/AbstractStringBuilder;"⟩ : MethodName) jdk_68_method_33_code 5 ((some (.object "java/lang/AbstractStringBuilder"))) ({ frames := 4, cells := 1, slots := 98, locals := 62 } : Room) [] [.ref a, .long t] H (fun r H' => r = some (.ref a) ∧ Kp H H' [a, v] ∧ ∃ v' C', (v' = v ∨ H.1.size ≤ v') ∧ SBx Z H' a v' C' (cs ++ lds t) ∧ Gr C (cs.length + (lds t).length) C') := by
  refine Ct.in G (by first | exact plainFor_of_name (by simp [plainName, overriddenIn]; done) | decide +kernel) (ls := [.val (.ref a), .val (.long t), .second, .unset, .unset]) rfl rfl fun D A0 => ?_
  have E0 := S.e
  have N0 : Fld Z H.1 a ASB "count" "I" (.int cs.length.toInt32) := by obtain ⟨rs, -, q, -⟩ := S; exact q.2.2.2.1
  have A1 := A0.run [(0, .aload_n 0, 1, 0)] (pe := 1) (by decide +kernel) rfl
  have A2 := A1.getF (wd_83 G) N0 (by decide +kernel)
  have A3 := A2.run [(4, .istore_n 3, 5, 0), (5, .iload_n 3, 6, 0), (6, .lload_n 1, 7, 0)] (pe := 7) (by decide +kernel) rfl
  obtain ⟨_, HA4, qA4, A4, moA4, szA4⟩ := A3.callS (argsL := [.long t]) (wd_119 G) (wd_120 G) (wd_121 G) (wd_122 G) (c_ssJ G) (by decide) ⟨_, _, (by decide +kernel : parseMethodDescriptor "(J)I" = some ⟨[.long], some .int⟩), rfl⟩ (by decide +kernel) (Wd := 1) (by decide) (Nat.le_of_ble_eq_true rfl) (by decide) (by decide) (by decide)
  obtain ⟨rfl, rfl⟩ := qA4
  have A5 := A4.run [(10, .iadd, 11, 0)] (pe := 11) (by decide +kernel) rfl
  rw [n32_add] at A5
  have A6 := A5.run [(11, .istore 4, 13, 0), (13, .aload_n 0, 14, 0), (14, .iload 4, 16, 0)] (pe := 16) (by decide +kernel) rfl
  obtain ⟨_, HA7, qA7, A7, moA7, szA7⟩ := A6.callV (argsL := [.int (cs.length + (lds t).length).toInt32]) (wd_85 G) (decl_of (wd_86 G) (wd_89 G)) (wd_88 G) rfl (wd_88 G) (wd_86 G) (wd_52 G) (wd_89 G) E0 (c_ensx G S h0 hg) (by decide) ⟨_, _, (by decide +kernel : parseMethodDescriptor "(I)V" = some ⟨[.int], none⟩), rfl⟩ (by decide +kernel) (Wd := 0) (by decide) (Nat.le_of_ble_eq_true rfl) (by decide) (by decide) (by decide)
  obtain ⟨rfl, K0, v', C', hv', ⟨rs, hC', S1, Ev⟩, hG⟩ := qA7
  have hr : (lds t).length ≤ rs.length := by rcases hG with ⟨h, rfl⟩ | ⟨h, rfl⟩ <;> omega
  have hav : a ∉ [v'] := by simpa using S1.ne G
  have hva : v' ∉ [a] := by simpa using Ne.symm (S1.ne G)
  obtain ⟨E, V, Cd, N, T0, la, lc, o1, o2⟩ := S1
  have A8 := A7.run [(19, .aload_n 0, 20, 0)] (pe := 20) (by decide +kernel) rfl
  obtain ⟨_, HA9, qA9, A9, moA9, szA9⟩ := A8.callV (argsL := []) (wd_148 G) (wd_149 G) (wd_151 G) rfl (wd_151 G) (wd_150 G) (wd_52 G) (wd_152 G) E (c_asbLat G Cd) (by decide) ⟨_, _, (by decide +kernel : parseMethodDescriptor "()Z" = some ⟨[], some .boolean⟩), rfl⟩ (by decide +kernel) (Wd := 0) (by decide) (Nat.le_of_ble_eq_true rfl) (by decide) (by decide) (by decide)
  obtain ⟨rfl, rfl⟩ := qA9
  have A10 := A9.ifF (cd := .eq) (o := 17) (by decide +kernel) (by show ¬ _ = _; decide)
  have A11 := A10.run [(26, .lload_n 1, 27, 0), (27, .iload 4, 29, 0), (29, .aload_n 0, 30, 0)] (pe := 30) (by decide +kernel) rfl
  have A12 := A11.getF (wd_56 G) V (by decide +kernel)
  obtain ⟨_, HA13, qA13, A13, moA13, szA13⟩ := A12.callS (argsL := [.long t, .int (cs.length + (lds t).length).toInt32, .ref v']) (wd_153 G) (wd_154 G) (wd_121 G) (wd_155 G) (c_gcJ G T0 o2 (by omega) (by simp; omega)) (by decide) ⟨_, _, (by decide +kernel : parseMethodDescriptor "(JI[B)I" = some ⟨[.long, .int, (.array .byte)], some .int⟩), rfl⟩ (by decide +kernel) (Wd := 0) (by decide) (Nat.le_of_ble_eq_true rfl) (by decide) (by decide) (by decide)
  obtain ⟨⟨z, rfl⟩, K1, B1⟩ := qA13
  have A14 := A13.run [(36, .pop, 37, 0), (37, .goto 15, 52, 0), (52, .aload_n 0, 53, 0), (53, .iload 4, 55, 0)] (pe := 55) (by decide +kernel) rfl
  obtain ⟨H3, A15, K3, W3⟩ := A14.putF (wd_83 G) (N.ky K1 hav) (E.ky K1) (wd_84 G) (wd_43 G) (K1.2 _ o1) (by decide +kernel) (ty := .int) (by decide) rfl rfl
  have A16 := A15.run [(58, .aload_n 0, 59, 0)] (pe := 59) (by decide +kernel) rfl
  have KK : Kp H H3 [a, v] := ((K0.wide fun x hx => Or.inl (by simp at hx; simp [hx])).trans K1 fun x hx => by
    cases List.mem_singleton.mp hx
    rcases hv' with rfl | h
    · exact Or.inl (by simp)
    · exact Or.inr h).trans K3 fun x hx => Or.inl (by simp at hx; simp [hx])
  have B2 : Ar Z HA13 v' .byte (lo8 (cs ++ lds t) ++ rs.drop (lds t).length) := by
    have e1 : (lo8 cs ++ rs).take (cs.length + (lds t).length - (lds t).length) = lo8 cs := by rw [Nat.add_sub_cancel, List.take_append_of_le_length (by simp)]; exact List.take_of_length_le (by simp)
    have e2 : (lo8 cs ++ rs).drop (cs.length + (lds t).length) = rs.drop (lds t).length := by rw [List.drop_append]; simp
    rw [e1, e2] at B1
    rw [show lo8 (cs ++ lds t) = lo8 cs ++ lo8 (lds t) from List.map_append]
    exact B1
  obtain ⟨k1, k2⟩ := lds_ok t
  refine ⟨_, _, _, _, A16.retA (by decide +kernel) rfl rfl, ⟨rfl, KK, v', C', hv', ⟨rs.drop (lds t).length, by simp; omega, ⟨(E.ky K1).ky K3, (V.ky K1 hav).other W3 (Or.inr (sl_vn G)), (Cd.ky K1 hav).other W3 (Or.inr (sl_cn G)), by rw [List.length_append]; exact (N.ky K1 hav).same W3, B2.ky K3 hva, ?_, ?_, K3.2 _ (K1.2 _ o1), K3.2 _ (K1.2 _ o2)⟩, (Ev.ky K1).ky K3⟩, hG⟩, by decide, by decide⟩
  · exact fun c hc => (List.mem_append.mp hc).elim (la c) (k1 c)
  · exact fun c hc => (List.mem_append.mp hc).elim (lc c) (k2 c)
theorem c_sbJ (G : Glb Z a0) {a v : Addr} {cs : List Int32} {C : Nat} {t : Int64} (S : SBx Z H a v C cs) (h0 : 0 < C) (hg : max (cs.length + (lds t).length) (2 * C + 2) ≤ 98) :
    Ct l Z EL0 (⟨"java/lang/StringBuilder", "append", "(J)Ljava/lang/StringBuilder;"⟩ : MethodName) jdk_67_method_16_code 3 ((some (.object "java/lang/StringBuilder"))) ({ frames := 5, cells := 1, slots := 98, locals := 78 } : Room) [] [.ref a, .long t] H (fun r H' => r = some (.ref a) ∧ Kp H H' [a, v] ∧ ∃ v' C', (v' = v ∨ H.1.size ≤ v') ∧ SBx Z H' a v' C' (cs ++ lds t) ∧ Gr C (cs.length + (lds t).length) C') := by
  refine Ct.in G (by first | exact plainFor_of_name (by simp [plainName, overriddenIn]; done) | decide +kernel) (ls := [.val (.ref a), .val (.long t), .second]) rfl rfl fun D A0 => ?_
  have A1 := A0.run [(0, .aload_n 0, 1, 0), (1, .lload_n 1, 2, 0)] (pe := 2) (by decide +kernel) rfl
  obtain ⟨_, HA2, qA2, A2, moA2, szA2⟩ := A1.callU (argsL := [.long t]) (wd_115 G) (wd_117 G) (wd_88 G) rfl (wd_70 G) (wd_116 G) (by decide) (wd_52 G) (wd_118 G) S.e (c_asbJ G S h0 hg) (by decide) ⟨_, _, (by decide +kernel : parseMethodDescriptor "(J)Ljava/lang/AbstractStringBuilder;" = some ⟨[.long], some (.object "java/lang/AbstractStringBuilder")⟩), rfl⟩ (by decide +kernel) (Wd := 0) (by decide) (Nat.le_of_ble_eq_true rfl) (by decide) (by decide) (by decide)
  obtain ⟨rfl, q⟩ := qA2
  have A3 := A2.run [(5, .pop, 6, 0), (6, .aload_n 0, 7, 0)] (pe := 7) (by decide +kernel) rfl
  exact ⟨_, _, _, _, A3.retA (by decide +kernel) rfl rfl, ⟨rfl, q⟩, by decide, by decide⟩
end JAppI


section LawF
variable {l : Launch} {Z : State} {a0 : Array Value} {D : Dyn} {H : HP}
theorem dgs_le : ∀ (i n : Nat), n < 10 ^ (i + 1) → (dgs n).length ≤ i + 1
  | 0, n, h => by rw [dgs_lt (by simpa using h)]; simp
  | i + 1, n, h => by
    by_cases h2 : n < 10
    · rw [dgs_lt h2]; simp
    · have e2 : 10 ^ (i + 1 + 1) = 10 ^ (i + 1) * 10 := Nat.pow_succ 10 (i + 1)
      have := dgs_le i (n / 10) (by omega)
      rw [dgs_ge h2, List.length_append]; simp; omega
theorem two {a b : Addr} {n : Nat} (h1 : n ≤ a) (h2 : n ≤ b) : ∀ y ∈ [a, b], n ≤ y := fun y hy => by
  rcases List.mem_cons.mp hy with rfl | hy
  · exact h1
  · cases List.mem_singleton.mp hy; exact h2
theorem app_at {A B C : List Int32} {j : Nat} (h : j < B.length) : (A ++ B ++ C)[A.length + j]? = B[j]? := by
  rw [List.append_assoc, List.getElem?_append_right (by omega), Nat.add_sub_cancel_left, List.getElem?_append_left h]
theorem app_end {A B : List Int32} {j : Nat} : (A ++ B)[A.length + j]? = B[j]? := by
  rw [List.getElem?_append_right (by omega), Nat.add_sub_cancel_left]
theorem dgs_ub : ∀ n : Nat, n < 10 ^ (dgs n).length := by
  intro n
  induction n using Nat.strongRecOn with
  | _ n ih =>
    by_cases h : n < 10
    · rw [dgs_lt h]; simpa using h
    · rw [dgs_ge h, List.length_append, List.length_singleton, Nat.pow_succ]
      have := ih (n / 10) (by omega)
      omega
theorem dgs_zero {n k : Nat} (hk : 1 ≤ k) : n / 10 ^ k = 0 ↔ (dgs n).length ≤ k := by
  have pp : 0 < 10 ^ k := Nat.pow_pos (by decide)
  constructor
  · intro h
    have h1 : n < 10 ^ k := by rcases Nat.div_eq_zero_iff.mp h with h | h <;> omega
    obtain ⟨j, rfl⟩ : ∃ j, k = j + 1 := ⟨k - 1, by omega⟩
    exact dgs_le j n h1
  · intro h
    exact Nat.div_eq_of_lt (Nat.lt_of_lt_of_le (dgs_ub n) (Nat.pow_le_pow_right (by decide) h))
abbrev LLn : String := "com/example/holdfast/holdfast/LockLost"
def LLat (Z : State) (H : HP) (p s : Addr) (t : Int64) : Prop := Exa Z H.1 p LLn ∧ Fld Z H.1 p LLn "lockName" "Ljava/lang/String;" (.ref s) ∧ Fld Z H.1 p LLn "fencingToken" "J" (.long t)
theorem LLat.ky {H H' : HP} {p s : Addr} {t : Int64} (F : LLat Z H p s t) (K : Kp H H' []) : LLat Z H' p s t := ⟨F.1.ky K, F.2.1.ky K, F.2.2.ky K⟩
theorem c_llI (G : Glb Z a0) {x s : Addr} {t : Int64} (E : Exa Z H.1 x LLn) (F1 : Fld Z H.1 x LLn "lockName" "Ljava/lang/String;" .null) (F2 : Fld Z H.1 x LLn "fencingToken" "J" (.long 0)) (o : H.2 x) :
    Ct l Z EL0 (⟨"com/example/holdfast/holdfast/LockLost", "<init>", "(Ljava/lang/String;J)V"⟩ : MethodName) prog_4_method_1_code 4 (none) ({ frames := 1, cells := 0, slots := 0, locals := 12 } : Room) [] [.ref x, .ref s, .long t] H (fun v H' => v = none ∧ Kp H H' [x] ∧ LLat Z H' x s t) := by
  refine Ct.in G (by first | exact plainFor_of_name (by simp [plainName, overriddenIn]; done) | decide +kernel) (ls := [.val (.ref x), .val (.ref s), .val (.long t), .second]) rfl rfl fun D A0 => ?_
  have A1 := A0.run [(0, .aload_n 0, 1, 0)] (pe := 1) (by decide +kernel) rfl
  have A2 := A1.initO (wd_32 G) (wd_20 G) (wd_21 G) (by decide +kernel) (Wd := 0) (by decide) (Nat.le_of_ble_eq_true rfl) (by decide)
  have A3 := A2.run [(4, .aload_n 0, 5, 0), (5, .aload_n 1, 6, 0)] (pe := 6) (by decide +kernel) rfl
  have wi := (wd_27 G)
  have s12 := slot_ne (Z := Z) (Or.inr (wd_34 G)) (Or.inr (wd_36 G)) (by decide) (t := .object "java/lang/String") (by decide) (t' := .long) (by decide)
  obtain ⟨H1, A4, K1, W1⟩ := A3.putFin (wd_33 G) F1 E (wd_34 G) rfl rfl wi o (by decide +kernel) (ty := .object "java/lang/String") (by decide) rfl rfl
  have A5 := A4.run [(9, .aload_n 0, 10, 0), (10, .lload_n 2, 11, 0)] (pe := 11) (by decide +kernel) rfl
  have G2 := F2.other W1 (Or.inr (Ne.symm s12))
  obtain ⟨H2, A6, K2, W2⟩ := A5.putFin (wd_35 G) G2 (E.ky K1) (wd_36 G) rfl rfl wi (K1.2 _ o) (by decide +kernel) (ty := .long) (by decide) rfl rfl
  exact ⟨_, _, _, _, A6.ret (by decide +kernel), ⟨rfl, K1.trans K2 fun y hy => Or.inl hy, (E.ky K1).ky K2, (F1.same W1).other W2 (Or.inr s12), G2.same W2⟩, by decide, by decide⟩
abbrev fen16 : List Int32 := [44, 32, 102, 101, 110, 99, 105, 110, 103, 32, 116, 111, 107, 101, 110, 32]
abbrev pre9 : List Int32 := [76, 111, 99, 107, 76, 111, 115, 116, 91]
def suf (t : Int64) : List Int32 := if t = 0 then [] else fen16 ++ lds t
theorem suf0 {t : Int64} (h : t = 0) : suf t = [] := by unfold suf; rw [if_pos h]
theorem sufN {t : Int64} (h : ¬ t = 0) : suf t = fen16 ++ lds t := by unfold suf; rw [if_neg h]
theorem lds_le (t : Int64) : (lds t).length ≤ 20 := by
  rw [lds_len]
  have := dgs_le 18 t.toInt.natAbs (abs_lt t)
  split <;> omega
set_option maxRecDepth 65536 in
set_option maxHeartbeats 4000000 in
theorem l_suf (G : Glb Z a0) {p s : Addr} {t : Int64} (F : LLat Z H p s t) (A0 : Wk l Z a0 EL0 "com/example/holdfast/holdfast/LockLost" prog_4_method_4_code 2 "toString" (some (.object "java/lang/String")) ({ frames := 6, cells := 34, slots := 1400, locals := 95 } : Room) D 14 [.val (.ref p), .unset] [] H 0 0) :
    ∃ u H', Kp H H' [] ∧ Str Z H' u (fen16 ++ lds t) ∧ Wk l Z a0 EL0 "com/example/holdfast/holdfast/LockLost" prog_4_method_4_code 2 "toString" (some (.object "java/lang/String")) ({ frames := 6, cells := 34, slots := 1400, locals := 95 } : Room) D 36 [.val (.ref p), .unset] [.ref u] H' 14 420 := by
  have hl := lds_le t
  obtain ⟨xa, H1a, B1a, gxa0, K1a, Ea, oa, Dfa⟩ := A0.newO (wd_42 G) (wd_43 G) (wd_44 G) (by decide +kernel) (by decide) (by decide)
  have B2a := B1a.run [(17, .dup, 18, 0)] (pe := 18) (by decide +kernel) rfl
  obtain ⟨_, HB3a, qB3a, B3a, moB3a, szB3a⟩ := B2a.callI (argsL := []) rfl (wd_45 G) (wd_46 G) (wd_44 G) (wd_47 G) (c_sbIx G Ea (Dfa (Or.inl (wd_57 G)) (t := .array .byte) (by decide)) (Dfa (Or.inl (wd_59 G)) (t := .byte) (by decide)) (Dfa (Or.inl (wd_84 G)) (t := .int) (by decide)) oa) (by decide) ⟨_, _, (by decide +kernel : parseMethodDescriptor "()V" = some ⟨[], none⟩), rfl⟩ (by decide +kernel) (Wd := 1) (by decide) (Nat.le_of_ble_eq_true rfl) (by decide) (by decide) (by decide)
  obtain ⟨rfl, K3a, va0, gva', Qa0⟩ := qB3a
  have gva : H.1.size ≤ va0 := Nat.le_trans K1a.size gva'
  have L3 : Kp H HB3a [] := K1a.trans K3a (fun y hy => Or.inr (by cases List.mem_singleton.mp hy; exact gxa0))
  obtain ⟨sp, tp, Hp, B4, Kp, Ep, Cp, Vp, Tp, np⟩ := B3a.ldcS (wd_60 G) (by decide +kernel) (vs := lo8 [44, 32, 102, 101, 110, 99, 105, 110, 103, 32, 116, 111, 107, 101, 110, 32]) ⟨by decide +kernel, by decide +kernel⟩ (by decide +kernel) (z := 16) (by decide) (by decide) (q := 64) (by decide +kernel) (by decide) (by decide) (by decide)
  have Sp : StrT Z Hp sp tp [44, 32, 102, 101, 110, 99, 105, 110, 103, 32, 116, 111, 107, 101, 110, 32] := ⟨Ep, by decide, Vp, Or.inl ⟨by decide, Cp, Tp⟩⟩
  obtain ⟨_, HB5, qB5, B5, moB5, szB5⟩ := B4.callV (argsL := [.ref sp]) (wd_63 G) (wd_64 G) (wd_66 G) rfl (wd_66 G) (wd_65 G) (wd_44 G) (wd_67 G) (Qa0.ky Kp).e (c_sbAx G (Qa0.ky Kp) Sp (by decide) (by decide) (by simp)) (by decide) ⟨_, _, (by decide +kernel : parseMethodDescriptor "(Ljava/lang/String;)Ljava/lang/StringBuilder;" = some ⟨[(.object "java/lang/String")], some (.object "java/lang/StringBuilder")⟩), rfl⟩ (by decide +kernel) (Wd := 0) (by decide) (Nat.le_of_ble_eq_true rfl) (by decide) (by decide) (by decide)
  obtain ⟨rfl, K5, v5, C5, hv5, Q5, g5⟩ := qB5
  have C5e : C5 = 16 := by simp at g5; omega
  subst C5e
  have L5 := (L3.tr Kp).trans K5 (fun y hy => Or.inr (two gxa0 gva y hy))
  have gv5 : H.1.size ≤ v5 := hv5.elim (fun e => e ▸ gva) (fun e => Nat.le_trans (L3.tr Kp).size e)
  have B6 := B5.run [(26, .aload_n 0, 27, 0)] (pe := 27) (by decide +kernel) rfl
  have B7 := B6.getF (wd_35 G) (F.ky L5).2.2 (by decide +kernel)
  obtain ⟨_, HB8, qB8, B8, moB8, szB8⟩ := B7.callV (argsL := [.long t]) (wd_110 G) (wd_111 G) (wd_113 G) rfl (wd_113 G) (wd_112 G) (wd_44 G) (wd_114 G) Q5.e (c_sbJ G Q5 (by decide) (by simp; omega)) (by decide) ⟨_, _, (by decide +kernel : parseMethodDescriptor "(J)Ljava/lang/StringBuilder;" = some ⟨[.long], some (.object "java/lang/StringBuilder")⟩), rfl⟩ (by decide +kernel) (Wd := 0) (by decide) (Nat.le_of_ble_eq_true rfl) (by decide) (by decide) (by decide)
  obtain ⟨rfl, K8, v8, C8, hv8, Q8, g8⟩ := qB8
  have L8 := L5.trans K8 (fun y hy => Or.inr (two gxa0 gv5 y hy))
  obtain ⟨rs, hC, Q, Ev⟩ := Q8
  obtain ⟨_, HB11, qB11, B11, moB11, szB11⟩ := B8.callV (argsL := []) (wd_161 G) (wd_162 G) (wd_164 G) rfl (wd_164 G) (wd_163 G) (wd_44 G) (wd_165 G) Q.1 (c_tosx G Q Ev (by simp; omega)) (by decide) ⟨_, _, (by decide +kernel : parseMethodDescriptor "()Ljava/lang/String;" = some ⟨[], some (.object "java/lang/String")⟩), rfl⟩ (by decide +kernel) (Wd := 0) (by decide) (Nat.le_of_ble_eq_true rfl) (by decide) (by decide) (by decide)
  obtain ⟨u, rfl, gu, K11, U⟩ := qB11
  exact ⟨u, _, L8.tr K11, U, B11.more (by decide) (by decide)⟩
set_option maxRecDepth 65536 in
set_option maxHeartbeats 4000000 in
theorem c_lts (G : Glb Z a0) {p s : Addr} {ns : List Int32} {t : Int64} (F : LLat Z H p s t) (S : Str Z H s ns) (hla : Lat ns) (hl : ns.length ≤ 3) :
    Ct l Z EL0 (⟨"com/example/holdfast/holdfast/LockLost", "toString", "()Ljava/lang/String;"⟩ : MethodName) prog_4_method_4_code 2 ((some (.object "java/lang/String"))) ({ frames := 6, cells := 34, slots := 1400, locals := 95 } : Room) [] [.ref p] H (fun v H' => ∃ u, v = some (.ref u) ∧ H.1.size ≤ u ∧ Kp H H' [] ∧ Str Z H' u (pre9 ++ ns ++ suf t ++ [93])) := by
  refine Ct.in G (by first | exact plainFor_of_name (by simp [plainName, overriddenIn]; done) | decide +kernel) (ls := [.val (.ref p), .unset]) rfl rfl fun D A0 => ?_
  have hlt := lds_le t
  have A1 := A0.run [(0, .aload_n 0, 1, 0)] (pe := 1) (by decide +kernel) rfl
  have A2 := A1.getF (wd_35 G) F.2.2 (by decide +kernel)
  have A3 := A2.run [(4, .lconst 0, 5, 0), (5, .lcmp, 6, 0)] (pe := 6) (by decide +kernel) rfl
  obtain ⟨u1, H1, K1, S1, l1, l2, A5⟩ : ∃ u1 H1, Kp H H1 [] ∧ Str Z H1 u1 (suf t) ∧ Lat (suf t) ∧ (suf t).length ≤ 36 ∧ Wk l Z a0 EL0 "com/example/holdfast/holdfast/LockLost" prog_4_method_4_code 2 "toString" (some (.object "java/lang/String")) ({ frames := 6, cells := 34, slots := 1400, locals := 95 } : Room) D 36 [.val (.ref p), .unset] [.ref u1] H1 14 420 := by
    by_cases h : t = 0
    · have B1 := A3.ifF (cd := .ne) (o := 8) (by decide +kernel) (not_not_intro (cL_eq.mpr h))
      obtain ⟨a1, b1, H1, B2, K1, E1, C1, V1, T1, n1⟩ := B1.ldcS (wd_265 G) (by decide +kernel) (vs := []) ⟨by decide +kernel, rfl⟩ (by decide +kernel) (z := 0) (by decide) rfl (q := 0) (by decide +kernel) (by decide) (by decide) (by decide)
      have B3 := B2.run [(11, .goto 25, 36, 0)] (pe := 36) (by decide +kernel) rfl
      have U0 : Str Z H1 a1 [] := ⟨E1, (fun c hc => nomatch hc), b1, V1, Or.inl ⟨(fun c hc => nomatch hc), C1, T1⟩⟩
      have B4 := B3.more (k' := 14) (n' := 420) (by decide) (by decide)
      rw [suf0 h]
      have L0 : Lat [] := fun c hc => nomatch hc
      exact ⟨a1, H1, K1, U0, L0, (by decide), B4⟩
    · have B1 := A3.ifT (cd := .ne) (o := 8) (by decide +kernel) (fun q => h (cL_eq.mp q)) (pe := 14) (by decide)
      obtain ⟨u, H', K, U, B2⟩ := l_suf G F B1
      refine ⟨u, H', K, by rw [suf, if_neg h]; exact U, ?_, by rw [suf, if_neg h]; simp; omega, B2⟩
      rw [suf, if_neg h]
      exact fun c hc => (List.mem_append.mp hc).elim ((show Lat fen16 by decide) c) ((lds_ok t).1 c)
  have F1 := F.ky K1
  have S0 := S.ky K1
  generalize hsf : suf t = sf at *
  obtain ⟨st, ST, hst⟩ := S0.t
  obtain ⟨ut, UT, hut⟩ := S1.t
  have A6 := A5.run [(36, .astore_n 1, 37, 0)] (pe := 37) (by decide +kernel) rfl
  obtain ⟨xa, H1a, B1a, gxa0, K1a, Ea, oa, Dfa⟩ := A6.newO (wd_42 G) (wd_43 G) (wd_44 G) (by decide +kernel) (by decide) (by decide)
  have B2a := B1a.run [(40, .dup, 41, 0)] (pe := 41) (by decide +kernel) rfl
  obtain ⟨_, HB3a, qB3a, B3a, moB3a, szB3a⟩ := B2a.callI (argsL := []) rfl (wd_45 G) (wd_46 G) (wd_44 G) (wd_47 G) (c_sbIx G Ea (Dfa (Or.inl (wd_57 G)) (t := .array .byte) (by decide)) (Dfa (Or.inl (wd_59 G)) (t := .byte) (by decide)) (Dfa (Or.inl (wd_84 G)) (t := .int) (by decide)) oa) (by decide) ⟨_, _, (by decide +kernel : parseMethodDescriptor "()V" = some ⟨[], none⟩), rfl⟩ (by decide +kernel) (Wd := 1) (by decide) (Nat.le_of_ble_eq_true rfl) (by decide) (by decide) (by decide)
  obtain ⟨rfl, K3a, va0, gva', Qa0⟩ := qB3a
  have gva : H1.1.size ≤ va0 := Nat.le_trans K1a.size gva'
  have L3 : Kp H1 HB3a [] := K1a.trans K3a (fun y hy => Or.inr (by cases List.mem_singleton.mp hy; exact gxa0))
  obtain ⟨sp, tp, Hp, B4, Kp, Ep, Cp, Vp, Tp, np⟩ := B3a.ldcS (wd_199 G) (by decide +kernel) (vs := lo8 [76, 111, 99, 107, 76, 111, 115, 116, 91]) ⟨by decide +kernel, by decide +kernel⟩ (by decide +kernel) (z := 9) (by decide) (by decide) (q := 36) (by decide +kernel) (by decide) (by decide) (by decide)
  have Sp : StrT Z Hp sp tp [76, 111, 99, 107, 76, 111, 115, 116, 91] := ⟨Ep, by decide, Vp, Or.inl ⟨by decide, Cp, Tp⟩⟩
  obtain ⟨_, HB5, qB5, B5, moB5, szB5⟩ := B4.callV (argsL := [.ref sp]) (wd_63 G) (wd_64 G) (wd_66 G) rfl (wd_66 G) (wd_65 G) (wd_44 G) (wd_67 G) (Qa0.ky Kp).e (c_sbAx G (Qa0.ky Kp) Sp (by decide) (by decide) (by simp)) (by decide) ⟨_, _, (by decide +kernel : parseMethodDescriptor "(Ljava/lang/String;)Ljava/lang/StringBuilder;" = some ⟨[(.object "java/lang/String")], some (.object "java/lang/StringBuilder")⟩), rfl⟩ (by decide +kernel) (Wd := 0) (by decide) (Nat.le_of_ble_eq_true rfl) (by decide) (by decide) (by decide)
  obtain ⟨rfl, K5, v5, C5, hv5, Q5, g5⟩ := qB5
  have C5e : C5 = 16 := by simp at g5; omega
  subst C5e
  have L5 := (L3.tr Kp).trans K5 (fun y hy => Or.inr (two gxa0 gva y hy))
  have gv5 : H1.1.size ≤ v5 := hv5.elim (fun e => e ▸ gva) (fun e => Nat.le_trans (L3.tr Kp).size e)
  have B6 := B5.run [(49, .aload_n 0, 50, 0)] (pe := 50) (by decide +kernel) rfl
  have B7 := B6.getF (wd_33 G) (F1.ky L5).2.1 (by decide +kernel)
  obtain ⟨_, HB8, qB8, B8, moB8, szB8⟩ := B7.callV (argsL := [.ref s]) (wd_63 G) (wd_64 G) (wd_66 G) rfl (wd_66 G) (wd_65 G) (wd_44 G) (wd_67 G) Q5.e (c_sbAx G Q5 (ST.ky L5 List.not_mem_nil List.not_mem_nil) hla (by decide) (by simp; omega)) (by decide) ⟨_, _, (by decide +kernel : parseMethodDescriptor "(Ljava/lang/String;)Ljava/lang/StringBuilder;" = some ⟨[(.object "java/lang/String")], some (.object "java/lang/StringBuilder")⟩), rfl⟩ (by decide +kernel) (Wd := 0) (by decide) (Nat.le_of_ble_eq_true rfl) (by decide) (by decide) (by decide)
  obtain ⟨rfl, K8, v8, C8, hv8, Q8, g8⟩ := qB8
  have C8e : C8 = 16 := by simp at g8; omega
  subst C8e
  have L8 := L5.trans K8 (fun y hy => Or.inr (two gxa0 gv5 y hy))
  have gv8 : H1.1.size ≤ v8 := hv8.elim (fun e => e ▸ gv5) (fun e => Nat.le_trans L5.size e)
  have B9 := B8.run [(56, .aload_n 1, 57, 0)] (pe := 57) (by decide +kernel) rfl
  obtain ⟨_, HB10, qB10, B10, moB10, szB10⟩ := B9.callV (argsL := [.ref u1]) (wd_63 G) (wd_64 G) (wd_66 G) rfl (wd_66 G) (wd_65 G) (wd_44 G) (wd_67 G) Q8.e (c_sbAx G Q8 (UT.ky L8 List.not_mem_nil List.not_mem_nil) l1 (by decide) (by simp; omega)) (by decide) ⟨_, _, (by decide +kernel : parseMethodDescriptor "(Ljava/lang/String;)Ljava/lang/StringBuilder;" = some ⟨[(.object "java/lang/String")], some (.object "java/lang/StringBuilder")⟩), rfl⟩ (by decide +kernel) (Wd := 0) (by decide) (Nat.le_of_ble_eq_true rfl) (by decide) (by decide) (by decide)
  obtain ⟨rfl, K10, v10, C10, hv10, Q10, g10⟩ := qB10
  have C10e : 16 ≤ C10 ∧ C10 ≤ 48 := by simp at g10; omega
  have L10 := L8.trans K10 (fun y hy => Or.inr (two gxa0 gv8 y hy))
  have gv10 : H1.1.size ≤ v10 := hv10.elim (fun e => e ▸ gv8) (fun e => Nat.le_trans L8.size e)
  obtain ⟨sz, tz, Hz, B11, Kz, Ez, Cz, Vz, Tz, nz⟩ := B10.ldcS (wd_200 G) (by decide +kernel) (vs := lo8 [93]) ⟨by decide +kernel, by decide +kernel⟩ (by decide +kernel) (z := 1) (by decide) (by decide) (q := 4) (by decide +kernel) (by decide) (by decide) (by decide)
  have Sz : StrT Z Hz sz tz [93] := ⟨Ez, by decide, Vz, Or.inl ⟨by decide, Cz, Tz⟩⟩
  obtain ⟨_, HB12, qB12, B12, moB12, szB12⟩ := B11.callV (argsL := [.ref sz]) (wd_63 G) (wd_64 G) (wd_66 G) rfl (wd_66 G) (wd_65 G) (wd_44 G) (wd_67 G) (Q10.ky Kz).e (c_sbAx G (Q10.ky Kz) Sz (by decide) (by omega) (by simp; omega)) (by decide) ⟨_, _, (by decide +kernel : parseMethodDescriptor "(Ljava/lang/String;)Ljava/lang/StringBuilder;" = some ⟨[(.object "java/lang/String")], some (.object "java/lang/StringBuilder")⟩), rfl⟩ (by decide +kernel) (Wd := 0) (by decide) (Nat.le_of_ble_eq_true rfl) (by decide) (by decide) (by decide)
  obtain ⟨rfl, K12, v12, C12, hv12, Q12, g12⟩ := qB12
  have L12 := (L10.tr Kz).trans K12 (fun y hy => Or.inr (two gxa0 gv10 y hy))
  obtain ⟨rs, hC, Q, Ev⟩ := Q12
  obtain ⟨_, HB13, qB13, B13, moB13, szB13⟩ := B12.callV (argsL := []) (wd_161 G) (wd_162 G) (wd_164 G) rfl (wd_164 G) (wd_163 G) (wd_44 G) (wd_165 G) Q.1 (c_tosx G Q Ev (by simp; omega)) (by decide) ⟨_, _, (by decide +kernel : parseMethodDescriptor "()Ljava/lang/String;" = some ⟨[], some (.object "java/lang/String")⟩), rfl⟩ (by decide +kernel) (Wd := 0) (by decide) (Nat.le_of_ble_eq_true rfl) (by decide) (by decide) (by decide)
  obtain ⟨u, rfl, gu, K13, U⟩ := qB13
  have LL := K1.tr L12
  refine ⟨_, _, _, _, B13.retA (by decide +kernel) rfl rfl, ⟨u, rfl, Nat.le_trans LL.size gu, LL.tr K13, U⟩, by decide, by decide⟩
theorem lastat {xs : List Int32} {c : Int32} : (xs ++ [c])[(xs ++ [c]).length - 1]? = some c := by simp
theorem negdiv {q : Int64} {M k : Nat} (h : q.toInt = -((M / 10 ^ k : Nat) : Int)) : (q / 10).toInt = -((M / 10 ^ (k + 1) : Nat) : Int) := by
  have e : M / 10 ^ (k + 1) = M / 10 ^ k / 10 := by rw [Nat.pow_succ, Nat.div_div_eq_div_mul]
  have hd := c_ldiv q 10 10 (by decide) (by decide)
  rw [e]
  clear e
  generalize M / 10 ^ k = m at h ⊢
  by_cases h0 : 0 ≤ q.toInt
  · have := hd.1 h0; omega
  · have := hd.2 (by omega); omega
theorem negmod {q : Int64} {m : Nat} (h : q.toInt = -(m : Int)) : (q % 10).toInt = -((m % 10 : Nat) : Int) := by
  have hr := c_lrem q 10 10 (by decide)
  rw [lrem_mod] at hr
  by_cases h0 : 0 ≤ q.toInt
  · have := hr.1 h0; omega
  · have := hr.2 (by omega); omega
theorem l10 : (Int64.ofNat (0 : Fin 2).val) = 0 := rfl
theorem q0 {q : Int64} {n : Nat} (h : q.toInt = -(n : Int)) : q = 0 ↔ n = 0 := by
  rw [← Int64.toInt_inj, h, show (0 : Int64).toInt = 0 by decide]; omega
set_option maxRecDepth 65536 in
set_option maxHeartbeats 2000000 in
theorem c_dct (G : Glb Z a0) {m : Int64} {M : Nat} (hM : M < 10 ^ 19) (hm : m.toInt = -(M : Int)) : Ct l Z EL0 (⟨"com/example/holdfast/holdfast/LockLostToStringPinLaw", "digitCount", "(J)I"⟩ : MethodName) method_5_code 5 ((some .int)) ({ frames := 0, cells := 0, slots := 0, locals := 0 } : Room) [] [.long m] H (fun v H' => v = some (.int (dgs M).length.toInt32) ∧ H = H') := by
  refine Ct.in G (by first | exact plainFor_of_name (by simp [plainName, overriddenIn]; done) | decide +kernel) (ls := [.val (.long m), .second, .unset, .unset, .unset]) rfl rfl fun D A0 => ?_
  have h19 : (dgs M).length ≤ 19 := dgs_le 18 M hM
  have hpos := dgs_pos M
  have A1 := A0.run [(0, .iconst 1, 1, 1), (1, .istore_n 2, 2, 0), (2, .lload_n 0, 3, 0)] (pe := 3) (by decide +kernel) rfl
  have A2 := A1.ldcJ (wd_211 G) (by decide +kernel)
  have A3 := A2.ldiv (by decide +kernel) (by decide)
  have hq1 : (m / 10).toInt = -((M / 10 ^ 1 : Nat) : Int) := negdiv (k := 0) (by simpa using hm)
  have S1 := A3.run [(7, .lstore_n 3, 8, 0), (8, .lload_n 3, 9, 0), (9, .lconst 0, 10, 0), (10, .lcmp, 11, 0)] (pe := 11) (by decide +kernel) rfl
  generalize m / 10 = y1 at S1 hq1
  obtain ⟨T1⟩ : Nonempty (PLift (Wk l Z a0 EL0 "com/example/holdfast/holdfast/LockLostToStringPinLaw" method_5_code 5 "digitCount" (some .int) ({ frames := 0, cells := 0, slots := 0, locals := 0 } : Room) D 17 [.val (.long m), .second, .val (.int (min (dgs M).length 2 : Nat).toInt32), .val (.long y1), .second] [] H 0 0)) := by
    by_cases h : y1 = 0
    · have B1 := S1.ifT (cd := .eq) (o := 6) (by decide +kernel) (cL_eq.mpr h) (pe := 17) (by decide)
      have hz := (dgs_zero (by decide)).mp ((q0 hq1).mp h)
      rw [show min (dgs M).length 2 = 1 by omega]
      exact ⟨⟨B1⟩⟩
    · have B1 := S1.ifF (cd := .eq) (o := 6) (by decide +kernel) (fun e => h (cL_eq.mp e))
      have hz : ¬ (dgs M).length ≤ 1 := fun e => h ((q0 hq1).mpr ((dgs_zero (by decide)).mpr e))
      have B2 := B1.run [(14, .iinc 2 1, 17, 1)] (pe := 17) (by decide +kernel) rfl
      rw [show (1 : Int32) + 1 = (min (dgs M).length 2 : Nat).toInt32 by rw [show min (dgs M).length 2 = 2 by omega]; rfl] at B2
      exact ⟨⟨B2⟩⟩
  have T1 := T1.down
  have U1 := T1.run [(17, .lload_n 3, 18, 0)] (pe := 18) (by decide +kernel) rfl
  have V1 := U1.ldcJ (wd_211 G) (by decide +kernel)
  have W1 := V1.ldiv (by decide +kernel) (by decide)
  have hq2 := negdiv hq1
  have S2 := W1.run [(22, .lstore_n 3, 23, 0), (23, .lload_n 3, 24, 0), (24, .lconst 0, 25, 0), (25, .lcmp, 26, 0)] (pe := 26) (by decide +kernel) rfl
  generalize y1 / 10 = y2 at S2 hq2
  obtain ⟨T2⟩ : Nonempty (PLift (Wk l Z a0 EL0 "com/example/holdfast/holdfast/LockLostToStringPinLaw" method_5_code 5 "digitCount" (some .int) ({ frames := 0, cells := 0, slots := 0, locals := 0 } : Room) D 32 [.val (.long m), .second, .val (.int (min (dgs M).length 3 : Nat).toInt32), .val (.long y2), .second] [] H 0 0)) := by
    by_cases h : y2 = 0
    · have B1 := S2.ifT (cd := .eq) (o := 6) (by decide +kernel) (cL_eq.mpr h) (pe := 32) (by decide)
      have hz := (dgs_zero (by decide)).mp ((q0 hq2).mp h)
      rw [show min (dgs M).length 3 = min (dgs M).length 2 by omega]
      exact ⟨⟨B1⟩⟩
    · have B1 := S2.ifF (cd := .eq) (o := 6) (by decide +kernel) (fun e => h (cL_eq.mp e))
      have hz : ¬ (dgs M).length ≤ 2 := fun e => h ((q0 hq2).mpr ((dgs_zero (by decide)).mpr e))
      have B2 := B1.run [(29, .iinc 2 1, 32, 1)] (pe := 32) (by decide +kernel) rfl
      rw [n32_succ, show min (dgs M).length 2 + 1 = min (dgs M).length 3 by omega] at B2
      exact ⟨⟨B2⟩⟩
  have T2 := T2.down
  have U2 := T2.run [(32, .lload_n 3, 33, 0)] (pe := 33) (by decide +kernel) rfl
  have V2 := U2.ldcJ (wd_211 G) (by decide +kernel)
  have W2 := V2.ldiv (by decide +kernel) (by decide)
  have hq3 := negdiv hq2
  have S3 := W2.run [(37, .lstore_n 3, 38, 0), (38, .lload_n 3, 39, 0), (39, .lconst 0, 40, 0), (40, .lcmp, 41, 0)] (pe := 41) (by decide +kernel) rfl
  generalize y2 / 10 = y3 at S3 hq3
  obtain ⟨T3⟩ : Nonempty (PLift (Wk l Z a0 EL0 "com/example/holdfast/holdfast/LockLostToStringPinLaw" method_5_code 5 "digitCount" (some .int) ({ frames := 0, cells := 0, slots := 0, locals := 0 } : Room) D 47 [.val (.long m), .second, .val (.int (min (dgs M).length 4 : Nat).toInt32), .val (.long y3), .second] [] H 0 0)) := by
    by_cases h : y3 = 0
    · have B1 := S3.ifT (cd := .eq) (o := 6) (by decide +kernel) (cL_eq.mpr h) (pe := 47) (by decide)
      have hz := (dgs_zero (by decide)).mp ((q0 hq3).mp h)
      rw [show min (dgs M).length 4 = min (dgs M).length 3 by omega]
      exact ⟨⟨B1⟩⟩
    · have B1 := S3.ifF (cd := .eq) (o := 6) (by decide +kernel) (fun e => h (cL_eq.mp e))
      have hz : ¬ (dgs M).length ≤ 3 := fun e => h ((q0 hq3).mpr ((dgs_zero (by decide)).mpr e))
      have B2 := B1.run [(44, .iinc 2 1, 47, 1)] (pe := 47) (by decide +kernel) rfl
      rw [n32_succ, show min (dgs M).length 3 + 1 = min (dgs M).length 4 by omega] at B2
      exact ⟨⟨B2⟩⟩
  have T3 := T3.down
  have U3 := T3.run [(47, .lload_n 3, 48, 0)] (pe := 48) (by decide +kernel) rfl
  have V3 := U3.ldcJ (wd_211 G) (by decide +kernel)
  have W3 := V3.ldiv (by decide +kernel) (by decide)
  have hq4 := negdiv hq3
  have S4 := W3.run [(52, .lstore_n 3, 53, 0), (53, .lload_n 3, 54, 0), (54, .lconst 0, 55, 0), (55, .lcmp, 56, 0)] (pe := 56) (by decide +kernel) rfl
  generalize y3 / 10 = y4 at S4 hq4
  obtain ⟨T4⟩ : Nonempty (PLift (Wk l Z a0 EL0 "com/example/holdfast/holdfast/LockLostToStringPinLaw" method_5_code 5 "digitCount" (some .int) ({ frames := 0, cells := 0, slots := 0, locals := 0 } : Room) D 62 [.val (.long m), .second, .val (.int (min (dgs M).length 5 : Nat).toInt32), .val (.long y4), .second] [] H 0 0)) := by
    by_cases h : y4 = 0
    · have B1 := S4.ifT (cd := .eq) (o := 6) (by decide +kernel) (cL_eq.mpr h) (pe := 62) (by decide)
      have hz := (dgs_zero (by decide)).mp ((q0 hq4).mp h)
      rw [show min (dgs M).length 5 = min (dgs M).length 4 by omega]
      exact ⟨⟨B1⟩⟩
    · have B1 := S4.ifF (cd := .eq) (o := 6) (by decide +kernel) (fun e => h (cL_eq.mp e))
      have hz : ¬ (dgs M).length ≤ 4 := fun e => h ((q0 hq4).mpr ((dgs_zero (by decide)).mpr e))
      have B2 := B1.run [(59, .iinc 2 1, 62, 1)] (pe := 62) (by decide +kernel) rfl
      rw [n32_succ, show min (dgs M).length 4 + 1 = min (dgs M).length 5 by omega] at B2
      exact ⟨⟨B2⟩⟩
  have T4 := T4.down
  have U4 := T4.run [(62, .lload_n 3, 63, 0)] (pe := 63) (by decide +kernel) rfl
  have V4 := U4.ldcJ (wd_211 G) (by decide +kernel)
  have W4 := V4.ldiv (by decide +kernel) (by decide)
  have hq5 := negdiv hq4
  have S5 := W4.run [(67, .lstore_n 3, 68, 0), (68, .lload_n 3, 69, 0), (69, .lconst 0, 70, 0), (70, .lcmp, 71, 0)] (pe := 71) (by decide +kernel) rfl
  generalize y4 / 10 = y5 at S5 hq5
  obtain ⟨T5⟩ : Nonempty (PLift (Wk l Z a0 EL0 "com/example/holdfast/holdfast/LockLostToStringPinLaw" method_5_code 5 "digitCount" (some .int) ({ frames := 0, cells := 0, slots := 0, locals := 0 } : Room) D 77 [.val (.long m), .second, .val (.int (min (dgs M).length 6 : Nat).toInt32), .val (.long y5), .second] [] H 0 0)) := by
    by_cases h : y5 = 0
    · have B1 := S5.ifT (cd := .eq) (o := 6) (by decide +kernel) (cL_eq.mpr h) (pe := 77) (by decide)
      have hz := (dgs_zero (by decide)).mp ((q0 hq5).mp h)
      rw [show min (dgs M).length 6 = min (dgs M).length 5 by omega]
      exact ⟨⟨B1⟩⟩
    · have B1 := S5.ifF (cd := .eq) (o := 6) (by decide +kernel) (fun e => h (cL_eq.mp e))
      have hz : ¬ (dgs M).length ≤ 5 := fun e => h ((q0 hq5).mpr ((dgs_zero (by decide)).mpr e))
      have B2 := B1.run [(74, .iinc 2 1, 77, 1)] (pe := 77) (by decide +kernel) rfl
      rw [n32_succ, show min (dgs M).length 5 + 1 = min (dgs M).length 6 by omega] at B2
      exact ⟨⟨B2⟩⟩
  have T5 := T5.down
  have U5 := T5.run [(77, .lload_n 3, 78, 0)] (pe := 78) (by decide +kernel) rfl
  have V5 := U5.ldcJ (wd_211 G) (by decide +kernel)
  have W5 := V5.ldiv (by decide +kernel) (by decide)
  have hq6 := negdiv hq5
  have S6 := W5.run [(82, .lstore_n 3, 83, 0), (83, .lload_n 3, 84, 0), (84, .lconst 0, 85, 0), (85, .lcmp, 86, 0)] (pe := 86) (by decide +kernel) rfl
  generalize y5 / 10 = y6 at S6 hq6
  obtain ⟨T6⟩ : Nonempty (PLift (Wk l Z a0 EL0 "com/example/holdfast/holdfast/LockLostToStringPinLaw" method_5_code 5 "digitCount" (some .int) ({ frames := 0, cells := 0, slots := 0, locals := 0 } : Room) D 92 [.val (.long m), .second, .val (.int (min (dgs M).length 7 : Nat).toInt32), .val (.long y6), .second] [] H 0 0)) := by
    by_cases h : y6 = 0
    · have B1 := S6.ifT (cd := .eq) (o := 6) (by decide +kernel) (cL_eq.mpr h) (pe := 92) (by decide)
      have hz := (dgs_zero (by decide)).mp ((q0 hq6).mp h)
      rw [show min (dgs M).length 7 = min (dgs M).length 6 by omega]
      exact ⟨⟨B1⟩⟩
    · have B1 := S6.ifF (cd := .eq) (o := 6) (by decide +kernel) (fun e => h (cL_eq.mp e))
      have hz : ¬ (dgs M).length ≤ 6 := fun e => h ((q0 hq6).mpr ((dgs_zero (by decide)).mpr e))
      have B2 := B1.run [(89, .iinc 2 1, 92, 1)] (pe := 92) (by decide +kernel) rfl
      rw [n32_succ, show min (dgs M).length 6 + 1 = min (dgs M).length 7 by omega] at B2
      exact ⟨⟨B2⟩⟩
  have T6 := T6.down
  have U6 := T6.run [(92, .lload_n 3, 93, 0)] (pe := 93) (by decide +kernel) rfl
  have V6 := U6.ldcJ (wd_211 G) (by decide +kernel)
  have W6 := V6.ldiv (by decide +kernel) (by decide)
  have hq7 := negdiv hq6
  have S7 := W6.run [(97, .lstore_n 3, 98, 0), (98, .lload_n 3, 99, 0), (99, .lconst 0, 100, 0), (100, .lcmp, 101, 0)] (pe := 101) (by decide +kernel) rfl
  generalize y6 / 10 = y7 at S7 hq7
  obtain ⟨T7⟩ : Nonempty (PLift (Wk l Z a0 EL0 "com/example/holdfast/holdfast/LockLostToStringPinLaw" method_5_code 5 "digitCount" (some .int) ({ frames := 0, cells := 0, slots := 0, locals := 0 } : Room) D 107 [.val (.long m), .second, .val (.int (min (dgs M).length 8 : Nat).toInt32), .val (.long y7), .second] [] H 0 0)) := by
    by_cases h : y7 = 0
    · have B1 := S7.ifT (cd := .eq) (o := 6) (by decide +kernel) (cL_eq.mpr h) (pe := 107) (by decide)
      have hz := (dgs_zero (by decide)).mp ((q0 hq7).mp h)
      rw [show min (dgs M).length 8 = min (dgs M).length 7 by omega]
      exact ⟨⟨B1⟩⟩
    · have B1 := S7.ifF (cd := .eq) (o := 6) (by decide +kernel) (fun e => h (cL_eq.mp e))
      have hz : ¬ (dgs M).length ≤ 7 := fun e => h ((q0 hq7).mpr ((dgs_zero (by decide)).mpr e))
      have B2 := B1.run [(104, .iinc 2 1, 107, 1)] (pe := 107) (by decide +kernel) rfl
      rw [n32_succ, show min (dgs M).length 7 + 1 = min (dgs M).length 8 by omega] at B2
      exact ⟨⟨B2⟩⟩
  have T7 := T7.down
  have U7 := T7.run [(107, .lload_n 3, 108, 0)] (pe := 108) (by decide +kernel) rfl
  have V7 := U7.ldcJ (wd_211 G) (by decide +kernel)
  have W7 := V7.ldiv (by decide +kernel) (by decide)
  have hq8 := negdiv hq7
  have S8 := W7.run [(112, .lstore_n 3, 113, 0), (113, .lload_n 3, 114, 0), (114, .lconst 0, 115, 0), (115, .lcmp, 116, 0)] (pe := 116) (by decide +kernel) rfl
  generalize y7 / 10 = y8 at S8 hq8
  obtain ⟨T8⟩ : Nonempty (PLift (Wk l Z a0 EL0 "com/example/holdfast/holdfast/LockLostToStringPinLaw" method_5_code 5 "digitCount" (some .int) ({ frames := 0, cells := 0, slots := 0, locals := 0 } : Room) D 122 [.val (.long m), .second, .val (.int (min (dgs M).length 9 : Nat).toInt32), .val (.long y8), .second] [] H 0 0)) := by
    by_cases h : y8 = 0
    · have B1 := S8.ifT (cd := .eq) (o := 6) (by decide +kernel) (cL_eq.mpr h) (pe := 122) (by decide)
      have hz := (dgs_zero (by decide)).mp ((q0 hq8).mp h)
      rw [show min (dgs M).length 9 = min (dgs M).length 8 by omega]
      exact ⟨⟨B1⟩⟩
    · have B1 := S8.ifF (cd := .eq) (o := 6) (by decide +kernel) (fun e => h (cL_eq.mp e))
      have hz : ¬ (dgs M).length ≤ 8 := fun e => h ((q0 hq8).mpr ((dgs_zero (by decide)).mpr e))
      have B2 := B1.run [(119, .iinc 2 1, 122, 1)] (pe := 122) (by decide +kernel) rfl
      rw [n32_succ, show min (dgs M).length 8 + 1 = min (dgs M).length 9 by omega] at B2
      exact ⟨⟨B2⟩⟩
  have T8 := T8.down
  have U8 := T8.run [(122, .lload_n 3, 123, 0)] (pe := 123) (by decide +kernel) rfl
  have V8 := U8.ldcJ (wd_211 G) (by decide +kernel)
  have W8 := V8.ldiv (by decide +kernel) (by decide)
  have hq9 := negdiv hq8
  have S9 := W8.run [(127, .lstore_n 3, 128, 0), (128, .lload_n 3, 129, 0), (129, .lconst 0, 130, 0), (130, .lcmp, 131, 0)] (pe := 131) (by decide +kernel) rfl
  generalize y8 / 10 = y9 at S9 hq9
  obtain ⟨T9⟩ : Nonempty (PLift (Wk l Z a0 EL0 "com/example/holdfast/holdfast/LockLostToStringPinLaw" method_5_code 5 "digitCount" (some .int) ({ frames := 0, cells := 0, slots := 0, locals := 0 } : Room) D 137 [.val (.long m), .second, .val (.int (min (dgs M).length 10 : Nat).toInt32), .val (.long y9), .second] [] H 0 0)) := by
    by_cases h : y9 = 0
    · have B1 := S9.ifT (cd := .eq) (o := 6) (by decide +kernel) (cL_eq.mpr h) (pe := 137) (by decide)
      have hz := (dgs_zero (by decide)).mp ((q0 hq9).mp h)
      rw [show min (dgs M).length 10 = min (dgs M).length 9 by omega]
      exact ⟨⟨B1⟩⟩
    · have B1 := S9.ifF (cd := .eq) (o := 6) (by decide +kernel) (fun e => h (cL_eq.mp e))
      have hz : ¬ (dgs M).length ≤ 9 := fun e => h ((q0 hq9).mpr ((dgs_zero (by decide)).mpr e))
      have B2 := B1.run [(134, .iinc 2 1, 137, 1)] (pe := 137) (by decide +kernel) rfl
      rw [n32_succ, show min (dgs M).length 9 + 1 = min (dgs M).length 10 by omega] at B2
      exact ⟨⟨B2⟩⟩
  have T9 := T9.down
  have U9 := T9.run [(137, .lload_n 3, 138, 0)] (pe := 138) (by decide +kernel) rfl
  have V9 := U9.ldcJ (wd_211 G) (by decide +kernel)
  have W9 := V9.ldiv (by decide +kernel) (by decide)
  have hq10 := negdiv hq9
  have S10 := W9.run [(142, .lstore_n 3, 143, 0), (143, .lload_n 3, 144, 0), (144, .lconst 0, 145, 0), (145, .lcmp, 146, 0)] (pe := 146) (by decide +kernel) rfl
  generalize y9 / 10 = y10 at S10 hq10
  obtain ⟨T10⟩ : Nonempty (PLift (Wk l Z a0 EL0 "com/example/holdfast/holdfast/LockLostToStringPinLaw" method_5_code 5 "digitCount" (some .int) ({ frames := 0, cells := 0, slots := 0, locals := 0 } : Room) D 152 [.val (.long m), .second, .val (.int (min (dgs M).length 11 : Nat).toInt32), .val (.long y10), .second] [] H 0 0)) := by
    by_cases h : y10 = 0
    · have B1 := S10.ifT (cd := .eq) (o := 6) (by decide +kernel) (cL_eq.mpr h) (pe := 152) (by decide)
      have hz := (dgs_zero (by decide)).mp ((q0 hq10).mp h)
      rw [show min (dgs M).length 11 = min (dgs M).length 10 by omega]
      exact ⟨⟨B1⟩⟩
    · have B1 := S10.ifF (cd := .eq) (o := 6) (by decide +kernel) (fun e => h (cL_eq.mp e))
      have hz : ¬ (dgs M).length ≤ 10 := fun e => h ((q0 hq10).mpr ((dgs_zero (by decide)).mpr e))
      have B2 := B1.run [(149, .iinc 2 1, 152, 1)] (pe := 152) (by decide +kernel) rfl
      rw [n32_succ, show min (dgs M).length 10 + 1 = min (dgs M).length 11 by omega] at B2
      exact ⟨⟨B2⟩⟩
  have T10 := T10.down
  have U10 := T10.run [(152, .lload_n 3, 153, 0)] (pe := 153) (by decide +kernel) rfl
  have V10 := U10.ldcJ (wd_211 G) (by decide +kernel)
  have W10 := V10.ldiv (by decide +kernel) (by decide)
  have hq11 := negdiv hq10
  have S11 := W10.run [(157, .lstore_n 3, 158, 0), (158, .lload_n 3, 159, 0), (159, .lconst 0, 160, 0), (160, .lcmp, 161, 0)] (pe := 161) (by decide +kernel) rfl
  generalize y10 / 10 = y11 at S11 hq11
  obtain ⟨T11⟩ : Nonempty (PLift (Wk l Z a0 EL0 "com/example/holdfast/holdfast/LockLostToStringPinLaw" method_5_code 5 "digitCount" (some .int) ({ frames := 0, cells := 0, slots := 0, locals := 0 } : Room) D 167 [.val (.long m), .second, .val (.int (min (dgs M).length 12 : Nat).toInt32), .val (.long y11), .second] [] H 0 0)) := by
    by_cases h : y11 = 0
    · have B1 := S11.ifT (cd := .eq) (o := 6) (by decide +kernel) (cL_eq.mpr h) (pe := 167) (by decide)
      have hz := (dgs_zero (by decide)).mp ((q0 hq11).mp h)
      rw [show min (dgs M).length 12 = min (dgs M).length 11 by omega]
      exact ⟨⟨B1⟩⟩
    · have B1 := S11.ifF (cd := .eq) (o := 6) (by decide +kernel) (fun e => h (cL_eq.mp e))
      have hz : ¬ (dgs M).length ≤ 11 := fun e => h ((q0 hq11).mpr ((dgs_zero (by decide)).mpr e))
      have B2 := B1.run [(164, .iinc 2 1, 167, 1)] (pe := 167) (by decide +kernel) rfl
      rw [n32_succ, show min (dgs M).length 11 + 1 = min (dgs M).length 12 by omega] at B2
      exact ⟨⟨B2⟩⟩
  have T11 := T11.down
  have U11 := T11.run [(167, .lload_n 3, 168, 0)] (pe := 168) (by decide +kernel) rfl
  have V11 := U11.ldcJ (wd_211 G) (by decide +kernel)
  have W11 := V11.ldiv (by decide +kernel) (by decide)
  have hq12 := negdiv hq11
  have S12 := W11.run [(172, .lstore_n 3, 173, 0), (173, .lload_n 3, 174, 0), (174, .lconst 0, 175, 0), (175, .lcmp, 176, 0)] (pe := 176) (by decide +kernel) rfl
  generalize y11 / 10 = y12 at S12 hq12
  obtain ⟨T12⟩ : Nonempty (PLift (Wk l Z a0 EL0 "com/example/holdfast/holdfast/LockLostToStringPinLaw" method_5_code 5 "digitCount" (some .int) ({ frames := 0, cells := 0, slots := 0, locals := 0 } : Room) D 182 [.val (.long m), .second, .val (.int (min (dgs M).length 13 : Nat).toInt32), .val (.long y12), .second] [] H 0 0)) := by
    by_cases h : y12 = 0
    · have B1 := S12.ifT (cd := .eq) (o := 6) (by decide +kernel) (cL_eq.mpr h) (pe := 182) (by decide)
      have hz := (dgs_zero (by decide)).mp ((q0 hq12).mp h)
      rw [show min (dgs M).length 13 = min (dgs M).length 12 by omega]
      exact ⟨⟨B1⟩⟩
    · have B1 := S12.ifF (cd := .eq) (o := 6) (by decide +kernel) (fun e => h (cL_eq.mp e))
      have hz : ¬ (dgs M).length ≤ 12 := fun e => h ((q0 hq12).mpr ((dgs_zero (by decide)).mpr e))
      have B2 := B1.run [(179, .iinc 2 1, 182, 1)] (pe := 182) (by decide +kernel) rfl
      rw [n32_succ, show min (dgs M).length 12 + 1 = min (dgs M).length 13 by omega] at B2
      exact ⟨⟨B2⟩⟩
  have T12 := T12.down
  have U12 := T12.run [(182, .lload_n 3, 183, 0)] (pe := 183) (by decide +kernel) rfl
  have V12 := U12.ldcJ (wd_211 G) (by decide +kernel)
  have W12 := V12.ldiv (by decide +kernel) (by decide)
  have hq13 := negdiv hq12
  have S13 := W12.run [(187, .lstore_n 3, 188, 0), (188, .lload_n 3, 189, 0), (189, .lconst 0, 190, 0), (190, .lcmp, 191, 0)] (pe := 191) (by decide +kernel) rfl
  generalize y12 / 10 = y13 at S13 hq13
  obtain ⟨T13⟩ : Nonempty (PLift (Wk l Z a0 EL0 "com/example/holdfast/holdfast/LockLostToStringPinLaw" method_5_code 5 "digitCount" (some .int) ({ frames := 0, cells := 0, slots := 0, locals := 0 } : Room) D 197 [.val (.long m), .second, .val (.int (min (dgs M).length 14 : Nat).toInt32), .val (.long y13), .second] [] H 0 0)) := by
    by_cases h : y13 = 0
    · have B1 := S13.ifT (cd := .eq) (o := 6) (by decide +kernel) (cL_eq.mpr h) (pe := 197) (by decide)
      have hz := (dgs_zero (by decide)).mp ((q0 hq13).mp h)
      rw [show min (dgs M).length 14 = min (dgs M).length 13 by omega]
      exact ⟨⟨B1⟩⟩
    · have B1 := S13.ifF (cd := .eq) (o := 6) (by decide +kernel) (fun e => h (cL_eq.mp e))
      have hz : ¬ (dgs M).length ≤ 13 := fun e => h ((q0 hq13).mpr ((dgs_zero (by decide)).mpr e))
      have B2 := B1.run [(194, .iinc 2 1, 197, 1)] (pe := 197) (by decide +kernel) rfl
      rw [n32_succ, show min (dgs M).length 13 + 1 = min (dgs M).length 14 by omega] at B2
      exact ⟨⟨B2⟩⟩
  have T13 := T13.down
  have U13 := T13.run [(197, .lload_n 3, 198, 0)] (pe := 198) (by decide +kernel) rfl
  have V13 := U13.ldcJ (wd_211 G) (by decide +kernel)
  have W13 := V13.ldiv (by decide +kernel) (by decide)
  have hq14 := negdiv hq13
  have S14 := W13.run [(202, .lstore_n 3, 203, 0), (203, .lload_n 3, 204, 0), (204, .lconst 0, 205, 0), (205, .lcmp, 206, 0)] (pe := 206) (by decide +kernel) rfl
  generalize y13 / 10 = y14 at S14 hq14
  obtain ⟨T14⟩ : Nonempty (PLift (Wk l Z a0 EL0 "com/example/holdfast/holdfast/LockLostToStringPinLaw" method_5_code 5 "digitCount" (some .int) ({ frames := 0, cells := 0, slots := 0, locals := 0 } : Room) D 212 [.val (.long m), .second, .val (.int (min (dgs M).length 15 : Nat).toInt32), .val (.long y14), .second] [] H 0 0)) := by
    by_cases h : y14 = 0
    · have B1 := S14.ifT (cd := .eq) (o := 6) (by decide +kernel) (cL_eq.mpr h) (pe := 212) (by decide)
      have hz := (dgs_zero (by decide)).mp ((q0 hq14).mp h)
      rw [show min (dgs M).length 15 = min (dgs M).length 14 by omega]
      exact ⟨⟨B1⟩⟩
    · have B1 := S14.ifF (cd := .eq) (o := 6) (by decide +kernel) (fun e => h (cL_eq.mp e))
      have hz : ¬ (dgs M).length ≤ 14 := fun e => h ((q0 hq14).mpr ((dgs_zero (by decide)).mpr e))
      have B2 := B1.run [(209, .iinc 2 1, 212, 1)] (pe := 212) (by decide +kernel) rfl
      rw [n32_succ, show min (dgs M).length 14 + 1 = min (dgs M).length 15 by omega] at B2
      exact ⟨⟨B2⟩⟩
  have T14 := T14.down
  have U14 := T14.run [(212, .lload_n 3, 213, 0)] (pe := 213) (by decide +kernel) rfl
  have V14 := U14.ldcJ (wd_211 G) (by decide +kernel)
  have W14 := V14.ldiv (by decide +kernel) (by decide)
  have hq15 := negdiv hq14
  have S15 := W14.run [(217, .lstore_n 3, 218, 0), (218, .lload_n 3, 219, 0), (219, .lconst 0, 220, 0), (220, .lcmp, 221, 0)] (pe := 221) (by decide +kernel) rfl
  generalize y14 / 10 = y15 at S15 hq15
  obtain ⟨T15⟩ : Nonempty (PLift (Wk l Z a0 EL0 "com/example/holdfast/holdfast/LockLostToStringPinLaw" method_5_code 5 "digitCount" (some .int) ({ frames := 0, cells := 0, slots := 0, locals := 0 } : Room) D 227 [.val (.long m), .second, .val (.int (min (dgs M).length 16 : Nat).toInt32), .val (.long y15), .second] [] H 0 0)) := by
    by_cases h : y15 = 0
    · have B1 := S15.ifT (cd := .eq) (o := 6) (by decide +kernel) (cL_eq.mpr h) (pe := 227) (by decide)
      have hz := (dgs_zero (by decide)).mp ((q0 hq15).mp h)
      rw [show min (dgs M).length 16 = min (dgs M).length 15 by omega]
      exact ⟨⟨B1⟩⟩
    · have B1 := S15.ifF (cd := .eq) (o := 6) (by decide +kernel) (fun e => h (cL_eq.mp e))
      have hz : ¬ (dgs M).length ≤ 15 := fun e => h ((q0 hq15).mpr ((dgs_zero (by decide)).mpr e))
      have B2 := B1.run [(224, .iinc 2 1, 227, 1)] (pe := 227) (by decide +kernel) rfl
      rw [n32_succ, show min (dgs M).length 15 + 1 = min (dgs M).length 16 by omega] at B2
      exact ⟨⟨B2⟩⟩
  have T15 := T15.down
  have U15 := T15.run [(227, .lload_n 3, 228, 0)] (pe := 228) (by decide +kernel) rfl
  have V15 := U15.ldcJ (wd_211 G) (by decide +kernel)
  have W15 := V15.ldiv (by decide +kernel) (by decide)
  have hq16 := negdiv hq15
  have S16 := W15.run [(232, .lstore_n 3, 233, 0), (233, .lload_n 3, 234, 0), (234, .lconst 0, 235, 0), (235, .lcmp, 236, 0)] (pe := 236) (by decide +kernel) rfl
  generalize y15 / 10 = y16 at S16 hq16
  obtain ⟨T16⟩ : Nonempty (PLift (Wk l Z a0 EL0 "com/example/holdfast/holdfast/LockLostToStringPinLaw" method_5_code 5 "digitCount" (some .int) ({ frames := 0, cells := 0, slots := 0, locals := 0 } : Room) D 242 [.val (.long m), .second, .val (.int (min (dgs M).length 17 : Nat).toInt32), .val (.long y16), .second] [] H 0 0)) := by
    by_cases h : y16 = 0
    · have B1 := S16.ifT (cd := .eq) (o := 6) (by decide +kernel) (cL_eq.mpr h) (pe := 242) (by decide)
      have hz := (dgs_zero (by decide)).mp ((q0 hq16).mp h)
      rw [show min (dgs M).length 17 = min (dgs M).length 16 by omega]
      exact ⟨⟨B1⟩⟩
    · have B1 := S16.ifF (cd := .eq) (o := 6) (by decide +kernel) (fun e => h (cL_eq.mp e))
      have hz : ¬ (dgs M).length ≤ 16 := fun e => h ((q0 hq16).mpr ((dgs_zero (by decide)).mpr e))
      have B2 := B1.run [(239, .iinc 2 1, 242, 1)] (pe := 242) (by decide +kernel) rfl
      rw [n32_succ, show min (dgs M).length 16 + 1 = min (dgs M).length 17 by omega] at B2
      exact ⟨⟨B2⟩⟩
  have T16 := T16.down
  have U16 := T16.run [(242, .lload_n 3, 243, 0)] (pe := 243) (by decide +kernel) rfl
  have V16 := U16.ldcJ (wd_211 G) (by decide +kernel)
  have W16 := V16.ldiv (by decide +kernel) (by decide)
  have hq17 := negdiv hq16
  have S17 := W16.run [(247, .lstore_n 3, 248, 0), (248, .lload_n 3, 249, 0), (249, .lconst 0, 250, 0), (250, .lcmp, 251, 0)] (pe := 251) (by decide +kernel) rfl
  generalize y16 / 10 = y17 at S17 hq17
  obtain ⟨T17⟩ : Nonempty (PLift (Wk l Z a0 EL0 "com/example/holdfast/holdfast/LockLostToStringPinLaw" method_5_code 5 "digitCount" (some .int) ({ frames := 0, cells := 0, slots := 0, locals := 0 } : Room) D 257 [.val (.long m), .second, .val (.int (min (dgs M).length 18 : Nat).toInt32), .val (.long y17), .second] [] H 0 0)) := by
    by_cases h : y17 = 0
    · have B1 := S17.ifT (cd := .eq) (o := 6) (by decide +kernel) (cL_eq.mpr h) (pe := 257) (by decide)
      have hz := (dgs_zero (by decide)).mp ((q0 hq17).mp h)
      rw [show min (dgs M).length 18 = min (dgs M).length 17 by omega]
      exact ⟨⟨B1⟩⟩
    · have B1 := S17.ifF (cd := .eq) (o := 6) (by decide +kernel) (fun e => h (cL_eq.mp e))
      have hz : ¬ (dgs M).length ≤ 17 := fun e => h ((q0 hq17).mpr ((dgs_zero (by decide)).mpr e))
      have B2 := B1.run [(254, .iinc 2 1, 257, 1)] (pe := 257) (by decide +kernel) rfl
      rw [n32_succ, show min (dgs M).length 17 + 1 = min (dgs M).length 18 by omega] at B2
      exact ⟨⟨B2⟩⟩
  have T17 := T17.down
  have U17 := T17.run [(257, .lload_n 3, 258, 0)] (pe := 258) (by decide +kernel) rfl
  have V17 := U17.ldcJ (wd_211 G) (by decide +kernel)
  have W17 := V17.ldiv (by decide +kernel) (by decide)
  have hq18 := negdiv hq17
  have S18 := W17.run [(262, .lstore_n 3, 263, 0), (263, .lload_n 3, 264, 0), (264, .lconst 0, 265, 0), (265, .lcmp, 266, 0)] (pe := 266) (by decide +kernel) rfl
  generalize y17 / 10 = y18 at S18 hq18
  obtain ⟨T18⟩ : Nonempty (PLift (Wk l Z a0 EL0 "com/example/holdfast/holdfast/LockLostToStringPinLaw" method_5_code 5 "digitCount" (some .int) ({ frames := 0, cells := 0, slots := 0, locals := 0 } : Room) D 272 [.val (.long m), .second, .val (.int (min (dgs M).length 19 : Nat).toInt32), .val (.long y18), .second] [] H 0 0)) := by
    by_cases h : y18 = 0
    · have B1 := S18.ifT (cd := .eq) (o := 6) (by decide +kernel) (cL_eq.mpr h) (pe := 272) (by decide)
      have hz := (dgs_zero (by decide)).mp ((q0 hq18).mp h)
      rw [show min (dgs M).length 19 = min (dgs M).length 18 by omega]
      exact ⟨⟨B1⟩⟩
    · have B1 := S18.ifF (cd := .eq) (o := 6) (by decide +kernel) (fun e => h (cL_eq.mp e))
      have hz : ¬ (dgs M).length ≤ 18 := fun e => h ((q0 hq18).mpr ((dgs_zero (by decide)).mpr e))
      have B2 := B1.run [(269, .iinc 2 1, 272, 1)] (pe := 272) (by decide +kernel) rfl
      rw [n32_succ, show min (dgs M).length 18 + 1 = min (dgs M).length 19 by omega] at B2
      exact ⟨⟨B2⟩⟩
  have T18 := T18.down
  have R1 := T18.run [(272, .iload_n 2, 273, 0)] (pe := 273) (by decide +kernel) rfl
  exact ⟨_, _, _, _, R1.retI (by decide +kernel), ⟨by rw [show min (dgs M).length 19 = (dgs M).length by omega], rfl⟩, by decide, by decide⟩
set_option maxRecDepth 65536 in
theorem c_pfx9 (G : Glb Z a0) {u : Addr} {rest : List Int32} (U : Str Z H u (pre9 ++ rest)) (hlu : Lat (pre9 ++ rest)) : Ct l Z EL0 (⟨"com/example/holdfast/holdfast/LockLostToStringPinLaw", "prefixOk", "(Ljava/lang/String;)Z"⟩ : MethodName) method_3_code 1 ((some .boolean)) ({ frames := 4, cells := 0, slots := 0, locals := 53 } : Room) [] [.ref u] H (fun v H' => v = some (.int 1) ∧ H = H') := by
  refine Ct.in G (by first | exact plainFor_of_name (by simp [plainName, overriddenIn]; done) | decide +kernel) (ls := [.val (.ref u)]) rfl rfl fun D B0 => ?_
  have C0 := B0.run [(0, .aload_n 0, 1, 0), (1, .iconst 0, 2, 0)] (pe := 2) (by decide +kernel) rfl
  obtain ⟨_, HE0, qE0, E0, moE0, szE0⟩ := C0.callV (argsL := [.int (0 : Nat).toInt32]) (wd_216 G) (wd_217 G) (wd_219 G) rfl (wd_219 G) (wd_218 G) (wd_2 G) (wd_220 G) U.1 (c_schL G U hlu (i := 0) (c := 76) rfl) (by decide) ⟨_, _, (by decide +kernel : parseMethodDescriptor "(I)C" = some ⟨[.int], some .char⟩), rfl⟩ (by decide +kernel) (Wd := 0) (by decide) (Nat.le_of_ble_eq_true rfl) (by decide) (by decide) (by decide)
  obtain ⟨rfl, rfl⟩ := qE0
  have F0 := E0.run [(5, .bipush 76, 7, 76)] (pe := 7) (by decide +kernel) rfl
  have B1 := F0.icF (cd := .ne) (o := 90) (by decide +kernel) (not_not_intro rfl)
  have C1 := B1.run [(10, .aload_n 0, 11, 0), (11, .iconst 1, 12, 1)] (pe := 12) (by decide +kernel) rfl
  obtain ⟨_, HE1, qE1, E1, moE1, szE1⟩ := C1.callV (argsL := [.int (1 : Nat).toInt32]) (wd_216 G) (wd_217 G) (wd_219 G) rfl (wd_219 G) (wd_218 G) (wd_2 G) (wd_220 G) U.1 (c_schL G U hlu (i := 1) (c := 111) rfl) (by decide) ⟨_, _, (by decide +kernel : parseMethodDescriptor "(I)C" = some ⟨[.int], some .char⟩), rfl⟩ (by decide +kernel) (Wd := 0) (by decide) (Nat.le_of_ble_eq_true rfl) (by decide) (by decide) (by decide)
  obtain ⟨rfl, rfl⟩ := qE1
  have F1 := E1.run [(15, .bipush 111, 17, 111)] (pe := 17) (by decide +kernel) rfl
  have B2 := F1.icF (cd := .ne) (o := 80) (by decide +kernel) (not_not_intro rfl)
  have C2 := B2.run [(20, .aload_n 0, 21, 0), (21, .iconst 2, 22, 2)] (pe := 22) (by decide +kernel) rfl
  obtain ⟨_, HE2, qE2, E2, moE2, szE2⟩ := C2.callV (argsL := [.int (2 : Nat).toInt32]) (wd_216 G) (wd_217 G) (wd_219 G) rfl (wd_219 G) (wd_218 G) (wd_2 G) (wd_220 G) U.1 (c_schL G U hlu (i := 2) (c := 99) rfl) (by decide) ⟨_, _, (by decide +kernel : parseMethodDescriptor "(I)C" = some ⟨[.int], some .char⟩), rfl⟩ (by decide +kernel) (Wd := 0) (by decide) (Nat.le_of_ble_eq_true rfl) (by decide) (by decide) (by decide)
  obtain ⟨rfl, rfl⟩ := qE2
  have F2 := E2.run [(25, .bipush 99, 27, 99)] (pe := 27) (by decide +kernel) rfl
  have B3 := F2.icF (cd := .ne) (o := 70) (by decide +kernel) (not_not_intro rfl)
  have C3 := B3.run [(30, .aload_n 0, 31, 0), (31, .iconst 3, 32, 3)] (pe := 32) (by decide +kernel) rfl
  obtain ⟨_, HE3, qE3, E3, moE3, szE3⟩ := C3.callV (argsL := [.int (3 : Nat).toInt32]) (wd_216 G) (wd_217 G) (wd_219 G) rfl (wd_219 G) (wd_218 G) (wd_2 G) (wd_220 G) U.1 (c_schL G U hlu (i := 3) (c := 107) rfl) (by decide) ⟨_, _, (by decide +kernel : parseMethodDescriptor "(I)C" = some ⟨[.int], some .char⟩), rfl⟩ (by decide +kernel) (Wd := 0) (by decide) (Nat.le_of_ble_eq_true rfl) (by decide) (by decide) (by decide)
  obtain ⟨rfl, rfl⟩ := qE3
  have F3 := E3.run [(35, .bipush 107, 37, 107)] (pe := 37) (by decide +kernel) rfl
  have B4 := F3.icF (cd := .ne) (o := 60) (by decide +kernel) (not_not_intro rfl)
  have C4 := B4.run [(40, .aload_n 0, 41, 0), (41, .iconst 4, 42, 4)] (pe := 42) (by decide +kernel) rfl
  obtain ⟨_, HE4, qE4, E4, moE4, szE4⟩ := C4.callV (argsL := [.int (4 : Nat).toInt32]) (wd_216 G) (wd_217 G) (wd_219 G) rfl (wd_219 G) (wd_218 G) (wd_2 G) (wd_220 G) U.1 (c_schL G U hlu (i := 4) (c := 76) rfl) (by decide) ⟨_, _, (by decide +kernel : parseMethodDescriptor "(I)C" = some ⟨[.int], some .char⟩), rfl⟩ (by decide +kernel) (Wd := 0) (by decide) (Nat.le_of_ble_eq_true rfl) (by decide) (by decide) (by decide)
  obtain ⟨rfl, rfl⟩ := qE4
  have F4 := E4.run [(45, .bipush 76, 47, 76)] (pe := 47) (by decide +kernel) rfl
  have B5 := F4.icF (cd := .ne) (o := 50) (by decide +kernel) (not_not_intro rfl)
  have C5 := B5.run [(50, .aload_n 0, 51, 0), (51, .iconst 5, 52, 5)] (pe := 52) (by decide +kernel) rfl
  obtain ⟨_, HE5, qE5, E5, moE5, szE5⟩ := C5.callV (argsL := [.int (5 : Nat).toInt32]) (wd_216 G) (wd_217 G) (wd_219 G) rfl (wd_219 G) (wd_218 G) (wd_2 G) (wd_220 G) U.1 (c_schL G U hlu (i := 5) (c := 111) rfl) (by decide) ⟨_, _, (by decide +kernel : parseMethodDescriptor "(I)C" = some ⟨[.int], some .char⟩), rfl⟩ (by decide +kernel) (Wd := 0) (by decide) (Nat.le_of_ble_eq_true rfl) (by decide) (by decide) (by decide)
  obtain ⟨rfl, rfl⟩ := qE5
  have F5 := E5.run [(55, .bipush 111, 57, 111)] (pe := 57) (by decide +kernel) rfl
  have B6 := F5.icF (cd := .ne) (o := 40) (by decide +kernel) (not_not_intro rfl)
  have C6 := B6.run [(60, .aload_n 0, 61, 0), (61, .bipush 6, 63, 6)] (pe := 63) (by decide +kernel) rfl
  obtain ⟨_, HE6, qE6, E6, moE6, szE6⟩ := C6.callV (argsL := [.int (6 : Nat).toInt32]) (wd_216 G) (wd_217 G) (wd_219 G) rfl (wd_219 G) (wd_218 G) (wd_2 G) (wd_220 G) U.1 (c_schL G U hlu (i := 6) (c := 115) rfl) (by decide) ⟨_, _, (by decide +kernel : parseMethodDescriptor "(I)C" = some ⟨[.int], some .char⟩), rfl⟩ (by decide +kernel) (Wd := 0) (by decide) (Nat.le_of_ble_eq_true rfl) (by decide) (by decide) (by decide)
  obtain ⟨rfl, rfl⟩ := qE6
  have F6 := E6.run [(66, .bipush 115, 68, 115)] (pe := 68) (by decide +kernel) rfl
  have B7 := F6.icF (cd := .ne) (o := 29) (by decide +kernel) (not_not_intro rfl)
  have C7 := B7.run [(71, .aload_n 0, 72, 0), (72, .bipush 7, 74, 7)] (pe := 74) (by decide +kernel) rfl
  obtain ⟨_, HE7, qE7, E7, moE7, szE7⟩ := C7.callV (argsL := [.int (7 : Nat).toInt32]) (wd_216 G) (wd_217 G) (wd_219 G) rfl (wd_219 G) (wd_218 G) (wd_2 G) (wd_220 G) U.1 (c_schL G U hlu (i := 7) (c := 116) rfl) (by decide) ⟨_, _, (by decide +kernel : parseMethodDescriptor "(I)C" = some ⟨[.int], some .char⟩), rfl⟩ (by decide +kernel) (Wd := 0) (by decide) (Nat.le_of_ble_eq_true rfl) (by decide) (by decide) (by decide)
  obtain ⟨rfl, rfl⟩ := qE7
  have F7 := E7.run [(77, .bipush 116, 79, 116)] (pe := 79) (by decide +kernel) rfl
  have B8 := F7.icF (cd := .ne) (o := 18) (by decide +kernel) (not_not_intro rfl)
  have C8 := B8.run [(82, .aload_n 0, 83, 0), (83, .bipush 8, 85, 8)] (pe := 85) (by decide +kernel) rfl
  obtain ⟨_, HE8, qE8, E8, moE8, szE8⟩ := C8.callV (argsL := [.int (8 : Nat).toInt32]) (wd_216 G) (wd_217 G) (wd_219 G) rfl (wd_219 G) (wd_218 G) (wd_2 G) (wd_220 G) U.1 (c_schL G U hlu (i := 8) (c := 91) rfl) (by decide) ⟨_, _, (by decide +kernel : parseMethodDescriptor "(I)C" = some ⟨[.int], some .char⟩), rfl⟩ (by decide +kernel) (Wd := 0) (by decide) (Nat.le_of_ble_eq_true rfl) (by decide) (by decide) (by decide)
  obtain ⟨rfl, rfl⟩ := qE8
  have F8 := E8.run [(88, .bipush 91, 90, 91)] (pe := 90) (by decide +kernel) rfl
  have B9 := F8.icF (cd := .ne) (o := 7) (by decide +kernel) (not_not_intro rfl)
  have R1 := B9.run [(93, .iconst 1, 94, 1), (94, .goto 4, 98, 0)] (pe := 98) (by decide +kernel) rfl
  exact ⟨_, _, _, _, R1.retZ (by decide +kernel) rfl, ⟨rfl, rfl⟩, by decide, by decide⟩
set_option maxRecDepth 65536 in
set_option maxHeartbeats 1000000 in
theorem c_fen (G : Glb Z a0) {u : Addr} {cs : List Int32} {p : Nat} (U : Str Z H u cs) (hlu : Lat cs) (hp : p < 1000) (hf : ∀ j c, fen16[j]? = some c → cs[p + j]? = some c) : Ct l Z EL0 (⟨"com/example/holdfast/holdfast/LockLostToStringPinLaw", "fencingOk", "(Ljava/lang/String;I)Z"⟩ : MethodName) method_4_code 2 ((some .boolean)) ({ frames := 4, cells := 0, slots := 0, locals := 53 } : Room) [] [.ref u, .int p.toInt32] H (fun v H' => v = some (.int 1) ∧ H = H') := by
  refine Ct.in G (by first | exact plainFor_of_name (by simp [plainName, overriddenIn]; done) | decide +kernel) (ls := [.val (.ref u), .val (.int p.toInt32)]) rfl rfl fun D B0 => ?_
  have C0 := B0.run [(0, .aload_n 0, 1, 0), (1, .iload_n 1, 2, 0)] (pe := 2) (by decide +kernel) rfl
  obtain ⟨_, HE0, qE0, E0, moE0, szE0⟩ := C0.callV (argsL := [.int (p).toInt32]) (wd_216 G) (wd_217 G) (wd_219 G) rfl (wd_219 G) (wd_218 G) (wd_2 G) (wd_220 G) U.1 (c_schL G U hlu (i := p) (c := 44) (hf 0 44 rfl)) (by decide) ⟨_, _, (by decide +kernel : parseMethodDescriptor "(I)C" = some ⟨[.int], some .char⟩), rfl⟩ (by decide +kernel) (Wd := 0) (by decide) (Nat.le_of_ble_eq_true rfl) (by decide) (by decide) (by decide)
  obtain ⟨rfl, rfl⟩ := qE0
  have F0 := E0.run [(5, .bipush 44, 7, 44)] (pe := 7) (by decide +kernel) rfl
  have B1 := F0.icF (cd := .ne) (o := 197) (by decide +kernel) (not_not_intro rfl)
  have C1 := B1.run [(10, .aload_n 0, 11, 0), (11, .iload_n 1, 12, 0), (12, .iconst 1, 13, 1), (13, .iadd, 14, 0)] (pe := 14) (by decide +kernel) rfl
  rw [show p.toInt32 + 1 = (p + 1).toInt32 from n32_add p 1] at C1
  obtain ⟨_, HE1, qE1, E1, moE1, szE1⟩ := C1.callV (argsL := [.int (p + 1).toInt32]) (wd_216 G) (wd_217 G) (wd_219 G) rfl (wd_219 G) (wd_218 G) (wd_2 G) (wd_220 G) U.1 (c_schL G U hlu (i := p + 1) (c := 32) (hf 1 32 rfl)) (by decide) ⟨_, _, (by decide +kernel : parseMethodDescriptor "(I)C" = some ⟨[.int], some .char⟩), rfl⟩ (by decide +kernel) (Wd := 0) (by decide) (Nat.le_of_ble_eq_true rfl) (by decide) (by decide) (by decide)
  obtain ⟨rfl, rfl⟩ := qE1
  have F1 := E1.run [(17, .bipush 32, 19, 32)] (pe := 19) (by decide +kernel) rfl
  have B2 := F1.icF (cd := .ne) (o := 185) (by decide +kernel) (not_not_intro rfl)
  have C2 := B2.run [(22, .aload_n 0, 23, 0), (23, .iload_n 1, 24, 0), (24, .iconst 2, 25, 2), (25, .iadd, 26, 0)] (pe := 26) (by decide +kernel) rfl
  rw [show p.toInt32 + 2 = (p + 2).toInt32 from n32_add p 2] at C2
  obtain ⟨_, HE2, qE2, E2, moE2, szE2⟩ := C2.callV (argsL := [.int (p + 2).toInt32]) (wd_216 G) (wd_217 G) (wd_219 G) rfl (wd_219 G) (wd_218 G) (wd_2 G) (wd_220 G) U.1 (c_schL G U hlu (i := p + 2) (c := 102) (hf 2 102 rfl)) (by decide) ⟨_, _, (by decide +kernel : parseMethodDescriptor "(I)C" = some ⟨[.int], some .char⟩), rfl⟩ (by decide +kernel) (Wd := 0) (by decide) (Nat.le_of_ble_eq_true rfl) (by decide) (by decide) (by decide)
  obtain ⟨rfl, rfl⟩ := qE2
  have F2 := E2.run [(29, .bipush 102, 31, 102)] (pe := 31) (by decide +kernel) rfl
  have B3 := F2.icF (cd := .ne) (o := 173) (by decide +kernel) (not_not_intro rfl)
  have C3 := B3.run [(34, .aload_n 0, 35, 0), (35, .iload_n 1, 36, 0), (36, .iconst 3, 37, 3), (37, .iadd, 38, 0)] (pe := 38) (by decide +kernel) rfl
  rw [show p.toInt32 + 3 = (p + 3).toInt32 from n32_add p 3] at C3
  obtain ⟨_, HE3, qE3, E3, moE3, szE3⟩ := C3.callV (argsL := [.int (p + 3).toInt32]) (wd_216 G) (wd_217 G) (wd_219 G) rfl (wd_219 G) (wd_218 G) (wd_2 G) (wd_220 G) U.1 (c_schL G U hlu (i := p + 3) (c := 101) (hf 3 101 rfl)) (by decide) ⟨_, _, (by decide +kernel : parseMethodDescriptor "(I)C" = some ⟨[.int], some .char⟩), rfl⟩ (by decide +kernel) (Wd := 0) (by decide) (Nat.le_of_ble_eq_true rfl) (by decide) (by decide) (by decide)
  obtain ⟨rfl, rfl⟩ := qE3
  have F3 := E3.run [(41, .bipush 101, 43, 101)] (pe := 43) (by decide +kernel) rfl
  have B4 := F3.icF (cd := .ne) (o := 161) (by decide +kernel) (not_not_intro rfl)
  have C4 := B4.run [(46, .aload_n 0, 47, 0), (47, .iload_n 1, 48, 0), (48, .iconst 4, 49, 4), (49, .iadd, 50, 0)] (pe := 50) (by decide +kernel) rfl
  rw [show p.toInt32 + 4 = (p + 4).toInt32 from n32_add p 4] at C4
  obtain ⟨_, HE4, qE4, E4, moE4, szE4⟩ := C4.callV (argsL := [.int (p + 4).toInt32]) (wd_216 G) (wd_217 G) (wd_219 G) rfl (wd_219 G) (wd_218 G) (wd_2 G) (wd_220 G) U.1 (c_schL G U hlu (i := p + 4) (c := 110) (hf 4 110 rfl)) (by decide) ⟨_, _, (by decide +kernel : parseMethodDescriptor "(I)C" = some ⟨[.int], some .char⟩), rfl⟩ (by decide +kernel) (Wd := 0) (by decide) (Nat.le_of_ble_eq_true rfl) (by decide) (by decide) (by decide)
  obtain ⟨rfl, rfl⟩ := qE4
  have F4 := E4.run [(53, .bipush 110, 55, 110)] (pe := 55) (by decide +kernel) rfl
  have B5 := F4.icF (cd := .ne) (o := 149) (by decide +kernel) (not_not_intro rfl)
  have C5 := B5.run [(58, .aload_n 0, 59, 0), (59, .iload_n 1, 60, 0), (60, .iconst 5, 61, 5), (61, .iadd, 62, 0)] (pe := 62) (by decide +kernel) rfl
  rw [show p.toInt32 + 5 = (p + 5).toInt32 from n32_add p 5] at C5
  obtain ⟨_, HE5, qE5, E5, moE5, szE5⟩ := C5.callV (argsL := [.int (p + 5).toInt32]) (wd_216 G) (wd_217 G) (wd_219 G) rfl (wd_219 G) (wd_218 G) (wd_2 G) (wd_220 G) U.1 (c_schL G U hlu (i := p + 5) (c := 99) (hf 5 99 rfl)) (by decide) ⟨_, _, (by decide +kernel : parseMethodDescriptor "(I)C" = some ⟨[.int], some .char⟩), rfl⟩ (by decide +kernel) (Wd := 0) (by decide) (Nat.le_of_ble_eq_true rfl) (by decide) (by decide) (by decide)
  obtain ⟨rfl, rfl⟩ := qE5
  have F5 := E5.run [(65, .bipush 99, 67, 99)] (pe := 67) (by decide +kernel) rfl
  have B6 := F5.icF (cd := .ne) (o := 137) (by decide +kernel) (not_not_intro rfl)
  have C6 := B6.run [(70, .aload_n 0, 71, 0), (71, .iload_n 1, 72, 0), (72, .bipush 6, 74, 6), (74, .iadd, 75, 0)] (pe := 75) (by decide +kernel) rfl
  rw [show p.toInt32 + 6 = (p + 6).toInt32 from n32_add p 6] at C6
  obtain ⟨_, HE6, qE6, E6, moE6, szE6⟩ := C6.callV (argsL := [.int (p + 6).toInt32]) (wd_216 G) (wd_217 G) (wd_219 G) rfl (wd_219 G) (wd_218 G) (wd_2 G) (wd_220 G) U.1 (c_schL G U hlu (i := p + 6) (c := 105) (hf 6 105 rfl)) (by decide) ⟨_, _, (by decide +kernel : parseMethodDescriptor "(I)C" = some ⟨[.int], some .char⟩), rfl⟩ (by decide +kernel) (Wd := 0) (by decide) (Nat.le_of_ble_eq_true rfl) (by decide) (by decide) (by decide)
  obtain ⟨rfl, rfl⟩ := qE6
  have F6 := E6.run [(78, .bipush 105, 80, 105)] (pe := 80) (by decide +kernel) rfl
  have B7 := F6.icF (cd := .ne) (o := 124) (by decide +kernel) (not_not_intro rfl)
  have C7 := B7.run [(83, .aload_n 0, 84, 0), (84, .iload_n 1, 85, 0), (85, .bipush 7, 87, 7), (87, .iadd, 88, 0)] (pe := 88) (by decide +kernel) rfl
  rw [show p.toInt32 + 7 = (p + 7).toInt32 from n32_add p 7] at C7
  obtain ⟨_, HE7, qE7, E7, moE7, szE7⟩ := C7.callV (argsL := [.int (p + 7).toInt32]) (wd_216 G) (wd_217 G) (wd_219 G) rfl (wd_219 G) (wd_218 G) (wd_2 G) (wd_220 G) U.1 (c_schL G U hlu (i := p + 7) (c := 110) (hf 7 110 rfl)) (by decide) ⟨_, _, (by decide +kernel : parseMethodDescriptor "(I)C" = some ⟨[.int], some .char⟩), rfl⟩ (by decide +kernel) (Wd := 0) (by decide) (Nat.le_of_ble_eq_true rfl) (by decide) (by decide) (by decide)
  obtain ⟨rfl, rfl⟩ := qE7
  have F7 := E7.run [(91, .bipush 110, 93, 110)] (pe := 93) (by decide +kernel) rfl
  have B8 := F7.icF (cd := .ne) (o := 111) (by decide +kernel) (not_not_intro rfl)
  have C8 := B8.run [(96, .aload_n 0, 97, 0), (97, .iload_n 1, 98, 0), (98, .bipush 8, 100, 8), (100, .iadd, 101, 0)] (pe := 101) (by decide +kernel) rfl
  rw [show p.toInt32 + 8 = (p + 8).toInt32 from n32_add p 8] at C8
  obtain ⟨_, HE8, qE8, E8, moE8, szE8⟩ := C8.callV (argsL := [.int (p + 8).toInt32]) (wd_216 G) (wd_217 G) (wd_219 G) rfl (wd_219 G) (wd_218 G) (wd_2 G) (wd_220 G) U.1 (c_schL G U hlu (i := p + 8) (c := 103) (hf 8 103 rfl)) (by decide) ⟨_, _, (by decide +kernel : parseMethodDescriptor "(I)C" = some ⟨[.int], some .char⟩), rfl⟩ (by decide +kernel) (Wd := 0) (by decide) (Nat.le_of_ble_eq_true rfl) (by decide) (by decide) (by decide)
  obtain ⟨rfl, rfl⟩ := qE8
  have F8 := E8.run [(104, .bipush 103, 106, 103)] (pe := 106) (by decide +kernel) rfl
  have B9 := F8.icF (cd := .ne) (o := 98) (by decide +kernel) (not_not_intro rfl)
  have C9 := B9.run [(109, .aload_n 0, 110, 0), (110, .iload_n 1, 111, 0), (111, .bipush 9, 113, 9), (113, .iadd, 114, 0)] (pe := 114) (by decide +kernel) rfl
  rw [show p.toInt32 + 9 = (p + 9).toInt32 from n32_add p 9] at C9
  obtain ⟨_, HE9, qE9, E9, moE9, szE9⟩ := C9.callV (argsL := [.int (p + 9).toInt32]) (wd_216 G) (wd_217 G) (wd_219 G) rfl (wd_219 G) (wd_218 G) (wd_2 G) (wd_220 G) U.1 (c_schL G U hlu (i := p + 9) (c := 32) (hf 9 32 rfl)) (by decide) ⟨_, _, (by decide +kernel : parseMethodDescriptor "(I)C" = some ⟨[.int], some .char⟩), rfl⟩ (by decide +kernel) (Wd := 0) (by decide) (Nat.le_of_ble_eq_true rfl) (by decide) (by decide) (by decide)
  obtain ⟨rfl, rfl⟩ := qE9
  have F9 := E9.run [(117, .bipush 32, 119, 32)] (pe := 119) (by decide +kernel) rfl
  have B10 := F9.icF (cd := .ne) (o := 85) (by decide +kernel) (not_not_intro rfl)
  have C10 := B10.run [(122, .aload_n 0, 123, 0), (123, .iload_n 1, 124, 0), (124, .bipush 10, 126, 10), (126, .iadd, 127, 0)] (pe := 127) (by decide +kernel) rfl
  rw [show p.toInt32 + 10 = (p + 10).toInt32 from n32_add p 10] at C10
  obtain ⟨_, HE10, qE10, E10, moE10, szE10⟩ := C10.callV (argsL := [.int (p + 10).toInt32]) (wd_216 G) (wd_217 G) (wd_219 G) rfl (wd_219 G) (wd_218 G) (wd_2 G) (wd_220 G) U.1 (c_schL G U hlu (i := p + 10) (c := 116) (hf 10 116 rfl)) (by decide) ⟨_, _, (by decide +kernel : parseMethodDescriptor "(I)C" = some ⟨[.int], some .char⟩), rfl⟩ (by decide +kernel) (Wd := 0) (by decide) (Nat.le_of_ble_eq_true rfl) (by decide) (by decide) (by decide)
  obtain ⟨rfl, rfl⟩ := qE10
  have F10 := E10.run [(130, .bipush 116, 132, 116)] (pe := 132) (by decide +kernel) rfl
  have B11 := F10.icF (cd := .ne) (o := 72) (by decide +kernel) (not_not_intro rfl)
  have C11 := B11.run [(135, .aload_n 0, 136, 0), (136, .iload_n 1, 137, 0), (137, .bipush 11, 139, 11), (139, .iadd, 140, 0)] (pe := 140) (by decide +kernel) rfl
  rw [show p.toInt32 + 11 = (p + 11).toInt32 from n32_add p 11] at C11
  obtain ⟨_, HE11, qE11, E11, moE11, szE11⟩ := C11.callV (argsL := [.int (p + 11).toInt32]) (wd_216 G) (wd_217 G) (wd_219 G) rfl (wd_219 G) (wd_218 G) (wd_2 G) (wd_220 G) U.1 (c_schL G U hlu (i := p + 11) (c := 111) (hf 11 111 rfl)) (by decide) ⟨_, _, (by decide +kernel : parseMethodDescriptor "(I)C" = some ⟨[.int], some .char⟩), rfl⟩ (by decide +kernel) (Wd := 0) (by decide) (Nat.le_of_ble_eq_true rfl) (by decide) (by decide) (by decide)
  obtain ⟨rfl, rfl⟩ := qE11
  have F11 := E11.run [(143, .bipush 111, 145, 111)] (pe := 145) (by decide +kernel) rfl
  have B12 := F11.icF (cd := .ne) (o := 59) (by decide +kernel) (not_not_intro rfl)
  have C12 := B12.run [(148, .aload_n 0, 149, 0), (149, .iload_n 1, 150, 0), (150, .bipush 12, 152, 12), (152, .iadd, 153, 0)] (pe := 153) (by decide +kernel) rfl
  rw [show p.toInt32 + 12 = (p + 12).toInt32 from n32_add p 12] at C12
  obtain ⟨_, HE12, qE12, E12, moE12, szE12⟩ := C12.callV (argsL := [.int (p + 12).toInt32]) (wd_216 G) (wd_217 G) (wd_219 G) rfl (wd_219 G) (wd_218 G) (wd_2 G) (wd_220 G) U.1 (c_schL G U hlu (i := p + 12) (c := 107) (hf 12 107 rfl)) (by decide) ⟨_, _, (by decide +kernel : parseMethodDescriptor "(I)C" = some ⟨[.int], some .char⟩), rfl⟩ (by decide +kernel) (Wd := 0) (by decide) (Nat.le_of_ble_eq_true rfl) (by decide) (by decide) (by decide)
  obtain ⟨rfl, rfl⟩ := qE12
  have F12 := E12.run [(156, .bipush 107, 158, 107)] (pe := 158) (by decide +kernel) rfl
  have B13 := F12.icF (cd := .ne) (o := 46) (by decide +kernel) (not_not_intro rfl)
  have C13 := B13.run [(161, .aload_n 0, 162, 0), (162, .iload_n 1, 163, 0), (163, .bipush 13, 165, 13), (165, .iadd, 166, 0)] (pe := 166) (by decide +kernel) rfl
  rw [show p.toInt32 + 13 = (p + 13).toInt32 from n32_add p 13] at C13
  obtain ⟨_, HE13, qE13, E13, moE13, szE13⟩ := C13.callV (argsL := [.int (p + 13).toInt32]) (wd_216 G) (wd_217 G) (wd_219 G) rfl (wd_219 G) (wd_218 G) (wd_2 G) (wd_220 G) U.1 (c_schL G U hlu (i := p + 13) (c := 101) (hf 13 101 rfl)) (by decide) ⟨_, _, (by decide +kernel : parseMethodDescriptor "(I)C" = some ⟨[.int], some .char⟩), rfl⟩ (by decide +kernel) (Wd := 0) (by decide) (Nat.le_of_ble_eq_true rfl) (by decide) (by decide) (by decide)
  obtain ⟨rfl, rfl⟩ := qE13
  have F13 := E13.run [(169, .bipush 101, 171, 101)] (pe := 171) (by decide +kernel) rfl
  have B14 := F13.icF (cd := .ne) (o := 33) (by decide +kernel) (not_not_intro rfl)
  have C14 := B14.run [(174, .aload_n 0, 175, 0), (175, .iload_n 1, 176, 0), (176, .bipush 14, 178, 14), (178, .iadd, 179, 0)] (pe := 179) (by decide +kernel) rfl
  rw [show p.toInt32 + 14 = (p + 14).toInt32 from n32_add p 14] at C14
  obtain ⟨_, HE14, qE14, E14, moE14, szE14⟩ := C14.callV (argsL := [.int (p + 14).toInt32]) (wd_216 G) (wd_217 G) (wd_219 G) rfl (wd_219 G) (wd_218 G) (wd_2 G) (wd_220 G) U.1 (c_schL G U hlu (i := p + 14) (c := 110) (hf 14 110 rfl)) (by decide) ⟨_, _, (by decide +kernel : parseMethodDescriptor "(I)C" = some ⟨[.int], some .char⟩), rfl⟩ (by decide +kernel) (Wd := 0) (by decide) (Nat.le_of_ble_eq_true rfl) (by decide) (by decide) (by decide)
  obtain ⟨rfl, rfl⟩ := qE14
  have F14 := E14.run [(182, .bipush 110, 184, 110)] (pe := 184) (by decide +kernel) rfl
  have B15 := F14.icF (cd := .ne) (o := 20) (by decide +kernel) (not_not_intro rfl)
  have C15 := B15.run [(187, .aload_n 0, 188, 0), (188, .iload_n 1, 189, 0), (189, .bipush 15, 191, 15), (191, .iadd, 192, 0)] (pe := 192) (by decide +kernel) rfl
  rw [show p.toInt32 + 15 = (p + 15).toInt32 from n32_add p 15] at C15
  obtain ⟨_, HE15, qE15, E15, moE15, szE15⟩ := C15.callV (argsL := [.int (p + 15).toInt32]) (wd_216 G) (wd_217 G) (wd_219 G) rfl (wd_219 G) (wd_218 G) (wd_2 G) (wd_220 G) U.1 (c_schL G U hlu (i := p + 15) (c := 32) (hf 15 32 rfl)) (by decide) ⟨_, _, (by decide +kernel : parseMethodDescriptor "(I)C" = some ⟨[.int], some .char⟩), rfl⟩ (by decide +kernel) (Wd := 0) (by decide) (Nat.le_of_ble_eq_true rfl) (by decide) (by decide) (by decide)
  obtain ⟨rfl, rfl⟩ := qE15
  have F15 := E15.run [(195, .bipush 32, 197, 32)] (pe := 197) (by decide +kernel) rfl
  have B16 := F15.icF (cd := .ne) (o := 7) (by decide +kernel) (not_not_intro rfl)
  have R1 := B16.run [(200, .iconst 1, 201, 1), (201, .goto 4, 205, 0)] (pe := 205) (by decide +kernel) rfl
  exact ⟨_, _, _, _, R1.retZ (by decide +kernel) rfl, ⟨rfl, rfl⟩, by decide, by decide⟩
theorem c_dkJ (G : Glb Z a0) {s : Addr} {cs : List Int32} {e M k : Nat} {q : Int64} (S : Str Z H s cs) (hla : Lat cs) (he : e < 1000) (hle : (dgs M).length ≤ e) (hk : k < 100) (h19 : (dgs M).length ≤ 19) (hq : q.toInt = -((M / 10 ^ k : Nat) : Int)) (hd : ∀ j, j < (dgs M).length → cs[e - (dgs M).length + j]? = (dgs M)[j]?) :
    Ct l Z EL0 (⟨"com/example/holdfast/holdfast/LockLostToStringPinLaw", "digitOk", "(Ljava/lang/String;IIIJ)Z"⟩ : MethodName) method_6_code 6 ((some .boolean)) ({ frames := 4, cells := 0, slots := 0, locals := 53 } : Room) [] [.ref s, .int e.toInt32, .int (dgs M).length.toInt32, .int k.toInt32, .long q] H (fun v H' => v = some (.int 1) ∧ H = H') := by
  refine Ct.in G (by first | exact plainFor_of_name (by simp [plainName, overriddenIn]; done) | decide +kernel) (ls := [.val (.ref s), .val (.int e.toInt32), .val (.int (dgs M).length.toInt32), .val (.int k.toInt32), .val (.long q), .second]) rfl rfl fun D A0 => ?_
  have A1 := A0.run [(0, .iload_n 3, 1, 0), (1, .iload_n 2, 2, 0)] (pe := 2) (by decide +kernel) rfl
  by_cases h : k < (dgs M).length
  · have A2 := A1.icF (cd := .ge) (o := 26) (by decide +kernel) (not_not_intro ((n32_lt (by omega) (by omega)).mpr h))
    have A3 := A2.run [(5, .aload_n 0, 6, 0), (6, .iload_n 1, 7, 0), (7, .iconst 1, 8, 1), (8, .isub, 9, 0), (9, .iload_n 3, 10, 0), (10, .isub, 11, 0)] (pe := 11) (by decide +kernel) rfl
    rw [n32_pred (by omega), n32_sub (by omega)] at A3
    have hc : cs[e - 1 - k]? = some (48 + M / 10 ^ k % 10).toInt32 := by
      rw [show e - 1 - k = e - (dgs M).length + ((dgs M).length - 1 - k) by omega, hd _ (by omega), dgs_get k M h]
    obtain ⟨_, HA4, qA4, A4, moA4, szA4⟩ := A3.callV (argsL := [.int (e - 1 - k).toInt32]) (wd_216 G) (wd_217 G) (wd_219 G) rfl (wd_219 G) (wd_218 G) (wd_2 G) (wd_220 G) S.1 (c_schL G S hla hc) (by decide) ⟨_, _, (by decide +kernel : parseMethodDescriptor "(I)C" = some ⟨[.int], some .char⟩), rfl⟩ (by decide +kernel) (Wd := 0) (by decide) (Nat.le_of_ble_eq_true rfl) (by decide) (by decide) (by decide)
    obtain ⟨rfl, rfl⟩ := qA4
    have A5 := A4.run [(14, .bipush 48, 16, 48), (16, .lload 4, 18, 0)] (pe := 18) (by decide +kernel) rfl
    have A6 := A5.ldcJ (wd_211 G) (by decide +kernel)
    have A7 := A6.lrem (by decide +kernel) (by decide)
    have A8 := A7.run [(22, .l2i, 23, 0), (23, .isub, 24, 0), (24, .i2c, 25, 0)] (pe := 25) (by decide +kernel) rfl
    have hv : (q % 10).toInt = -((M / 10 ^ k % 10 : Nat) : Int) := negmod hq
    have e1 := c_l2i (q % 10)
    have r1 := rng32 (q % 10).toInt32
    have e2 := c_isub 48 (q % 10).toInt32
    have r2 := rng32 (48 - (q % 10).toInt32)
    rw [show (48 : Int32).toInt = 48 by decide] at e2
    have hx : 48 - (q % 10).toInt32 = (48 + M / 10 ^ k % 10).toInt32 := Int32.toInt_inj.mp (by rw [n32_toInt (by omega)]; omega)
    rw [hx, n32_i2c (by omega)] at A8
    have A9 := A8.icF (cd := .ne) (o := 7) (by decide +kernel) (not_not_intro rfl)
    have A10 := A9.run [(28, .iconst 1, 29, 1), (29, .goto 4, 33, 0)] (pe := 33) (by decide +kernel) rfl
    exact ⟨_, _, _, _, A10.retZ (by decide +kernel) rfl, ⟨rfl, rfl⟩, by decide, by decide⟩
  · have A2 := A1.icT (cd := .ge) (o := 26) (by decide +kernel) (fun q => h ((n32_lt (by omega) (by omega)).mp q)) (pe := 28) (by decide)
    have A3 := A2.run [(28, .iconst 1, 29, 1), (29, .goto 4, 33, 0)] (pe := 33) (by decide +kernel) rfl
    exact ⟨_, _, _, _, A3.retZ (by decide +kernel) rfl, ⟨rfl, rfl⟩, by decide, by decide⟩
set_option maxRecDepth 65536 in
set_option maxHeartbeats 2000000 in
theorem c_dsJ (G : Glb Z a0) {s : Addr} {cs : List Int32} {e M : Nat} {m : Int64} (S : Str Z H s cs) (hla : Lat cs) (he : e < 1000) (hle : (dgs M).length ≤ e) (h19 : (dgs M).length ≤ 19) (hm : m.toInt = -(M : Int)) (hd : ∀ j, j < (dgs M).length → cs[e - (dgs M).length + j]? = (dgs M)[j]?) :
    Ct l Z EL0 (⟨"com/example/holdfast/holdfast/LockLostToStringPinLaw", "digitsOk", "(Ljava/lang/String;IIJ)Z"⟩ : MethodName) method_7_code 8 ((some .boolean)) ({ frames := 5, cells := 0, slots := 0, locals := 70 } : Room) [] [.ref s, .int e.toInt32, .int (dgs M).length.toInt32, .long m] H (fun v H' => v = some (.int 1) ∧ H = H') := by
  refine Ct.in G (by first | exact plainFor_of_name (by simp [plainName, overriddenIn]; done) | decide +kernel) (ls := [.val (.ref s), .val (.int e.toInt32), .val (.int (dgs M).length.toInt32), .val (.long m), .second, .unset, .unset, .unset]) rfl rfl fun D A0 => ?_
  have hq0 : m.toInt = -((M / 10 ^ 0 : Nat) : Int) := by simpa using hm
  have A1 := A0.run [(0, .lload_n 3, 1, 0), (1, .lstore 5, 3, 0), (3, .aload_n 0, 4, 0), (4, .iload_n 1, 5, 0), (5, .iload_n 2, 6, 0), (6, .iconst 0, 7, 0), (7, .lload 5, 9, 0)] (pe := 9) (by decide +kernel) rfl
  obtain ⟨_, HA2, qA2, A2, moA2, szA2⟩ := A1.callS (argsL := [.ref s, .int e.toInt32, .int (dgs M).length.toInt32, .int (0 : Nat).toInt32, .long m]) (wd_243 G) (wd_244 G) (wd_209 G) (wd_245 G) (c_dkJ G S hla he hle (k := 0) (by decide) h19 hq0 hd) (by decide) ⟨_, _, (by decide +kernel : parseMethodDescriptor "(Ljava/lang/String;IIIJ)Z" = some ⟨[(.object "java/lang/String"), .int, .int, .int, .long], some .boolean⟩), rfl⟩ (by decide +kernel) (Wd := 0) (by decide) (Nat.le_of_ble_eq_true rfl) (by decide) (by decide) (by decide)
  obtain ⟨rfl, rfl⟩ := qA2
  have B1 := A2.run [(12, .istore 7, 14, 0)] (pe := 14) (by decide +kernel) rfl
  have C1 := B1.run [(14, .lload 5, 16, 0)] (pe := 16) (by decide +kernel) rfl
  have D1 := C1.ldcJ (wd_211 G) (by decide +kernel)
  have E1 := D1.ldiv (by decide +kernel) (by decide)
  have hq1 := negdiv hq0
  have F1 := E1.run [(20, .lstore 5, 22, 0), (22, .iload 7, 24, 0)] (pe := 24) (by decide +kernel) rfl
  generalize m / 10 = y1 at F1 hq1
  have G1 := F1.ifF (cd := .eq) (o := 19) (by decide +kernel) (by show ¬ _ = _; decide)
  have I1 := G1.run [(27, .aload_n 0, 28, 0), (28, .iload_n 1, 29, 0), (29, .iload_n 2, 30, 0), (30, .iconst 1, 31, 1), (31, .lload 5, 33, 0)] (pe := 33) (by decide +kernel) rfl
  obtain ⟨_, HJ1, qJ1, J1, moJ1, szJ1⟩ := I1.callS (argsL := [.ref s, .int e.toInt32, .int (dgs M).length.toInt32, .int (1 : Nat).toInt32, .long y1]) (wd_243 G) (wd_244 G) (wd_209 G) (wd_245 G) (c_dkJ G S hla he hle (k := 1) (by decide) h19 hq1 hd) (by decide) ⟨_, _, (by decide +kernel : parseMethodDescriptor "(Ljava/lang/String;IIIJ)Z" = some ⟨[(.object "java/lang/String"), .int, .int, .int, .long], some .boolean⟩), rfl⟩ (by decide +kernel) (Wd := 0) (by decide) (Nat.le_of_ble_eq_true rfl) (by decide) (by decide) (by decide)
  obtain ⟨rfl, rfl⟩ := qJ1
  have K1 := J1.ifF (cd := .eq) (o := 7) (by decide +kernel) (by show ¬ _ = _; decide)
  have B2 := K1.run [(39, .iconst 1, 40, 1), (40, .goto 4, 44, 0), (44, .istore 7, 46, 0)] (pe := 46) (by decide +kernel) rfl
  have C2 := B2.run [(46, .lload 5, 48, 0)] (pe := 48) (by decide +kernel) rfl
  have D2 := C2.ldcJ (wd_211 G) (by decide +kernel)
  have E2 := D2.ldiv (by decide +kernel) (by decide)
  have hq2 := negdiv hq1
  have F2 := E2.run [(52, .lstore 5, 54, 0), (54, .iload 7, 56, 0)] (pe := 56) (by decide +kernel) rfl
  generalize y1 / 10 = y2 at F2 hq2
  have G2 := F2.ifF (cd := .eq) (o := 19) (by decide +kernel) (by show ¬ _ = _; decide)
  have I2 := G2.run [(59, .aload_n 0, 60, 0), (60, .iload_n 1, 61, 0), (61, .iload_n 2, 62, 0), (62, .iconst 2, 63, 2), (63, .lload 5, 65, 0)] (pe := 65) (by decide +kernel) rfl
  obtain ⟨_, HJ2, qJ2, J2, moJ2, szJ2⟩ := I2.callS (argsL := [.ref s, .int e.toInt32, .int (dgs M).length.toInt32, .int (2 : Nat).toInt32, .long y2]) (wd_243 G) (wd_244 G) (wd_209 G) (wd_245 G) (c_dkJ G S hla he hle (k := 2) (by decide) h19 hq2 hd) (by decide) ⟨_, _, (by decide +kernel : parseMethodDescriptor "(Ljava/lang/String;IIIJ)Z" = some ⟨[(.object "java/lang/String"), .int, .int, .int, .long], some .boolean⟩), rfl⟩ (by decide +kernel) (Wd := 0) (by decide) (Nat.le_of_ble_eq_true rfl) (by decide) (by decide) (by decide)
  obtain ⟨rfl, rfl⟩ := qJ2
  have K2 := J2.ifF (cd := .eq) (o := 7) (by decide +kernel) (by show ¬ _ = _; decide)
  have B3 := K2.run [(71, .iconst 1, 72, 1), (72, .goto 4, 76, 0), (76, .istore 7, 78, 0)] (pe := 78) (by decide +kernel) rfl
  have C3 := B3.run [(78, .lload 5, 80, 0)] (pe := 80) (by decide +kernel) rfl
  have D3 := C3.ldcJ (wd_211 G) (by decide +kernel)
  have E3 := D3.ldiv (by decide +kernel) (by decide)
  have hq3 := negdiv hq2
  have F3 := E3.run [(84, .lstore 5, 86, 0), (86, .iload 7, 88, 0)] (pe := 88) (by decide +kernel) rfl
  generalize y2 / 10 = y3 at F3 hq3
  have G3 := F3.ifF (cd := .eq) (o := 19) (by decide +kernel) (by show ¬ _ = _; decide)
  have I3 := G3.run [(91, .aload_n 0, 92, 0), (92, .iload_n 1, 93, 0), (93, .iload_n 2, 94, 0), (94, .iconst 3, 95, 3), (95, .lload 5, 97, 0)] (pe := 97) (by decide +kernel) rfl
  obtain ⟨_, HJ3, qJ3, J3, moJ3, szJ3⟩ := I3.callS (argsL := [.ref s, .int e.toInt32, .int (dgs M).length.toInt32, .int (3 : Nat).toInt32, .long y3]) (wd_243 G) (wd_244 G) (wd_209 G) (wd_245 G) (c_dkJ G S hla he hle (k := 3) (by decide) h19 hq3 hd) (by decide) ⟨_, _, (by decide +kernel : parseMethodDescriptor "(Ljava/lang/String;IIIJ)Z" = some ⟨[(.object "java/lang/String"), .int, .int, .int, .long], some .boolean⟩), rfl⟩ (by decide +kernel) (Wd := 0) (by decide) (Nat.le_of_ble_eq_true rfl) (by decide) (by decide) (by decide)
  obtain ⟨rfl, rfl⟩ := qJ3
  have K3 := J3.ifF (cd := .eq) (o := 7) (by decide +kernel) (by show ¬ _ = _; decide)
  have B4 := K3.run [(103, .iconst 1, 104, 1), (104, .goto 4, 108, 0), (108, .istore 7, 110, 0)] (pe := 110) (by decide +kernel) rfl
  have C4 := B4.run [(110, .lload 5, 112, 0)] (pe := 112) (by decide +kernel) rfl
  have D4 := C4.ldcJ (wd_211 G) (by decide +kernel)
  have E4 := D4.ldiv (by decide +kernel) (by decide)
  have hq4 := negdiv hq3
  have F4 := E4.run [(116, .lstore 5, 118, 0), (118, .iload 7, 120, 0)] (pe := 120) (by decide +kernel) rfl
  generalize y3 / 10 = y4 at F4 hq4
  have G4 := F4.ifF (cd := .eq) (o := 19) (by decide +kernel) (by show ¬ _ = _; decide)
  have I4 := G4.run [(123, .aload_n 0, 124, 0), (124, .iload_n 1, 125, 0), (125, .iload_n 2, 126, 0), (126, .iconst 4, 127, 4), (127, .lload 5, 129, 0)] (pe := 129) (by decide +kernel) rfl
  obtain ⟨_, HJ4, qJ4, J4, moJ4, szJ4⟩ := I4.callS (argsL := [.ref s, .int e.toInt32, .int (dgs M).length.toInt32, .int (4 : Nat).toInt32, .long y4]) (wd_243 G) (wd_244 G) (wd_209 G) (wd_245 G) (c_dkJ G S hla he hle (k := 4) (by decide) h19 hq4 hd) (by decide) ⟨_, _, (by decide +kernel : parseMethodDescriptor "(Ljava/lang/String;IIIJ)Z" = some ⟨[(.object "java/lang/String"), .int, .int, .int, .long], some .boolean⟩), rfl⟩ (by decide +kernel) (Wd := 0) (by decide) (Nat.le_of_ble_eq_true rfl) (by decide) (by decide) (by decide)
  obtain ⟨rfl, rfl⟩ := qJ4
  have K4 := J4.ifF (cd := .eq) (o := 7) (by decide +kernel) (by show ¬ _ = _; decide)
  have B5 := K4.run [(135, .iconst 1, 136, 1), (136, .goto 4, 140, 0), (140, .istore 7, 142, 0)] (pe := 142) (by decide +kernel) rfl
  have C5 := B5.run [(142, .lload 5, 144, 0)] (pe := 144) (by decide +kernel) rfl
  have D5 := C5.ldcJ (wd_211 G) (by decide +kernel)
  have E5 := D5.ldiv (by decide +kernel) (by decide)
  have hq5 := negdiv hq4
  have F5 := E5.run [(148, .lstore 5, 150, 0), (150, .iload 7, 152, 0)] (pe := 152) (by decide +kernel) rfl
  generalize y4 / 10 = y5 at F5 hq5
  have G5 := F5.ifF (cd := .eq) (o := 19) (by decide +kernel) (by show ¬ _ = _; decide)
  have I5 := G5.run [(155, .aload_n 0, 156, 0), (156, .iload_n 1, 157, 0), (157, .iload_n 2, 158, 0), (158, .iconst 5, 159, 5), (159, .lload 5, 161, 0)] (pe := 161) (by decide +kernel) rfl
  obtain ⟨_, HJ5, qJ5, J5, moJ5, szJ5⟩ := I5.callS (argsL := [.ref s, .int e.toInt32, .int (dgs M).length.toInt32, .int (5 : Nat).toInt32, .long y5]) (wd_243 G) (wd_244 G) (wd_209 G) (wd_245 G) (c_dkJ G S hla he hle (k := 5) (by decide) h19 hq5 hd) (by decide) ⟨_, _, (by decide +kernel : parseMethodDescriptor "(Ljava/lang/String;IIIJ)Z" = some ⟨[(.object "java/lang/String"), .int, .int, .int, .long], some .boolean⟩), rfl⟩ (by decide +kernel) (Wd := 0) (by decide) (Nat.le_of_ble_eq_true rfl) (by decide) (by decide) (by decide)
  obtain ⟨rfl, rfl⟩ := qJ5
  have K5 := J5.ifF (cd := .eq) (o := 7) (by decide +kernel) (by show ¬ _ = _; decide)
  have B6 := K5.run [(167, .iconst 1, 168, 1), (168, .goto 4, 172, 0), (172, .istore 7, 174, 0)] (pe := 174) (by decide +kernel) rfl
  have C6 := B6.run [(174, .lload 5, 176, 0)] (pe := 176) (by decide +kernel) rfl
  have D6 := C6.ldcJ (wd_211 G) (by decide +kernel)
  have E6 := D6.ldiv (by decide +kernel) (by decide)
  have hq6 := negdiv hq5
  have F6 := E6.run [(180, .lstore 5, 182, 0), (182, .iload 7, 184, 0)] (pe := 184) (by decide +kernel) rfl
  generalize y5 / 10 = y6 at F6 hq6
  have G6 := F6.ifF (cd := .eq) (o := 20) (by decide +kernel) (by show ¬ _ = _; decide)
  have I6 := G6.run [(187, .aload_n 0, 188, 0), (188, .iload_n 1, 189, 0), (189, .iload_n 2, 190, 0), (190, .bipush 6, 192, 6), (192, .lload 5, 194, 0)] (pe := 194) (by decide +kernel) rfl
  obtain ⟨_, HJ6, qJ6, J6, moJ6, szJ6⟩ := I6.callS (argsL := [.ref s, .int e.toInt32, .int (dgs M).length.toInt32, .int (6 : Nat).toInt32, .long y6]) (wd_243 G) (wd_244 G) (wd_209 G) (wd_245 G) (c_dkJ G S hla he hle (k := 6) (by decide) h19 hq6 hd) (by decide) ⟨_, _, (by decide +kernel : parseMethodDescriptor "(Ljava/lang/String;IIIJ)Z" = some ⟨[(.object "java/lang/String"), .int, .int, .int, .long], some .boolean⟩), rfl⟩ (by decide +kernel) (Wd := 0) (by decide) (Nat.le_of_ble_eq_true rfl) (by decide) (by decide) (by decide)
  obtain ⟨rfl, rfl⟩ := qJ6
  have K6 := J6.ifF (cd := .eq) (o := 7) (by decide +kernel) (by show ¬ _ = _; decide)
  have B7 := K6.run [(200, .iconst 1, 201, 1), (201, .goto 4, 205, 0), (205, .istore 7, 207, 0)] (pe := 207) (by decide +kernel) rfl
  have C7 := B7.run [(207, .lload 5, 209, 0)] (pe := 209) (by decide +kernel) rfl
  have D7 := C7.ldcJ (wd_211 G) (by decide +kernel)
  have E7 := D7.ldiv (by decide +kernel) (by decide)
  have hq7 := negdiv hq6
  have F7 := E7.run [(213, .lstore 5, 215, 0), (215, .iload 7, 217, 0)] (pe := 217) (by decide +kernel) rfl
  generalize y6 / 10 = y7 at F7 hq7
  have G7 := F7.ifF (cd := .eq) (o := 20) (by decide +kernel) (by show ¬ _ = _; decide)
  have I7 := G7.run [(220, .aload_n 0, 221, 0), (221, .iload_n 1, 222, 0), (222, .iload_n 2, 223, 0), (223, .bipush 7, 225, 7), (225, .lload 5, 227, 0)] (pe := 227) (by decide +kernel) rfl
  obtain ⟨_, HJ7, qJ7, J7, moJ7, szJ7⟩ := I7.callS (argsL := [.ref s, .int e.toInt32, .int (dgs M).length.toInt32, .int (7 : Nat).toInt32, .long y7]) (wd_243 G) (wd_244 G) (wd_209 G) (wd_245 G) (c_dkJ G S hla he hle (k := 7) (by decide) h19 hq7 hd) (by decide) ⟨_, _, (by decide +kernel : parseMethodDescriptor "(Ljava/lang/String;IIIJ)Z" = some ⟨[(.object "java/lang/String"), .int, .int, .int, .long], some .boolean⟩), rfl⟩ (by decide +kernel) (Wd := 0) (by decide) (Nat.le_of_ble_eq_true rfl) (by decide) (by decide) (by decide)
  obtain ⟨rfl, rfl⟩ := qJ7
  have K7 := J7.ifF (cd := .eq) (o := 7) (by decide +kernel) (by show ¬ _ = _; decide)
  have B8 := K7.run [(233, .iconst 1, 234, 1), (234, .goto 4, 238, 0), (238, .istore 7, 240, 0)] (pe := 240) (by decide +kernel) rfl
  have C8 := B8.run [(240, .lload 5, 242, 0)] (pe := 242) (by decide +kernel) rfl
  have D8 := C8.ldcJ (wd_211 G) (by decide +kernel)
  have E8 := D8.ldiv (by decide +kernel) (by decide)
  have hq8 := negdiv hq7
  have F8 := E8.run [(246, .lstore 5, 248, 0), (248, .iload 7, 250, 0)] (pe := 250) (by decide +kernel) rfl
  generalize y7 / 10 = y8 at F8 hq8
  have G8 := F8.ifF (cd := .eq) (o := 20) (by decide +kernel) (by show ¬ _ = _; decide)
  have I8 := G8.run [(253, .aload_n 0, 254, 0), (254, .iload_n 1, 255, 0), (255, .iload_n 2, 256, 0), (256, .bipush 8, 258, 8), (258, .lload 5, 260, 0)] (pe := 260) (by decide +kernel) rfl
  obtain ⟨_, HJ8, qJ8, J8, moJ8, szJ8⟩ := I8.callS (argsL := [.ref s, .int e.toInt32, .int (dgs M).length.toInt32, .int (8 : Nat).toInt32, .long y8]) (wd_243 G) (wd_244 G) (wd_209 G) (wd_245 G) (c_dkJ G S hla he hle (k := 8) (by decide) h19 hq8 hd) (by decide) ⟨_, _, (by decide +kernel : parseMethodDescriptor "(Ljava/lang/String;IIIJ)Z" = some ⟨[(.object "java/lang/String"), .int, .int, .int, .long], some .boolean⟩), rfl⟩ (by decide +kernel) (Wd := 0) (by decide) (Nat.le_of_ble_eq_true rfl) (by decide) (by decide) (by decide)
  obtain ⟨rfl, rfl⟩ := qJ8
  have K8 := J8.ifF (cd := .eq) (o := 7) (by decide +kernel) (by show ¬ _ = _; decide)
  have B9 := K8.run [(266, .iconst 1, 267, 1), (267, .goto 4, 271, 0), (271, .istore 7, 273, 0)] (pe := 273) (by decide +kernel) rfl
  have C9 := B9.run [(273, .lload 5, 275, 0)] (pe := 275) (by decide +kernel) rfl
  have D9 := C9.ldcJ (wd_211 G) (by decide +kernel)
  have E9 := D9.ldiv (by decide +kernel) (by decide)
  have hq9 := negdiv hq8
  have F9 := E9.run [(279, .lstore 5, 281, 0), (281, .iload 7, 283, 0)] (pe := 283) (by decide +kernel) rfl
  generalize y8 / 10 = y9 at F9 hq9
  have G9 := F9.ifF (cd := .eq) (o := 20) (by decide +kernel) (by show ¬ _ = _; decide)
  have I9 := G9.run [(286, .aload_n 0, 287, 0), (287, .iload_n 1, 288, 0), (288, .iload_n 2, 289, 0), (289, .bipush 9, 291, 9), (291, .lload 5, 293, 0)] (pe := 293) (by decide +kernel) rfl
  obtain ⟨_, HJ9, qJ9, J9, moJ9, szJ9⟩ := I9.callS (argsL := [.ref s, .int e.toInt32, .int (dgs M).length.toInt32, .int (9 : Nat).toInt32, .long y9]) (wd_243 G) (wd_244 G) (wd_209 G) (wd_245 G) (c_dkJ G S hla he hle (k := 9) (by decide) h19 hq9 hd) (by decide) ⟨_, _, (by decide +kernel : parseMethodDescriptor "(Ljava/lang/String;IIIJ)Z" = some ⟨[(.object "java/lang/String"), .int, .int, .int, .long], some .boolean⟩), rfl⟩ (by decide +kernel) (Wd := 0) (by decide) (Nat.le_of_ble_eq_true rfl) (by decide) (by decide) (by decide)
  obtain ⟨rfl, rfl⟩ := qJ9
  have K9 := J9.ifF (cd := .eq) (o := 7) (by decide +kernel) (by show ¬ _ = _; decide)
  have B10 := K9.run [(299, .iconst 1, 300, 1), (300, .goto 4, 304, 0), (304, .istore 7, 306, 0)] (pe := 306) (by decide +kernel) rfl
  have C10 := B10.run [(306, .lload 5, 308, 0)] (pe := 308) (by decide +kernel) rfl
  have D10 := C10.ldcJ (wd_211 G) (by decide +kernel)
  have E10 := D10.ldiv (by decide +kernel) (by decide)
  have hq10 := negdiv hq9
  have F10 := E10.run [(312, .lstore 5, 314, 0), (314, .iload 7, 316, 0)] (pe := 316) (by decide +kernel) rfl
  generalize y9 / 10 = y10 at F10 hq10
  have G10 := F10.ifF (cd := .eq) (o := 20) (by decide +kernel) (by show ¬ _ = _; decide)
  have I10 := G10.run [(319, .aload_n 0, 320, 0), (320, .iload_n 1, 321, 0), (321, .iload_n 2, 322, 0), (322, .bipush 10, 324, 10), (324, .lload 5, 326, 0)] (pe := 326) (by decide +kernel) rfl
  obtain ⟨_, HJ10, qJ10, J10, moJ10, szJ10⟩ := I10.callS (argsL := [.ref s, .int e.toInt32, .int (dgs M).length.toInt32, .int (10 : Nat).toInt32, .long y10]) (wd_243 G) (wd_244 G) (wd_209 G) (wd_245 G) (c_dkJ G S hla he hle (k := 10) (by decide) h19 hq10 hd) (by decide) ⟨_, _, (by decide +kernel : parseMethodDescriptor "(Ljava/lang/String;IIIJ)Z" = some ⟨[(.object "java/lang/String"), .int, .int, .int, .long], some .boolean⟩), rfl⟩ (by decide +kernel) (Wd := 0) (by decide) (Nat.le_of_ble_eq_true rfl) (by decide) (by decide) (by decide)
  obtain ⟨rfl, rfl⟩ := qJ10
  have K10 := J10.ifF (cd := .eq) (o := 7) (by decide +kernel) (by show ¬ _ = _; decide)
  have B11 := K10.run [(332, .iconst 1, 333, 1), (333, .goto 4, 337, 0), (337, .istore 7, 339, 0)] (pe := 339) (by decide +kernel) rfl
  have C11 := B11.run [(339, .lload 5, 341, 0)] (pe := 341) (by decide +kernel) rfl
  have D11 := C11.ldcJ (wd_211 G) (by decide +kernel)
  have E11 := D11.ldiv (by decide +kernel) (by decide)
  have hq11 := negdiv hq10
  have F11 := E11.run [(345, .lstore 5, 347, 0), (347, .iload 7, 349, 0)] (pe := 349) (by decide +kernel) rfl
  generalize y10 / 10 = y11 at F11 hq11
  have G11 := F11.ifF (cd := .eq) (o := 20) (by decide +kernel) (by show ¬ _ = _; decide)
  have I11 := G11.run [(352, .aload_n 0, 353, 0), (353, .iload_n 1, 354, 0), (354, .iload_n 2, 355, 0), (355, .bipush 11, 357, 11), (357, .lload 5, 359, 0)] (pe := 359) (by decide +kernel) rfl
  obtain ⟨_, HJ11, qJ11, J11, moJ11, szJ11⟩ := I11.callS (argsL := [.ref s, .int e.toInt32, .int (dgs M).length.toInt32, .int (11 : Nat).toInt32, .long y11]) (wd_243 G) (wd_244 G) (wd_209 G) (wd_245 G) (c_dkJ G S hla he hle (k := 11) (by decide) h19 hq11 hd) (by decide) ⟨_, _, (by decide +kernel : parseMethodDescriptor "(Ljava/lang/String;IIIJ)Z" = some ⟨[(.object "java/lang/String"), .int, .int, .int, .long], some .boolean⟩), rfl⟩ (by decide +kernel) (Wd := 0) (by decide) (Nat.le_of_ble_eq_true rfl) (by decide) (by decide) (by decide)
  obtain ⟨rfl, rfl⟩ := qJ11
  have K11 := J11.ifF (cd := .eq) (o := 7) (by decide +kernel) (by show ¬ _ = _; decide)
  have B12 := K11.run [(365, .iconst 1, 366, 1), (366, .goto 4, 370, 0), (370, .istore 7, 372, 0)] (pe := 372) (by decide +kernel) rfl
  have C12 := B12.run [(372, .lload 5, 374, 0)] (pe := 374) (by decide +kernel) rfl
  have D12 := C12.ldcJ (wd_211 G) (by decide +kernel)
  have E12 := D12.ldiv (by decide +kernel) (by decide)
  have hq12 := negdiv hq11
  have F12 := E12.run [(378, .lstore 5, 380, 0), (380, .iload 7, 382, 0)] (pe := 382) (by decide +kernel) rfl
  generalize y11 / 10 = y12 at F12 hq12
  have G12 := F12.ifF (cd := .eq) (o := 20) (by decide +kernel) (by show ¬ _ = _; decide)
  have I12 := G12.run [(385, .aload_n 0, 386, 0), (386, .iload_n 1, 387, 0), (387, .iload_n 2, 388, 0), (388, .bipush 12, 390, 12), (390, .lload 5, 392, 0)] (pe := 392) (by decide +kernel) rfl
  obtain ⟨_, HJ12, qJ12, J12, moJ12, szJ12⟩ := I12.callS (argsL := [.ref s, .int e.toInt32, .int (dgs M).length.toInt32, .int (12 : Nat).toInt32, .long y12]) (wd_243 G) (wd_244 G) (wd_209 G) (wd_245 G) (c_dkJ G S hla he hle (k := 12) (by decide) h19 hq12 hd) (by decide) ⟨_, _, (by decide +kernel : parseMethodDescriptor "(Ljava/lang/String;IIIJ)Z" = some ⟨[(.object "java/lang/String"), .int, .int, .int, .long], some .boolean⟩), rfl⟩ (by decide +kernel) (Wd := 0) (by decide) (Nat.le_of_ble_eq_true rfl) (by decide) (by decide) (by decide)
  obtain ⟨rfl, rfl⟩ := qJ12
  have K12 := J12.ifF (cd := .eq) (o := 7) (by decide +kernel) (by show ¬ _ = _; decide)
  have B13 := K12.run [(398, .iconst 1, 399, 1), (399, .goto 4, 403, 0), (403, .istore 7, 405, 0)] (pe := 405) (by decide +kernel) rfl
  have C13 := B13.run [(405, .lload 5, 407, 0)] (pe := 407) (by decide +kernel) rfl
  have D13 := C13.ldcJ (wd_211 G) (by decide +kernel)
  have E13 := D13.ldiv (by decide +kernel) (by decide)
  have hq13 := negdiv hq12
  have F13 := E13.run [(411, .lstore 5, 413, 0), (413, .iload 7, 415, 0)] (pe := 415) (by decide +kernel) rfl
  generalize y12 / 10 = y13 at F13 hq13
  have G13 := F13.ifF (cd := .eq) (o := 20) (by decide +kernel) (by show ¬ _ = _; decide)
  have I13 := G13.run [(418, .aload_n 0, 419, 0), (419, .iload_n 1, 420, 0), (420, .iload_n 2, 421, 0), (421, .bipush 13, 423, 13), (423, .lload 5, 425, 0)] (pe := 425) (by decide +kernel) rfl
  obtain ⟨_, HJ13, qJ13, J13, moJ13, szJ13⟩ := I13.callS (argsL := [.ref s, .int e.toInt32, .int (dgs M).length.toInt32, .int (13 : Nat).toInt32, .long y13]) (wd_243 G) (wd_244 G) (wd_209 G) (wd_245 G) (c_dkJ G S hla he hle (k := 13) (by decide) h19 hq13 hd) (by decide) ⟨_, _, (by decide +kernel : parseMethodDescriptor "(Ljava/lang/String;IIIJ)Z" = some ⟨[(.object "java/lang/String"), .int, .int, .int, .long], some .boolean⟩), rfl⟩ (by decide +kernel) (Wd := 0) (by decide) (Nat.le_of_ble_eq_true rfl) (by decide) (by decide) (by decide)
  obtain ⟨rfl, rfl⟩ := qJ13
  have K13 := J13.ifF (cd := .eq) (o := 7) (by decide +kernel) (by show ¬ _ = _; decide)
  have B14 := K13.run [(431, .iconst 1, 432, 1), (432, .goto 4, 436, 0), (436, .istore 7, 438, 0)] (pe := 438) (by decide +kernel) rfl
  have C14 := B14.run [(438, .lload 5, 440, 0)] (pe := 440) (by decide +kernel) rfl
  have D14 := C14.ldcJ (wd_211 G) (by decide +kernel)
  have E14 := D14.ldiv (by decide +kernel) (by decide)
  have hq14 := negdiv hq13
  have F14 := E14.run [(444, .lstore 5, 446, 0), (446, .iload 7, 448, 0)] (pe := 448) (by decide +kernel) rfl
  generalize y13 / 10 = y14 at F14 hq14
  have G14 := F14.ifF (cd := .eq) (o := 20) (by decide +kernel) (by show ¬ _ = _; decide)
  have I14 := G14.run [(451, .aload_n 0, 452, 0), (452, .iload_n 1, 453, 0), (453, .iload_n 2, 454, 0), (454, .bipush 14, 456, 14), (456, .lload 5, 458, 0)] (pe := 458) (by decide +kernel) rfl
  obtain ⟨_, HJ14, qJ14, J14, moJ14, szJ14⟩ := I14.callS (argsL := [.ref s, .int e.toInt32, .int (dgs M).length.toInt32, .int (14 : Nat).toInt32, .long y14]) (wd_243 G) (wd_244 G) (wd_209 G) (wd_245 G) (c_dkJ G S hla he hle (k := 14) (by decide) h19 hq14 hd) (by decide) ⟨_, _, (by decide +kernel : parseMethodDescriptor "(Ljava/lang/String;IIIJ)Z" = some ⟨[(.object "java/lang/String"), .int, .int, .int, .long], some .boolean⟩), rfl⟩ (by decide +kernel) (Wd := 0) (by decide) (Nat.le_of_ble_eq_true rfl) (by decide) (by decide) (by decide)
  obtain ⟨rfl, rfl⟩ := qJ14
  have K14 := J14.ifF (cd := .eq) (o := 7) (by decide +kernel) (by show ¬ _ = _; decide)
  have B15 := K14.run [(464, .iconst 1, 465, 1), (465, .goto 4, 469, 0), (469, .istore 7, 471, 0)] (pe := 471) (by decide +kernel) rfl
  have C15 := B15.run [(471, .lload 5, 473, 0)] (pe := 473) (by decide +kernel) rfl
  have D15 := C15.ldcJ (wd_211 G) (by decide +kernel)
  have E15 := D15.ldiv (by decide +kernel) (by decide)
  have hq15 := negdiv hq14
  have F15 := E15.run [(477, .lstore 5, 479, 0), (479, .iload 7, 481, 0)] (pe := 481) (by decide +kernel) rfl
  generalize y14 / 10 = y15 at F15 hq15
  have G15 := F15.ifF (cd := .eq) (o := 20) (by decide +kernel) (by show ¬ _ = _; decide)
  have I15 := G15.run [(484, .aload_n 0, 485, 0), (485, .iload_n 1, 486, 0), (486, .iload_n 2, 487, 0), (487, .bipush 15, 489, 15), (489, .lload 5, 491, 0)] (pe := 491) (by decide +kernel) rfl
  obtain ⟨_, HJ15, qJ15, J15, moJ15, szJ15⟩ := I15.callS (argsL := [.ref s, .int e.toInt32, .int (dgs M).length.toInt32, .int (15 : Nat).toInt32, .long y15]) (wd_243 G) (wd_244 G) (wd_209 G) (wd_245 G) (c_dkJ G S hla he hle (k := 15) (by decide) h19 hq15 hd) (by decide) ⟨_, _, (by decide +kernel : parseMethodDescriptor "(Ljava/lang/String;IIIJ)Z" = some ⟨[(.object "java/lang/String"), .int, .int, .int, .long], some .boolean⟩), rfl⟩ (by decide +kernel) (Wd := 0) (by decide) (Nat.le_of_ble_eq_true rfl) (by decide) (by decide) (by decide)
  obtain ⟨rfl, rfl⟩ := qJ15
  have K15 := J15.ifF (cd := .eq) (o := 7) (by decide +kernel) (by show ¬ _ = _; decide)
  have B16 := K15.run [(497, .iconst 1, 498, 1), (498, .goto 4, 502, 0), (502, .istore 7, 504, 0)] (pe := 504) (by decide +kernel) rfl
  have C16 := B16.run [(504, .lload 5, 506, 0)] (pe := 506) (by decide +kernel) rfl
  have D16 := C16.ldcJ (wd_211 G) (by decide +kernel)
  have E16 := D16.ldiv (by decide +kernel) (by decide)
  have hq16 := negdiv hq15
  have F16 := E16.run [(510, .lstore 5, 512, 0), (512, .iload 7, 514, 0)] (pe := 514) (by decide +kernel) rfl
  generalize y15 / 10 = y16 at F16 hq16
  have G16 := F16.ifF (cd := .eq) (o := 20) (by decide +kernel) (by show ¬ _ = _; decide)
  have I16 := G16.run [(517, .aload_n 0, 518, 0), (518, .iload_n 1, 519, 0), (519, .iload_n 2, 520, 0), (520, .bipush 16, 522, 16), (522, .lload 5, 524, 0)] (pe := 524) (by decide +kernel) rfl
  obtain ⟨_, HJ16, qJ16, J16, moJ16, szJ16⟩ := I16.callS (argsL := [.ref s, .int e.toInt32, .int (dgs M).length.toInt32, .int (16 : Nat).toInt32, .long y16]) (wd_243 G) (wd_244 G) (wd_209 G) (wd_245 G) (c_dkJ G S hla he hle (k := 16) (by decide) h19 hq16 hd) (by decide) ⟨_, _, (by decide +kernel : parseMethodDescriptor "(Ljava/lang/String;IIIJ)Z" = some ⟨[(.object "java/lang/String"), .int, .int, .int, .long], some .boolean⟩), rfl⟩ (by decide +kernel) (Wd := 0) (by decide) (Nat.le_of_ble_eq_true rfl) (by decide) (by decide) (by decide)
  obtain ⟨rfl, rfl⟩ := qJ16
  have K16 := J16.ifF (cd := .eq) (o := 7) (by decide +kernel) (by show ¬ _ = _; decide)
  have B17 := K16.run [(530, .iconst 1, 531, 1), (531, .goto 4, 535, 0), (535, .istore 7, 537, 0)] (pe := 537) (by decide +kernel) rfl
  have C17 := B17.run [(537, .lload 5, 539, 0)] (pe := 539) (by decide +kernel) rfl
  have D17 := C17.ldcJ (wd_211 G) (by decide +kernel)
  have E17 := D17.ldiv (by decide +kernel) (by decide)
  have hq17 := negdiv hq16
  have F17 := E17.run [(543, .lstore 5, 545, 0), (545, .iload 7, 547, 0)] (pe := 547) (by decide +kernel) rfl
  generalize y16 / 10 = y17 at F17 hq17
  have G17 := F17.ifF (cd := .eq) (o := 20) (by decide +kernel) (by show ¬ _ = _; decide)
  have I17 := G17.run [(550, .aload_n 0, 551, 0), (551, .iload_n 1, 552, 0), (552, .iload_n 2, 553, 0), (553, .bipush 17, 555, 17), (555, .lload 5, 557, 0)] (pe := 557) (by decide +kernel) rfl
  obtain ⟨_, HJ17, qJ17, J17, moJ17, szJ17⟩ := I17.callS (argsL := [.ref s, .int e.toInt32, .int (dgs M).length.toInt32, .int (17 : Nat).toInt32, .long y17]) (wd_243 G) (wd_244 G) (wd_209 G) (wd_245 G) (c_dkJ G S hla he hle (k := 17) (by decide) h19 hq17 hd) (by decide) ⟨_, _, (by decide +kernel : parseMethodDescriptor "(Ljava/lang/String;IIIJ)Z" = some ⟨[(.object "java/lang/String"), .int, .int, .int, .long], some .boolean⟩), rfl⟩ (by decide +kernel) (Wd := 0) (by decide) (Nat.le_of_ble_eq_true rfl) (by decide) (by decide) (by decide)
  obtain ⟨rfl, rfl⟩ := qJ17
  have K17 := J17.ifF (cd := .eq) (o := 7) (by decide +kernel) (by show ¬ _ = _; decide)
  have B18 := K17.run [(563, .iconst 1, 564, 1), (564, .goto 4, 568, 0), (568, .istore 7, 570, 0)] (pe := 570) (by decide +kernel) rfl
  have C18 := B18.run [(570, .lload 5, 572, 0)] (pe := 572) (by decide +kernel) rfl
  have D18 := C18.ldcJ (wd_211 G) (by decide +kernel)
  have E18 := D18.ldiv (by decide +kernel) (by decide)
  have hq18 := negdiv hq17
  have F18 := E18.run [(576, .lstore 5, 578, 0), (578, .iload 7, 580, 0)] (pe := 580) (by decide +kernel) rfl
  generalize y17 / 10 = y18 at F18 hq18
  have G18 := F18.ifF (cd := .eq) (o := 20) (by decide +kernel) (by show ¬ _ = _; decide)
  have I18 := G18.run [(583, .aload_n 0, 584, 0), (584, .iload_n 1, 585, 0), (585, .iload_n 2, 586, 0), (586, .bipush 18, 588, 18), (588, .lload 5, 590, 0)] (pe := 590) (by decide +kernel) rfl
  obtain ⟨_, HJ18, qJ18, J18, moJ18, szJ18⟩ := I18.callS (argsL := [.ref s, .int e.toInt32, .int (dgs M).length.toInt32, .int (18 : Nat).toInt32, .long y18]) (wd_243 G) (wd_244 G) (wd_209 G) (wd_245 G) (c_dkJ G S hla he hle (k := 18) (by decide) h19 hq18 hd) (by decide) ⟨_, _, (by decide +kernel : parseMethodDescriptor "(Ljava/lang/String;IIIJ)Z" = some ⟨[(.object "java/lang/String"), .int, .int, .int, .long], some .boolean⟩), rfl⟩ (by decide +kernel) (Wd := 0) (by decide) (Nat.le_of_ble_eq_true rfl) (by decide) (by decide) (by decide)
  obtain ⟨rfl, rfl⟩ := qJ18
  have K18 := J18.ifF (cd := .eq) (o := 7) (by decide +kernel) (by show ¬ _ = _; decide)
  have B19 := K18.run [(596, .iconst 1, 597, 1), (597, .goto 4, 601, 0), (601, .istore 7, 603, 0)] (pe := 603) (by decide +kernel) rfl
  have R1 := B19.run [(603, .iload 7, 605, 0)] (pe := 605) (by decide +kernel) rfl
  exact ⟨_, _, _, _, R1.retZ (by decide +kernel) rfl, ⟨rfl, rfl⟩, by decide, by decide⟩
set_option maxRecDepth 65536 in
set_option maxHeartbeats 2000000 in
theorem l_name (G : Glb Z a0) {i0 i1 i2 i3 c0 c1 c2 : Int32} {t : Int64} {n : Nat} (hn : n ≤ 3) (h0 : isC c0 ∧ ¬ (255 : Int32) < c0) (h1 : isC c1 ∧ ¬ (255 : Int32) < c1) (h2 : isC c2 ∧ ¬ (255 : Int32) < c2) (A0 : Wk l Z a0 EL0 "com/example/holdfast/holdfast/LockLostToStringPinLaw" code maxLocals "law" ret room_1 D 29 [.val (.int i0), .val (.int i1), .val (.int i2), .val (.int i3), .val (.long t), .second, .val (.int c0), .val (.int c1), .val (.int c2), .val (.int n.toInt32), .unset, .unset, .unset, .unset, .unset, .unset, .unset, .unset] [] H 0 0) :
    ∃ s H1, Kp H H1 [] ∧ Str Z H1 s ([c0, c1, c2].take n) ∧ Wk l Z a0 EL0 "com/example/holdfast/holdfast/LockLostToStringPinLaw" code maxLocals "law" ret room_1 D 123 [.val (.int i0), .val (.int i1), .val (.int i2), .val (.int i3), .val (.long t), .second, .val (.int c0), .val (.int c1), .val (.int c2), .val (.int n.toInt32), .val (.ref s), .unset, .unset, .unset, .unset, .unset, .unset, .unset] [] H1 6 40 := by
  have A1 := A0.run [(29, .iload 9, 31, 0)] (pe := 31) (by decide +kernel) rfl
  obtain rfl | rfl | rfl | rfl : n = 0 ∨ n = 1 ∨ n = 2 ∨ n = 3 := by omega
  · have A2 := A1.ifF (cd := .ne) (o := 18) (by decide +kernel) (not_not_intro rfl)
    obtain ⟨sq, H1q, P1q, gq, K1q, Eq, o1q, Dq⟩ := A2.newO (wd_246 G) (wd_10 G) (wd_2 G) (by decide +kernel) (by decide) (by decide)
    have P2q := P1q.run [(37, .dup, 38, 0), (38, .iconst 0, 39, 0)] (pe := 39) (by decide +kernel) rfl
    obtain ⟨caq, H2q, P3q, gaq, K2q, T0q, oaq⟩ := P2q.newA (aty := .char) (wd_247 G) (by decide +kernel) (N := 0) rfl (cap := 1) (by decide) (by decide) (by decide) (by decide)
    have hsq : sq ∉ [caq] := by simpa using Nat.ne_of_lt (Nat.lt_of_lt_of_le Eq.lt gaq)
    obtain ⟨_, HA3, qA3, A3, moA3, szA3⟩ := P3q.callI (argsL := [.ref caq]) rfl (wd_248 G) (wd_249 G) (wd_2 G) (wd_250 G) (c_sI1 G (cs := []) T0q (c_sI4E G (Eq.ky K2q) ((Dq (Or.inr (wd_23 G)) (t := .array .byte) (by decide)).ky K2q) ((Dq (Or.inr (wd_25 G)) (t := .byte) (by decide)).ky K2q) (K2q.2 _ o1q))) (by decide) ⟨_, _, (by decide +kernel : parseMethodDescriptor "([C)V" = some ⟨[(.array .char)], none⟩), rfl⟩ (by decide +kernel) (Wd := 1) (by decide) (Nat.le_of_ble_eq_true rfl) (by decide) (by decide) (by decide)
    obtain ⟨rfl, K9q, Sq⟩ := qA3
    have Kq := (K1q.tr K2q).trans K9q (fun y hy => by cases List.mem_singleton.mp hy; exact Or.inr gq)
    have A4 := A3.run [(44, .astore 10, 46, 0), (46, .goto 77, 123, 0)] (pe := 123) (by decide +kernel) rfl
    exact ⟨_, _, Kq, Sq, A4.more (by decide) (by decide)⟩
  · have A2 := A1.ifT (cd := .ne) (o := 18) (by decide +kernel) (by show ¬ _ = _; decide) (pe := 49) (by decide)
    have A3 := A2.run [(49, .iload 9, 51, 0), (51, .iconst 1, 52, 1)] (pe := 52) (by decide +kernel) rfl
    have A4 := A3.icF (cd := .ne) (o := 13) (by decide +kernel) (not_not_intro rfl)
    have A5 := A4.run [(55, .iload 6, 57, 0)] (pe := 57) (by decide +kernel) rfl
    obtain ⟨_, HA6, qA6, A6, moA6, szA6⟩ := A5.callS (argsL := [.int c0]) (wd_0 G) (wd_1 G) (wd_2 G) (wd_3 G) (c_vofL G h0.1 h0.2) (by decide) ⟨_, _, (by decide +kernel : parseMethodDescriptor "(C)Ljava/lang/String;" = some ⟨[.char], some (.object "java/lang/String")⟩), rfl⟩ (by decide +kernel) (Wd := 0) (by decide) (Nat.le_of_ble_eq_true rfl) (by decide) (by decide) (by decide)
    obtain ⟨s, rfl, gs, K, S⟩ := qA6
    have A7 := A6.run [(60, .astore 10, 62, 0), (62, .goto 61, 123, 0)] (pe := 123) (by decide +kernel) rfl
    exact ⟨_, _, K, S, A7.more (by decide) (by decide)⟩
  · have A2 := A1.ifT (cd := .ne) (o := 18) (by decide +kernel) (by show ¬ _ = _; decide) (pe := 49) (by decide)
    have A3 := A2.run [(49, .iload 9, 51, 0), (51, .iconst 1, 52, 1)] (pe := 52) (by decide +kernel) rfl
    have A4 := A3.icT (cd := .ne) (o := 13) (by decide +kernel) (by show ¬ _ = _; decide) (pe := 65) (by decide)
    have A5 := A4.run [(65, .iload 9, 67, 0), (67, .iconst 2, 68, 2)] (pe := 68) (by decide +kernel) rfl
    have A6 := A5.icF (cd := .ne) (o := 28) (by decide +kernel) (not_not_intro rfl)
    obtain ⟨sq, H1q, P1q, gq, K1q, Eq, o1q, Dq⟩ := A6.newO (wd_246 G) (wd_10 G) (wd_2 G) (by decide +kernel) (by decide) (by decide)
    have P2q := P1q.run [(74, .dup, 75, 0), (75, .iconst 2, 76, 2)] (pe := 76) (by decide +kernel) rfl
    obtain ⟨caq, H2q, P3q, gaq, K2q, T0q, oaq⟩ := P2q.newA (aty := .char) (wd_247 G) (by decide +kernel) (N := 2) rfl (cap := 2) (by decide) (by decide) (by decide) (by decide)
    have hsq : sq ∉ [caq] := by simpa using Nat.ne_of_lt (Nat.lt_of_lt_of_le Eq.lt gaq)
    have Q0q := P3q.run [(78, .dup, 79, 0), (79, .iconst 0, 80, 0), (80, .iload 6, 82, 0)] (pe := 82) (by decide +kernel) rfl
    obtain ⟨G0q, R0q, J0q, T1q⟩ := Q0q.castore T0q oaq (by decide +kernel) (i := 0) rfl (by simp) (isC_nar h0.1)
    have Q1q := R0q.run [(83, .dup, 84, 0), (84, .iconst 1, 85, 1), (85, .iload 7, 87, 0)] (pe := 87) (by decide +kernel) rfl
    obtain ⟨G1q, R1q, J1q, T2q⟩ := Q1q.castore T1q (J0q.2 _ oaq) (by decide +kernel) (i := 1) rfl (by simp) (isC_nar h1.1)
    obtain ⟨_, HA7, qA7, A7, moA7, szA7⟩ := R1q.callI (argsL := [.ref caq]) rfl (wd_248 G) (wd_249 G) (wd_2 G) (wd_250 G) (c_sI1 G (cs := [c0, c1]) T2q (c_sI4L G T2q (by simp) (by simp) (lat2 h0.2 h1.2) (((Eq.ky K2q).ky J0q).ky J1q) ((((Dq (Or.inr (wd_23 G)) (t := .array .byte) (by decide)).ky K2q).ky J0q hsq).ky J1q hsq) ((((Dq (Or.inr (wd_25 G)) (t := .byte) (by decide)).ky K2q).ky J0q hsq).ky J1q hsq) (J1q.2 _ (J0q.2 _ (K2q.2 _ o1q))))) (by decide) ⟨_, _, (by decide +kernel : parseMethodDescriptor "([C)V" = some ⟨[(.array .char)], none⟩), rfl⟩ (by decide +kernel) (Wd := 1) (by decide) (Nat.le_of_ble_eq_true rfl) (by decide) (by decide) (by decide)
    obtain ⟨rfl, K9q, Sq⟩ := qA7
    have Kq := (((K1q.tr K2q).trans J0q (fun y hy => by cases List.mem_singleton.mp hy; exact Or.inr (Nat.le_trans K1q.size gaq))).trans J1q (fun y hy => by cases List.mem_singleton.mp hy; exact Or.inr (Nat.le_trans K1q.size gaq))).trans K9q (fun y hy => by cases List.mem_singleton.mp hy; exact Or.inr gq)
    have A8 := A7.run [(91, .astore 10, 93, 0), (93, .goto 30, 123, 0)] (pe := 123) (by decide +kernel) rfl
    exact ⟨_, _, Kq, Sq, A8.more (by decide) (by decide)⟩
  · have A2 := A1.ifT (cd := .ne) (o := 18) (by decide +kernel) (by show ¬ _ = _; decide) (pe := 49) (by decide)
    have A3 := A2.run [(49, .iload 9, 51, 0), (51, .iconst 1, 52, 1)] (pe := 52) (by decide +kernel) rfl
    have A4 := A3.icT (cd := .ne) (o := 13) (by decide +kernel) (by show ¬ _ = _; decide) (pe := 65) (by decide)
    have A5 := A4.run [(65, .iload 9, 67, 0), (67, .iconst 2, 68, 2)] (pe := 68) (by decide +kernel) rfl
    have A6 := A5.icT (cd := .ne) (o := 28) (by decide +kernel) (by show ¬ _ = _; decide) (pe := 96) (by decide)
    obtain ⟨sq, H1q, P1q, gq, K1q, Eq, o1q, Dq⟩ := A6.newO (wd_246 G) (wd_10 G) (wd_2 G) (by decide +kernel) (by decide) (by decide)
    have P2q := P1q.run [(99, .dup, 100, 0), (100, .iconst 3, 101, 3)] (pe := 101) (by decide +kernel) rfl
    obtain ⟨caq, H2q, P3q, gaq, K2q, T0q, oaq⟩ := P2q.newA (aty := .char) (wd_247 G) (by decide +kernel) (N := 3) rfl (cap := 3) (by decide) (by decide) (by decide) (by decide)
    have hsq : sq ∉ [caq] := by simpa using Nat.ne_of_lt (Nat.lt_of_lt_of_le Eq.lt gaq)
    have Q0q := P3q.run [(103, .dup, 104, 0), (104, .iconst 0, 105, 0), (105, .iload 6, 107, 0)] (pe := 107) (by decide +kernel) rfl
    obtain ⟨G0q, R0q, J0q, T1q⟩ := Q0q.castore T0q oaq (by decide +kernel) (i := 0) rfl (by simp) (isC_nar h0.1)
    have Q1q := R0q.run [(108, .dup, 109, 0), (109, .iconst 1, 110, 1), (110, .iload 7, 112, 0)] (pe := 112) (by decide +kernel) rfl
    obtain ⟨G1q, R1q, J1q, T2q⟩ := Q1q.castore T1q (J0q.2 _ oaq) (by decide +kernel) (i := 1) rfl (by simp) (isC_nar h1.1)
    have Q2q := R1q.run [(113, .dup, 114, 0), (114, .iconst 2, 115, 2), (115, .iload 8, 117, 0)] (pe := 117) (by decide +kernel) rfl
    obtain ⟨G2q, R2q, J2q, T3q⟩ := Q2q.castore T2q (J1q.2 _ (J0q.2 _ oaq)) (by decide +kernel) (i := 2) rfl (by simp) (isC_nar h2.1)
    obtain ⟨_, HA7, qA7, A7, moA7, szA7⟩ := R2q.callI (argsL := [.ref caq]) rfl (wd_248 G) (wd_249 G) (wd_2 G) (wd_250 G) (c_sI1 G (cs := [c0, c1, c2]) T3q (c_sI4L G T3q (by simp) (by simp) (lat3 h0.2 h1.2 h2.2) ((((Eq.ky K2q).ky J0q).ky J1q).ky J2q) (((((Dq (Or.inr (wd_23 G)) (t := .array .byte) (by decide)).ky K2q).ky J0q hsq).ky J1q hsq).ky J2q hsq) (((((Dq (Or.inr (wd_25 G)) (t := .byte) (by decide)).ky K2q).ky J0q hsq).ky J1q hsq).ky J2q hsq) (J2q.2 _ (J1q.2 _ (J0q.2 _ (K2q.2 _ o1q)))))) (by decide) ⟨_, _, (by decide +kernel : parseMethodDescriptor "([C)V" = some ⟨[(.array .char)], none⟩), rfl⟩ (by decide +kernel) (Wd := 1) (by decide) (Nat.le_of_ble_eq_true rfl) (by decide) (by decide) (by decide)
    obtain ⟨rfl, K9q, Sq⟩ := qA7
    have Kq := ((((K1q.tr K2q).trans J0q (fun y hy => by cases List.mem_singleton.mp hy; exact Or.inr (Nat.le_trans K1q.size gaq))).trans J1q (fun y hy => by cases List.mem_singleton.mp hy; exact Or.inr (Nat.le_trans K1q.size gaq))).trans J2q (fun y hy => by cases List.mem_singleton.mp hy; exact Or.inr (Nat.le_trans K1q.size gaq))).trans K9q (fun y hy => by cases List.mem_singleton.mp hy; exact Or.inr gq)
    have A8 := A7.run [(121, .astore 10, 123, 0)] (pe := 123) (by decide +kernel) rfl
    exact ⟨_, _, Kq, Sq, A8.more (by decide) (by decide)⟩
set_option maxRecDepth 65536 in
set_option maxHeartbeats 4000000 in
theorem l_end (G : Glb Z a0) {i0 i1 i2 i3 c0 c1 c2 ng : Int32} {t m : Int64} {n M el : Nat} {sn u : Addr} {cs : List Int32} (hn : n ≤ 3) (U : Str Z H u cs) (hlu : Lat cs) (hel : el = cs.length) (hpre : ∃ rest, cs = pre9 ++ rest) (h1000 : cs.length < 100)
    (hc1 : 1 ≤ n → cs[9]? = some c0) (hc2 : 2 ≤ n → cs[10]? = some c1) (hc3 : 3 ≤ n → cs[11]? = some c2) (hlast : 1 ≤ cs.length ∧ cs[cs.length - 1]? = some 93)
    (hbig : t ≠ 0 → (∀ j c, fen16[j]? = some c → cs[9 + n + j]? = some c) ∧ (ng = 0 ∨ ng = 1 ∧ cs[9 + n + 16]? = some 45) ∧ (dgs M).length ≤ cs.length - 1 ∧ (dgs M).length ≤ 19 ∧ m.toInt = -(M : Int) ∧ ∀ j, j < (dgs M).length → cs[cs.length - 1 - (dgs M).length + j]? = (dgs M)[j]?)
    (A0 : Wk l Z a0 EL0 "com/example/holdfast/holdfast/LockLostToStringPinLaw" code maxLocals "law" ret room_1 D 226 [.val (.int i0), .val (.int i1), .val (.int i2), .val (.int i3), .val (.long t), .second, .val (.int c0), .val (.int c1), .val (.int c2), .val (.int n.toInt32), .val (.ref sn), .val (.ref u), .val (.int (9 + n).toInt32), .val (.int ng), .val (.long m), .second, .val (.int (dgs M).length.toInt32), .val (.int el.toInt32)] [] H 42 1500) : ∃ H' kk nn, Rt Z EL0 D (some (.int 1)) H' kk nn ∧ kk ≤ room_1.cells ∧ nn ≤ room_1.slots := by
  have A1 := A0.run [(226, .aload 11, 228, 0)] (pe := 228) (by decide +kernel) rfl
  obtain ⟨_, HA2, qA2, A2, moA2, szA2⟩ := A1.callV (argsL := []) (wd_212 G) (wd_74 G) (wd_76 G) rfl (wd_76 G) (wd_75 G) (wd_2 G) (wd_77 G) U.1 (c_sLen G U) (by decide) ⟨_, _, (by decide +kernel : parseMethodDescriptor "()I" = some ⟨[], some .int⟩), rfl⟩ (by decide +kernel) (Wd := 0) (by decide) (Nat.le_of_ble_eq_true rfl) (by decide) (by decide) (by decide)
  obtain ⟨rfl, rfl⟩ := qA2
  have A3 := A2.run [(231, .iload 17, 233, 0)] (pe := 233) (by decide +kernel) rfl
  have A4 := A3.icT (cd := .eq) (o := 5) (by decide +kernel) (congrArg Nat.toInt32 hel.symm) (pe := 238) (by decide)
  have A5 := A4.run [(238, .aload 11, 240, 0)] (pe := 240) (by decide +kernel) rfl
  obtain ⟨rest, hrest⟩ := hpre
  obtain ⟨_, HA6, qA6, A6, moA6, szA6⟩ := A5.callS (argsL := [.ref u]) (wd_213 G) (wd_214 G) (wd_209 G) (wd_215 G) (c_pfx9 G (rest := rest) (by rw [← hrest]; exact U) (by rw [← hrest]; exact hlu)) (by decide) ⟨_, _, (by decide +kernel : parseMethodDescriptor "(Ljava/lang/String;)Z" = some ⟨[(.object "java/lang/String")], some .boolean⟩), rfl⟩ (by decide +kernel) (Wd := 0) (by decide) (Nat.le_of_ble_eq_true rfl) (by decide) (by decide) (by decide)
  obtain ⟨rfl, rfl⟩ := qA6
  have X1 := A6.ifT (cd := .ne) (o := 5) (by decide +kernel) (by show ¬ _ = _; decide) (pe := 248) (by decide)
  have X2 : Wk l Z a0 EL0 "com/example/holdfast/holdfast/LockLostToStringPinLaw" code maxLocals "law" ret room_1 D 268 [.val (.int i0), .val (.int i1), .val (.int i2), .val (.int i3), .val (.long t), .second, .val (.int c0), .val (.int c1), .val (.int c2), .val (.int n.toInt32), .val (.ref sn), .val (.ref u), .val (.int (9 + n).toInt32), .val (.int ng), .val (.long m), .second, .val (.int (dgs M).length.toInt32), .val (.int el.toInt32)] [] H 42 1500 := by
    have B1 := X1.run [(248, .iload 9, 250, 0), (250, .iconst 1, 251, 1)] (pe := 251) (by decide +kernel) rfl
    by_cases h : n < 1
    · have B2 := B1.icT (cd := .lt) (o := 17) (by decide +kernel) ((n32_lt (j := 1) (by omega) (by decide)).mpr h) (pe := 268) (by decide)
      exact B2
    · have B2 := B1.icF (cd := .lt) (o := 17) (by decide +kernel) (fun q => h ((n32_lt (j := 1) (by omega) (by decide)).mp q))
      have B3 := B2.run [(254, .aload 11, 256, 0), (256, .bipush 9, 258, 9)] (pe := 258) (by decide +kernel) rfl
      obtain ⟨_, HB4, qB4, B4, moB4, szB4⟩ := B3.callV (argsL := [.int (9 : Nat).toInt32]) (wd_216 G) (wd_217 G) (wd_219 G) rfl (wd_219 G) (wd_218 G) (wd_2 G) (wd_220 G) U.1 (c_schL G U hlu (i := 9) (c := c0) (hc1 (by omega))) (by decide) ⟨_, _, (by decide +kernel : parseMethodDescriptor "(I)C" = some ⟨[.int], some .char⟩), rfl⟩ (by decide +kernel) (Wd := 0) (by decide) (Nat.le_of_ble_eq_true rfl) (by decide) (by decide) (by decide)
      obtain ⟨rfl, rfl⟩ := qB4
      have B5 := B4.run [(261, .iload 6, 263, 0)] (pe := 263) (by decide +kernel) rfl
      have B6 := B5.icT (cd := .eq) (o := 5) (by decide +kernel) rfl (pe := 268) (by decide)
      exact B6
  have Y1 := X2
  have Y2 : Wk l Z a0 EL0 "com/example/holdfast/holdfast/LockLostToStringPinLaw" code maxLocals "law" ret room_1 D 288 [.val (.int i0), .val (.int i1), .val (.int i2), .val (.int i3), .val (.long t), .second, .val (.int c0), .val (.int c1), .val (.int c2), .val (.int n.toInt32), .val (.ref sn), .val (.ref u), .val (.int (9 + n).toInt32), .val (.int ng), .val (.long m), .second, .val (.int (dgs M).length.toInt32), .val (.int el.toInt32)] [] H 42 1500 := by
    have B1 := Y1.run [(268, .iload 9, 270, 0), (270, .iconst 2, 271, 2)] (pe := 271) (by decide +kernel) rfl
    by_cases h : n < 2
    · have B2 := B1.icT (cd := .lt) (o := 17) (by decide +kernel) ((n32_lt (j := 2) (by omega) (by decide)).mpr h) (pe := 288) (by decide)
      exact B2
    · have B2 := B1.icF (cd := .lt) (o := 17) (by decide +kernel) (fun q => h ((n32_lt (j := 2) (by omega) (by decide)).mp q))
      have B3 := B2.run [(274, .aload 11, 276, 0), (276, .bipush 10, 278, 10)] (pe := 278) (by decide +kernel) rfl
      obtain ⟨_, HB4, qB4, B4, moB4, szB4⟩ := B3.callV (argsL := [.int (10 : Nat).toInt32]) (wd_216 G) (wd_217 G) (wd_219 G) rfl (wd_219 G) (wd_218 G) (wd_2 G) (wd_220 G) U.1 (c_schL G U hlu (i := 10) (c := c1) (hc2 (by omega))) (by decide) ⟨_, _, (by decide +kernel : parseMethodDescriptor "(I)C" = some ⟨[.int], some .char⟩), rfl⟩ (by decide +kernel) (Wd := 0) (by decide) (Nat.le_of_ble_eq_true rfl) (by decide) (by decide) (by decide)
      obtain ⟨rfl, rfl⟩ := qB4
      have B5 := B4.run [(281, .iload 7, 283, 0)] (pe := 283) (by decide +kernel) rfl
      have B6 := B5.icT (cd := .eq) (o := 5) (by decide +kernel) rfl (pe := 288) (by decide)
      exact B6
  have Z1 := Y2
  have Z2 : Wk l Z a0 EL0 "com/example/holdfast/holdfast/LockLostToStringPinLaw" code maxLocals "law" ret room_1 D 308 [.val (.int i0), .val (.int i1), .val (.int i2), .val (.int i3), .val (.long t), .second, .val (.int c0), .val (.int c1), .val (.int c2), .val (.int n.toInt32), .val (.ref sn), .val (.ref u), .val (.int (9 + n).toInt32), .val (.int ng), .val (.long m), .second, .val (.int (dgs M).length.toInt32), .val (.int el.toInt32)] [] H 42 1500 := by
    have B1 := Z1.run [(288, .iload 9, 290, 0), (290, .iconst 3, 291, 3)] (pe := 291) (by decide +kernel) rfl
    by_cases h : n < 3
    · have B2 := B1.icT (cd := .lt) (o := 17) (by decide +kernel) ((n32_lt (j := 3) (by omega) (by decide)).mpr h) (pe := 308) (by decide)
      exact B2
    · have B2 := B1.icF (cd := .lt) (o := 17) (by decide +kernel) (fun q => h ((n32_lt (j := 3) (by omega) (by decide)).mp q))
      have B3 := B2.run [(294, .aload 11, 296, 0), (296, .bipush 11, 298, 11)] (pe := 298) (by decide +kernel) rfl
      obtain ⟨_, HB4, qB4, B4, moB4, szB4⟩ := B3.callV (argsL := [.int (11 : Nat).toInt32]) (wd_216 G) (wd_217 G) (wd_219 G) rfl (wd_219 G) (wd_218 G) (wd_2 G) (wd_220 G) U.1 (c_schL G U hlu (i := 11) (c := c2) (hc3 (by omega))) (by decide) ⟨_, _, (by decide +kernel : parseMethodDescriptor "(I)C" = some ⟨[.int], some .char⟩), rfl⟩ (by decide +kernel) (Wd := 0) (by decide) (Nat.le_of_ble_eq_true rfl) (by decide) (by decide) (by decide)
      obtain ⟨rfl, rfl⟩ := qB4
      have B5 := B4.run [(301, .iload 8, 303, 0)] (pe := 303) (by decide +kernel) rfl
      have B6 := B5.icT (cd := .eq) (o := 5) (by decide +kernel) rfl (pe := 308) (by decide)
      exact B6
  have B1 := Z2.run [(308, .aload 11, 310, 0), (310, .iload 17, 312, 0), (312, .iconst 1, 313, 1), (313, .isub, 314, 0)] (pe := 314) (by decide +kernel) rfl
  rw [hel, n32_pred hlast.1] at B1
  obtain ⟨_, HB2, qB2, B2, moB2, szB2⟩ := B1.callV (argsL := [.int (cs.length - 1).toInt32]) (wd_216 G) (wd_217 G) (wd_219 G) rfl (wd_219 G) (wd_218 G) (wd_2 G) (wd_220 G) U.1 (c_schL G U hlu hlast.2) (by decide) ⟨_, _, (by decide +kernel : parseMethodDescriptor "(I)C" = some ⟨[.int], some .char⟩), rfl⟩ (by decide +kernel) (Wd := 0) (by decide) (Nat.le_of_ble_eq_true rfl) (by decide) (by decide) (by decide)
  obtain ⟨rfl, rfl⟩ := qB2
  have B3 := B2.run [(317, .bipush 93, 319, 93)] (pe := 319) (by decide +kernel) rfl
  have B4 := B3.icT (cd := .eq) (o := 5) (by decide +kernel) rfl (pe := 324) (by decide)
  have B5 := B4.run [(324, .lload 4, 326, 0), (326, .lconst 0, 327, 0), (327, .lcmp, 328, 0)] (pe := 328) (by decide +kernel) rfl
  by_cases h : t = 0
  · have B6 := B5.ifF (cd := .ne) (o := 5) (by decide +kernel) (not_not_intro (cL_eq.mpr h))
    have B7 := B6.run [(331, .iconst 1, 332, 1)] (pe := 332) (by decide +kernel) rfl
    exact ⟨_, _, _, B7.retZ (by decide +kernel) rfl, by decide, by decide⟩
  · have B6 := B5.ifT (cd := .ne) (o := 5) (by decide +kernel) (fun q => h (cL_eq.mp q)) (pe := 333) (by decide)
    obtain ⟨b1, b2, b3, b4, b5, b6⟩ := hbig h
    have B7 := B6.run [(333, .aload 11, 335, 0), (335, .iload 12, 337, 0)] (pe := 337) (by decide +kernel) rfl
    obtain ⟨_, HB8, qB8, B8, moB8, szB8⟩ := B7.callS (argsL := [.ref u, .int (9 + n).toInt32]) (wd_237 G) (wd_238 G) (wd_209 G) (wd_239 G) (c_fen G U hlu (by omega) b1) (by decide) ⟨_, _, (by decide +kernel : parseMethodDescriptor "(Ljava/lang/String;I)Z" = some ⟨[(.object "java/lang/String"), .int], some .boolean⟩), rfl⟩ (by decide +kernel) (Wd := 0) (by decide) (Nat.le_of_ble_eq_true rfl) (by decide) (by decide) (by decide)
    obtain ⟨rfl, rfl⟩ := qB8
    have B9 := B8.ifT (cd := .ne) (o := 5) (by decide +kernel) (by show ¬ _ = _; decide) (pe := 345) (by decide)
    have B10 := B9.run [(345, .iload 13, 347, 0)] (pe := 347) (by decide +kernel) rfl
    have B11 : Wk l Z a0 EL0 "com/example/holdfast/holdfast/LockLostToStringPinLaw" code maxLocals "law" ret room_1 D 367 [.val (.int i0), .val (.int i1), .val (.int i2), .val (.int i3), .val (.long t), .second, .val (.int c0), .val (.int c1), .val (.int c2), .val (.int n.toInt32), .val (.ref sn), .val (.ref u), .val (.int (9 + n).toInt32), .val (.int ng), .val (.long m), .second, .val (.int (dgs M).length.toInt32), .val (.int cs.length.toInt32)] [] H 42 1500 := by
      rcases b2 with rfl | ⟨rfl, b2⟩
      · have C1 := B10.ifT (cd := .eq) (o := 20) (by decide +kernel) rfl (pe := 367) (by decide)
        exact C1
      · have C1 := B10.ifF (cd := .eq) (o := 20) (by decide +kernel) (by show ¬ _ = _; decide)
        have C2 := C1.run [(350, .aload 11, 352, 0), (352, .iload 12, 354, 0), (354, .bipush 16, 356, 16), (356, .iadd, 357, 0)] (pe := 357) (by decide +kernel) rfl
        rw [show (9 + n).toInt32 + 16 = (9 + n + 16).toInt32 from n32_add (9 + n) 16] at C2
        obtain ⟨_, HC3, qC3, C3, moC3, szC3⟩ := C2.callV (argsL := [.int (9 + n + 16).toInt32]) (wd_216 G) (wd_217 G) (wd_219 G) rfl (wd_219 G) (wd_218 G) (wd_2 G) (wd_220 G) U.1 (c_schL G U hlu b2) (by decide) ⟨_, _, (by decide +kernel : parseMethodDescriptor "(I)C" = some ⟨[.int], some .char⟩), rfl⟩ (by decide +kernel) (Wd := 0) (by decide) (Nat.le_of_ble_eq_true rfl) (by decide) (by decide) (by decide)
        obtain ⟨rfl, rfl⟩ := qC3
        have C4 := C3.run [(360, .bipush 45, 362, 45)] (pe := 362) (by decide +kernel) rfl
        have C5 := C4.icT (cd := .eq) (o := 5) (by decide +kernel) rfl (pe := 367) (by decide)
        exact C5
    have B12 := B11.run [(367, .aload 11, 369, 0), (369, .iload 17, 371, 0), (371, .iconst 1, 372, 1), (372, .isub, 373, 0), (373, .iload 16, 375, 0), (375, .lload 14, 377, 0)] (pe := 377) (by decide +kernel) rfl
    rw [n32_pred hlast.1] at B12
    obtain ⟨_, HB13, qB13, B13, moB13, szB13⟩ := B12.callS (argsL := [.ref u, .int (cs.length - 1).toInt32, .int (dgs M).length.toInt32, .long m]) (wd_240 G) (wd_241 G) (wd_209 G) (wd_242 G) (c_dsJ G U hlu (by omega) b3 b4 b5 b6) (by decide) ⟨_, _, (by decide +kernel : parseMethodDescriptor "(Ljava/lang/String;IIJ)Z" = some ⟨[(.object "java/lang/String"), .int, .int, .long], some .boolean⟩), rfl⟩ (by decide +kernel) (Wd := 0) (by decide) (Nat.le_of_ble_eq_true rfl) (by decide) (by decide) (by decide)
    obtain ⟨rfl, rfl⟩ := qB13
    exact ⟨_, _, _, B13.retZ (by decide +kernel) rfl, by decide, by decide⟩
set_option maxRecDepth 65536 in
set_option maxHeartbeats 8000000 in
theorem c_law (G : Glb Z a0) (i0 i1 i2 i3 : Int32) (t : Int64) : Ct l Z EL0 x code maxLocals ret room_1 tables_1 [.int i0, .int i1, .int i2, .int i3, .long t] H (fun v H' => v = some (.int 1)) := by
  refine Ct.in G (plainFor_of_name (by show plainName "com/example/holdfast/holdfast/LockLostToStringPinLaw" = true; simp [plainName, overriddenIn])) (ls := [.val (.int i0), .val (.int i1), .val (.int i2), .val (.int i3), .val (.long t), .second, .unset, .unset, .unset, .unset, .unset, .unset, .unset, .unset, .unset, .unset, .unset, .unset]) rfl rfl fun D A0 => ?_
  have rt := rng64 t
  have A1 := A0.run [(0, .iload_n 0, 1, 0), (1, .sipush 255, 4, 255), (4, .iand, 5, 0), (5, .i2c, 6, 0), (6, .istore 6, 8, 0), (8, .iload_n 1, 9, 0), (9, .sipush 255, 12, 255), (12, .iand, 13, 0), (13, .i2c, 14, 0), (14, .istore 7, 16, 0), (16, .iload_n 2, 17, 0), (17, .sipush 255, 20, 255), (20, .iand, 21, 0), (21, .i2c, 22, 0), (22, .istore 8, 24, 0), (24, .iload_n 3, 25, 0), (25, .iconst 3, 26, 3), (26, .iand, 27, 0)] (pe := 27) (by decide +kernel) rfl
  rw [okc_i2c, okc_i2c, okc_i2c] at A1
  have h0 := okc_mask i0
  have h1 := okc_mask i1
  have h2 := okc_mask i2
  obtain ⟨n, hn, en⟩ : ∃ n : Nat, n ≤ 3 ∧ i3 &&& 3 = n.toInt32 := by
    have h := c_and i3 3 (by decide)
    rw [show (3 : Int32).toInt = 3 by decide] at h
    refine ⟨(i3 &&& 3).toInt.toNat, by omega, ?_⟩
    apply Int32.toInt_inj.mp
    rw [n32_toInt (by omega)]; omega
  rw [en] at A1
  have A2 := A1.run [(27, .istore 9, 29, 0)] (pe := 29) (by decide +kernel) rfl
  generalize i0 &&& 255 = c0 at *
  generalize i1 &&& 255 = c1 at *
  generalize i2 &&& 255 = c2 at *
  obtain ⟨sn, H1, K1, S1, A3⟩ := l_name G hn h0 h1 h2 A2
  have hla : Lat ([c0, c1, c2].take n) := fun c hc => (lat3 h0.2 h1.2 h2.2) c (List.mem_of_mem_take hc)
  have hnl : ([c0, c1, c2].take n).length = n := by simp; omega
  obtain ⟨x, H4, A4, gx, K4, E4, o4, D4⟩ := A3.newO (wd_26 G) (wd_27 G) (wd_28 G) (by decide +kernel) (by decide) (by decide)
  have A5 := A4.run [(126, .dup, 127, 0), (127, .aload 10, 129, 0), (129, .lload 4, 131, 0)] (pe := 131) (by decide +kernel) rfl
  obtain ⟨_, HA6, qA6, A6, moA6, szA6⟩ := A5.callI (argsL := [.ref sn, .long t]) rfl (wd_29 G) (wd_30 G) (wd_28 G) (wd_31 G) (c_llI G E4 (D4 (Or.inr (wd_34 G)) (t := .object "java/lang/String") (by decide)) (D4 (Or.inr (wd_36 G)) (t := .long) (by decide)) o4) (by decide) ⟨_, _, (by decide +kernel : parseMethodDescriptor "(Ljava/lang/String;J)V" = some ⟨[(.object "java/lang/String"), .long], none⟩), rfl⟩ (by decide +kernel) (Wd := 1) (by decide) (Nat.le_of_ble_eq_true rfl) (by decide) (by decide) (by decide)
  obtain ⟨rfl, K5, F5⟩ := qA6
  have S5 := (S1.ky K4).kyE K5 E4 (by decide) (wd_27 G)
  obtain ⟨_, HA7, qA7, A7, moA7, szA7⟩ := A6.callV (argsL := []) (wd_37 G) (wd_38 G) (wd_40 G) rfl (wd_40 G) (wd_39 G) (wd_28 G) (wd_41 G) F5.1 (c_lts G F5 S5 hla (by omega)) (by decide) ⟨_, _, (by decide +kernel : parseMethodDescriptor "()Ljava/lang/String;" = some ⟨[], some (.object "java/lang/String")⟩), rfl⟩ (by decide +kernel) (Wd := 0) (by decide) (Nat.le_of_ble_eq_true rfl) (by decide) (by decide) (by decide)
  obtain ⟨u, rfl, gu, K6, U⟩ := qA7
  have A8 := A7.run [(137, .astore 11, 139, 0), (139, .aload 11, 141, 0)] (pe := 141) (by decide +kernel) rfl
  have A9 := A8.nnullT (o := 5) (by decide +kernel) (pe := 146) (by decide)
  have A10 := A9.run [(146, .bipush 9, 148, 9), (148, .iload 9, 150, 0), (150, .iadd, 151, 0)] (pe := 151) (by decide +kernel) rfl
  rw [show 9 + n.toInt32 = (9 + n).toInt32 from n32_add 9 n] at A10
  have A11 := A10.run [(151, .istore 12, 153, 0), (153, .lload 4, 155, 0), (155, .lconst 0, 156, 0), (156, .lcmp, 157, 0)] (pe := 157) (by decide +kernel) rfl
  obtain ⟨ng, hng, A12⟩ : ∃ ng : Int32, (ng = 1 ∧ t.toInt < 0 ∨ ng = 0 ∧ ¬ t.toInt < 0) ∧ Wk l Z a0 EL0 "com/example/holdfast/holdfast/LockLostToStringPinLaw" code maxLocals "law" ret room_1 D 165 [.val (.int i0), .val (.int i1), .val (.int i2), .val (.int i3), .val (.long t), .second, .val (.int c0), .val (.int c1), .val (.int c2), .val (.int n.toInt32), .val (.ref sn), .val (.ref u), .val (.int (9 + n).toInt32), .unset, .unset, .unset, .unset, .unset] [.int ng] HA7 42 1500 := by
    by_cases h : t.toInt < 0
    · have B1 := A11.ifF (cd := .ge) (o := 7) (by decide +kernel) (not_not_intro (cL_lt.mpr h))
      exact ⟨1, Or.inl ⟨rfl, h⟩, (B1.run [(160, .iconst 1, 161, 1), (161, .goto 4, 165, 0)] (pe := 165) (by decide +kernel) rfl).more (by decide) (by decide)⟩
    · have B1 := A11.ifT (cd := .ge) (o := 7) (by decide +kernel) (fun q => h (cL_lt.mp q)) (pe := 164) (by decide)
      exact ⟨0, Or.inr ⟨rfl, h⟩, (B1.run [(164, .iconst 0, 165, 0)] (pe := 165) (by decide +kernel) rfl).more (by decide) (by decide)⟩
  have A13 := A12.run [(165, .istore 13, 167, 0), (167, .iload 13, 169, 0)] (pe := 169) (by decide +kernel) rfl
  obtain ⟨m, hm, A14⟩ : ∃ m : Int64, m.toInt = -(t.toInt.natAbs : Int) ∧ Wk l Z a0 EL0 "com/example/holdfast/holdfast/LockLostToStringPinLaw" code maxLocals "law" ret room_1 D 180 [.val (.int i0), .val (.int i1), .val (.int i2), .val (.int i3), .val (.long t), .second, .val (.int c0), .val (.int c1), .val (.int c2), .val (.int n.toInt32), .val (.ref sn), .val (.ref u), .val (.int (9 + n).toInt32), .val (.int ng), .unset, .unset, .unset, .unset] [.long m] HA7 42 1500 := by
    rcases hng with ⟨rfl, h⟩ | ⟨rfl, h⟩
    · have B1 := A13.ifF (cd := .eq) (o := 8) (by decide +kernel) (by show ¬ _ = _; decide)
      exact ⟨t, by omega, B1.run [(172, .lload 4, 174, 0), (174, .goto 6, 180, 0)] (pe := 180) (by decide +kernel) rfl⟩
    · have B1 := A13.ifT (cd := .eq) (o := 8) (by decide +kernel) rfl (pe := 177) (by decide)
      have e := c_lneg t
      have r := rng64 (-t)
      exact ⟨-t, by omega, B1.run [(177, .lload 4, 179, 0), (179, .lneg, 180, 0)] (pe := 180) (by decide +kernel) rfl⟩
  have A15 := A14.run [(180, .lstore 14, 182, 0), (182, .lload 14, 184, 0)] (pe := 184) (by decide +kernel) rfl
  have hM := abs_lt t
  obtain ⟨_, HA16, qA16, A16, moA16, szA16⟩ := A15.callS (argsL := [.long m]) (wd_207 G) (wd_208 G) (wd_209 G) (wd_210 G) (c_dct G hM hm) (by decide) ⟨_, _, (by decide +kernel : parseMethodDescriptor "(J)I" = some ⟨[.long], some .int⟩), rfl⟩ (by decide +kernel) (Wd := 0) (by decide) (Nat.le_of_ble_eq_true rfl) (by decide) (by decide) (by decide)
  obtain ⟨rfl, rfl⟩ := qA16
  have h19 : (dgs t.toInt.natAbs).length ≤ 19 := dgs_le 18 _ hM
  have A17 := A16.run [(187, .istore 16, 189, 0), (189, .lload 4, 191, 0), (191, .lconst 0, 192, 0), (192, .lcmp, 193, 0)] (pe := 193) (by decide +kernel) rfl
  have hlen : (pre9 ++ [c0, c1, c2].take n ++ suf t ++ [93]).length = if t = 0 then 9 + n + 1 else 9 + n + 16 + (if t.toInt < 0 then 1 else 0) + (dgs t.toInt.natAbs).length + 1 := by
    rw [List.length_append, List.length_append, List.length_append, hnl]
    by_cases h : t = 0
    · rw [if_pos h, suf, if_pos h]; simp
    · rw [if_neg h, suf, if_neg h, List.length_append, lds_len]; simp; omega
  obtain ⟨A18⟩ : Nonempty (PLift (Wk l Z a0 EL0 "com/example/holdfast/holdfast/LockLostToStringPinLaw" code maxLocals "law" ret room_1 D 226 [.val (.int i0), .val (.int i1), .val (.int i2), .val (.int i3), .val (.long t), .second, .val (.int c0), .val (.int c1), .val (.int c2), .val (.int n.toInt32), .val (.ref sn), .val (.ref u), .val (.int (9 + n).toInt32), .val (.int ng), .val (.long m), .second, .val (.int (dgs t.toInt.natAbs).length.toInt32), .val (.int (pre9 ++ [c0, c1, c2].take n ++ suf t ++ [93]).length.toInt32)] [] HA7 42 1500)) := by
    rw [hlen]
    by_cases h : t = 0
    · rw [if_pos h]
      have B1 := A17.ifF (cd := .ne) (o := 10) (by decide +kernel) (not_not_intro (cL_eq.mpr h))
      have B2 := B1.run [(196, .iload 12, 198, 0), (198, .iconst 1, 199, 1), (199, .iadd, 200, 0), (200, .goto 24, 224, 0), (224, .istore 17, 226, 0)] (pe := 226) (by decide +kernel) rfl
      rw [n32_succ] at B2
      exact ⟨⟨B2⟩⟩
    · rw [if_neg h]
      have B1 := A17.ifT (cd := .ne) (o := 10) (by decide +kernel) (fun q => h (cL_eq.mp q)) (pe := 203) (by decide)
      have B2 := B1.run [(203, .iload 12, 205, 0), (205, .bipush 16, 207, 16), (207, .iadd, 208, 0), (208, .iload 13, 210, 0)] (pe := 210) (by decide +kernel) rfl
      rcases hng with ⟨rfl, hh⟩ | ⟨rfl, hh⟩
      · rw [if_pos hh]
        have B3 := B2.ifF (cd := .eq) (o := 7) (by decide +kernel) (by show ¬ _ = _; decide)
        have B4 := B3.run [(213, .iconst 1, 214, 1), (214, .goto 4, 218, 0), (218, .iadd, 219, 0), (219, .iload 16, 221, 0), (221, .iadd, 222, 0), (222, .iconst 1, 223, 1), (223, .iadd, 224, 0), (224, .istore 17, 226, 0)] (pe := 226) (by decide +kernel) rfl
        rw [show (9 + n).toInt32 + 16 = (9 + n + 16).toInt32 from n32_add (9 + n) 16, n32_succ, n32_add, n32_succ] at B4
        exact ⟨⟨B4⟩⟩
      · rw [if_neg hh]
        have B3 := B2.ifT (cd := .eq) (o := 7) (by decide +kernel) rfl (pe := 217) (by decide)
        have B4 := B3.run [(217, .iconst 0, 218, 0), (218, .iadd, 219, 0), (219, .iload 16, 221, 0), (221, .iadd, 222, 0), (222, .iconst 1, 223, 1), (223, .iadd, 224, 0), (224, .istore 17, 226, 0)] (pe := 226) (by decide +kernel) rfl
        rw [show (9 + n).toInt32 + 16 = (9 + n + 16).toInt32 from n32_add (9 + n) 16, show (9 + n + 16).toInt32 + 0 = (9 + n + 16 + 0).toInt32 from n32_add _ 0, n32_add, n32_succ] at B4
        exact ⟨⟨B4⟩⟩
  have A18 := A18.down
  have lsf : Lat (suf t) := by
    by_cases h : t = 0
    · rw [suf, if_pos h]; exact fun c hc => nomatch hc
    · rw [suf, if_neg h]; exact fun c hc => (List.mem_append.mp hc).elim ((show Lat fen16 by decide) c) ((lds_ok t).1 c)
  have lapp : ∀ {a b : List Int32}, Lat a → Lat b → Lat (a ++ b) := fun ha hb c hc => (List.mem_append.mp hc).elim (ha c) (hb c)
  have hlu : Lat (pre9 ++ [c0, c1, c2].take n ++ suf t ++ [93]) := lapp (lapp (lapp (by decide) hla) lsf) (by decide)
  have hat : ∀ j c, ([c0, c1, c2].take n)[j]? = some c → (pre9 ++ [c0, c1, c2].take n ++ suf t ++ [93])[9 + j]? = some c := fun j c hj => by
    have hj2 := (List.getElem?_eq_some_iff.mp hj).1
    have := app_at (A := pre9) (B := [c0, c1, c2].take n) (C := suf t ++ [93]) (j := j) hj2
    rw [hj] at this
    simpa [List.append_assoc] using this
  have e9 : (pre9 ++ [c0, c1, c2].take n).length = 9 + n := by rw [List.length_append, hnl]; rfl
  obtain ⟨H9, kk, nn, R1, R2, R3⟩ := l_end G hn U hlu rfl ⟨_, by rw [List.append_assoc, List.append_assoc]⟩ (by rw [hlen]; split <;> first | omega | (split <;> omega))
    (fun q => hat 0 c0 (by rw [List.getElem?_take_of_lt (by omega)]; rfl)) (fun q => hat 1 c1 (by rw [List.getElem?_take_of_lt (by omega)]; rfl)) (fun q => hat 2 c2 (by rw [List.getElem?_take_of_lt (by omega)]; rfl))
    ⟨by simp, lastat⟩
    (fun hne => by
      have hsuf : suf t = fen16 ++ lds t := sufN hne
      refine ⟨fun j c hj => ?_, ?_, ?_, h19, hm, fun j hj => ?_⟩
      · have hj2 := (List.getElem?_eq_some_iff.mp hj).1
        have := app_at (A := pre9 ++ [c0, c1, c2].take n) (B := fen16) (C := lds t ++ [93]) (j := j) hj2
        rw [hj, e9] at this
        rw [hsuf]; simpa [List.append_assoc] using this
      · rcases hng with ⟨rfl, hh⟩ | ⟨rfl, hh⟩
        · refine Or.inr ⟨rfl, ?_⟩
          have := app_at (A := pre9 ++ [c0, c1, c2].take n ++ fen16) (B := [45]) (C := dgs t.toInt.natAbs ++ [93]) (j := 0) (by decide)
          rw [List.length_append, e9] at this
          rw [hsuf, lds, if_pos hh]; simpa [List.append_assoc] using this
        · exact Or.inl rfl
      · rw [hlen, if_neg hne]; omega
      · have hsp : ∃ Q, pre9 ++ [c0, c1, c2].take n ++ suf t ++ [93] = Q ++ dgs t.toInt.natAbs ++ [93] := by
          rw [hsuf]
          by_cases hh : t.toInt < 0
          · exact ⟨pre9 ++ [c0, c1, c2].take n ++ fen16 ++ [45], by rw [lds, if_pos hh]; simp [List.append_assoc]⟩
          · exact ⟨pre9 ++ [c0, c1, c2].take n ++ fen16, by rw [lds, if_neg hh]; simp [List.append_assoc]⟩
        obtain ⟨Q, hQ⟩ := hsp
        rw [hQ]
        have e : (Q ++ dgs t.toInt.natAbs ++ [93]).length - 1 - (dgs t.toInt.natAbs).length = Q.length := by simp
        rw [e]; exact app_at hj) A18
  exact ⟨_, _, _, _, R1, rfl, R2, R3⟩
end LawF

set_option maxRecDepth 65536 in
theorem comes_1 {Post : Tables → Env → Array Value → State → Outcome → State → Prop} (hpost : ∀ tb e args s v u, (limb_1_1.after args s (.returned v) u = true ∧ limb_1_2.after args s (.returned v) u = true) → ReturnedEndW s (.returned v) u (Jvm.fieldLocs frame_1_writes args s ++ Jvm.arrayLocs frame_1_arrays args s ++ Jvm.staticLocs frame_1_statics s) 48 5888 → Post tb e args s (.returned v) u) :
    ArmFor flags0 classFile x code maxLocals ret World_1 tables_1 room_1 Calls_1 rest_1 Pre_1 Post := by
  intro l hfl _ _ p e ha hc hk s m args below hf hA hF happ hP
  obtain ⟨hcalls, hrest, hpre⟩ := hP
  obtain ⟨-, -, -, hnamed, -, -, -, hat⟩ := (Spec.applies_iff hf).mp happ
  obtain ⟨hg, hn⟩ := and_e (Cond.before_iff.mp (show (Jvm.Cond.and given_1 narrow_1).before args s = true from hpre))
  obtain ⟨h1, g0⟩ := and_e hg
  obtain ⟨f0, g1⟩ := and_e g0
  obtain ⟨f1, g2⟩ := and_e g1
  obtain ⟨f2, g3⟩ := and_e g2
  obtain ⟨f3, g4⟩ := and_e g3
  have f4 := g4
  obtain ⟨w0, w1, w2, w3, w4, rfl⟩ : ∃ w0 w1 w2 w3 w4 : Value, args = #[w0, w1, w2, w3, w4] := by
    have hs : args.size = 5 := by simpa [Cond.value, given_1] using h1
    obtain ⟨L⟩ := args
    match L, hs with
    | [w0, w1, w2, w3, w4], _ => exact ⟨w0, w1, w2, w3, w4, rfl⟩
  have hw := fun d (hd : d ∈ tables_1) => atoms_spec (ws := Jvm.Cond.code x code maxLocals ret :: tables_1) hat d (List.mem_cons_of_mem _ hd)
  obtain ⟨hsets, hown0⟩ := atoms_of _ (rest_1_c_eq ▸ (show rest_1_c.before _ s = true from hrest))
  have hfit : Fit s := fun {y c} hc i hi => by
    obtain ⟨ha, rfl⟩ := Array.getElem?_eq_some_iff.mp hc
    have q := List.all_eq_true.mp ((Array.all_eq_true_iff_forall_mem.mp hF) _ (Array.getElem_mem ha)) i (List.mem_range.mpr hi)
    simpa [Array.getElem?_eq_getElem hi] using q
  obtain ⟨i0, e0⟩ := is_v f0
  obtain rfl : w0 = .int i0 := Option.some.inj e0
  obtain ⟨i1, e1⟩ := is_v f1
  obtain rfl : w1 = .int i1 := Option.some.inj e1
  obtain ⟨i2, e2⟩ := is_v f2
  obtain rfl : w2 = .int i2 := Option.some.inj e2
  obtain ⟨i3, e3⟩ := is_v f3
  obtain rfl : w3 = .int i3 := Option.some.inj e3
  obtain ⟨i4, e4⟩ := isL_v f4
  obtain rfl : w4 = .long i4 := Option.some.inj e4
  have G : Glb s #[.int i0, .int i1, .int i2, .int i3, .long i4] := ⟨hw, hsets, hfit, hn⟩
  have G_cw : Jvm.Lit.compactW.before _ s = true := (G.2.1 _ (List.mem_of_getElem? (i := 2) rfl))
  have G_wa := (wd_14 G)
  have G_wi := (wd_10 G)
  obtain ⟨n, o, h1, h2, h3, v, L, O, rfl, hv, -, -, N, hq⟩ := c_law (l := l) (H := (s.heap, fun _ => False)) G i0 i1 i2 i3 i4 p e ha hc hk s m _ below hf ((Spec.applies_iff_loose hf).mp happ).1 ⟨rfl, State.Warmed39.refl s, rfl, ⟨ext_refl _, fun _ q => q.elim, CHv.start (G_EL G) (fun p hp => hcalls.1 p hp) G_cw G_wa G_wi, fun _ _ q => q.elim⟩⟩ trivial
  subst hv
  refine ⟨n, _, h1, h2, h3, hpost _ _ _ _ _ _ ⟨Cond.after_iff.mpr rfl, Cond.after_iff.mpr (eq_i res_at (Term.int_eval (1)) rfl)⟩ ⟨hq.1, hq.2.1, hq.2.2.1, (hq.2.2.2.sift fun y hy => Or.inr (N y hy)).mono (by decide) (by decide)⟩⟩
theorem main_1_1 : Claimed_1_1 := comes_1 fun _ _ _ _ _ _ h hF => ⟨h.1, hF⟩
theorem main_1_2 : Claimed_1_2 := comes_1 fun _ _ _ _ _ _ h hF => ⟨h.2, hF⟩
end Jvm.Pilot.@@N@@
namespace Jvm.Pilot.@@N@@
open Jvm Jvm.ClassFile Sem Op Lib Jvm.Free Jvm.Stand Jvm.Pilot.@@N@@.Jvm.D
/-! MADE BY PROGRAM (witnessworld.py) out of the Statement's table words and the real class files: 29 classes; the members and pool entries that the words name. The judged class is class 1, her method 1. -/
namespace start1
open Jvm.ClassFile
def u (s : String) : CpInfo := .utf8 (stringToUtf16 s)
/-- a pool by its gaps: so many unusable entries, then the entry; so many at the end -/
def gap : Nat → List CpInfo → List CpInfo
  | 0, r => r
  | n + 1, r => .unusable :: gap n r
def poolList (es : List (Nat × CpInfo)) (last : Nat) : List CpInfo := es.foldr (fun e r => gap e.1 (e.2 :: r)) (gap last [])
def pool (es : List (Nat × CpInfo)) (last : Nat) : Array CpInfo := ⟨poolList es last⟩
def fileOf (pool : Array CpInfo) (this : Nat) (attrs : Array Attribute := #[]) (ms : Array MethodInfo := #[]) (fl : Nat := 33) (sup : Nat := 0) (ifs : Array Nat := #[]) (fds : Array FieldInfo := #[]) : ClassFile where
  minorVersion := 0
  majorVersion := 65
  constantPool := pool
  accessFlags := fl
  thisClass := this
  superClass := sup
  interfaces := ifs
  fields := fds
  methods := ms
  attributes := attrs
def plain (name : String) (sup : Option ClassId) : Class where
  name := name
  kind := .ordinary
  loader := none
  accessFlags := 33
  super := sup
  interfaces := #[]
  cf := none
  fields := #[]
  methods := #[]
  instanceTypes := #[]
  staticTypes := #[]
  resolved := #[]
  callSites := []
  init := .initialized
  statics := none
  mirror := none

def pool0 : Array CpInfo := pool [(5, u "<init>"), (0, u "()V"), (1, .class_ 10), (1, u "java/lang/Object"), (85, u "clone"), (0, u "()Ljava/lang/Object;")] 26

def k0c0 : Code := { maxStack := 0, maxLocals := 1, code := object_method_1_code, exceptionTable := #[], attributes := #[] }
def k0m0 : Method := { name := "<init>", desc := "()V", sig := { parameters := [], returnType := none }, accessFlags := 1, code := some k0c0 }
def k0m1 : Method := { name := "clone", desc := "()Ljava/lang/Object;", sig := { parameters := [], returnType := some (.object "java/lang/Object") }, accessFlags := 260, code := none }
/-- java/lang/Object -/
def k0 : Class := { plain "java/lang/Object" none with
  accessFlags := 33
  interfaces := #[]
  cf := some (fileOf pool0 8 #[] #[{ accessFlags := 1, nameIndex := 5, descriptorIndex := 6, attributes := #[] }, { accessFlags := 260, nameIndex := 96, descriptorIndex := 97, attributes := #[] }] 33 0 #[] #[])
  fields := #[]
  methods := #[k0m0, k0m1]
  instanceTypes := #[]
  staticTypes := #[]
  resolved := Array.replicate 124 none
  statics := none }

def pool1 : Array CpInfo := pool [(2, .class_ 4), (1, u "java/lang/Object"), (0, u "<init>"), (0, u "()V"), (0, .class_ 8), (0, u "java/lang/String"), (0, .methodref 7 10), (0, .nameAndType 5 11), (0, u "([C)V"), (0, .methodref 7 13), (0, .nameAndType 14 15), (0, u "valueOf"), (0, u "(C)Ljava/lang/String;"), (0, .class_ 17), (0, u "com/example/holdfast/holdfast/LockLost"), (0, .methodref 16 19), (0, .nameAndType 5 20), (0, u "(Ljava/lang/String;J)V"), (0, .methodref 16 22), (0, .nameAndType 23 24), (0, u "toString"), (0, u "()Ljava/lang/String;"), (0, .methodref 26 27), (0, .class_ 28), (0, .nameAndType 29 30), (0, u "com/example/holdfast/holdfast/LockLostToStringPinLaw"), (0, u "digitCount"), (0, u "(J)I"), (0, .methodref 7 32), (0, .nameAndType 33 34), (0, u "length"), (0, u "()I"), (0, .methodref 26 36), (0, .nameAndType 37 38), (0, u "prefixOk"), (0, u "(Ljava/lang/String;)Z"), (0, .methodref 7 40), (0, .nameAndType 41 42), (0, u "charAt"), (0, u "(I)C"), (0, .methodref 26 44), (0, .nameAndType 45 46), (0, u "fencingOk"), (0, u "(Ljava/lang/String;I)Z"), (0, .methodref 26 48), (0, .nameAndType 49 50), (0, u "digitsOk"), (0, u "(Ljava/lang/String;IIJ)Z"), (0, .long 10), (1, .methodref 26 54), (0, .nameAndType 55 56), (0, u "digitOk"), (0, u "(Ljava/lang/String;IIIJ)Z"), (2, u "law"), (0, u "(IIIIJ)Z")] 3

def k1m0 : Method := { name := "<init>", desc := "()V", sig := { parameters := [], returnType := none }, accessFlags := 1, code := none }
def k1c1 : Code := { maxStack := 6, maxLocals := 18, code := code, exceptionTable := #[], attributes := #[] }
def k1m1 : Method := { name := "law", desc := "(IIIIJ)Z", sig := { parameters := [.int, .int, .int, .int, .long], returnType := some .boolean }, accessFlags := 9, code := some k1c1 }
def k1c2 : Code := { maxStack := 2, maxLocals := 1, code := method_3_code, exceptionTable := #[], attributes := #[] }
def k1m2 : Method := { name := "prefixOk", desc := "(Ljava/lang/String;)Z", sig := { parameters := [(.object "java/lang/String")], returnType := some .boolean }, accessFlags := 10, code := some k1c2 }
def k1c3 : Code := { maxStack := 3, maxLocals := 2, code := method_4_code, exceptionTable := #[], attributes := #[] }
def k1m3 : Method := { name := "fencingOk", desc := "(Ljava/lang/String;I)Z", sig := { parameters := [(.object "java/lang/String"), .int], returnType := some .boolean }, accessFlags := 10, code := some k1c3 }
def k1c4 : Code := { maxStack := 4, maxLocals := 5, code := method_5_code, exceptionTable := #[], attributes := #[] }
def k1m4 : Method := { name := "digitCount", desc := "(J)I", sig := { parameters := [.long], returnType := some .int }, accessFlags := 10, code := some k1c4 }
def k1c5 : Code := { maxStack := 6, maxLocals := 6, code := method_6_code, exceptionTable := #[], attributes := #[] }
def k1m5 : Method := { name := "digitOk", desc := "(Ljava/lang/String;IIIJ)Z", sig := { parameters := [(.object "java/lang/String"), .int, .int, .int, .long], returnType := some .boolean }, accessFlags := 10, code := some k1c5 }
def k1c6 : Code := { maxStack := 6, maxLocals := 8, code := method_7_code, exceptionTable := #[], attributes := #[] }
def k1m6 : Method := { name := "digitsOk", desc := "(Ljava/lang/String;IIJ)Z", sig := { parameters := [(.object "java/lang/String"), .int, .int, .long], returnType := some .boolean }, accessFlags := 10, code := some k1c6 }
/-- com/example/holdfast/holdfast/LockLostToStringPinLaw -/
def k1 : Class := { plain "com/example/holdfast/holdfast/LockLostToStringPinLaw" (some 0) with
  accessFlags := 49
  interfaces := #[]
  cf := some (fileOf pool1 26 #[] #[{ accessFlags := 1, nameIndex := 5, descriptorIndex := 6, attributes := #[] }, { accessFlags := 9, nameIndex := 59, descriptorIndex := 60, attributes := #[] }, { accessFlags := 10, nameIndex := 37, descriptorIndex := 38, attributes := #[] }, { accessFlags := 10, nameIndex := 45, descriptorIndex := 46, attributes := #[] }, { accessFlags := 10, nameIndex := 29, descriptorIndex := 30, attributes := #[] }, { accessFlags := 10, nameIndex := 55, descriptorIndex := 56, attributes := #[] }, { accessFlags := 10, nameIndex := 49, descriptorIndex := 50, attributes := #[] }] 49 2 #[] #[])
  fields := #[]
  methods := #[k1m0, k1m1, k1m2, k1m3, k1m4, k1m5, k1m6]
  instanceTypes := #[]
  staticTypes := #[]
  resolved := Array.replicate 64 none
  statics := none }

def pool2 : Array CpInfo := pool [(1, .class_ 2), (0, u "java/io/Serializable"), (0, .class_ 4), (0, u "java/lang/Object")] 2

/-- java/io/Serializable -/
def k2 : Class := { plain "java/io/Serializable" (some 0) with
  accessFlags := 1537
  interfaces := #[]
  cf := some (fileOf pool2 1 #[] #[] 1537 3 #[] #[])
  fields := #[]
  methods := #[]
  instanceTypes := #[]
  staticTypes := #[]
  resolved := Array.replicate 7 none
  statics := none }

def pool3 : Array CpInfo := pool [(1, .class_ 2), (0, u "java/lang/Comparable"), (0, .class_ 4), (0, u "java/lang/Object")] 7

/-- java/lang/Comparable -/
def k3 : Class := { plain "java/lang/Comparable" (some 0) with
  accessFlags := 1537
  interfaces := #[]
  cf := some (fileOf pool3 1 #[] #[] 1537 3 #[] #[])
  fields := #[]
  methods := #[]
  instanceTypes := #[]
  staticTypes := #[]
  resolved := Array.replicate 12 none
  statics := none }

def pool4 : Array CpInfo := pool [(2, .class_ 4), (1, u "java/lang/CharSequence"), (42, .class_ 48), (0, u "java/lang/CharSequence$1CodePointIterator"), (10, .class_ 60), (0, u "java/lang/CharSequence$1CharIterator"), (5, .class_ 67), (0, u "java/lang/Object")] 63

/-- java/lang/CharSequence -/
def k4 : Class := { plain "java/lang/CharSequence" (some 0) with
  accessFlags := 1537
  interfaces := #[]
  cf := some (fileOf pool4 2 #[.nestMembers #[47, 59]] #[] 1537 66 #[] #[])
  fields := #[]
  methods := #[]
  instanceTypes := #[]
  staticTypes := #[]
  resolved := Array.replicate 131 none
  statics := none }

def pool5 : Array CpInfo := pool [(1, .class_ 2), (0, u "java/lang/constant/Constable"), (0, .class_ 4), (0, u "java/lang/Object")] 6

/-- java/lang/constant/Constable -/
def k5 : Class := { plain "java/lang/constant/Constable" (some 0) with
  accessFlags := 1537
  interfaces := #[]
  cf := some (fileOf pool5 1 #[] #[] 1537 3 #[] #[])
  fields := #[]
  methods := #[]
  instanceTypes := #[]
  staticTypes := #[]
  resolved := Array.replicate 11 none
  statics := none }

def pool6 : Array CpInfo := pool [(1, .class_ 2), (0, u "java/lang/constant/ConstantDesc"), (0, .class_ 4), (0, u "java/lang/Object")] 32

/-- java/lang/constant/ConstantDesc -/
def k6 : Class := { plain "java/lang/constant/ConstantDesc" (some 0) with
  accessFlags := 1537
  interfaces := #[]
  cf := some (fileOf pool6 1 #[] #[] 1537 3 #[] #[])
  fields := #[]
  methods := #[]
  instanceTypes := #[]
  staticTypes := #[]
  resolved := Array.replicate 37 none
  statics := none }

def pool7 : Array CpInfo := pool [(1, .methodref 2 3), (0, .class_ 4), (0, .nameAndType 5 6), (0, u "java/lang/Object"), (0, u "<init>"), (0, u "()V"), (0, .string 8), (0, u ""), (0, .fieldref 10 11), (0, .class_ 12), (0, .nameAndType 13 14), (0, u "java/lang/String"), (0, u "value"), (0, u "[B"), (0, .fieldref 10 16), (0, .nameAndType 17 18), (0, u "coder"), (0, u "B"), (2, u "hash"), (0, u "I"), (2, u "hashIsZero"), (0, u "Z"), (0, .methodref 10 28), (0, .nameAndType 5 29), (0, u "([CIILjava/lang/Void;)V"), (8, .fieldref 10 39), (0, .nameAndType 40 26), (0, u "COMPACT_STRINGS"), (1, .class_ 44), (1, u "java/lang/StringUTF16"), (0, u "compress"), (1, .methodref 42 48), (0, .nameAndType 49 50), (0, u "coderFromArrayLen"), (0, u "([BI)B"), (2, u "toBytes"), (0, .methodref 55 56), (0, .class_ 57), (0, .nameAndType 58 59), (0, u "java/util/Arrays"), (0, u "copyOfRange"), (0, u "([BII)[B"), (47, .class_ 109), (1, u "java/lang/StringLatin1"), (32, u "()Z"), (34, .methodref 42 178), (0, .nameAndType 45 179), (0, u "([CII)[B"), (13, .class_ 195), (1, u "java/lang/System"), (13, .methodref 10 210), (0, .nameAndType 5 211), (0, u "([BB)V"), (0, .methodref 193 213), (0, .nameAndType 214 215), (0, u "arraycopy"), (0, u "(Ljava/lang/Object;ILjava/lang/Object;II)V"), (118, u "()I"), (0, .methodref 10 336), (0, .nameAndType 17 337), (0, u "()B"), (2, u "()[B"), (22, u "([BI)C"), (5, u "(C)Z"), (21, u "(II)V"), (35, u "(I)C"), (61, .methodref 10 490), (0, .nameAndType 5 491), (0, u "(Ljava/lang/AbstractStringBuilder;Ljava/lang/Void;)V"), (0, .methodref 10 493), (0, .nameAndType 494 142), (0, u "isLatin1"), (0, .methodref 107 496), (0, .nameAndType 497 363), (0, u "charAt"), (3, u "checkIndex"), (4, .nameAndType 507 334), (0, u "length"), (24, u "getBytes"), (16, .methodref 550 506), (0, .class_ 551), (0, u "java/lang/AbstractStringBuilder"), (0, .methodref 550 553), (0, .nameAndType 554 340), (0, u "getValue"), (20, .class_ 576), (0, u "java/lang/CharSequence"), (22, u "CASE_INSENSITIVE_ORDER"), (0, u "Ljava/util/Comparator;"), (181, u "valueOf"), (0, u "(C)Ljava/lang/String;"), (37, u "([BIB)V"), (188, u "([C)V"), (4, .methodref 107 1016), (0, .nameAndType 1017 369), (0, u "canEncode"), (0, .methodref 107 1019), (0, .nameAndType 53 1020), (0, u "(C)[B"), (26, .methodref 550 493), (5, .fieldref 1054 1055), (0, .class_ 1056), (0, .nameAndType 1057 1058), (0, u "jdk/internal/util/Preconditions"), (0, u "SIOOBE_FORMATTER"), (0, u "Ljava/util/function/BiFunction;"), (0, .methodref 1054 1060), (0, .nameAndType 501 1061), (0, u "(IILjava/util/function/BiFunction;)I"), (39, u "serialPersistentFields"), (0, u "[Ljava/io/ObjectStreamField;"), (0, .class_ 1104), (0, u "java/lang/String$CaseInsensitiveComparator"), (1, .class_ 1107), (0, u "java/io/Serializable"), (0, .class_ 1109), (0, u "java/lang/Comparable"), (0, .class_ 1111), (0, u "java/lang/constant/Constable"), (0, .class_ 1113), (0, u "java/lang/constant/ConstantDesc"), (2, u "serialVersionUID"), (0, u "J"), (3, u "REPL"), (0, u "C"), (2, u "LATIN1"), (1, u "UTF16"), (105, u "(Ljava/lang/StringBuilder;)V")] 217

def k7m0 : Method := { name := "<init>", desc := "()V", sig := { parameters := [], returnType := none }, accessFlags := 1, code := none }
def k7c1 : Code := { maxStack := 5, maxLocals := 2, code := jdk_42_method_3_code, exceptionTable := #[], attributes := #[] }
def k7m1 : Method := { name := "<init>", desc := "([C)V", sig := { parameters := [(.array .char)], returnType := none }, accessFlags := 1, code := some k7c1 }
def k7c2 : Code := { maxStack := 3, maxLocals := 2, code := jdk_42_method_53_code, exceptionTable := #[], attributes := #[] }
def k7m2 : Method := { name := "<init>", desc := "(Ljava/lang/StringBuilder;)V", sig := { parameters := [(.object "java/lang/StringBuilder")], returnType := none }, accessFlags := 1, code := some k7c2 }
def k7c3 : Code := { maxStack := 2, maxLocals := 1, code := jdk_42_method_54_code, exceptionTable := #[], attributes := #[] }
def k7m3 : Method := { name := "length", desc := "()I", sig := { parameters := [], returnType := some .int }, accessFlags := 1, code := some k7c3 }
def k7c4 : Code := { maxStack := 2, maxLocals := 2, code := jdk_42_method_56_code, exceptionTable := #[], attributes := #[] }
def k7m4 : Method := { name := "charAt", desc := "(I)C", sig := { parameters := [.int], returnType := some .char }, accessFlags := 1, code := some k7c4 }
def k7c5 : Code := { maxStack := 4, maxLocals := 1, code := jdk_42_method_139_code, exceptionTable := #[], attributes := #[] }
def k7m5 : Method := { name := "valueOf", desc := "(C)Ljava/lang/String;", sig := { parameters := [.char], returnType := some (.object "java/lang/String") }, accessFlags := 9, code := some k7c5 }
def k7c6 : Code := { maxStack := 5, maxLocals := 4, code := jdk_42_method_147_code, exceptionTable := #[], attributes := #[] }
def k7m6 : Method := { name := "getBytes", desc := "([BIB)V", sig := { parameters := [(.array .byte), .int, .byte], returnType := none }, accessFlags := 0, code := some k7c6 }
def k7c7 : Code := { maxStack := 4, maxLocals := 6, code := jdk_42_method_149_code, exceptionTable := #[], attributes := #[] }
def k7m7 : Method := { name := "<init>", desc := "([CIILjava/lang/Void;)V", sig := { parameters := [(.array .char), .int, .int, (.object "java/lang/Void")], returnType := none }, accessFlags := 2, code := some k7c7 }
def k7c8 : Code := { maxStack := 5, maxLocals := 5, code := jdk_42_method_150_code, exceptionTable := #[], attributes := #[] }
def k7m8 : Method := { name := "<init>", desc := "(Ljava/lang/AbstractStringBuilder;Ljava/lang/Void;)V", sig := { parameters := [(.object "java/lang/AbstractStringBuilder"), (.object "java/lang/Void")], returnType := none }, accessFlags := 0, code := some k7c8 }
def k7c9 : Code := { maxStack := 2, maxLocals := 3, code := jdk_42_method_151_code, exceptionTable := #[], attributes := #[] }
def k7m9 : Method := { name := "<init>", desc := "([BB)V", sig := { parameters := [(.array .byte), .byte], returnType := none }, accessFlags := 0, code := some k7c9 }
def k7c10 : Code := { maxStack := 1, maxLocals := 1, code := jdk_42_method_152_code, exceptionTable := #[], attributes := #[] }
def k7m10 : Method := { name := "coder", desc := "()B", sig := { parameters := [], returnType := some .byte }, accessFlags := 0, code := some k7c10 }
def k7c11 : Code := { maxStack := 1, maxLocals := 1, code := jdk_42_method_154_code, exceptionTable := #[], attributes := #[] }
def k7m11 : Method := { name := "isLatin1", desc := "()Z", sig := { parameters := [], returnType := some .boolean }, accessFlags := 0, code := some k7c11 }
def k7c12 : Code := { maxStack := 3, maxLocals := 2, code := jdk_42_method_155_code, exceptionTable := #[], attributes := #[] }
def k7m12 : Method := { name := "checkIndex", desc := "(II)V", sig := { parameters := [.int, .int], returnType := none }, accessFlags := 8, code := some k7c12 }
/-- java/lang/String -/
def k7 : Class := { plain "java/lang/String" (some 0) with
  accessFlags := 49
  interfaces := #[2, 3, 4, 5, 6]
  cf := some (fileOf pool7 10 #[.nestMembers #[1103]] #[{ accessFlags := 1, nameIndex := 5, descriptorIndex := 6, attributes := #[] }, { accessFlags := 1, nameIndex := 5, descriptorIndex := 1010, attributes := #[] }, { accessFlags := 1, nameIndex := 5, descriptorIndex := 1233, attributes := #[] }, { accessFlags := 1, nameIndex := 507, descriptorIndex := 334, attributes := #[] }, { accessFlags := 1, nameIndex := 497, descriptorIndex := 427, attributes := #[] }, { accessFlags := 9, nameIndex := 782, descriptorIndex := 783, attributes := #[] }, { accessFlags := 0, nameIndex := 532, descriptorIndex := 821, attributes := #[] }, { accessFlags := 2, nameIndex := 5, descriptorIndex := 29, attributes := #[] }, { accessFlags := 0, nameIndex := 5, descriptorIndex := 491, attributes := #[] }, { accessFlags := 0, nameIndex := 5, descriptorIndex := 211, attributes := #[] }, { accessFlags := 0, nameIndex := 17, descriptorIndex := 337, attributes := #[] }, { accessFlags := 0, nameIndex := 494, descriptorIndex := 142, attributes := #[] }, { accessFlags := 8, nameIndex := 501, descriptorIndex := 391, attributes := #[] }] 49 2 #[1106, 1108, 575, 1110, 1112] #[{ accessFlags := 18, nameIndex := 13, descriptorIndex := 14, attributes := #[] }, { accessFlags := 18, nameIndex := 17, descriptorIndex := 18, attributes := #[] }, { accessFlags := 2, nameIndex := 21, descriptorIndex := 22, attributes := #[] }, { accessFlags := 2, nameIndex := 25, descriptorIndex := 26, attributes := #[] }, { accessFlags := 26, nameIndex := 1116, descriptorIndex := 1117, attributes := #[] }, { accessFlags := 24, nameIndex := 40, descriptorIndex := 26, attributes := #[] }, { accessFlags := 26, nameIndex := 1101, descriptorIndex := 1102, attributes := #[] }, { accessFlags := 26, nameIndex := 1121, descriptorIndex := 1122, attributes := #[] }, { accessFlags := 25, nameIndex := 599, descriptorIndex := 600, attributes := #[] }, { accessFlags := 24, nameIndex := 1125, descriptorIndex := 18, attributes := #[] }, { accessFlags := 24, nameIndex := 1127, descriptorIndex := 18, attributes := #[] }])
  fields := #[{ name := "value", type := (.array .byte), accessFlags := 18, slot := 0, constantValue := 0 }, { name := "coder", type := .byte, accessFlags := 18, slot := 1, constantValue := 0 }, { name := "hash", type := .int, accessFlags := 2, slot := 2, constantValue := 0 }, { name := "hashIsZero", type := .boolean, accessFlags := 2, slot := 3, constantValue := 0 }, { name := "serialVersionUID", type := .long, accessFlags := 26, slot := 0, constantValue := 0 }, { name := "COMPACT_STRINGS", type := .boolean, accessFlags := 24, slot := 1, constantValue := 0 }, { name := "serialPersistentFields", type := (.array (.object "java/io/ObjectStreamField")), accessFlags := 26, slot := 2, constantValue := 0 }, { name := "REPL", type := .char, accessFlags := 26, slot := 3, constantValue := 0 }, { name := "CASE_INSENSITIVE_ORDER", type := (.object "java/util/Comparator"), accessFlags := 25, slot := 4, constantValue := 0 }, { name := "LATIN1", type := .byte, accessFlags := 24, slot := 5, constantValue := 0 }, { name := "UTF16", type := .byte, accessFlags := 24, slot := 6, constantValue := 0 }]
  methods := #[k7m0, k7m1, k7m2, k7m3, k7m4, k7m5, k7m6, k7m7, k7m8, k7m9, k7m10, k7m11, k7m12]
  instanceTypes := #[(.array .byte), .byte, .int, .boolean]
  staticTypes := #[.long, .boolean, (.array (.object "java/io/ObjectStreamField")), .char, (.object "java/util/Comparator"), .byte, .byte]
  resolved := Array.replicate 1451 none
  statics := some 0 }

def pool8 : Array CpInfo := pool [(1, .class_ 2), (0, u "java/lang/String"), (1, .class_ 6), (1, u "java/lang/Object"), (0, u "<init>"), (0, u "()V"), (0, .methodref 1 10), (0, .nameAndType 11 12), (0, u "checkIndex"), (0, u "(II)V"), (1, .class_ 16), (1, u "java/lang/StringLatin1"), (36, u "([BI)C"), (36, u "canEncode"), (14, u "(C)Z"), (15, u "$assertionsDisabled"), (0, u "Z"), (98, .class_ 223), (1, u "java/lang/StringLatin1$LinesSpliterator"), (28, u "charAt"), (127, u "toBytes"), (1, u "(C)[B"), (7, .class_ 391), (0, u "java/lang/StringLatin1$CharsSpliterator")] 3

def k8m0 : Method := { name := "<init>", desc := "()V", sig := { parameters := [], returnType := none }, accessFlags := 0, code := none }
def k8c1 : Code := { maxStack := 2, maxLocals := 2, code := jdk_43_method_2_code, exceptionTable := #[], attributes := #[] }
def k8m1 : Method := { name := "charAt", desc := "([BI)C", sig := { parameters := [(.array .byte), .int], returnType := some .char }, accessFlags := 9, code := some k8c1 }
def k8c2 : Code := { maxStack := 2, maxLocals := 1, code := jdk_43_method_3_code, exceptionTable := #[], attributes := #[] }
def k8m2 : Method := { name := "canEncode", desc := "(C)Z", sig := { parameters := [.char], returnType := some .boolean }, accessFlags := 9, code := some k8c2 }
def k8c3 : Code := { maxStack := 4, maxLocals := 1, code := jdk_43_method_46_code, exceptionTable := #[], attributes := #[] }
def k8m3 : Method := { name := "toBytes", desc := "(C)[B", sig := { parameters := [.char], returnType := some (.array .byte) }, accessFlags := 9, code := some k8c3 }
/-- java/lang/StringLatin1 -/
def k8 : Class := { plain "java/lang/StringLatin1" (some 0) with
  accessFlags := 48
  interfaces := #[]
  cf := some (fileOf pool8 14 #[.nestMembers #[390, 221]] #[{ accessFlags := 0, nameIndex := 7, descriptorIndex := 8, attributes := #[] }, { accessFlags := 9, nameIndex := 252, descriptorIndex := 53, attributes := #[] }, { accessFlags := 9, nameIndex := 90, descriptorIndex := 105, attributes := #[] }, { accessFlags := 9, nameIndex := 380, descriptorIndex := 382, attributes := #[] }] 48 4 #[] #[{ accessFlags := 4120, nameIndex := 121, descriptorIndex := 122, attributes := #[] }])
  fields := #[{ name := "$assertionsDisabled", type := .boolean, accessFlags := 4120, slot := 0, constantValue := 0 }]
  methods := #[k8m0, k8m1, k8m2, k8m3]
  instanceTypes := #[]
  staticTypes := #[.boolean]
  resolved := Array.replicate 395 none
  statics := none }

def pool9 : Array CpInfo := pool [(1, .methodref 2 3), (0, .class_ 4), (0, .nameAndType 5 6), (0, u "java/lang/Object"), (0, u "<init>"), (0, u "()V"), (0, .fieldref 8 9), (0, .class_ 10), (0, .nameAndType 11 12), (0, u "com/example/holdfast/holdfast/LockLost"), (0, u "lockName"), (0, u "Ljava/lang/String;"), (0, .fieldref 8 14), (0, .nameAndType 15 16), (0, u "fencingToken"), (0, u "J"), (0, .string 18), (0, u ""), (0, .class_ 20), (0, u "java/lang/StringBuilder"), (0, .methodref 19 3), (0, .string 23), (0, u ", fencing token "), (0, .methodref 19 25), (0, .nameAndType 26 27), (0, u "append"), (0, u "(Ljava/lang/String;)Ljava/lang/StringBuilder;"), (0, .methodref 19 29), (0, .nameAndType 26 30), (0, u "(J)Ljava/lang/StringBuilder;"), (0, .methodref 19 32), (0, .nameAndType 33 34), (0, u "toString"), (0, u "()Ljava/lang/String;"), (0, .string 36), (0, u "LockLost["), (0, .string 38), (0, u "]"), (0, u "(Ljava/lang/String;J)V")] 8

def k9c0 : Code := { maxStack := 3, maxLocals := 4, code := prog_4_method_1_code, exceptionTable := #[], attributes := #[] }
def k9m0 : Method := { name := "<init>", desc := "(Ljava/lang/String;J)V", sig := { parameters := [(.object "java/lang/String"), .long], returnType := none }, accessFlags := 0, code := some k9c0 }
def k9c1 : Code := { maxStack := 4, maxLocals := 2, code := prog_4_method_4_code, exceptionTable := #[], attributes := #[] }
def k9m1 : Method := { name := "toString", desc := "()Ljava/lang/String;", sig := { parameters := [], returnType := some (.object "java/lang/String") }, accessFlags := 1, code := some k9c1 }
/-- com/example/holdfast/holdfast/LockLost -/
def k9 : Class := { plain "com/example/holdfast/holdfast/LockLost" (some 0) with
  accessFlags := 49
  interfaces := #[]
  cf := some (fileOf pool9 8 #[] #[{ accessFlags := 0, nameIndex := 5, descriptorIndex := 39, attributes := #[] }, { accessFlags := 1, nameIndex := 33, descriptorIndex := 34, attributes := #[] }] 49 2 #[] #[{ accessFlags := 18, nameIndex := 11, descriptorIndex := 12, attributes := #[] }, { accessFlags := 18, nameIndex := 15, descriptorIndex := 16, attributes := #[] }])
  fields := #[{ name := "lockName", type := (.object "java/lang/String"), accessFlags := 18, slot := 0, constantValue := 0 }, { name := "fencingToken", type := .long, accessFlags := 18, slot := 1, constantValue := 0 }]
  methods := #[k9m0, k9m1]
  instanceTypes := #[(.object "java/lang/String"), .long]
  staticTypes := #[]
  resolved := Array.replicate 48 none
  statics := none }

def pool10 : Array CpInfo := pool [(1, .class_ 2), (0, u "java/lang/Appendable"), (0, .class_ 4), (0, u "java/lang/Object")] 9

/-- java/lang/Appendable -/
def k10 : Class := { plain "java/lang/Appendable" (some 0) with
  accessFlags := 1537
  interfaces := #[]
  cf := some (fileOf pool10 1 #[] #[] 1537 3 #[] #[])
  fields := #[]
  methods := #[]
  instanceTypes := #[]
  staticTypes := #[]
  resolved := Array.replicate 14 none
  statics := none }

def pool11 : Array CpInfo := pool [(1, .class_ 2), (0, u "java/lang/String"), (0, .methodref 4 5), (0, .class_ 6), (0, .nameAndType 7 8), (0, u "java/lang/Object"), (0, u "<init>"), (0, u "()V"), (1, .class_ 12), (1, u "java/lang/AbstractStringBuilder"), (0, u "EMPTYVALUE"), (0, u "[B"), (0, .fieldref 10 16), (0, .nameAndType 17 14), (0, u "value"), (0, .fieldref 1 19), (0, .nameAndType 20 21), (0, u "COMPACT_STRINGS"), (0, u "Z"), (0, .fieldref 10 23), (0, .nameAndType 24 25), (0, u "coder"), (0, u "B"), (6, .methodref 1 33), (0, .nameAndType 34 35), (0, u "length"), (0, u "()I"), (3, .integer 2147483647), (0, .methodref 1 41), (0, .nameAndType 24 42), (0, u "()B"), (2, u "append"), (0, u "(Ljava/lang/String;)Ljava/lang/AbstractStringBuilder;"), (1, .class_ 49), (0, u "java/lang/CharSequence"), (19, u "(Ljava/lang/String;)V"), (5, u "maybeLatin1"), (3, .fieldref 10 80), (0, .nameAndType 81 82), (0, u "count"), (0, u "I"), (0, .methodref 10 84), (0, .nameAndType 85 86), (0, u "isLatin1"), (0, u "()Z"), (13, .methodref 10 101), (0, .nameAndType 102 103), (0, u "ensureCapacityInternal"), (0, u "(I)V"), (0, .methodref 10 105), (0, .nameAndType 106 107), (0, u "newCapacity"), (0, u "(I)I"), (0, .methodref 109 110), (0, .class_ 111), (0, .nameAndType 112 113), (0, u "java/util/Arrays"), (0, u "copyOf"), (0, u "([BI)[B"), (0, .methodref 115 116), (0, .class_ 117), (0, .nameAndType 118 119), (0, u "jdk/internal/util/ArraysSupport"), (0, u "newLength"), (0, u "(III)I"), (68, u "getChars"), (19, .methodref 10 209), (0, .nameAndType 210 211), (0, u "putStringAt"), (0, u "(ILjava/lang/String;)V"), (5, u "inflateIfNeededFor"), (2, .nameAndType 221 222), (0, u "getBytes"), (0, u "([BIB)V"), (24, u "stringSize"), (6, .methodref 255 256), (0, .class_ 257), (0, .nameAndType 247 258), (0, u "java/lang/Long"), (0, u "(J)I"), (0, .methodref 255 260), (0, .nameAndType 188 261), (0, u "(JI[B)I"), (135, .methodref 10 398), (0, .nameAndType 217 69), (0, .methodref 1 220), (3, u "()[B"), (40, .class_ 445), (0, u "java/lang/Appendable"), (67, u "(J)Ljava/lang/AbstractStringBuilder;"), (38, u "getValue")] 56

def k11m0 : Method := { name := "<init>", desc := "()V", sig := { parameters := [], returnType := none }, accessFlags := 0, code := none }
def k11c1 : Code := { maxStack := 2, maxLocals := 2, code := jdk_68_method_2_code, exceptionTable := #[], attributes := #[] }
def k11m1 : Method := { name := "<init>", desc := "(I)V", sig := { parameters := [.int], returnType := none }, accessFlags := 0, code := some k11c1 }
def k11c2 : Code := { maxStack := 1, maxLocals := 1, code := jdk_68_method_6_code, exceptionTable := #[], attributes := #[] }
def k11m2 : Method := { name := "length", desc := "()I", sig := { parameters := [], returnType := some .int }, accessFlags := 1, code := some k11c2 }
def k11c3 : Code := { maxStack := 4, maxLocals := 3, code := jdk_68_method_9_code, exceptionTable := #[], attributes := #[] }
def k11m3 : Method := { name := "ensureCapacityInternal", desc := "(I)V", sig := { parameters := [.int], returnType := none }, accessFlags := 2, code := some k11c3 }
def k11c4 : Code := { maxStack := 5, maxLocals := 6, code := jdk_68_method_10_code, exceptionTable := #[], attributes := #[] }
def k11m4 : Method := { name := "newCapacity", desc := "(I)I", sig := { parameters := [.int], returnType := some .int }, accessFlags := 2, code := some k11c4 }
def k11c5 : Code := { maxStack := 3, maxLocals := 3, code := jdk_68_method_22_code, exceptionTable := #[], attributes := #[] }
def k11m5 : Method := { name := "append", desc := "(Ljava/lang/String;)Ljava/lang/AbstractStringBuilder;", sig := { parameters := [(.object "java/lang/String")], returnType := some (.object "java/lang/AbstractStringBuilder") }, accessFlags := 1, code := some k11c5 }
def k11c6 : Code := { maxStack := 5, maxLocals := 5, code := jdk_68_method_33_code, exceptionTable := #[], attributes := #[] }
def k11m6 : Method := { name := "append", desc := "(J)Ljava/lang/AbstractStringBuilder;", sig := { parameters := [.long], returnType := some (.object "java/lang/AbstractStringBuilder") }, accessFlags := 1, code := some k11c6 }
def k11c7 : Code := { maxStack := 1, maxLocals := 1, code := jdk_68_method_64_code, exceptionTable := #[], attributes := #[] }
def k11m7 : Method := { name := "getValue", desc := "()[B", sig := { parameters := [], returnType := some (.array .byte) }, accessFlags := 16, code := some k11c7 }
def k11c8 : Code := { maxStack := 1, maxLocals := 1, code := jdk_68_method_68_code, exceptionTable := #[], attributes := #[] }
def k11m8 : Method := { name := "isLatin1", desc := "()Z", sig := { parameters := [], returnType := some .boolean }, accessFlags := 16, code := some k11c8 }
def k11c9 : Code := { maxStack := 2, maxLocals := 2, code := jdk_68_method_71_code, exceptionTable := #[], attributes := #[] }
def k11m9 : Method := { name := "inflateIfNeededFor", desc := "(Ljava/lang/String;)V", sig := { parameters := [(.object "java/lang/String")], returnType := none }, accessFlags := 2, code := some k11c9 }
def k11c10 : Code := { maxStack := 4, maxLocals := 3, code := jdk_68_method_73_code, exceptionTable := #[], attributes := #[] }
def k11m10 : Method := { name := "putStringAt", desc := "(ILjava/lang/String;)V", sig := { parameters := [.int, (.object "java/lang/String")], returnType := none }, accessFlags := 2, code := some k11c10 }
/-- java/lang/AbstractStringBuilder -/
def k11 : Class := { plain "java/lang/AbstractStringBuilder" (some 0) with
  accessFlags := 1056
  interfaces := #[10, 4]
  cf := some (fileOf pool11 10 #[] #[{ accessFlags := 0, nameIndex := 7, descriptorIndex := 8, attributes := #[] }, { accessFlags := 0, nameIndex := 7, descriptorIndex := 103, attributes := #[] }, { accessFlags := 1, nameIndex := 34, descriptorIndex := 35, attributes := #[] }, { accessFlags := 2, nameIndex := 102, descriptorIndex := 103, attributes := #[] }, { accessFlags := 2, nameIndex := 106, descriptorIndex := 107, attributes := #[] }, { accessFlags := 1, nameIndex := 45, descriptorIndex := 46, attributes := #[] }, { accessFlags := 1, nameIndex := 45, descriptorIndex := 513, attributes := #[] }, { accessFlags := 16, nameIndex := 552, descriptorIndex := 403, attributes := #[] }, { accessFlags := 16, nameIndex := 85, descriptorIndex := 86, attributes := #[] }, { accessFlags := 2, nameIndex := 217, descriptorIndex := 69, attributes := #[] }, { accessFlags := 2, nameIndex := 210, descriptorIndex := 211, attributes := #[] }] 1056 4 #[444, 48] #[{ accessFlags := 0, nameIndex := 17, descriptorIndex := 14, attributes := #[] }, { accessFlags := 0, nameIndex := 24, descriptorIndex := 25, attributes := #[] }, { accessFlags := 0, nameIndex := 75, descriptorIndex := 21, attributes := #[] }, { accessFlags := 0, nameIndex := 81, descriptorIndex := 82, attributes := #[] }, { accessFlags := 26, nameIndex := 13, descriptorIndex := 14, attributes := #[] }])
  fields := #[{ name := "value", type := (.array .byte), accessFlags := 0, slot := 0, constantValue := 0 }, { name := "coder", type := .byte, accessFlags := 0, slot := 1, constantValue := 0 }, { name := "maybeLatin1", type := .boolean, accessFlags := 0, slot := 2, constantValue := 0 }, { name := "count", type := .int, accessFlags := 0, slot := 3, constantValue := 0 }, { name := "EMPTYVALUE", type := (.array .byte), accessFlags := 26, slot := 0, constantValue := 0 }]
  methods := #[k11m0, k11m1, k11m2, k11m3, k11m4, k11m5, k11m6, k11m7, k11m8, k11m9, k11m10]
  instanceTypes := #[(.array .byte), .byte, .boolean, .int]
  staticTypes := #[(.array .byte)]
  resolved := Array.replicate 609 none
  statics := none }

def pool12 : Array CpInfo := pool [(1, .methodref 2 3), (0, .class_ 4), (0, .nameAndType 5 6), (0, u "java/lang/AbstractStringBuilder"), (0, u "<init>"), (0, u "(I)V"), (11, .class_ 20), (1, u "java/lang/String"), (3, .class_ 26), (1, u "java/lang/StringBuilder"), (0, u "append"), (0, u "(Ljava/lang/String;)Ljava/lang/StringBuilder;"), (0, .methodref 2 30), (0, .nameAndType 27 31), (0, u "(Ljava/lang/String;)Ljava/lang/AbstractStringBuilder;"), (24, .methodref 2 57), (0, .nameAndType 27 58), (0, u "(J)Ljava/lang/AbstractStringBuilder;"), (78, .methodref 18 138), (0, .nameAndType 5 139), (0, u "(Ljava/lang/StringBuilder;)V"), (5, u "()V"), (10, u "()I"), (124, u "(J)Ljava/lang/StringBuilder;"), (61, .methodref 2 344), (0, .nameAndType 345 156), (0, u "length"), (3, .class_ 350), (0, u "java/lang/Appendable"), (0, .class_ 352), (0, u "java/io/Serializable"), (0, .class_ 354), (0, u "java/lang/Comparable"), (0, .class_ 356), (0, u "java/lang/CharSequence"), (0, u "serialVersionUID"), (0, u "J"), (40, u "toString"), (0, u "()Ljava/lang/String;")] 21

def k12c0 : Code := { maxStack := 2, maxLocals := 1, code := jdk_67_method_1_code, exceptionTable := #[], attributes := #[] }
def k12m0 : Method := { name := "<init>", desc := "()V", sig := { parameters := [], returnType := none }, accessFlags := 1, code := some k12c0 }
def k12c1 : Code := { maxStack := 2, maxLocals := 2, code := jdk_67_method_7_code, exceptionTable := #[], attributes := #[] }
def k12m1 : Method := { name := "append", desc := "(Ljava/lang/String;)Ljava/lang/StringBuilder;", sig := { parameters := [(.object "java/lang/String")], returnType := some (.object "java/lang/StringBuilder") }, accessFlags := 1, code := some k12c1 }
def k12c2 : Code := { maxStack := 3, maxLocals := 3, code := jdk_67_method_16_code, exceptionTable := #[], attributes := #[] }
def k12m2 : Method := { name := "append", desc := "(J)Ljava/lang/StringBuilder;", sig := { parameters := [.long], returnType := some (.object "java/lang/StringBuilder") }, accessFlags := 1, code := some k12c2 }
def k12c3 : Code := { maxStack := 3, maxLocals := 1, code := jdk_67_method_42_code, exceptionTable := #[], attributes := #[] }
def k12m3 : Method := { name := "toString", desc := "()Ljava/lang/String;", sig := { parameters := [], returnType := some (.object "java/lang/String") }, accessFlags := 1, code := some k12c3 }
def k12c4 : Code := { maxStack := 1, maxLocals := 1, code := jdk_67_method_93_code, exceptionTable := #[], attributes := #[] }
def k12m4 : Method := { name := "length", desc := "()I", sig := { parameters := [], returnType := some .int }, accessFlags := 4161, code := some k12c4 }
/-- java/lang/StringBuilder -/
def k12 : Class := { plain "java/lang/StringBuilder" (some 11) with
  accessFlags := 49
  interfaces := #[10, 2, 3, 4]
  cf := some (fileOf pool12 24 #[] #[{ accessFlags := 1, nameIndex := 5, descriptorIndex := 145, attributes := #[] }, { accessFlags := 1, nameIndex := 27, descriptorIndex := 28, attributes := #[] }, { accessFlags := 1, nameIndex := 27, descriptorIndex := 281, attributes := #[] }, { accessFlags := 1, nameIndex := 399, descriptorIndex := 400, attributes := #[] }, { accessFlags := 4161, nameIndex := 345, descriptorIndex := 156, attributes := #[] }] 49 2 #[349, 351, 353, 355] #[{ accessFlags := 24, nameIndex := 357, descriptorIndex := 358, attributes := #[] }])
  fields := #[{ name := "serialVersionUID", type := .long, accessFlags := 24, slot := 0, constantValue := 0 }]
  methods := #[k12m0, k12m1, k12m2, k12m3, k12m4]
  instanceTypes := #[(.array .byte), .byte, .boolean, .int]
  staticTypes := #[.long]
  resolved := Array.replicate 422 none
  statics := none }

def pool13 : Array CpInfo := pool [(2, .class_ 4), (1, u "java/lang/Object"), (0, u "<init>"), (0, u "()V"), (1, .class_ 10), (1, u "java/lang/System"), (0, u "allowSecurityManager"), (0, u "I"), (16, u "cons"), (0, u "Ljava/io/Console;"), (77, .class_ 110), (1, u "java/lang/System$CallersHolder"), (43, u "initialErrStream"), (0, u "Ljava/io/PrintStream;"), (19, u "security"), (0, u "Ljava/lang/SecurityManager;"), (31, .class_ 209), (0, u "java/lang/System$1"), (7, u "props"), (0, u "Ljava/util/Properties;"), (2, u "lineSeparator"), (0, u "Ljava/lang/String;"), (96, .class_ 321), (1, u "java/lang/System$LoggerFinder"), (5, .class_ 328), (0, u "java/lang/System$Logger"), (67, u "err"), (2, u "out"), (91, u "notSupportedJnuEncoding"), (15, u "in"), (17, u "initialIn"), (0, u "Ljava/io/InputStream;"), (35, u "bootLayer"), (0, u "Ljava/lang/ModuleLayer;"), (99, .class_ 664), (0, u "java/lang/System$2"), (9, u "NEVER"), (2, u "MAYBE"), (49, u "arraycopy"), (0, u "(Ljava/lang/Object;ILjava/lang/Object;II)V"), (72, .class_ 802), (0, u "java/lang/System$Logger$Level")] 31

def k13m0 : Method := { name := "<init>", desc := "()V", sig := { parameters := [], returnType := none }, accessFlags := 2, code := none }
def k13m1 : Method := { name := "arraycopy", desc := "(Ljava/lang/Object;ILjava/lang/Object;II)V", sig := { parameters := [(.object "java/lang/Object"), .int, (.object "java/lang/Object"), .int, .int], returnType := none }, accessFlags := 265, code := none }
/-- java/lang/System -/
def k13 : Class := { plain "java/lang/System" (some 0) with
  accessFlags := 49
  interfaces := #[]
  cf := some (fileOf pool13 8 #[.nestMembers #[319, 327, 801, 108, 663, 208]] #[{ accessFlags := 2, nameIndex := 5, descriptorIndex := 6, attributes := #[] }, { accessFlags := 265, nameIndex := 727, descriptorIndex := 728, attributes := #[] }] 49 2 #[] #[{ accessFlags := 25, nameIndex := 507, descriptorIndex := 526, attributes := #[] }, { accessFlags := 25, nameIndex := 399, descriptorIndex := 155, attributes := #[] }, { accessFlags := 25, nameIndex := 396, descriptorIndex := 155, attributes := #[] }, { accessFlags := 10, nameIndex := 525, descriptorIndex := 526, attributes := #[] }, { accessFlags := 26, nameIndex := 674, descriptorIndex := 12, attributes := #[] }, { accessFlags := 26, nameIndex := 677, descriptorIndex := 12, attributes := #[] }, { accessFlags := 10, nameIndex := 11, descriptorIndex := 12, attributes := #[] }, { accessFlags := 74, nameIndex := 175, descriptorIndex := 176, attributes := #[] }, { accessFlags := 10, nameIndex := 491, descriptorIndex := 222, attributes := #[] }, { accessFlags := 74, nameIndex := 29, descriptorIndex := 30, attributes := #[] }, { accessFlags := 74, nameIndex := 154, descriptorIndex := 155, attributes := #[] }, { accessFlags := 10, nameIndex := 217, descriptorIndex := 218, attributes := #[] }, { accessFlags := 10, nameIndex := 221, descriptorIndex := 222, attributes := #[] }, { accessFlags := 8, nameIndex := 562, descriptorIndex := 563, attributes := #[] }])
  fields := #[{ name := "in", type := (.object "java/io/InputStream"), accessFlags := 25, slot := 0, constantValue := 0 }, { name := "out", type := (.object "java/io/PrintStream"), accessFlags := 25, slot := 1, constantValue := 0 }, { name := "err", type := (.object "java/io/PrintStream"), accessFlags := 25, slot := 2, constantValue := 0 }, { name := "initialIn", type := (.object "java/io/InputStream"), accessFlags := 10, slot := 3, constantValue := 0 }, { name := "NEVER", type := .int, accessFlags := 26, slot := 4, constantValue := 0 }, { name := "MAYBE", type := .int, accessFlags := 26, slot := 5, constantValue := 0 }, { name := "allowSecurityManager", type := .int, accessFlags := 10, slot := 6, constantValue := 0 }, { name := "security", type := (.object "java/lang/SecurityManager"), accessFlags := 74, slot := 7, constantValue := 0 }, { name := "notSupportedJnuEncoding", type := (.object "java/lang/String"), accessFlags := 10, slot := 8, constantValue := 0 }, { name := "cons", type := (.object "java/io/Console"), accessFlags := 74, slot := 9, constantValue := 0 }, { name := "initialErrStream", type := (.object "java/io/PrintStream"), accessFlags := 74, slot := 10, constantValue := 0 }, { name := "props", type := (.object "java/util/Properties"), accessFlags := 10, slot := 11, constantValue := 0 }, { name := "lineSeparator", type := (.object "java/lang/String"), accessFlags := 10, slot := 12, constantValue := 0 }, { name := "bootLayer", type := (.object "java/lang/ModuleLayer"), accessFlags := 8, slot := 13, constantValue := 0 }]
  methods := #[k13m0, k13m1]
  instanceTypes := #[]
  staticTypes := #[(.object "java/io/InputStream"), (.object "java/io/PrintStream"), (.object "java/io/PrintStream"), (.object "java/io/InputStream"), .int, .int, .int, (.object "java/lang/SecurityManager"), (.object "java/lang/String"), (.object "java/io/Console"), (.object "java/io/PrintStream"), (.object "java/util/Properties"), (.object "java/lang/String"), (.object "java/lang/ModuleLayer")]
  resolved := Array.replicate 834 none
  statics := none }

def pool14 : Array CpInfo := pool [(2, .class_ 4), (1, u "java/lang/Object"), (0, u "<init>"), (0, u "()V"), (1, .class_ 10), (1, u "java/lang/Number"), (2, .class_ 14), (0, u "java/io/Serializable"), (0, u "serialVersionUID"), (0, u "J")] 20

def k14m0 : Method := { name := "<init>", desc := "()V", sig := { parameters := [], returnType := none }, accessFlags := 1, code := none }
/-- java/lang/Number -/
def k14 : Class := { plain "java/lang/Number" (some 0) with
  accessFlags := 1057
  interfaces := #[2]
  cf := some (fileOf pool14 8 #[] #[{ accessFlags := 1, nameIndex := 5, descriptorIndex := 6, attributes := #[] }] 1057 2 #[13] #[{ accessFlags := 26, nameIndex := 15, descriptorIndex := 16, attributes := #[] }])
  fields := #[{ name := "serialVersionUID", type := .long, accessFlags := 26, slot := 0, constantValue := 0 }]
  methods := #[k14m0]
  instanceTypes := #[]
  staticTypes := #[.long]
  resolved := Array.replicate 37 none
  statics := none }

def pool15 : Array CpInfo := pool [(1, .class_ 2), (0, u "java/lang/Long"), (15, .class_ 20), (1, u "java/lang/Integer"), (32, .long 10), (47, u "(J)I"), (18, u "stringSize"), (2, u "getChars"), (0, u "(JI[B)I"), (4, .long 18446744071562067968), (1, .long 100), (1, .fieldref 18 134), (0, .nameAndType 135 136), (0, u "DigitOnes"), (0, u "[B"), (0, .fieldref 18 138), (0, .nameAndType 139 136), (0, u "DigitTens"), (0, .long 18446744073709551606), (94, .class_ 237), (1, u "java/lang/Long$LongCache"), (33, .class_ 272), (0, u "java/lang/Number"), (2, u "value"), (0, u "J"), (84, u "TYPE"), (0, u "Ljava/lang/Class;"), (0, .class_ 364), (0, u "java/lang/Comparable"), (0, .class_ 366), (0, u "java/lang/constant/Constable"), (0, .class_ 368), (0, u "java/lang/constant/ConstantDesc"), (0, u "MIN_VALUE"), (1, u "MAX_VALUE"), (4, u "SIZE"), (0, u "I"), (1, u "BYTES"), (1, u "serialVersionUID")] 142

def k15c0 : Code := { maxStack := 4, maxLocals := 11, code := jdk_35_method_14_code, exceptionTable := #[], attributes := #[] }
def k15m0 : Method := { name := "getChars", desc := "(JI[B)I", sig := { parameters := [.long, .int, (.array .byte)], returnType := some .int }, accessFlags := 8, code := some k15c0 }
def k15c1 : Code := { maxStack := 4, maxLocals := 6, code := jdk_35_method_15_code, exceptionTable := #[], attributes := #[] }
def k15m1 : Method := { name := "stringSize", desc := "(J)I", sig := { parameters := [.long], returnType := some .int }, accessFlags := 8, code := some k15c1 }
/-- java/lang/Long -/
def k15 : Class := { plain "java/lang/Long" (some 14) with
  accessFlags := 49
  interfaces := #[3, 5, 6]
  cf := some (fileOf pool15 1 #[.nestMembers #[235]] #[{ accessFlags := 8, nameIndex := 123, descriptorIndex := 124, attributes := #[] }, { accessFlags := 8, nameIndex := 120, descriptorIndex := 101, attributes := #[] }] 49 271 #[363, 365, 367] #[{ accessFlags := 25, nameIndex := 369, descriptorIndex := 276, attributes := #[] }, { accessFlags := 25, nameIndex := 371, descriptorIndex := 276, attributes := #[] }, { accessFlags := 25, nameIndex := 361, descriptorIndex := 362, attributes := #[] }, { accessFlags := 18, nameIndex := 275, descriptorIndex := 276, attributes := #[] }, { accessFlags := 25, nameIndex := 376, descriptorIndex := 377, attributes := #[] }, { accessFlags := 25, nameIndex := 379, descriptorIndex := 377, attributes := #[] }, { accessFlags := 26, nameIndex := 381, descriptorIndex := 276, attributes := #[] }])
  fields := #[{ name := "MIN_VALUE", type := .long, accessFlags := 25, slot := 0, constantValue := 0 }, { name := "MAX_VALUE", type := .long, accessFlags := 25, slot := 1, constantValue := 0 }, { name := "TYPE", type := (.object "java/lang/Class"), accessFlags := 25, slot := 2, constantValue := 0 }, { name := "value", type := .long, accessFlags := 18, slot := 0, constantValue := 0 }, { name := "SIZE", type := .int, accessFlags := 25, slot := 3, constantValue := 0 }, { name := "BYTES", type := .int, accessFlags := 25, slot := 4, constantValue := 0 }, { name := "serialVersionUID", type := .long, accessFlags := 26, slot := 5, constantValue := 0 }]
  methods := #[k15m0, k15m1]
  instanceTypes := #[.long]
  staticTypes := #[.long, .long, (.object "java/lang/Class"), .int, .int, .long]
  resolved := Array.replicate 524 none
  statics := none }

def pool16 : Array CpInfo := pool [(9, u "<init>"), (6, .class_ 18), (1, u "java/lang/Object"), (0, u "()V"), (1, .class_ 23), (1, u "jdk/internal/util/ArraysSupport"), (0, u "LOG2_ARRAY_LONG_INDEX_SCALE"), (0, u "I"), (2, u "U"), (0, u "Ljdk/internal/misc/Unsafe;"), (8, u "BIG_ENDIAN"), (0, u "Z"), (8, u "LOG2_BYTE_BIT_SIZE"), (4, u "LOG2_ARRAY_INT_INDEX_SCALE"), (54, u "JLA"), (0, u "Ljdk/internal/access/JavaLangAccess;"), (11, u "LOG2_ARRAY_BOOLEAN_INDEX_SCALE"), (9, u "LOG2_ARRAY_BYTE_INDEX_SCALE"), (5, u "LOG2_ARRAY_CHAR_INDEX_SCALE"), (5, u "LOG2_ARRAY_SHORT_INDEX_SCALE"), (18, u "LOG2_ARRAY_FLOAT_INDEX_SCALE"), (24, u "LOG2_ARRAY_DOUBLE_INDEX_SCALE"), (6, .methodref 195 196), (0, .class_ 197), (0, .nameAndType 198 199), (0, u "java/lang/Math"), (0, u "max"), (0, u "(II)I"), (0, .integer 2147483639), (76, u "T_BOOLEAN"), (2, u "T_CHAR"), (1, u "T_FLOAT"), (1, u "T_DOUBLE"), (1, u "T_BYTE"), (1, u "T_SHORT"), (1, u "T_INT"), (1, u "T_LONG"), (1, u "SOFT_MAX_ARRAY_LENGTH"), (56, u "newLength"), (0, u "(III)I")] 25

def k16m0 : Method := { name := "<init>", desc := "()V", sig := { parameters := [], returnType := none }, accessFlags := 2, code := none }
def k16c1 : Code := { maxStack := 3, maxLocals := 4, code := jdk_48_method_27_code, exceptionTable := #[], attributes := #[] }
def k16m1 : Method := { name := "newLength", desc := "(III)I", sig := { parameters := [.int, .int, .int], returnType := some .int }, accessFlags := 9, code := some k16c1 }
/-- jdk/internal/util/ArraysSupport -/
def k16 : Class := { plain "jdk/internal/util/ArraysSupport" (some 0) with
  accessFlags := 33
  interfaces := #[]
  cf := some (fileOf pool16 21 #[] #[{ accessFlags := 2, nameIndex := 9, descriptorIndex := 19, attributes := #[] }, { accessFlags := 9, nameIndex := 351, descriptorIndex := 352, attributes := #[] }] 33 16 #[] #[{ accessFlags := 24, nameIndex := 28, descriptorIndex := 29, attributes := #[] }, { accessFlags := 26, nameIndex := 38, descriptorIndex := 39, attributes := #[] }, { accessFlags := 25, nameIndex := 121, descriptorIndex := 25, attributes := #[] }, { accessFlags := 25, nameIndex := 131, descriptorIndex := 25, attributes := #[] }, { accessFlags := 25, nameIndex := 137, descriptorIndex := 25, attributes := #[] }, { accessFlags := 25, nameIndex := 143, descriptorIndex := 25, attributes := #[] }, { accessFlags := 25, nameIndex := 53, descriptorIndex := 25, attributes := #[] }, { accessFlags := 25, nameIndex := 24, descriptorIndex := 25, attributes := #[] }, { accessFlags := 25, nameIndex := 162, descriptorIndex := 25, attributes := #[] }, { accessFlags := 25, nameIndex := 187, descriptorIndex := 25, attributes := #[] }, { accessFlags := 26, nameIndex := 48, descriptorIndex := 25, attributes := #[] }, { accessFlags := 25, nameIndex := 277, descriptorIndex := 25, attributes := #[] }, { accessFlags := 25, nameIndex := 280, descriptorIndex := 25, attributes := #[] }, { accessFlags := 25, nameIndex := 282, descriptorIndex := 25, attributes := #[] }, { accessFlags := 25, nameIndex := 284, descriptorIndex := 25, attributes := #[] }, { accessFlags := 25, nameIndex := 286, descriptorIndex := 25, attributes := #[] }, { accessFlags := 25, nameIndex := 288, descriptorIndex := 25, attributes := #[] }, { accessFlags := 25, nameIndex := 290, descriptorIndex := 25, attributes := #[] }, { accessFlags := 25, nameIndex := 292, descriptorIndex := 25, attributes := #[] }, { accessFlags := 26, nameIndex := 108, descriptorIndex := 109, attributes := #[] }, { accessFlags := 25, nameIndex := 294, descriptorIndex := 25, attributes := #[] }])
  fields := #[{ name := "U", type := (.object "jdk/internal/misc/Unsafe"), accessFlags := 24, slot := 0, constantValue := 0 }, { name := "BIG_ENDIAN", type := .boolean, accessFlags := 26, slot := 1, constantValue := 0 }, { name := "LOG2_ARRAY_BOOLEAN_INDEX_SCALE", type := .int, accessFlags := 25, slot := 2, constantValue := 0 }, { name := "LOG2_ARRAY_BYTE_INDEX_SCALE", type := .int, accessFlags := 25, slot := 3, constantValue := 0 }, { name := "LOG2_ARRAY_CHAR_INDEX_SCALE", type := .int, accessFlags := 25, slot := 4, constantValue := 0 }, { name := "LOG2_ARRAY_SHORT_INDEX_SCALE", type := .int, accessFlags := 25, slot := 5, constantValue := 0 }, { name := "LOG2_ARRAY_INT_INDEX_SCALE", type := .int, accessFlags := 25, slot := 6, constantValue := 0 }, { name := "LOG2_ARRAY_LONG_INDEX_SCALE", type := .int, accessFlags := 25, slot := 7, constantValue := 0 }, { name := "LOG2_ARRAY_FLOAT_INDEX_SCALE", type := .int, accessFlags := 25, slot := 8, constantValue := 0 }, { name := "LOG2_ARRAY_DOUBLE_INDEX_SCALE", type := .int, accessFlags := 25, slot := 9, constantValue := 0 }, { name := "LOG2_BYTE_BIT_SIZE", type := .int, accessFlags := 26, slot := 10, constantValue := 0 }, { name := "T_BOOLEAN", type := .int, accessFlags := 25, slot := 11, constantValue := 0 }, { name := "T_CHAR", type := .int, accessFlags := 25, slot := 12, constantValue := 0 }, { name := "T_FLOAT", type := .int, accessFlags := 25, slot := 13, constantValue := 0 }, { name := "T_DOUBLE", type := .int, accessFlags := 25, slot := 14, constantValue := 0 }, { name := "T_BYTE", type := .int, accessFlags := 25, slot := 15, constantValue := 0 }, { name := "T_SHORT", type := .int, accessFlags := 25, slot := 16, constantValue := 0 }, { name := "T_INT", type := .int, accessFlags := 25, slot := 17, constantValue := 0 }, { name := "T_LONG", type := .int, accessFlags := 25, slot := 18, constantValue := 0 }, { name := "JLA", type := (.object "jdk/internal/access/JavaLangAccess"), accessFlags := 26, slot := 19, constantValue := 0 }, { name := "SOFT_MAX_ARRAY_LENGTH", type := .int, accessFlags := 25, slot := 20, constantValue := 0 }]
  methods := #[k16m0, k16m1]
  instanceTypes := #[]
  staticTypes := #[(.object "jdk/internal/misc/Unsafe"), .boolean, .int, .int, .int, .int, .int, .int, .int, .int, .int, .int, .int, .int, .int, .int, .int, .int, .int, (.object "jdk/internal/access/JavaLangAccess"), .int]
  resolved := Array.replicate 378 none
  statics := none }

def pool17 : Array CpInfo := pool [(1, .class_ 2), (0, u "java/lang/Math"), (1, .class_ 6), (1, u "java/lang/Object"), (0, u "<init>"), (0, u "()V"), (89, .class_ 100), (1, u "java/lang/Math$RandomNumberGeneratorHolder"), (71, u "negativeZeroFloatBits"), (0, u "J"), (2, u "negativeZeroDoubleBits"), (21, u "max"), (2, u "min"), (43, u "$assertionsDisabled"), (0, u "Z"), (88, u "(II)I"), (2, u "twoToTheDoubleScaleDown"), (0, u "D"), (4, u "twoToTheDoubleScaleUp"), (9, u "E"), (3, u "PI"), (2, u "TAU"), (2, u "DEGREES_TO_RADIANS"), (0, u "RADIANS_TO_DEGREES")] 94

def k17m0 : Method := { name := "<init>", desc := "()V", sig := { parameters := [], returnType := none }, accessFlags := 2, code := none }
def k17c1 : Code := { maxStack := 2, maxLocals := 2, code := jdk_29_method_65_code, exceptionTable := #[], attributes := #[] }
def k17m1 : Method := { name := "max", desc := "(II)I", sig := { parameters := [.int, .int], returnType := some .int }, accessFlags := 9, code := some k17c1 }
def k17c2 : Code := { maxStack := 2, maxLocals := 2, code := jdk_29_method_69_code, exceptionTable := #[], attributes := #[] }
def k17m2 : Method := { name := "min", desc := "(II)I", sig := { parameters := [.int, .int], returnType := some .int }, accessFlags := 9, code := some k17c2 }
/-- java/lang/Math -/
def k17 : Class := { plain "java/lang/Math" (some 0) with
  accessFlags := 49
  interfaces := #[]
  cf := some (fileOf pool17 1 #[.nestMembers #[98]] #[{ accessFlags := 2, nameIndex := 7, descriptorIndex := 8, attributes := #[] }, { accessFlags := 9, nameIndex := 198, descriptorIndex := 335, attributes := #[] }, { accessFlags := 9, nameIndex := 201, descriptorIndex := 335, attributes := #[] }] 49 4 #[] #[{ accessFlags := 25, nameIndex := 354, descriptorIndex := 339, attributes := #[] }, { accessFlags := 25, nameIndex := 358, descriptorIndex := 339, attributes := #[] }, { accessFlags := 25, nameIndex := 361, descriptorIndex := 339, attributes := #[] }, { accessFlags := 26, nameIndex := 364, descriptorIndex := 339, attributes := #[] }, { accessFlags := 26, nameIndex := 365, descriptorIndex := 339, attributes := #[] }, { accessFlags := 26, nameIndex := 172, descriptorIndex := 173, attributes := #[] }, { accessFlags := 26, nameIndex := 176, descriptorIndex := 173, attributes := #[] }, { accessFlags := 8, nameIndex := 344, descriptorIndex := 339, attributes := #[] }, { accessFlags := 8, nameIndex := 338, descriptorIndex := 339, attributes := #[] }, { accessFlags := 4120, nameIndex := 245, descriptorIndex := 246, attributes := #[] }])
  fields := #[{ name := "E", type := .double, accessFlags := 25, slot := 0, constantValue := 0 }, { name := "PI", type := .double, accessFlags := 25, slot := 1, constantValue := 0 }, { name := "TAU", type := .double, accessFlags := 25, slot := 2, constantValue := 0 }, { name := "DEGREES_TO_RADIANS", type := .double, accessFlags := 26, slot := 3, constantValue := 0 }, { name := "RADIANS_TO_DEGREES", type := .double, accessFlags := 26, slot := 4, constantValue := 0 }, { name := "negativeZeroFloatBits", type := .long, accessFlags := 26, slot := 5, constantValue := 0 }, { name := "negativeZeroDoubleBits", type := .long, accessFlags := 26, slot := 6, constantValue := 0 }, { name := "twoToTheDoubleScaleUp", type := .double, accessFlags := 8, slot := 7, constantValue := 0 }, { name := "twoToTheDoubleScaleDown", type := .double, accessFlags := 8, slot := 8, constantValue := 0 }, { name := "$assertionsDisabled", type := .boolean, accessFlags := 4120, slot := 9, constantValue := 0 }]
  methods := #[k17m0, k17m1, k17m2]
  instanceTypes := #[]
  staticTypes := #[.double, .double, .double, .double, .double, .long, .long, .double, .double, .boolean]
  resolved := Array.replicate 460 none
  statics := none }

def pool18 : Array CpInfo := pool [(2, .class_ 4), (1, u "java/lang/Object"), (0, u "<init>"), (0, u "()V"), (7, .class_ 16), (1, u "java/util/Arrays"), (57, .class_ 76), (1, u "java/util/Arrays$NaturalOrder"), (32, u "()Ljava/lang/Object;"), (3, .class_ 115), (1, u "java/util/Arrays$LegacyMergeSort"), (1, u "Z"), (10, .nameAndType 129 109), (0, u "clone"), (9, u "copyOfRange"), (10, .methodref 151 152), (0, .class_ 153), (0, .nameAndType 154 155), (0, u "java/lang/System"), (0, u "arraycopy"), (0, u "(Ljava/lang/Object;ILjava/lang/Object;II)V"), (146, u "copyOf"), (1, .methodref 305 306), (0, .class_ 307), (0, .nameAndType 308 309), (0, u "java/lang/Math"), (0, u "min"), (0, u "(II)I"), (0, .methodref 311 128), (0, .class_ 312), (0, u "[B"), (26, .methodref 14 340), (0, .nameAndType 341 342), (0, u "copyOfRangeByte"), (0, u "([BII)[B"), (0, .methodref 14 344), (0, .nameAndType 345 346), (0, u "checkLength"), (0, u "(II)V"), (28, .class_ 376), (0, u "java/util/Arrays$ArrayList"), (68, u "$assertionsDisabled"), (269, u "MIN_ARRAY_SORT_GRAN"), (0, u "I"), (2, u "INSERTIONSORT_THRESHOLD"), (149, u "([BI)[B"), (105, .class_ 976), (0, u "java/util/Arrays$ArrayItr")] 52

def k18m0 : Method := { name := "<init>", desc := "()V", sig := { parameters := [], returnType := none }, accessFlags := 2, code := none }
def k18c1 : Code := { maxStack := 6, maxLocals := 3, code := jdk_65_method_121_code, exceptionTable := #[], attributes := #[] }
def k18m1 : Method := { name := "copyOf", desc := "([BI)[B", sig := { parameters := [(.array .byte), .int], returnType := some (.array .byte) }, accessFlags := 9, code := some k18c1 }
def k18c2 : Code := { maxStack := 4, maxLocals := 2, code := jdk_65_method_131_code, exceptionTable := #[], attributes := #[] }
def k18m2 : Method := { name := "checkLength", desc := "(II)V", sig := { parameters := [.int, .int], returnType := none }, accessFlags := 10, code := some k18c2 }
def k18c3 : Code := { maxStack := 3, maxLocals := 3, code := jdk_65_method_132_code, exceptionTable := #[], attributes := #[] }
def k18m3 : Method := { name := "copyOfRange", desc := "([BII)[B", sig := { parameters := [(.array .byte), .int, .int], returnType := some (.array .byte) }, accessFlags := 9, code := some k18c3 }
def k18c4 : Code := { maxStack := 6, maxLocals := 5, code := jdk_65_method_133_code, exceptionTable := #[], attributes := #[] }
def k18m4 : Method := { name := "copyOfRangeByte", desc := "([BII)[B", sig := { parameters := [(.array .byte), .int, .int], returnType := some (.array .byte) }, accessFlags := 10, code := some k18c4 }
/-- java/util/Arrays -/
def k18 : Class := { plain "java/util/Arrays" (some 0) with
  accessFlags := 49
  interfaces := #[]
  cf := some (fileOf pool18 14 #[.nestMembers #[975, 375, 113, 74]] #[{ accessFlags := 2, nameIndex := 5, descriptorIndex := 6, attributes := #[] }, { accessFlags := 9, nameIndex := 302, descriptorIndex := 869, attributes := #[] }, { accessFlags := 10, nameIndex := 345, descriptorIndex := 346, attributes := #[] }, { accessFlags := 9, nameIndex := 139, descriptorIndex := 342, attributes := #[] }, { accessFlags := 10, nameIndex := 341, descriptorIndex := 342, attributes := #[] }] 49 2 #[] #[{ accessFlags := 26, nameIndex := 715, descriptorIndex := 716, attributes := #[] }, { accessFlags := 26, nameIndex := 719, descriptorIndex := 716, attributes := #[] }, { accessFlags := 4120, nameIndex := 445, descriptorIndex := 117, attributes := #[] }])
  fields := #[{ name := "MIN_ARRAY_SORT_GRAN", type := .int, accessFlags := 26, slot := 0, constantValue := 0 }, { name := "INSERTIONSORT_THRESHOLD", type := .int, accessFlags := 26, slot := 1, constantValue := 0 }, { name := "$assertionsDisabled", type := .boolean, accessFlags := 4120, slot := 2, constantValue := 0 }]
  methods := #[k18m0, k18m1, k18m2, k18m3, k18m4]
  instanceTypes := #[]
  staticTypes := #[.int, .int, .boolean]
  resolved := Array.replicate 1029 none
  statics := none }

def pool19 : Array CpInfo := pool [(1, .class_ 2), (0, u "java/lang/Integer"), (16, u "digits"), (0, u "[C"), (64, u "DigitOnes"), (0, u "[B"), (2, u "DigitTens"), (99, .class_ 190), (0, u "java/lang/Integer$IntegerCache"), (3, u "I"), (8, .class_ 204), (0, u "java/lang/Number"), (2, u "value"), (94, u "TYPE"), (0, u "Ljava/lang/Class;"), (0, .class_ 305), (0, u "java/lang/Comparable"), (0, .class_ 307), (0, u "java/lang/constant/Constable"), (0, .class_ 309), (0, u "java/lang/constant/ConstantDesc"), (0, u "MIN_VALUE"), (1, u "MAX_VALUE"), (3, u "SIZE"), (1, u "BYTES"), (1, u "serialVersionUID"), (0, u "J")] 131

/-- java/lang/Integer -/
def k19 : Class := { plain "java/lang/Integer" (some 14) with
  accessFlags := 49
  interfaces := #[3, 5, 6]
  cf := some (fileOf pool19 1 #[.nestMembers #[189]] #[] 49 203 #[304, 306, 308] #[{ accessFlags := 25, nameIndex := 310, descriptorIndex := 194, attributes := #[] }, { accessFlags := 25, nameIndex := 312, descriptorIndex := 194, attributes := #[] }, { accessFlags := 25, nameIndex := 302, descriptorIndex := 303, attributes := #[] }, { accessFlags := 24, nameIndex := 19, descriptorIndex := 20, attributes := #[] }, { accessFlags := 24, nameIndex := 89, descriptorIndex := 86, attributes := #[] }, { accessFlags := 24, nameIndex := 85, descriptorIndex := 86, attributes := #[] }, { accessFlags := 18, nameIndex := 207, descriptorIndex := 194, attributes := #[] }, { accessFlags := 25, nameIndex := 316, descriptorIndex := 194, attributes := #[] }, { accessFlags := 25, nameIndex := 318, descriptorIndex := 194, attributes := #[] }, { accessFlags := 26, nameIndex := 320, descriptorIndex := 321, attributes := #[] }])
  fields := #[{ name := "MIN_VALUE", type := .int, accessFlags := 25, slot := 0, constantValue := 0 }, { name := "MAX_VALUE", type := .int, accessFlags := 25, slot := 1, constantValue := 0 }, { name := "TYPE", type := (.object "java/lang/Class"), accessFlags := 25, slot := 2, constantValue := 0 }, { name := "digits", type := (.array .char), accessFlags := 24, slot := 3, constantValue := 0 }, { name := "DigitTens", type := (.array .byte), accessFlags := 24, slot := 4, constantValue := 0 }, { name := "DigitOnes", type := (.array .byte), accessFlags := 24, slot := 5, constantValue := 0 }, { name := "value", type := .int, accessFlags := 18, slot := 0, constantValue := 0 }, { name := "SIZE", type := .int, accessFlags := 25, slot := 6, constantValue := 0 }, { name := "BYTES", type := .int, accessFlags := 25, slot := 7, constantValue := 0 }, { name := "serialVersionUID", type := .long, accessFlags := 26, slot := 8, constantValue := 0 }]
  methods := #[]
  instanceTypes := #[.int]
  staticTypes := #[.int, .int, (.object "java/lang/Class"), (.array .char), (.array .byte), (.array .byte), .int, .int, .long]
  resolved := Array.replicate 453 none
  statics := some 1 }

def pool20 : Array CpInfo := pool [(1, .class_ 2), (0, u "java/lang/Cloneable"), (0, .class_ 4), (0, u "java/lang/Object")] 2

/-- java/lang/Cloneable -/
def k20 : Class := { plain "java/lang/Cloneable" (some 0) with
  accessFlags := 1537
  interfaces := #[]
  cf := some (fileOf pool20 1 #[] #[] 1537 3 #[] #[])
  fields := #[]
  methods := #[]
  instanceTypes := #[]
  staticTypes := #[]
  resolved := Array.replicate 7 none
  statics := none }

def pool21 : Array CpInfo := pool [(2, .class_ 4), (1, u "java/lang/Object"), (0, u "<init>"), (0, u "()V"), (17, .class_ 26), (1, u "jdk/internal/util/Preconditions"), (6, u "checkIndex"), (21, .class_ 56), (0, u "jdk/internal/util/Preconditions$4"), (57, .class_ 115), (0, u "jdk/internal/util/Preconditions$1"), (7, u "SIOOBE_FORMATTER"), (0, u "Ljava/util/function/BiFunction;"), (0, .class_ 126), (0, u "jdk/internal/util/Preconditions$2"), (3, u "AIOOBE_FORMATTER"), (0, .class_ 132), (0, u "jdk/internal/util/Preconditions$3"), (3, u "IOOBE_FORMATTER"), (41, u "(IILjava/util/function/BiFunction;)I")] 15

def k21m0 : Method := { name := "<init>", desc := "()V", sig := { parameters := [], returnType := none }, accessFlags := 1, code := none }
def k21c1 : Code := { maxStack := 3, maxLocals := 3, code := jdk_41_method_11_code, exceptionTable := #[], attributes := #[] }
def k21m1 : Method := { name := "checkIndex", desc := "(IILjava/util/function/BiFunction;)I", sig := { parameters := [.int, .int, (.object "java/util/function/BiFunction")], returnType := some .int }, accessFlags := 9, code := some k21c1 }
/-- jdk/internal/util/Preconditions -/
def k21 : Class := { plain "jdk/internal/util/Preconditions" (some 0) with
  accessFlags := 33
  interfaces := #[]
  cf := some (fileOf pool21 24 #[.nestMembers #[55, 131, 125, 114]] #[{ accessFlags := 1, nameIndex := 5, descriptorIndex := 6, attributes := #[] }, { accessFlags := 9, nameIndex := 33, descriptorIndex := 178, attributes := #[] }] 33 2 #[] #[{ accessFlags := 25, nameIndex := 123, descriptorIndex := 124, attributes := #[] }, { accessFlags := 25, nameIndex := 130, descriptorIndex := 124, attributes := #[] }, { accessFlags := 25, nameIndex := 136, descriptorIndex := 124, attributes := #[] }])
  fields := #[{ name := "SIOOBE_FORMATTER", type := (.object "java/util/function/BiFunction"), accessFlags := 25, slot := 0, constantValue := 0 }, { name := "AIOOBE_FORMATTER", type := (.object "java/util/function/BiFunction"), accessFlags := 25, slot := 1, constantValue := 0 }, { name := "IOOBE_FORMATTER", type := (.object "java/util/function/BiFunction"), accessFlags := 25, slot := 2, constantValue := 0 }]
  methods := #[k21m0, k21m1]
  instanceTypes := #[]
  staticTypes := #[(.object "java/util/function/BiFunction"), (.object "java/util/function/BiFunction"), (.object "java/util/function/BiFunction")]
  resolved := Array.replicate 194 none
  statics := some 2 }

def pool22 : Array CpInfo := pool [(6, .class_ 8), (1, u "java/lang/Object"), (0, u "<init>"), (0, u "()V"), (1, .class_ 14), (1, u "java/lang/StringUTF16"), (31, u "$assertionsDisabled"), (0, u "Z"), (13, u "HI_BYTE_SHIFT"), (0, u "I"), (2, u "LO_BYTE_SHIFT"), (49, .methodref 12 116), (0, .nameAndType 117 118), (0, u "compress"), (0, u "([CI[BII)I"), (3, u "([CII)[B"), (138, u "coderFromArrayLen"), (0, u "([BI)B"), (106, .class_ 371), (1, u "java/lang/StringUTF16$LinesSpliterator"), (58, u "MAX_LENGTH"), (196, .class_ 628), (0, u "java/lang/StringUTF16$CodePointsSpliterator"), (0, .class_ 630), (0, u "java/lang/StringUTF16$CharsSpliterator")] 4

def k22m0 : Method := { name := "<init>", desc := "()V", sig := { parameters := [], returnType := none }, accessFlags := 0, code := none }
def k22c1 : Code := { maxStack := 2, maxLocals := 2, code := jdk_52_method_15_code, exceptionTable := #[], attributes := #[] }
def k22m1 : Method := { name := "coderFromArrayLen", desc := "([BI)B", sig := { parameters := [(.array .byte), .int], returnType := some .byte }, accessFlags := 8, code := some k22c1 }
def k22c2 : Code := { maxStack := 5, maxLocals := 6, code := jdk_52_method_16_code, exceptionTable := #[], attributes := #[] }
def k22m2 : Method := { name := "compress", desc := "([CII)[B", sig := { parameters := [(.array .char), .int, .int], returnType := some (.array .byte) }, accessFlags := 9, code := some k22c2 }
def k22c3 : Code := { maxStack := 3, maxLocals := 7, code := jdk_52_method_21_code, exceptionTable := #[], attributes := #[] }
def k22m3 : Method := { name := "compress", desc := "([CI[BII)I", sig := { parameters := [(.array .char), .int, (.array .byte), .int, .int], returnType := some .int }, accessFlags := 9, code := some k22c3 }
/-- java/lang/StringUTF16 -/
def k22 : Class := { plain "java/lang/StringUTF16" (some 0) with
  accessFlags := 48
  interfaces := #[]
  cf := some (fileOf pool22 12 #[.nestMembers #[627, 629, 369]] #[{ accessFlags := 0, nameIndex := 9, descriptorIndex := 10, attributes := #[] }, { accessFlags := 8, nameIndex := 261, descriptorIndex := 262, attributes := #[] }, { accessFlags := 9, nameIndex := 117, descriptorIndex := 122, attributes := #[] }, { accessFlags := 9, nameIndex := 117, descriptorIndex := 118, attributes := #[] }] 48 6 #[] #[{ accessFlags := 26, nameIndex := 61, descriptorIndex := 62, attributes := #[] }, { accessFlags := 26, nameIndex := 65, descriptorIndex := 62, attributes := #[] }, { accessFlags := 24, nameIndex := 430, descriptorIndex := 62, attributes := #[] }, { accessFlags := 4120, nameIndex := 46, descriptorIndex := 47, attributes := #[] }])
  fields := #[{ name := "HI_BYTE_SHIFT", type := .int, accessFlags := 26, slot := 0, constantValue := 0 }, { name := "LO_BYTE_SHIFT", type := .int, accessFlags := 26, slot := 1, constantValue := 0 }, { name := "MAX_LENGTH", type := .int, accessFlags := 24, slot := 2, constantValue := 0 }, { name := "$assertionsDisabled", type := .boolean, accessFlags := 4120, slot := 3, constantValue := 0 }]
  methods := #[k22m0, k22m1, k22m2, k22m3]
  instanceTypes := #[]
  staticTypes := #[.int, .int, .int, .boolean]
  resolved := Array.replicate 635 none
  statics := none }

/-- the primitive byte -/
def k23 : Class := { plain "byte" none with kind := .primitive 'B', accessFlags := 0x411 }
/-- [B -/
def k24 : Class := { plain "[B" (some 0) with kind := .array 23 .byte, interfaces := #[20, 2], accessFlags := 1041 }

/-- the primitive char -/
def k25 : Class := { plain "char" none with kind := .primitive 'C', accessFlags := 0x411 }
/-- [C -/
def k26 : Class := { plain "[C" (some 0) with kind := .array 25 .char, interfaces := #[20, 2], accessFlags := 1041 }

/-- the primitive int -/
def k27 : Class := { plain "int" none with kind := .primitive 'I', accessFlags := 0x411 }
/-- [I -/
def k28 : Class := { plain "[I" (some 0) with kind := .array 27 .int, interfaces := #[20, 2], accessFlags := 1041 }

def heap : Heap := #[{ cls := 7, slots := #[.long 0, .int 1, .null, .int 0, .null, .int 0, .int 0], vm := .statics 7 },
  { cls := 19, slots := #[.int 0, .int 0, .null, .null, .ref 4, .ref 3, .int 0, .int 0, .long 0], vm := .statics 19 },
  { cls := 21, slots := #[.null, .null, .null], vm := .statics 21 },
  { cls := 24, slots := #[.int 48, .int 49, .int 50, .int 51, .int 52, .int 53, .int 54, .int 55, .int 56, .int 57, .int 48, .int 49, .int 50, .int 51, .int 52, .int 53, .int 54, .int 55, .int 56, .int 57, .int 48, .int 49, .int 50, .int 51, .int 52, .int 53, .int 54, .int 55, .int 56, .int 57, .int 48, .int 49, .int 50, .int 51, .int 52, .int 53, .int 54, .int 55, .int 56, .int 57, .int 48, .int 49, .int 50, .int 51, .int 52, .int 53, .int 54, .int 55, .int 56, .int 57, .int 48, .int 49, .int 50, .int 51, .int 52, .int 53, .int 54, .int 55, .int 56, .int 57, .int 48, .int 49, .int 50, .int 51, .int 52, .int 53, .int 54, .int 55, .int 56, .int 57, .int 48, .int 49, .int 50, .int 51, .int 52, .int 53, .int 54, .int 55, .int 56, .int 57, .int 48, .int 49, .int 50, .int 51, .int 52, .int 53, .int 54, .int 55, .int 56, .int 57, .int 48, .int 49, .int 50, .int 51, .int 52, .int 53, .int 54, .int 55, .int 56, .int 57], vm := .none },
  { cls := 24, slots := #[.int 48, .int 48, .int 48, .int 48, .int 48, .int 48, .int 48, .int 48, .int 48, .int 48, .int 49, .int 49, .int 49, .int 49, .int 49, .int 49, .int 49, .int 49, .int 49, .int 49, .int 50, .int 50, .int 50, .int 50, .int 50, .int 50, .int 50, .int 50, .int 50, .int 50, .int 51, .int 51, .int 51, .int 51, .int 51, .int 51, .int 51, .int 51, .int 51, .int 51, .int 52, .int 52, .int 52, .int 52, .int 52, .int 52, .int 52, .int 52, .int 52, .int 52, .int 53, .int 53, .int 53, .int 53, .int 53, .int 53, .int 53, .int 53, .int 53, .int 53, .int 54, .int 54, .int 54, .int 54, .int 54, .int 54, .int 54, .int 54, .int 54, .int 54, .int 55, .int 55, .int 55, .int 55, .int 55, .int 55, .int 55, .int 55, .int 55, .int 55, .int 56, .int 56, .int 56, .int 56, .int 56, .int 56, .int 56, .int 56, .int 56, .int 56, .int 57, .int 57, .int 57, .int 57, .int 57, .int 57, .int 57, .int 57, .int 57, .int 57], vm := .none }]
def classes : Array Class := #[k0, k1, k2, k3, k4, k5, k6, k7, k8, k9, k10, k11, k12, k13, k14, k15, k16, k17, k18, k19, k20, k21, k22, k23, k24, k25, k26, k27, k28]
def interned : List (Array UInt16 × Addr) := []
def slotsUsed : Nat := 219
def theMethod : MethodId := ⟨1, 1⟩
def args0 : Array Value := #[.int 65, .int 66, .int 67, .int 2, .long 12345]
def aboutOver (below : List Frame) : State where
  vm := { classes := classes, interned := interned.toArray }
  heap := heap
  slotsUsed := slotsUsed
  threads := #[{ frames := .invoking theMethod args0 :: below }]
def below0 : List Frame := [.native { method := ⟨0, 0⟩, args := #[] }]
def about1 : State := aboutOver below0
def p0 : Program := .bare "" "" ""
def e0 : Env := launch0.env 0 0 0
theorem w_frames : about1.frames = Frame.invoking theMethod args0 :: below0 := rfl
set_option maxRecDepth 65536 in
theorem w_args : argsFit about1.vm theMethod args0 = true := by decide +kernel
set_option maxRecDepth 65536 in
theorem w_heap : heapFits about1 = true := by decide +kernel
set_option maxRecDepth 65536 in
theorem w_runnable : about1.curStatus? = some .runnable := by decide +kernel
set_option maxRecDepth 65536 in
theorem w_alone : about1.alone = true := by decide +kernel
set_option maxRecDepth 65536 in
theorem w_named : about1.methodNamed? x = some theMethod := by decide +kernel
set_option maxRecDepth 65536 in
theorem w_hears : about1.hears theMethod below0 = true := by decide +kernel
set_option maxRecDepth 65536 in
theorem w_ripe : about1.ripe theMethod args0 below0 = true := by decide +kernel
theorem w_running : about1.status = .running := rfl
set_option maxRecDepth 65536 in
theorem w_room : about1.hasRoom e0.platform room_1 = true :=
  launch0.hasRoom_least _ room_1 (by decide +kernel) (by decide +kernel) (by decide +kernel) (by decide +kernel) (by decide +kernel) (by decide +kernel)
theorem allAtoms_all (ts : List Jvm.Cond) (a : Array Jvm.Value) (st : Jvm.State) : (allAtoms ts).before a st = ts.all (fun c => c.before a st) := by
  induction ts with
  | nil => rfl
  | cons c t ih =>
    show (Jvm.Cond.and c (allAtoms t)).before a st = _
    rw [Jvm.Cond.before_and, ih, List.all_cons]
def words1 : List Jvm.Cond := Jvm.Cond.code x code maxLocals ret :: tables_1
/-- a 'code' word, met by the world's own term for the bytes: nothing is compared byte by byte -/
theorem code_word {y : MethodName} {bytes : ByteArray} {mx : Nat} {rt : Option FieldType} {a : Array Value} {s : State} {m : MethodId} {meth : Method} {c : Code} (h1 : s.methodNamed? y = some m) (h2 : s.vm.method? m = some meth) (h3 : meth.code = some c) (h4 : c.code = bytes)
    (h5 : (c.maxLocals == mx && c.exceptionTable.isEmpty && decide (c.maxStack ≤ mostOperands) && decide (meth.sig.returnType = rt) && !meth.locks && decide (parseMethodDescriptor y.desc = some meth.sig)) = true) : (Jvm.Cond.code y bytes mx rt).before a s = true := by
  simp only [Bool.and_eq_true, beq_iff_eq, Bool.not_eq_true', decide_eq_true_eq] at h5
  obtain ⟨⟨⟨⟨⟨g1, g2⟩, g3⟩, g4⟩, g5⟩, g6⟩ := h5
  simp [Cond.before, Cond.holds, Cond.value, h1, h2, h3, h4, g1, g2, g3, g4, g5, g6]
def isCode : Jvm.Cond → Bool
  | .code _ _ _ _ => true
  | _ => false
theorem all_split {L : List Jvm.Cond} {P : Jvm.Cond → Bool} (h1 : L.all (fun c => isCode c || P c) = true) (h2 : ∀ c ∈ L.filter isCode, P c = true) : L.all P = true := by
  refine List.all_eq_true.mpr fun c hc => ?_
  have h := List.all_eq_true.mp h1 c hc
  rcases Bool.eq_false_or_eq_true (isCode c) with hi | hi
  · exact h2 c (List.mem_filter.mpr ⟨hc, hi⟩)
  · simpa [hi] using h
set_option maxRecDepth 65536 in
theorem w_c0 : (Jvm.Cond.code x code maxLocals ret).before args0 about1 = true := code_word (m := ⟨1, 1⟩) (meth := k1m1) (c := k1c1) (by decide +kernel) rfl rfl rfl (by decide +kernel)
set_option maxRecDepth 65536 in
theorem w_c1 : (Jvm.Cond.code ({ cls := "java/lang/String", name := "valueOf", desc := "(C)Ljava/lang/String;" } : Jvm.MethodName) jdk_42_method_139_code (1 : Nat) (Option.some (Jvm.ClassFile.FieldType.object "java/lang/String"))).before args0 about1 = true := code_word (m := ⟨7, 5⟩) (meth := k7m5) (c := k7c5) (by decide +kernel) rfl rfl rfl (by decide +kernel)
set_option maxRecDepth 65536 in
theorem w_c2 : (Jvm.Cond.code ({ cls := "java/lang/StringLatin1", name := "canEncode", desc := "(C)Z" } : Jvm.MethodName) jdk_43_method_3_code (1 : Nat) (Option.some Jvm.ClassFile.FieldType.boolean)).before args0 about1 = true := code_word (m := ⟨8, 2⟩) (meth := k8m2) (c := k8c2) (by decide +kernel) rfl rfl rfl (by decide +kernel)
set_option maxRecDepth 65536 in
theorem w_c3 : (Jvm.Cond.code ({ cls := "java/lang/StringLatin1", name := "toBytes", desc := "(C)[B" } : Jvm.MethodName) jdk_43_method_46_code (1 : Nat) (Option.some (Jvm.ClassFile.FieldType.array Jvm.ClassFile.FieldType.byte))).before args0 about1 = true := code_word (m := ⟨8, 3⟩) (meth := k8m3) (c := k8c3) (by decide +kernel) rfl rfl rfl (by decide +kernel)
set_option maxRecDepth 65536 in
theorem w_c4 : (Jvm.Cond.code ({ cls := "java/lang/String", name := "<init>", desc := "([BB)V" } : Jvm.MethodName) jdk_42_method_151_code (3 : Nat) (Option.none : Option Jvm.ClassFile.FieldType)).before args0 about1 = true := code_word (m := ⟨7, 9⟩) (meth := k7m9) (c := k7c9) (by decide +kernel) rfl rfl rfl (by decide +kernel)
set_option maxRecDepth 65536 in
theorem w_c5 : (Jvm.Cond.code ({ cls := "java/lang/Object", name := "<init>", desc := "()V" } : Jvm.MethodName) object_method_1_code (1 : Nat) (Option.none : Option Jvm.ClassFile.FieldType)).before args0 about1 = true := code_word (m := ⟨0, 0⟩) (meth := k0m0) (c := k0c0) (by decide +kernel) rfl rfl rfl (by decide +kernel)
set_option maxRecDepth 65536 in
theorem w_c6 : (Jvm.Cond.code ({ cls := "com/example/holdfast/holdfast/LockLost", name := "<init>", desc := "(Ljava/lang/String;J)V" } : Jvm.MethodName) prog_4_method_1_code (4 : Nat) (Option.none : Option Jvm.ClassFile.FieldType)).before args0 about1 = true := code_word (m := ⟨9, 0⟩) (meth := k9m0) (c := k9c0) (by decide +kernel) rfl rfl rfl (by decide +kernel)
set_option maxRecDepth 65536 in
theorem w_c7 : (Jvm.Cond.code ({ cls := "com/example/holdfast/holdfast/LockLost", name := "toString", desc := "()Ljava/lang/String;" } : Jvm.MethodName) prog_4_method_4_code (2 : Nat) (Option.some (Jvm.ClassFile.FieldType.object "java/lang/String"))).before args0 about1 = true := code_word (m := ⟨9, 1⟩) (meth := k9m1) (c := k9c1) (by decide +kernel) rfl rfl rfl (by decide +kernel)
set_option maxRecDepth 65536 in
theorem w_c8 : (Jvm.Cond.code ({ cls := "java/lang/StringBuilder", name := "<init>", desc := "()V" } : Jvm.MethodName) jdk_67_method_1_code (1 : Nat) (Option.none : Option Jvm.ClassFile.FieldType)).before args0 about1 = true := code_word (m := ⟨12, 0⟩) (meth := k12m0) (c := k12c0) (by decide +kernel) rfl rfl rfl (by decide +kernel)
set_option maxRecDepth 65536 in
theorem w_c9 : (Jvm.Cond.code ({ cls := "java/lang/AbstractStringBuilder", name := "<init>", desc := "(I)V" } : Jvm.MethodName) jdk_68_method_2_code (2 : Nat) (Option.none : Option Jvm.ClassFile.FieldType)).before args0 about1 = true := code_word (m := ⟨11, 1⟩) (meth := k11m1) (c := k11c1) (by decide +kernel) rfl rfl rfl (by decide +kernel)
set_option maxRecDepth 65536 in
theorem w_c10 : (Jvm.Cond.code ({ cls := "java/lang/StringBuilder", name := "append", desc := "(Ljava/lang/String;)Ljava/lang/StringBuilder;" } : Jvm.MethodName) jdk_67_method_7_code (2 : Nat) (Option.some (Jvm.ClassFile.FieldType.object "java/lang/StringBuilder"))).before args0 about1 = true := code_word (m := ⟨12, 1⟩) (meth := k12m1) (c := k12c1) (by decide +kernel) rfl rfl rfl (by decide +kernel)
set_option maxRecDepth 65536 in
theorem w_c11 : (Jvm.Cond.code ({ cls := "java/lang/AbstractStringBuilder", name := "append", desc := "(Ljava/lang/String;)Ljava/lang/AbstractStringBuilder;" } : Jvm.MethodName) jdk_68_method_22_code (3 : Nat) (Option.some (Jvm.ClassFile.FieldType.object "java/lang/AbstractStringBuilder"))).before args0 about1 = true := code_word (m := ⟨11, 5⟩) (meth := k11m5) (c := k11c5) (by decide +kernel) rfl rfl rfl (by decide +kernel)
set_option maxRecDepth 65536 in
theorem w_c12 : (Jvm.Cond.code ({ cls := "java/lang/String", name := "length", desc := "()I" } : Jvm.MethodName) jdk_42_method_54_code (1 : Nat) (Option.some Jvm.ClassFile.FieldType.int)).before args0 about1 = true := code_word (m := ⟨7, 3⟩) (meth := k7m3) (c := k7c3) (by decide +kernel) rfl rfl rfl (by decide +kernel)
set_option maxRecDepth 65536 in
theorem w_c13 : (Jvm.Cond.code ({ cls := "java/lang/String", name := "coder", desc := "()B" } : Jvm.MethodName) jdk_42_method_152_code (1 : Nat) (Option.some Jvm.ClassFile.FieldType.byte)).before args0 about1 = true := code_word (m := ⟨7, 10⟩) (meth := k7m10) (c := k7c10) (by decide +kernel) rfl rfl rfl (by decide +kernel)
set_option maxRecDepth 65536 in
theorem w_c14 : (Jvm.Cond.code ({ cls := "java/lang/AbstractStringBuilder", name := "ensureCapacityInternal", desc := "(I)V" } : Jvm.MethodName) jdk_68_method_9_code (3 : Nat) (Option.none : Option Jvm.ClassFile.FieldType)).before args0 about1 = true := code_word (m := ⟨11, 3⟩) (meth := k11m3) (c := k11c3) (by decide +kernel) rfl rfl rfl (by decide +kernel)
set_option maxRecDepth 65536 in
theorem w_c15 : (Jvm.Cond.code ({ cls := "java/lang/AbstractStringBuilder", name := "putStringAt", desc := "(ILjava/lang/String;)V" } : Jvm.MethodName) jdk_68_method_73_code (3 : Nat) (Option.none : Option Jvm.ClassFile.FieldType)).before args0 about1 = true := code_word (m := ⟨11, 10⟩) (meth := k11m10) (c := k11c10) (by decide +kernel) rfl rfl rfl (by decide +kernel)
set_option maxRecDepth 65536 in
theorem w_c16 : (Jvm.Cond.code ({ cls := "java/lang/AbstractStringBuilder", name := "inflateIfNeededFor", desc := "(Ljava/lang/String;)V" } : Jvm.MethodName) jdk_68_method_71_code (2 : Nat) (Option.none : Option Jvm.ClassFile.FieldType)).before args0 about1 = true := code_word (m := ⟨11, 9⟩) (meth := k11m9) (c := k11c9) (by decide +kernel) rfl rfl rfl (by decide +kernel)
set_option maxRecDepth 65536 in
theorem w_c17 : (Jvm.Cond.code ({ cls := "java/lang/String", name := "getBytes", desc := "([BIB)V" } : Jvm.MethodName) jdk_42_method_147_code (4 : Nat) (Option.none : Option Jvm.ClassFile.FieldType)).before args0 about1 = true := code_word (m := ⟨7, 6⟩) (meth := k7m6) (c := k7c6) (by decide +kernel) rfl rfl rfl (by decide +kernel)
set_option maxRecDepth 65536 in
theorem w_c18 : (Jvm.Cond.code ({ cls := "java/lang/StringBuilder", name := "append", desc := "(J)Ljava/lang/StringBuilder;" } : Jvm.MethodName) jdk_67_method_16_code (3 : Nat) (Option.some (Jvm.ClassFile.FieldType.object "java/lang/StringBuilder"))).before args0 about1 = true := code_word (m := ⟨12, 2⟩) (meth := k12m2) (c := k12c2) (by decide +kernel) rfl rfl rfl (by decide +kernel)
set_option maxRecDepth 65536 in
theorem w_c19 : (Jvm.Cond.code ({ cls := "java/lang/AbstractStringBuilder", name := "append", desc := "(J)Ljava/lang/AbstractStringBuilder;" } : Jvm.MethodName) jdk_68_method_33_code (5 : Nat) (Option.some (Jvm.ClassFile.FieldType.object "java/lang/AbstractStringBuilder"))).before args0 about1 = true := code_word (m := ⟨11, 6⟩) (meth := k11m6) (c := k11c6) (by decide +kernel) rfl rfl rfl (by decide +kernel)
set_option maxRecDepth 65536 in
theorem w_c20 : (Jvm.Cond.code ({ cls := "java/lang/Long", name := "stringSize", desc := "(J)I" } : Jvm.MethodName) jdk_35_method_15_code (6 : Nat) (Option.some Jvm.ClassFile.FieldType.int)).before args0 about1 = true := code_word (m := ⟨15, 1⟩) (meth := k15m1) (c := k15c1) (by decide +kernel) rfl rfl rfl (by decide +kernel)
set_option maxRecDepth 65536 in
theorem w_c21 : (Jvm.Cond.code ({ cls := "java/lang/AbstractStringBuilder", name := "newCapacity", desc := "(I)I" } : Jvm.MethodName) jdk_68_method_10_code (6 : Nat) (Option.some Jvm.ClassFile.FieldType.int)).before args0 about1 = true := code_word (m := ⟨11, 4⟩) (meth := k11m4) (c := k11c4) (by decide +kernel) rfl rfl rfl (by decide +kernel)
set_option maxRecDepth 65536 in
theorem w_c22 : (Jvm.Cond.code ({ cls := "jdk/internal/util/ArraysSupport", name := "newLength", desc := "(III)I" } : Jvm.MethodName) jdk_48_method_27_code (4 : Nat) (Option.some Jvm.ClassFile.FieldType.int)).before args0 about1 = true := code_word (m := ⟨16, 1⟩) (meth := k16m1) (c := k16c1) (by decide +kernel) rfl rfl rfl (by decide +kernel)
set_option maxRecDepth 65536 in
theorem w_c23 : (Jvm.Cond.code ({ cls := "java/lang/Math", name := "max", desc := "(II)I" } : Jvm.MethodName) jdk_29_method_65_code (2 : Nat) (Option.some Jvm.ClassFile.FieldType.int)).before args0 about1 = true := code_word (m := ⟨17, 1⟩) (meth := k17m1) (c := k17c1) (by decide +kernel) rfl rfl rfl (by decide +kernel)
set_option maxRecDepth 65536 in
theorem w_c24 : (Jvm.Cond.code ({ cls := "java/util/Arrays", name := "copyOf", desc := "([BI)[B" } : Jvm.MethodName) jdk_65_method_121_code (3 : Nat) (Option.some (Jvm.ClassFile.FieldType.array Jvm.ClassFile.FieldType.byte))).before args0 about1 = true := code_word (m := ⟨18, 1⟩) (meth := k18m1) (c := k18c1) (by decide +kernel) rfl rfl rfl (by decide +kernel)
set_option maxRecDepth 65536 in
theorem w_c25 : (Jvm.Cond.code ({ cls := "java/lang/Math", name := "min", desc := "(II)I" } : Jvm.MethodName) jdk_29_method_69_code (2 : Nat) (Option.some Jvm.ClassFile.FieldType.int)).before args0 about1 = true := code_word (m := ⟨17, 2⟩) (meth := k17m2) (c := k17c2) (by decide +kernel) rfl rfl rfl (by decide +kernel)
set_option maxRecDepth 65536 in
theorem w_c26 : (Jvm.Cond.code ({ cls := "java/lang/AbstractStringBuilder", name := "isLatin1", desc := "()Z" } : Jvm.MethodName) jdk_68_method_68_code (1 : Nat) (Option.some Jvm.ClassFile.FieldType.boolean)).before args0 about1 = true := code_word (m := ⟨11, 8⟩) (meth := k11m8) (c := k11c8) (by decide +kernel) rfl rfl rfl (by decide +kernel)
set_option maxRecDepth 65536 in
theorem w_c27 : (Jvm.Cond.code ({ cls := "java/lang/Long", name := "getChars", desc := "(JI[B)I" } : Jvm.MethodName) jdk_35_method_14_code (11 : Nat) (Option.some Jvm.ClassFile.FieldType.int)).before args0 about1 = true := code_word (m := ⟨15, 0⟩) (meth := k15m0) (c := k15c0) (by decide +kernel) rfl rfl rfl (by decide +kernel)
set_option maxRecDepth 65536 in
theorem w_c28 : (Jvm.Cond.code ({ cls := "java/lang/StringBuilder", name := "toString", desc := "()Ljava/lang/String;" } : Jvm.MethodName) jdk_67_method_42_code (1 : Nat) (Option.some (Jvm.ClassFile.FieldType.object "java/lang/String"))).before args0 about1 = true := code_word (m := ⟨12, 3⟩) (meth := k12m3) (c := k12c3) (by decide +kernel) rfl rfl rfl (by decide +kernel)
set_option maxRecDepth 65536 in
theorem w_c29 : (Jvm.Cond.code ({ cls := "java/lang/String", name := "<init>", desc := "(Ljava/lang/StringBuilder;)V" } : Jvm.MethodName) jdk_42_method_53_code (2 : Nat) (Option.none : Option Jvm.ClassFile.FieldType)).before args0 about1 = true := code_word (m := ⟨7, 2⟩) (meth := k7m2) (c := k7c2) (by decide +kernel) rfl rfl rfl (by decide +kernel)
set_option maxRecDepth 65536 in
theorem w_c30 : (Jvm.Cond.code ({ cls := "java/lang/String", name := "<init>", desc := "(Ljava/lang/AbstractStringBuilder;Ljava/lang/Void;)V" } : Jvm.MethodName) jdk_42_method_150_code (5 : Nat) (Option.none : Option Jvm.ClassFile.FieldType)).before args0 about1 = true := code_word (m := ⟨7, 8⟩) (meth := k7m8) (c := k7c8) (by decide +kernel) rfl rfl rfl (by decide +kernel)
set_option maxRecDepth 65536 in
theorem w_c31 : (Jvm.Cond.code ({ cls := "java/lang/AbstractStringBuilder", name := "getValue", desc := "()[B" } : Jvm.MethodName) jdk_68_method_64_code (1 : Nat) (Option.some (Jvm.ClassFile.FieldType.array Jvm.ClassFile.FieldType.byte))).before args0 about1 = true := code_word (m := ⟨11, 7⟩) (meth := k11m7) (c := k11c7) (by decide +kernel) rfl rfl rfl (by decide +kernel)
set_option maxRecDepth 65536 in
theorem w_c32 : (Jvm.Cond.code ({ cls := "java/lang/StringBuilder", name := "length", desc := "()I" } : Jvm.MethodName) jdk_67_method_93_code (1 : Nat) (Option.some Jvm.ClassFile.FieldType.int)).before args0 about1 = true := code_word (m := ⟨12, 4⟩) (meth := k12m4) (c := k12c4) (by decide +kernel) rfl rfl rfl (by decide +kernel)
set_option maxRecDepth 65536 in
theorem w_c33 : (Jvm.Cond.code ({ cls := "java/lang/AbstractStringBuilder", name := "length", desc := "()I" } : Jvm.MethodName) jdk_68_method_6_code (1 : Nat) (Option.some Jvm.ClassFile.FieldType.int)).before args0 about1 = true := code_word (m := ⟨11, 2⟩) (meth := k11m2) (c := k11c2) (by decide +kernel) rfl rfl rfl (by decide +kernel)
set_option maxRecDepth 65536 in
theorem w_c34 : (Jvm.Cond.code ({ cls := "java/util/Arrays", name := "copyOfRange", desc := "([BII)[B" } : Jvm.MethodName) jdk_65_method_132_code (3 : Nat) (Option.some (Jvm.ClassFile.FieldType.array Jvm.ClassFile.FieldType.byte))).before args0 about1 = true := code_word (m := ⟨18, 3⟩) (meth := k18m3) (c := k18c3) (by decide +kernel) rfl rfl rfl (by decide +kernel)
set_option maxRecDepth 65536 in
theorem w_c35 : (Jvm.Cond.code ({ cls := "java/util/Arrays", name := "copyOfRangeByte", desc := "([BII)[B" } : Jvm.MethodName) jdk_65_method_133_code (5 : Nat) (Option.some (Jvm.ClassFile.FieldType.array Jvm.ClassFile.FieldType.byte))).before args0 about1 = true := code_word (m := ⟨18, 4⟩) (meth := k18m4) (c := k18c4) (by decide +kernel) rfl rfl rfl (by decide +kernel)
set_option maxRecDepth 65536 in
theorem w_c36 : (Jvm.Cond.code ({ cls := "java/util/Arrays", name := "checkLength", desc := "(II)V" } : Jvm.MethodName) jdk_65_method_131_code (2 : Nat) (Option.none : Option Jvm.ClassFile.FieldType)).before args0 about1 = true := code_word (m := ⟨18, 2⟩) (meth := k18m2) (c := k18c2) (by decide +kernel) rfl rfl rfl (by decide +kernel)
set_option maxRecDepth 65536 in
theorem w_c37 : (Jvm.Cond.code ({ cls := "com/example/holdfast/holdfast/LockLostToStringPinLaw", name := "digitCount", desc := "(J)I" } : Jvm.MethodName) method_5_code (5 : Nat) (Option.some Jvm.ClassFile.FieldType.int)).before args0 about1 = true := code_word (m := ⟨1, 4⟩) (meth := k1m4) (c := k1c4) (by decide +kernel) rfl rfl rfl (by decide +kernel)
set_option maxRecDepth 65536 in
theorem w_c38 : (Jvm.Cond.code ({ cls := "com/example/holdfast/holdfast/LockLostToStringPinLaw", name := "prefixOk", desc := "(Ljava/lang/String;)Z" } : Jvm.MethodName) method_3_code (1 : Nat) (Option.some Jvm.ClassFile.FieldType.boolean)).before args0 about1 = true := code_word (m := ⟨1, 2⟩) (meth := k1m2) (c := k1c2) (by decide +kernel) rfl rfl rfl (by decide +kernel)
set_option maxRecDepth 65536 in
theorem w_c39 : (Jvm.Cond.code ({ cls := "java/lang/String", name := "charAt", desc := "(I)C" } : Jvm.MethodName) jdk_42_method_56_code (2 : Nat) (Option.some Jvm.ClassFile.FieldType.char)).before args0 about1 = true := code_word (m := ⟨7, 4⟩) (meth := k7m4) (c := k7c4) (by decide +kernel) rfl rfl rfl (by decide +kernel)
set_option maxRecDepth 65536 in
theorem w_c40 : (Jvm.Cond.code ({ cls := "java/lang/String", name := "isLatin1", desc := "()Z" } : Jvm.MethodName) jdk_42_method_154_code (1 : Nat) (Option.some Jvm.ClassFile.FieldType.boolean)).before args0 about1 = true := code_word (m := ⟨7, 11⟩) (meth := k7m11) (c := k7c11) (by decide +kernel) rfl rfl rfl (by decide +kernel)
set_option maxRecDepth 65536 in
theorem w_c41 : (Jvm.Cond.code ({ cls := "java/lang/StringLatin1", name := "charAt", desc := "([BI)C" } : Jvm.MethodName) jdk_43_method_2_code (2 : Nat) (Option.some Jvm.ClassFile.FieldType.char)).before args0 about1 = true := code_word (m := ⟨8, 1⟩) (meth := k8m1) (c := k8c1) (by decide +kernel) rfl rfl rfl (by decide +kernel)
set_option maxRecDepth 65536 in
theorem w_c42 : (Jvm.Cond.code ({ cls := "java/lang/String", name := "checkIndex", desc := "(II)V" } : Jvm.MethodName) jdk_42_method_155_code (2 : Nat) (Option.none : Option Jvm.ClassFile.FieldType)).before args0 about1 = true := code_word (m := ⟨7, 12⟩) (meth := k7m12) (c := k7c12) (by decide +kernel) rfl rfl rfl (by decide +kernel)
set_option maxRecDepth 65536 in
theorem w_c43 : (Jvm.Cond.code ({ cls := "jdk/internal/util/Preconditions", name := "checkIndex", desc := "(IILjava/util/function/BiFunction;)I" } : Jvm.MethodName) jdk_41_method_11_code (3 : Nat) (Option.some Jvm.ClassFile.FieldType.int)).before args0 about1 = true := code_word (m := ⟨21, 1⟩) (meth := k21m1) (c := k21c1) (by decide +kernel) rfl rfl rfl (by decide +kernel)
set_option maxRecDepth 65536 in
theorem w_c44 : (Jvm.Cond.code ({ cls := "com/example/holdfast/holdfast/LockLostToStringPinLaw", name := "fencingOk", desc := "(Ljava/lang/String;I)Z" } : Jvm.MethodName) method_4_code (2 : Nat) (Option.some Jvm.ClassFile.FieldType.boolean)).before args0 about1 = true := code_word (m := ⟨1, 3⟩) (meth := k1m3) (c := k1c3) (by decide +kernel) rfl rfl rfl (by decide +kernel)
set_option maxRecDepth 65536 in
theorem w_c45 : (Jvm.Cond.code ({ cls := "com/example/holdfast/holdfast/LockLostToStringPinLaw", name := "digitsOk", desc := "(Ljava/lang/String;IIJ)Z" } : Jvm.MethodName) method_7_code (8 : Nat) (Option.some Jvm.ClassFile.FieldType.boolean)).before args0 about1 = true := code_word (m := ⟨1, 6⟩) (meth := k1m6) (c := k1c6) (by decide +kernel) rfl rfl rfl (by decide +kernel)
set_option maxRecDepth 65536 in
theorem w_c46 : (Jvm.Cond.code ({ cls := "com/example/holdfast/holdfast/LockLostToStringPinLaw", name := "digitOk", desc := "(Ljava/lang/String;IIIJ)Z" } : Jvm.MethodName) method_6_code (6 : Nat) (Option.some Jvm.ClassFile.FieldType.boolean)).before args0 about1 = true := code_word (m := ⟨1, 5⟩) (meth := k1m5) (c := k1c5) (by decide +kernel) rfl rfl rfl (by decide +kernel)
set_option maxRecDepth 65536 in
theorem w_c47 : (Jvm.Cond.code ({ cls := "java/lang/String", name := "<init>", desc := "([C)V" } : Jvm.MethodName) jdk_42_method_3_code (2 : Nat) (Option.none : Option Jvm.ClassFile.FieldType)).before args0 about1 = true := code_word (m := ⟨7, 1⟩) (meth := k7m1) (c := k7c1) (by decide +kernel) rfl rfl rfl (by decide +kernel)
set_option maxRecDepth 65536 in
theorem w_c48 : (Jvm.Cond.code ({ cls := "java/lang/String", name := "<init>", desc := "([CIILjava/lang/Void;)V" } : Jvm.MethodName) jdk_42_method_149_code (6 : Nat) (Option.none : Option Jvm.ClassFile.FieldType)).before args0 about1 = true := code_word (m := ⟨7, 7⟩) (meth := k7m7) (c := k7c7) (by decide +kernel) rfl rfl rfl (by decide +kernel)
set_option maxRecDepth 65536 in
theorem w_c49 : (Jvm.Cond.code ({ cls := "java/lang/StringUTF16", name := "compress", desc := "([CII)[B" } : Jvm.MethodName) jdk_52_method_16_code (6 : Nat) (Option.some (Jvm.ClassFile.FieldType.array Jvm.ClassFile.FieldType.byte))).before args0 about1 = true := code_word (m := ⟨22, 2⟩) (meth := k22m2) (c := k22c2) (by decide +kernel) rfl rfl rfl (by decide +kernel)
set_option maxRecDepth 65536 in
theorem w_c50 : (Jvm.Cond.code ({ cls := "java/lang/StringUTF16", name := "compress", desc := "([CI[BII)I" } : Jvm.MethodName) jdk_52_method_21_code (7 : Nat) (Option.some Jvm.ClassFile.FieldType.int)).before args0 about1 = true := code_word (m := ⟨22, 3⟩) (meth := k22m3) (c := k22c3) (by decide +kernel) rfl rfl rfl (by decide +kernel)
set_option maxRecDepth 65536 in
theorem w_c51 : (Jvm.Cond.code ({ cls := "java/lang/StringUTF16", name := "coderFromArrayLen", desc := "([BI)B" } : Jvm.MethodName) jdk_52_method_15_code (2 : Nat) (Option.some Jvm.ClassFile.FieldType.byte)).before args0 about1 = true := code_word (m := ⟨22, 1⟩) (meth := k22m1) (c := k22c1) (by decide +kernel) rfl rfl rfl (by decide +kernel)
def codes1 : List Jvm.Cond := [Jvm.Cond.code x code maxLocals ret, Jvm.Cond.code ({ cls := "java/lang/String", name := "valueOf", desc := "(C)Ljava/lang/String;" } : Jvm.MethodName) jdk_42_method_139_code (1 : Nat) (Option.some (Jvm.ClassFile.FieldType.object "java/lang/String")), Jvm.Cond.code ({ cls := "java/lang/StringLatin1", name := "canEncode", desc := "(C)Z" } : Jvm.MethodName) jdk_43_method_3_code (1 : Nat) (Option.some Jvm.ClassFile.FieldType.boolean), Jvm.Cond.code ({ cls := "java/lang/StringLatin1", name := "toBytes", desc := "(C)[B" } : Jvm.MethodName) jdk_43_method_46_code (1 : Nat) (Option.some (Jvm.ClassFile.FieldType.array Jvm.ClassFile.FieldType.byte)), Jvm.Cond.code ({ cls := "java/lang/String", name := "<init>", desc := "([BB)V" } : Jvm.MethodName) jdk_42_method_151_code (3 : Nat) (Option.none : Option Jvm.ClassFile.FieldType), Jvm.Cond.code ({ cls := "java/lang/Object", name := "<init>", desc := "()V" } : Jvm.MethodName) object_method_1_code (1 : Nat) (Option.none : Option Jvm.ClassFile.FieldType), Jvm.Cond.code ({ cls := "com/example/holdfast/holdfast/LockLost", name := "<init>", desc := "(Ljava/lang/String;J)V" } : Jvm.MethodName) prog_4_method_1_code (4 : Nat) (Option.none : Option Jvm.ClassFile.FieldType), Jvm.Cond.code ({ cls := "com/example/holdfast/holdfast/LockLost", name := "toString", desc := "()Ljava/lang/String;" } : Jvm.MethodName) prog_4_method_4_code (2 : Nat) (Option.some (Jvm.ClassFile.FieldType.object "java/lang/String")), Jvm.Cond.code ({ cls := "java/lang/StringBuilder", name := "<init>", desc := "()V" } : Jvm.MethodName) jdk_67_method_1_code (1 : Nat) (Option.none : Option Jvm.ClassFile.FieldType), Jvm.Cond.code ({ cls := "java/lang/AbstractStringBuilder", name := "<init>", desc := "(I)V" } : Jvm.MethodName) jdk_68_method_2_code (2 : Nat) (Option.none : Option Jvm.ClassFile.FieldType), Jvm.Cond.code ({ cls := "java/lang/StringBuilder", name := "append", desc := "(Ljava/lang/String;)Ljava/lang/StringBuilder;" } : Jvm.MethodName) jdk_67_method_7_code (2 : Nat) (Option.some (Jvm.ClassFile.FieldType.object "java/lang/StringBuilder")), Jvm.Cond.code ({ cls := "java/lang/AbstractStringBuilder", name := "append", desc := "(Ljava/lang/String;)Ljava/lang/AbstractStringBuilder;" } : Jvm.MethodName) jdk_68_method_22_code (3 : Nat) (Option.some (Jvm.ClassFile.FieldType.object "java/lang/AbstractStringBuilder")), Jvm.Cond.code ({ cls := "java/lang/String", name := "length", desc := "()I" } : Jvm.MethodName) jdk_42_method_54_code (1 : Nat) (Option.some Jvm.ClassFile.FieldType.int), Jvm.Cond.code ({ cls := "java/lang/String", name := "coder", desc := "()B" } : Jvm.MethodName) jdk_42_method_152_code (1 : Nat) (Option.some Jvm.ClassFile.FieldType.byte), Jvm.Cond.code ({ cls := "java/lang/AbstractStringBuilder", name := "ensureCapacityInternal", desc := "(I)V" } : Jvm.MethodName) jdk_68_method_9_code (3 : Nat) (Option.none : Option Jvm.ClassFile.FieldType), Jvm.Cond.code ({ cls := "java/lang/AbstractStringBuilder", name := "putStringAt", desc := "(ILjava/lang/String;)V" } : Jvm.MethodName) jdk_68_method_73_code (3 : Nat) (Option.none : Option Jvm.ClassFile.FieldType), Jvm.Cond.code ({ cls := "java/lang/AbstractStringBuilder", name := "inflateIfNeededFor", desc := "(Ljava/lang/String;)V" } : Jvm.MethodName) jdk_68_method_71_code (2 : Nat) (Option.none : Option Jvm.ClassFile.FieldType), Jvm.Cond.code ({ cls := "java/lang/String", name := "getBytes", desc := "([BIB)V" } : Jvm.MethodName) jdk_42_method_147_code (4 : Nat) (Option.none : Option Jvm.ClassFile.FieldType), Jvm.Cond.code ({ cls := "java/lang/StringBuilder", name := "append", desc := "(J)Ljava/lang/StringBuilder;" } : Jvm.MethodName) jdk_67_method_16_code (3 : Nat) (Option.some (Jvm.ClassFile.FieldType.object "java/lang/StringBuilder")), Jvm.Cond.code ({ cls := "java/lang/AbstractStringBuilder", name := "append", desc := "(J)Ljava/lang/AbstractStringBuilder;" } : Jvm.MethodName) jdk_68_method_33_code (5 : Nat) (Option.some (Jvm.ClassFile.FieldType.object "java/lang/AbstractStringBuilder")), Jvm.Cond.code ({ cls := "java/lang/Long", name := "stringSize", desc := "(J)I" } : Jvm.MethodName) jdk_35_method_15_code (6 : Nat) (Option.some Jvm.ClassFile.FieldType.int), Jvm.Cond.code ({ cls := "java/lang/AbstractStringBuilder", name := "newCapacity", desc := "(I)I" } : Jvm.MethodName) jdk_68_method_10_code (6 : Nat) (Option.some Jvm.ClassFile.FieldType.int), Jvm.Cond.code ({ cls := "jdk/internal/util/ArraysSupport", name := "newLength", desc := "(III)I" } : Jvm.MethodName) jdk_48_method_27_code (4 : Nat) (Option.some Jvm.ClassFile.FieldType.int), Jvm.Cond.code ({ cls := "java/lang/Math", name := "max", desc := "(II)I" } : Jvm.MethodName) jdk_29_method_65_code (2 : Nat) (Option.some Jvm.ClassFile.FieldType.int), Jvm.Cond.code ({ cls := "java/util/Arrays", name := "copyOf", desc := "([BI)[B" } : Jvm.MethodName) jdk_65_method_121_code (3 : Nat) (Option.some (Jvm.ClassFile.FieldType.array Jvm.ClassFile.FieldType.byte)), Jvm.Cond.code ({ cls := "java/lang/Math", name := "min", desc := "(II)I" } : Jvm.MethodName) jdk_29_method_69_code (2 : Nat) (Option.some Jvm.ClassFile.FieldType.int), Jvm.Cond.code ({ cls := "java/lang/AbstractStringBuilder", name := "isLatin1", desc := "()Z" } : Jvm.MethodName) jdk_68_method_68_code (1 : Nat) (Option.some Jvm.ClassFile.FieldType.boolean), Jvm.Cond.code ({ cls := "java/lang/Long", name := "getChars", desc := "(JI[B)I" } : Jvm.MethodName) jdk_35_method_14_code (11 : Nat) (Option.some Jvm.ClassFile.FieldType.int), Jvm.Cond.code ({ cls := "java/lang/StringBuilder", name := "toString", desc := "()Ljava/lang/String;" } : Jvm.MethodName) jdk_67_method_42_code (1 : Nat) (Option.some (Jvm.ClassFile.FieldType.object "java/lang/String")), Jvm.Cond.code ({ cls := "java/lang/String", name := "<init>", desc := "(Ljava/lang/StringBuilder;)V" } : Jvm.MethodName) jdk_42_method_53_code (2 : Nat) (Option.none : Option Jvm.ClassFile.FieldType), Jvm.Cond.code ({ cls := "java/lang/String", name := "<init>", desc := "(Ljava/lang/AbstractStringBuilder;Ljava/lang/Void;)V" } : Jvm.MethodName) jdk_42_method_150_code (5 : Nat) (Option.none : Option Jvm.ClassFile.FieldType), Jvm.Cond.code ({ cls := "java/lang/AbstractStringBuilder", name := "getValue", desc := "()[B" } : Jvm.MethodName) jdk_68_method_64_code (1 : Nat) (Option.some (Jvm.ClassFile.FieldType.array Jvm.ClassFile.FieldType.byte)), Jvm.Cond.code ({ cls := "java/lang/StringBuilder", name := "length", desc := "()I" } : Jvm.MethodName) jdk_67_method_93_code (1 : Nat) (Option.some Jvm.ClassFile.FieldType.int), Jvm.Cond.code ({ cls := "java/lang/AbstractStringBuilder", name := "length", desc := "()I" } : Jvm.MethodName) jdk_68_method_6_code (1 : Nat) (Option.some Jvm.ClassFile.FieldType.int), Jvm.Cond.code ({ cls := "java/util/Arrays", name := "copyOfRange", desc := "([BII)[B" } : Jvm.MethodName) jdk_65_method_132_code (3 : Nat) (Option.some (Jvm.ClassFile.FieldType.array Jvm.ClassFile.FieldType.byte)), Jvm.Cond.code ({ cls := "java/util/Arrays", name := "copyOfRangeByte", desc := "([BII)[B" } : Jvm.MethodName) jdk_65_method_133_code (5 : Nat) (Option.some (Jvm.ClassFile.FieldType.array Jvm.ClassFile.FieldType.byte)), Jvm.Cond.code ({ cls := "java/util/Arrays", name := "checkLength", desc := "(II)V" } : Jvm.MethodName) jdk_65_method_131_code (2 : Nat) (Option.none : Option Jvm.ClassFile.FieldType), Jvm.Cond.code ({ cls := "com/example/holdfast/holdfast/LockLostToStringPinLaw", name := "digitCount", desc := "(J)I" } : Jvm.MethodName) method_5_code (5 : Nat) (Option.some Jvm.ClassFile.FieldType.int), Jvm.Cond.code ({ cls := "com/example/holdfast/holdfast/LockLostToStringPinLaw", name := "prefixOk", desc := "(Ljava/lang/String;)Z" } : Jvm.MethodName) method_3_code (1 : Nat) (Option.some Jvm.ClassFile.FieldType.boolean), Jvm.Cond.code ({ cls := "java/lang/String", name := "charAt", desc := "(I)C" } : Jvm.MethodName) jdk_42_method_56_code (2 : Nat) (Option.some Jvm.ClassFile.FieldType.char), Jvm.Cond.code ({ cls := "java/lang/String", name := "isLatin1", desc := "()Z" } : Jvm.MethodName) jdk_42_method_154_code (1 : Nat) (Option.some Jvm.ClassFile.FieldType.boolean), Jvm.Cond.code ({ cls := "java/lang/StringLatin1", name := "charAt", desc := "([BI)C" } : Jvm.MethodName) jdk_43_method_2_code (2 : Nat) (Option.some Jvm.ClassFile.FieldType.char), Jvm.Cond.code ({ cls := "java/lang/String", name := "checkIndex", desc := "(II)V" } : Jvm.MethodName) jdk_42_method_155_code (2 : Nat) (Option.none : Option Jvm.ClassFile.FieldType), Jvm.Cond.code ({ cls := "jdk/internal/util/Preconditions", name := "checkIndex", desc := "(IILjava/util/function/BiFunction;)I" } : Jvm.MethodName) jdk_41_method_11_code (3 : Nat) (Option.some Jvm.ClassFile.FieldType.int), Jvm.Cond.code ({ cls := "com/example/holdfast/holdfast/LockLostToStringPinLaw", name := "fencingOk", desc := "(Ljava/lang/String;I)Z" } : Jvm.MethodName) method_4_code (2 : Nat) (Option.some Jvm.ClassFile.FieldType.boolean), Jvm.Cond.code ({ cls := "com/example/holdfast/holdfast/LockLostToStringPinLaw", name := "digitsOk", desc := "(Ljava/lang/String;IIJ)Z" } : Jvm.MethodName) method_7_code (8 : Nat) (Option.some Jvm.ClassFile.FieldType.boolean), Jvm.Cond.code ({ cls := "com/example/holdfast/holdfast/LockLostToStringPinLaw", name := "digitOk", desc := "(Ljava/lang/String;IIIJ)Z" } : Jvm.MethodName) method_6_code (6 : Nat) (Option.some Jvm.ClassFile.FieldType.boolean), Jvm.Cond.code ({ cls := "java/lang/String", name := "<init>", desc := "([C)V" } : Jvm.MethodName) jdk_42_method_3_code (2 : Nat) (Option.none : Option Jvm.ClassFile.FieldType), Jvm.Cond.code ({ cls := "java/lang/String", name := "<init>", desc := "([CIILjava/lang/Void;)V" } : Jvm.MethodName) jdk_42_method_149_code (6 : Nat) (Option.none : Option Jvm.ClassFile.FieldType), Jvm.Cond.code ({ cls := "java/lang/StringUTF16", name := "compress", desc := "([CII)[B" } : Jvm.MethodName) jdk_52_method_16_code (6 : Nat) (Option.some (Jvm.ClassFile.FieldType.array Jvm.ClassFile.FieldType.byte)), Jvm.Cond.code ({ cls := "java/lang/StringUTF16", name := "compress", desc := "([CI[BII)I" } : Jvm.MethodName) jdk_52_method_21_code (7 : Nat) (Option.some Jvm.ClassFile.FieldType.int), Jvm.Cond.code ({ cls := "java/lang/StringUTF16", name := "coderFromArrayLen", desc := "([BI)B" } : Jvm.MethodName) jdk_52_method_15_code (2 : Nat) (Option.some Jvm.ClassFile.FieldType.byte)]
set_option maxRecDepth 65536 in
theorem codes_eq : words1.filter isCode = codes1 := rfl
theorem w_codes : ∀ c ∈ words1.filter isCode, c.before args0 about1 = true := by
  rw [codes_eq]
  intro c hc
  simp only [codes1, List.mem_cons, List.not_mem_nil, or_false] at hc
  rcases hc with rfl | rfl | rfl | rfl | rfl | rfl | rfl | rfl | rfl | rfl | rfl | rfl | rfl | rfl | rfl | rfl | rfl | rfl | rfl | rfl | rfl | rfl | rfl | rfl | rfl | rfl | rfl | rfl | rfl | rfl | rfl | rfl | rfl | rfl | rfl | rfl | rfl | rfl | rfl | rfl | rfl | rfl | rfl | rfl | rfl | rfl | rfl | rfl | rfl | rfl | rfl | rfl
  · exact w_c0
  · exact w_c1
  · exact w_c2
  · exact w_c3
  · exact w_c4
  · exact w_c5
  · exact w_c6
  · exact w_c7
  · exact w_c8
  · exact w_c9
  · exact w_c10
  · exact w_c11
  · exact w_c12
  · exact w_c13
  · exact w_c14
  · exact w_c15
  · exact w_c16
  · exact w_c17
  · exact w_c18
  · exact w_c19
  · exact w_c20
  · exact w_c21
  · exact w_c22
  · exact w_c23
  · exact w_c24
  · exact w_c25
  · exact w_c26
  · exact w_c27
  · exact w_c28
  · exact w_c29
  · exact w_c30
  · exact w_c31
  · exact w_c32
  · exact w_c33
  · exact w_c34
  · exact w_c35
  · exact w_c36
  · exact w_c37
  · exact w_c38
  · exact w_c39
  · exact w_c40
  · exact w_c41
  · exact w_c42
  · exact w_c43
  · exact w_c44
  · exact w_c45
  · exact w_c46
  · exact w_c47
  · exact w_c48
  · exact w_c49
  · exact w_c50
  · exact w_c51
set_option maxRecDepth 65536 in
theorem w_t1 : (words1.take 24).all (fun c => isCode c || c.before args0 about1) = true := by decide +kernel
set_option maxRecDepth 65536 in
theorem w_t2 : ((words1.drop 24).take 24).all (fun c => isCode c || c.before args0 about1) = true := by decide +kernel
set_option maxRecDepth 65536 in
theorem w_t3 : (((words1.drop 24).drop 24).take 24).all (fun c => isCode c || c.before args0 about1) = true := by decide +kernel
set_option maxRecDepth 65536 in
theorem w_t4 : ((((words1.drop 24).drop 24).drop 24).take 24).all (fun c => isCode c || c.before args0 about1) = true := by decide +kernel
set_option maxRecDepth 65536 in
theorem w_t5 : (((((words1.drop 24).drop 24).drop 24).drop 24).take 24).all (fun c => isCode c || c.before args0 about1) = true := by decide +kernel
set_option maxRecDepth 65536 in
theorem w_t6 : ((((((words1.drop 24).drop 24).drop 24).drop 24).drop 24).take 24).all (fun c => isCode c || c.before args0 about1) = true := by decide +kernel
set_option maxRecDepth 65536 in
theorem w_t7 : (((((((words1.drop 24).drop 24).drop 24).drop 24).drop 24).drop 24).take 24).all (fun c => isCode c || c.before args0 about1) = true := by decide +kernel
set_option maxRecDepth 65536 in
theorem w_t8 : ((((((((words1.drop 24).drop 24).drop 24).drop 24).drop 24).drop 24).drop 24).take 24).all (fun c => isCode c || c.before args0 about1) = true := by decide +kernel
set_option maxRecDepth 65536 in
theorem w_t9 : (((((((((words1.drop 24).drop 24).drop 24).drop 24).drop 24).drop 24).drop 24).drop 24).take 24).all (fun c => isCode c || c.before args0 about1) = true := by decide +kernel
set_option maxRecDepth 65536 in
theorem w_t10 : ((((((((((words1.drop 24).drop 24).drop 24).drop 24).drop 24).drop 24).drop 24).drop 24).drop 24).take 24).all (fun c => isCode c || c.before args0 about1) = true := by decide +kernel
set_option maxRecDepth 65536 in
theorem w_t11 : (((((((((((words1.drop 24).drop 24).drop 24).drop 24).drop 24).drop 24).drop 24).drop 24).drop 24).drop 24).take 24).all (fun c => isCode c || c.before args0 about1) = true := by decide +kernel
set_option maxRecDepth 65536 in
theorem w_t12 : (((((((((((words1.drop 24).drop 24).drop 24).drop 24).drop 24).drop 24).drop 24).drop 24).drop 24).drop 24).drop 24).all (fun c => isCode c || c.before args0 about1) = true := by decide +kernel
theorem w_tables : (allAtoms (Jvm.Cond.code x code maxLocals ret :: tables_1)).before args0 about1 = true := by
  rw [allAtoms_all]
  show words1.all (fun c => c.before args0 about1) = true
  refine all_split ?_ w_codes
  rw [← List.take_append_drop 24 words1, List.all_append, w_t1, ← List.take_append_drop 24 (words1.drop 24), List.all_append, w_t2, ← List.take_append_drop 24 ((words1.drop 24).drop 24), List.all_append, w_t3, ← List.take_append_drop 24 (((words1.drop 24).drop 24).drop 24), List.all_append, w_t4, ← List.take_append_drop 24 ((((words1.drop 24).drop 24).drop 24).drop 24), List.all_append, w_t5, ← List.take_append_drop 24 (((((words1.drop 24).drop 24).drop 24).drop 24).drop 24), List.all_append, w_t6, ← List.take_append_drop 24 ((((((words1.drop 24).drop 24).drop 24).drop 24).drop 24).drop 24), List.all_append, w_t7, ← List.take_append_drop 24 (((((((words1.drop 24).drop 24).drop 24).drop 24).drop 24).drop 24).drop 24), List.all_append, w_t8, ← List.take_append_drop 24 ((((((((words1.drop 24).drop 24).drop 24).drop 24).drop 24).drop 24).drop 24).drop 24), List.all_append, w_t9, ← List.take_append_drop 24 (((((((((words1.drop 24).drop 24).drop 24).drop 24).drop 24).drop 24).drop 24).drop 24).drop 24), List.all_append, w_t10, ← List.take_append_drop 24 ((((((((((words1.drop 24).drop 24).drop 24).drop 24).drop 24).drop 24).drop 24).drop 24).drop 24).drop 24), List.all_append, w_t11, w_t12]
  rfl
set_option maxRecDepth 65536 in
theorem w_rest : rest_1_c.before args0 about1 = true := by decide +kernel
set_option maxRecDepth 65536 in
theorem w_case : (Jvm.Cond.and given_1 narrow_1).before args0 about1 = true := by decide +kernel
set_option maxRecDepth 65536 in
theorem w_consts : constsHeld consts_1 about1 := Jvm.Lit.constsHeldB_iff.mp (by decide +kernel)
theorem w_applies : (headSpec (Jvm.Cond.code x code maxLocals ret :: tables_1) room_1).applies x e0.platform about1 = true :=
  (Spec.applies_iff w_frames).mpr ⟨w_running, w_runnable, w_alone, w_named, w_hears, w_ripe, w_room, w_tables⟩
theorem atStart : AtStart classFile x code maxLocals ret World_1 tables_1 room_1 Calls_1 rest_1 Pre_1 launch0 p0 e0 about1 theMethod args0 below0 :=
  ⟨lists_1, trivial, launch0.admits_env _ _ _, launch0.least_env, fairChoices_fair.cas, fairChoices_fair.clock, w_frames, w_args, w_heap, w_applies, ⟨w_consts, trivial⟩, w_rest, w_case⟩
end start1
theorem witness_1 : WitnessClaimed_1 := ⟨start1.p0, start1.e0, start1.about1, start1.theMethod, start1.args0, start1.below0, start1.atStart⟩
end Jvm.Pilot.@@N@@
