import JvmDerived
import JvmDerived.Pilot.@@N@@Statement
import JvmDerived.Pilot.@@N@@Code
set_option linter.unusedVariables false
set_option linter.unusedSimpArgs false
namespace Jvm.RoadKit
open Sem ClassFile Op Lib Jvm.Stand Jvm.Free Jvm.LawKit
section New
variable {p : Program} {l : Launch} {e : Env} {R : Room} {s : State} {m : MethodId} {args : Array Value} {below : List Frame} {meth : Method} {c : Code} {T : State} {locs : List Loc} {cells slots : Nat}
theorem retI (X : Stand p l e R s m args below meth c T locs cells slots) (hx : p.tables.exec = Jvm.exec) {pc : Nat} {Ls : Array Slot} {z : Int32} {rest : List Value} (hret : meth.sig.returnType = some .int) (hd : decode c.code pc = .ok (.ireturn, 1)) {fs : List Frame}
    (hl : ∀ (f : JFrame) (acts : List Action), f.method = m → f.locked = none → f.entered = [] → (doReturn e (T.setTop f) acts (some (.int z))).1 = T.setFrames fs) : Steps p.tables e below (T.setTop (mkF m pc Ls (.int z :: rest))) (T.setFrames fs) :=
  retOut X hx hret rfl (Or.inl ⟨rfl, Or.inl rfl, z, rfl⟩) hd hl
end New
end Jvm.RoadKit
namespace Jvm.Pilot.@@N@@
open Jvm Jvm.ClassFile Sem Op Lib Jvm.Free Jvm.Stand Jvm.LawKit Jvm.RoadKit Bundle Jvm.Pilot.@@N@@.Jvm.D
section OwnKit
abbrev Base := Nat × List (Addr × (Cell → Prop))
variable {p : Program} {l : Launch} {e : Env} {R : Room} {m : MethodId} {args : Array Value} {below : List Frame} {meth : Method} {c : Code} {M : State → Heap → Prop} {P : State → Prop} {n0 : Base} {Z : State} {a0 : Array Value} {own name : String} {bytes : ByteArray} {maxL : Nat} {ret : Option FieldType} {L : List (Addr × (Cell → Prop))} {k n pc pc' : Nat} {Ls Ls' : Array Slot} {st : List Value}
/-! what is known of the heap: a list of the own cells, each with what it holds -/
def Hs (h : Heap) (a : Addr) (φ : Cell → Prop) : Prop := ∃ c : Cell, h[a]? = some c ∧ φ c
def Own (n0 : Base) (h : Heap) (L : List (Addr × (Cell → Prop))) : Prop := (n0.1 ≤ h.size ∧ ∀ y ∈ n0.2, Hs h y.1 y.2) ∧ (∀ (i j : Nat) x y, L[i]? = some x → L[j]? = some y → x.1 = y.1 → i = j) ∧ ∀ (i : Nat) x, L[i]? = some x → (n0.1 ≤ x.1 ∧ ∀ y ∈ n0.2, x.1 ≠ y.1) ∧ Hs h x.1 x.2
theorem Own.nil {h : Heap} (q : n0.1 ≤ h.size) (r : ∀ y ∈ n0.2, Hs h y.1 y.2) : Own n0 h [] := ⟨⟨q, r⟩, fun i j x y hx => by simp at hx, fun i x hx => by simp at hx⟩
theorem Own.lt {h : Heap} (O : Own n0 h L) {i : Nat} {x : Addr × (Cell → Prop)} (hi : L[i]? = some x) : x.1 < h.size := by
  obtain ⟨c, h1, -⟩ := (O.2.2 i x hi).2
  exact (Array.getElem?_eq_some_iff.mp h1).1
theorem Hs.ext {h h' : Heap} {a : Addr} {φ : Cell → Prop} (H : Hs h a φ) (E : Ext h h') : Hs h' a φ := by obtain ⟨c, h1, h2⟩ := H; exact ⟨c, E.2 _ _ h1, h2⟩
theorem Hs.lt {h : Heap} {a : Addr} {φ : Cell → Prop} (H : Hs h a φ) : a < h.size := by obtain ⟨c, h1, h2⟩ := H; exact (Array.getElem?_eq_some_iff.mp h1).1
theorem Own.ext {h h' : Heap} (O : Own n0 h L) (E : Ext h h') : Own n0 h' L :=
  ⟨⟨Nat.le_trans O.1.1 E.1, fun y hy => (O.1.2 y hy).ext E⟩, O.2.1, fun i x hx => ⟨(O.2.2 i x hx).1, ((O.2.2 i x hx).2).ext E⟩⟩
theorem Own.cons {h h' : Heap} {φ : Cell → Prop} (O : Own n0 h L) (E : Ext h h') (F : Hs h' h.size φ) : Own n0 h' ((h.size, φ) :: L) := by
  have O' := O.ext E
  refine ⟨O'.1, fun i j x y hx hy e => ?_, fun i x hx => ?_⟩
  · match i, j with
    | 0, 0 => rfl
    | 0, j + 1 =>
      simp only [List.getElem?_cons_zero, Option.some.injEq] at hx
      simp only [List.getElem?_cons_succ] at hy
      subst hx; exact absurd e (Nat.ne_of_gt (O.lt hy))
    | i + 1, 0 =>
      simp only [List.getElem?_cons_zero, Option.some.injEq] at hy
      simp only [List.getElem?_cons_succ] at hx
      subst hy; exact absurd e (Nat.ne_of_lt (O.lt hx))
    | i + 1, j + 1 =>
      simp only [List.getElem?_cons_succ] at hx hy
      rw [O.2.1 i j x y hx hy e]
  · match i with
    | 0 =>
      simp only [List.getElem?_cons_zero, Option.some.injEq] at hx
      subst hx; exact ⟨⟨O.1.1, fun y hy => Nat.ne_of_gt (O.1.2 y hy).lt⟩, F⟩
    | i + 1 =>
      simp only [List.getElem?_cons_succ] at hx
      exact O'.2.2 i x hx
theorem Own.set {h h' : Heap} {i : Nat} {a : Addr} {φ φ' : Cell → Prop} (O : Own n0 h L) (hi : L[i]? = some (a, φ)) (hs : h.size ≤ h'.size) (ho : ∀ (b : Addr) (c : Cell), b ≠ a → h[b]? = some c → h'[b]? = some c) (F : Hs h' a φ') : Own n0 h' (L.set i (a, φ')) := by
  have key : ∀ j x, (L.set i (a, φ'))[j]? = some x → (j = i ∧ x = (a, φ')) ∨ (j ≠ i ∧ L[j]? = some x) := by
    intro j x hx
    rw [List.getElem?_set] at hx
    by_cases q : i = j
    · rw [if_pos q] at hx
      split at hx
      · exact Or.inl ⟨q.symm, (Option.some.inj hx).symm⟩
      · cases hx
    · rw [if_neg q] at hx; exact Or.inr ⟨fun e => q e.symm, hx⟩
  refine ⟨⟨Nat.le_trans O.1.1 hs, fun y hy => by obtain ⟨c, h1, h2⟩ := O.1.2 y hy; exact ⟨c, ho _ _ (Ne.symm ((O.2.2 _ _ hi).1.2 y hy)) h1, h2⟩⟩, fun j j' x y hx hy e => ?_, fun j x hx => ?_⟩
  · rcases key j x hx with ⟨rfl, rfl⟩ | ⟨q1, q2⟩ <;> rcases key j' y hy with ⟨rfl, rfl⟩ | ⟨r1, r2⟩
    · rfl
    · exact O.2.1 _ _ _ _ hi r2 e
    · exact O.2.1 _ _ _ _ q2 hi e
    · exact O.2.1 _ _ _ _ q2 r2 e
  · rcases key j x hx with ⟨rfl, rfl⟩ | ⟨q1, q2⟩
    · exact ⟨(O.2.2 _ _ hi).1, F⟩
    · obtain ⟨c, h1, h2⟩ := (O.2.2 _ _ q2).2
      exact ⟨(O.2.2 _ _ q2).1, c, ho _ _ (fun e => q1 (O.2.1 _ _ _ _ q2 hi e)) h1, h2⟩
theorem Own.wr {h h' : Heap} {i sl : Nat} {v : Value} {a : Addr} {φ φ' : Cell → Prop} (O : Own n0 h L) (Wh : Wr h h' a sl v) (hi : L[i]? = some (a, φ)) (hφ : ∀ c : Cell, φ c → sl < c.slots.size → φ' (c.setSlot sl v)) : Own n0 h' (L.set i (a, φ')) := by
  obtain ⟨c, h1, h2⟩ := (O.2.2 _ _ hi).2
  have hsl : sl < c.slots.size := by
    obtain ⟨cell, g1, -, g3, -⟩ := Wh
    cases h1.symm.trans g1; exact g3
  refine O.set hi (Nat.le_of_eq Wh.size.symm) (fun b cb hb hc => ?_) ?_
  · obtain ⟨c', e1, -, -, -, e5, -⟩ := wr_at Wh hc
    rw [e5 hb] at e1; exact e1
  · obtain ⟨c', e1, -, -, -, -, -, e7⟩ := wr_at Wh h1
    exact ⟨c', e1, by rw [(e7 rfl).1]; exact hφ c h2 hsl⟩
theorem Own.re {h : Heap} {L' : List (Addr × (Cell → Prop))} (O : Own n0 h L) (f : Nat → Nat) (hf : ∀ j x, L'[j]? = some x → L[f j]? = some x) (hinj : ∀ i j, i < L'.length → j < L'.length → f i = f j → i = j) : Own n0 h L' :=
  ⟨O.1, fun i j x y hx hy e => hinj i j (List.getElem?_eq_some_iff.mp hx).1 (List.getElem?_eq_some_iff.mp hy).1 (O.2.1 _ _ _ _ (hf i x hx) (hf j y hy) e), fun i x hx => O.2.2 _ _ (hf i x hx)⟩
theorem Own.front {h : Heap} (O : Own n0 h L) (i : Nat) {x : Addr × (Cell → Prop)} (hi : L[i]? = some x) : Own n0 h (x :: L.eraseIdx i) := by
  refine O.re (fun j => match j with | 0 => i | j + 1 => if j < i then j else j + 1) (fun j y hy => ?_) (fun j j' _ _ e => ?_)
  · match j with
    | 0 => simp only [List.getElem?_cons_zero, Option.some.injEq] at hy; subst hy; exact hi
    | j + 1 =>
      simp only [List.getElem?_cons_succ, List.getElem?_eraseIdx] at hy
      dsimp only
      split at hy
      · rename_i q; rw [if_pos q]; exact hy
      · rename_i q; rw [if_neg q]; exact hy
  · match j, j' with
    | 0, 0 => rfl
    | 0, j' + 1 => dsimp only at e; split at e <;> omega
    | j + 1, 0 => dsimp only at e; split at e <;> omega
    | j + 1, j' + 1 => dsimp only at e; split at e <;> split at e <;> omega
theorem Own.imp {h : Heap} {i : Nat} {a : Addr} {φ φ' : Cell → Prop} (O : Own n0 h L) (hi : L[i]? = some (a, φ)) (q : ∀ c, φ c → φ' c) : Own n0 h (L.set i (a, φ')) :=
  O.set hi (Nat.le_refl _) (fun _ _ _ r => r) (by obtain ⟨c, h1, h2⟩ := (O.2.2 _ _ hi).2; exact ⟨c, h1, q c h2⟩)
theorem Own.drop {h : Heap} (O : Own n0 h L) (i : Nat) : Own n0 h (L.eraseIdx i) := by
  refine O.re (fun j => if j < i then j else j + 1) (fun j y hy => ?_) (fun j j' _ _ e => ?_)
  · rw [List.getElem?_eraseIdx] at hy
    split at hy
    · rename_i q; show L[if j < i then j else j + 1]? = _; rw [if_pos q]; exact hy
    · rename_i q; show L[if j < i then j else j + 1]? = _; rw [if_neg q]; exact hy
  · split at e <;> split at e <;> omega
theorem Own.tail {h : Heap} {x : Addr × (Cell → Prop)} (O : Own n0 h (x :: L)) : Own n0 h L :=
  O.re (fun j => j + 1) (fun j y hy => by simpa using hy) (fun i j _ _ e => by omega)
theorem Own.ne {h : Heap} {i j : Nat} {a b : Addr} {φ ψ : Cell → Prop} (O : Own n0 h L) (hi : L[i]? = some (a, φ)) (hj : L[j]? = some (b, ψ)) (q : i ≠ j) : a ≠ b := fun e => q (O.2.1 _ _ _ _ hi hj e)
/-! arrays of ints, bytes, chars ..: n places, the i-th holds f i -/
def upd (f : Nat → Int32) (i : Nat) (v : Int32) : Nat → Int32 := fun j => if j = i then v else f j
theorem upd_hit (f : Nat → Int32) (i : Nat) (v : Int32) : upd f i v i = v := if_pos rfl
theorem upd_miss (f : Nat → Int32) {i j : Nat} (v : Int32) (q : j ≠ i) : upd f i v j = f j := if_neg q
def ExaC (Z : State) (C : String) (cell : Cell) : Prop := ∃ k : Class, Z.vm.findClass C = some cell.cls ∧ Z.vm.classes[cell.cls]? = some k ∧ cell.vm.isStatics = false ∧ (k.kind = .ordinary → cell.slots.size = k.instanceTypes.size)
def ArrC (Z : State) (ty : FieldType) (n : Nat) (f : Nat → Int32) (c : Cell) : Prop := Z.isArrayOf c ty ∧ c.vm ≠ .unknown ∧ c.slots.size = n ∧ (∀ i, i < n → c.slots[i]? = some (.int (f i))) ∧ (∀ i, i < n → fits ty (.int (f i)) = true) ∧ ExaC Z ("[" ++ ty.toString) c
theorem ArrC.congr {ty : FieldType} {f g : Nat → Int32} {c : Cell} (A : ArrC Z ty n f c) (q : ∀ i, i < n → f i = g i) : ArrC Z ty n g c := ⟨A.1, A.2.1, A.2.2.1, fun i hi => by rw [← q i hi]; exact A.2.2.2.1 i hi, fun i hi => by rw [← q i hi]; exact A.2.2.2.2.1 i hi, A.2.2.2.2.2⟩
theorem ArrC.set {ty : FieldType} {f : Nat → Int32} {c : Cell} {i : Nat} {v : Int32} (A : ArrC Z ty n f c) (hi : i < n) (hv : fits ty (.int v) = true) : ArrC Z ty n (upd f i v) (c.setSlot i (.int v)) := by
  obtain ⟨A1, A2, hs, A4, A5, k, x1, x2, x3, x4⟩ := A
  refine ⟨A1, A2, (sz_set c i _).trans hs, fun j hj => ?_, fun j hj => ?_, k, x1, x2, x3, fun q => (sz_set c i _).trans (x4 q)⟩
  · by_cases q : j = i
    · subst q; rw [upd_hit]; simp [Cell.setSlot, hs, hi]
    · rw [upd_miss _ _ q, ← A4 j hj]
      show (c.slots.setIfInBounds i _)[j]? = _
      exact Array.getElem?_setIfInBounds_ne (Ne.symm q)
  · by_cases q : j = i
    · subst q; rw [upd_hit]; exact hv
    · rw [upd_miss _ _ q]; exact A5 j hj
/-! objects: class C; the fields ks (owner, name, descriptor, type) hold vs -/
def FldC (Z : State) (C n d : String) (v : Value) (cell : Cell) : Prop := ∃ (cf : ClassId) (k : Class) (i : Nat) (f : Field), Z.fieldFound? C n d = some (cf, k, i, f) ∧ f.isStatic = false ∧ cell.vm ≠ .unknown ∧ cell.vm.isStatics = false ∧ Z.vm.assignable cell.cls cf = true ∧ cell.slots[f.slot]? = some v
def ObjC (Z : State) (C : String) (ks : List (String × String × String × FieldType)) (vs : List Value) (c : Cell) : Prop := ExaC Z C c ∧ ∀ (i : Nat) kk v, ks[i]? = some kk → vs[i]? = some v → FldC Z kk.1 kk.2.1 kk.2.2.1 v c
theorem fld_of {h : Heap} {a : Addr} {C nm d : String} {v : Value} {c : Cell} (h1 : h[a]? = some c) (F : FldC Z C nm d v c) : Fld Z h a C nm d v := by
  obtain ⟨cf, k, i, f, r⟩ := F; exact ⟨c, cf, k, i, f, h1, r⟩
theorem of_fld {h : Heap} {a : Addr} {C nm d : String} {v : Value} {c : Cell} (h1 : h[a]? = some c) (F : Fld Z h a C nm d v) : FldC Z C nm d v c := by
  obtain ⟨c', cf, k, i, f, h2, r⟩ := F
  cases h1.symm.trans h2; exact ⟨cf, k, i, f, r⟩
theorem exa_of {h : Heap} {a : Addr} {C : String} {c : Cell} (h1 : h[a]? = some c) (F : ExaC Z C c) : Exa Z h a C := by
  obtain ⟨k, r⟩ := F; exact ⟨c, k, h1, r⟩
theorem of_exa {h : Heap} {a : Addr} {C : String} {c : Cell} (h1 : h[a]? = some c) (F : Exa Z h a C) : ExaC Z C c := by
  obtain ⟨c', k, h2, r⟩ := F
  cases h1.symm.trans h2; exact ⟨k, r⟩
def Lays (Z : State) (a0 : Array Value) (C : String) (ks : List (String × String × String × FieldType)) : Prop := (∀ kk ∈ ks, Laid Z a0 C kk.1 kk.2.1 kk.2.2.1 ∧ parseFieldDescriptor kk.2.2.1 = some kk.2.2.2) ∧ (ks.map (fun kk => kk.2.1)).Nodup
theorem Lays.ne {C : String} {ks : List (String × String × String × FieldType)} (H : Lays Z a0 C ks) {i j : Nat} {x y : String × String × String × FieldType} (hx : ks[i]? = some x) (hy : ks[j]? = some y) (q : i ≠ j) : Jvm.RoadKit.slotOf Z x.1 x.2.1 x.2.2.1 ≠ Jvm.RoadKit.slotOf Z y.1 y.2.1 y.2.2.1 := by
  have h1 := H.1 x (List.mem_of_getElem? hx)
  have h2 := H.1 y (List.mem_of_getElem? hy)
  refine slot_ne h1.1 h2.1 (fun e => q ?_) h1.2 h2.2
  have hi : i < (ks.map (fun kk => kk.2.1)).length := by rw [List.length_map]; exact (List.getElem?_eq_some_iff.mp hx).1
  exact (List.getElem?_inj hi H.2).mp (by rw [List.getElem?_map, List.getElem?_map, hx, hy]; exact congrArg some e)
theorem ObjC.set {C : String} {ks : List (String × String × String × FieldType)} {vs : List Value} {c : Cell} {j : Nat} {kk : String × String × String × FieldType} {v : Value} (A : ObjC Z C ks vs c) (H : Lays Z a0 C ks) (hj : ks[j]? = some kk) (hv : j < vs.length) (hsl : Jvm.RoadKit.slotOf Z kk.1 kk.2.1 kk.2.2.1 < c.slots.size) : ObjC Z C ks (vs.set j v) (c.setSlot (Jvm.RoadKit.slotOf Z kk.1 kk.2.1 kk.2.2.1) v) := by
  obtain ⟨⟨k, e1, e2, e3, e4⟩, F⟩ := A
  refine ⟨⟨k, e1, e2, e3, fun q => (sz_set c _ _).trans (e4 q)⟩, fun i kk' w hk hw => ?_⟩
  rw [List.getElem?_set] at hw
  by_cases q : j = i
  · subst q
    rw [if_pos rfl, if_pos hv] at hw
    cases hj.symm.trans hk
    cases hw
    obtain ⟨v0, hv0⟩ : ∃ v0, vs[j]? = some v0 := ⟨_, List.getElem?_eq_getElem hv⟩
    obtain ⟨cf, kc, ii, f, f1, f2, f3, f4, f5, -⟩ := F j kk v0 hj hv0
    have es : Jvm.RoadKit.slotOf Z kk.1 kk.2.1 kk.2.2.1 = f.slot := by simp [Jvm.RoadKit.slotOf, f1]
    rw [es] at hsl ⊢
    exact ⟨cf, kc, ii, f, f1, f2, f3, f4, f5, by simp [Cell.setSlot, hsl]⟩
  · rw [if_neg q] at hw
    obtain ⟨cf, kc, ii, f, f1, f2, f3, f4, f5, f6⟩ := F i kk' w hk hw
    refine ⟨cf, kc, ii, f, f1, f2, f3, f4, f5, ?_⟩
    have es : Jvm.RoadKit.slotOf Z kk'.1 kk'.2.1 kk'.2.2.1 = f.slot := by simp [Jvm.RoadKit.slotOf, f1]
    have hne := H.ne hk hj (Ne.symm q)
    rw [es] at hne
    rw [← f6]
    exact Array.getElem?_setIfInBounds_ne (Ne.symm hne)
/-! a walk: from every state that stands at pc with these locals and this stack, the end P is reached -/
def Wk (p : Program) (l : Launch) (e : Env) (R : Room) (m : MethodId) (args : Array Value) (below : List Frame) (meth : Method) (c : Code) (M : State → Heap → Prop) (P : State → Prop) (n0 : Base) (L : List (Addr × (Cell → Prop))) (k n pc : Nat) (Ls : Array Slot) (st : List Value) : Prop :=
  ∀ s T locs, Stand p l e R s m args below meth c T locs k n → M s T.heap → Fr n0.1 locs → Own n0 T.heap L → ∃ t, Steps p.tables e below (T.setTop (mkF m pc Ls st)) t ∧ P t
def Cx (Z : State) (own name : String) (bytes : ByteArray) (maxL : Nat) (ret : Option FieldType) (p : Program) (m : MethodId) (meth : Method) (c : Code) (M : State → Heap → Prop) : Prop :=
  p.tables.exec = Jvm.exec ∧ c.code = bytes ∧ c.maxLocals = maxL ∧ meth.sig.returnType = ret ∧ meth.locks = false ∧ meth.name = name ∧ (∀ s h, M s h → Z.Warmed39 s.vm ∧ s.vm.findClass own = some m.cls) ∧ ∀ (s : State) (h h' : Heap), h.size ≤ h'.size → M s h → M s h'
theorem Wk.via {st' : List Value} (W : Wk p l e R m args below meth c M P n0 L k n pc' Ls' st') (hs : ∀ (s T : State) (locs : List Loc), Stand p l e R s m args below meth c T locs k n → M s T.heap → Own n0 T.heap L → ∀ t, Steps p.tables e below (T.setTop (mkF m pc' Ls' st')) t → Steps p.tables e below (T.setTop (mkF m pc Ls st)) t) : Wk p l e R m args below meth c M P n0 L k n pc Ls st := by
  intro s T locs X hM hF hO
  obtain ⟨t, h1, h2⟩ := W s T locs X hM hF hO
  exact ⟨t, hs s T locs X hM hO t h1, h2⟩
theorem Wk.more {k' n' : Nat} (W : Wk p l e R m args below meth c M P n0 L k' n' pc Ls st) (hk : k ≤ k') (hn : n ≤ n') : Wk p l e R m args below meth c M P n0 L k n pc Ls st :=
  fun s T locs X hM hF hO => W s T locs (X.more hk hn) hM hF hO
theorem Wk.recast {L' : List (Addr × (Cell → Prop))} (W : Wk p l e R m args below meth c M P n0 L' k n pc Ls st) (q : ∀ h, Own n0 h L → Own n0 h L') : Wk p l e R m args below meth c M P n0 L k n pc Ls st :=
  fun s T locs X hM hF hO => W s T locs X hM hF (q _ hO)
theorem Wk.know {B : Prop} (q : ∀ h, Own n0 h L → B) (W : B → Wk p l e R m args below meth c M P n0 L k n pc Ls st) : Wk p l e R m args below meth c M P n0 L k n pc Ls st :=
  fun s T locs X hM hF hO => W (q _ hO) s T locs X hM hF hO
theorem Wk.cast {Ls2 : Array Slot} {st2 : List Value} (W : Wk p l e R m args below meth c M P n0 L k n pc Ls2 st2) (q : Ls = Ls2) (r : st = st2) : Wk p l e R m args below meth c M P n0 L k n pc Ls st := by subst q r; exact W
theorem Wk.iload {i : Nat} {v : Int32} (C : Cx Z own name bytes maxL ret p m meth c M) (hd : decode bytes pc = .ok (.iload i, 2)) (hl : Ls[i]? = some (.val (.int v))) (hp : pc' = pc + 2) (W : Wk p l e R m args below meth c M P n0 L k n pc' Ls (.int v :: st)) : Wk p l e R m args below meth c M P n0 L k n pc Ls (st) := by
  subst hp
  exact W.via fun s T locs X hM hO t h1 => XS.iload X.here C.1 rfl (hb C.2.1 hd) hl h1
theorem Wk.iloadN {i : Fin 4} {v : Int32} (C : Cx Z own name bytes maxL ret p m meth c M) (hd : decode bytes pc = .ok (.iload_n i, 1)) (hl : Ls[i.val]? = some (.val (.int v))) (hp : pc' = pc + 1) (W : Wk p l e R m args below meth c M P n0 L k n pc' Ls (.int v :: st)) : Wk p l e R m args below meth c M P n0 L k n pc Ls (st) := by
  subst hp
  exact W.via fun s T locs X hM hO t h1 => XS.iloadN X.here C.1 rfl (hb C.2.1 hd) hl h1
theorem Wk.lload {i : Nat} {v : Int64} (C : Cx Z own name bytes maxL ret p m meth c M) (hd : decode bytes pc = .ok (.lload i, 2)) (hl : Ls[i]? = some (.val (.long v))) (hp : pc' = pc + 2) (W : Wk p l e R m args below meth c M P n0 L k n pc' Ls (.long v :: st)) : Wk p l e R m args below meth c M P n0 L k n pc Ls (st) := by
  subst hp
  exact W.via fun s T locs X hM hO t h1 => XS.lload X.here C.1 rfl (hb C.2.1 hd) hl h1
theorem Wk.lloadN {i : Fin 4} {v : Int64} (C : Cx Z own name bytes maxL ret p m meth c M) (hd : decode bytes pc = .ok (.lload_n i, 1)) (hl : Ls[i.val]? = some (.val (.long v))) (hp : pc' = pc + 1) (W : Wk p l e R m args below meth c M P n0 L k n pc' Ls (.long v :: st)) : Wk p l e R m args below meth c M P n0 L k n pc Ls (st) := by
  subst hp
  exact W.via fun s T locs X hM hO t h1 => XS.lloadN X.here C.1 rfl (hb C.2.1 hd) hl h1
theorem Wk.aload {i : Nat} {v : Value} (C : Cx Z own name bytes maxL ret p m meth c M) (hd : decode bytes pc = .ok (.aload i, 2)) (hl : Ls[i]? = some (.val v)) (hr : v.isRef = true) (hp : pc' = pc + 2) (W : Wk p l e R m args below meth c M P n0 L k n pc' Ls (v :: st)) : Wk p l e R m args below meth c M P n0 L k n pc Ls (st) := by
  subst hp
  exact W.via fun s T locs X hM hO t h1 => XS.aload X.here C.1 rfl (hb C.2.1 hd) hl hr h1
theorem Wk.aloadN {i : Fin 4} {v : Value} (C : Cx Z own name bytes maxL ret p m meth c M) (hd : decode bytes pc = .ok (.aload_n i, 1)) (hl : Ls[i.val]? = some (.val v)) (hr : v.isRef = true) (hp : pc' = pc + 1) (W : Wk p l e R m args below meth c M P n0 L k n pc' Ls (v :: st)) : Wk p l e R m args below meth c M P n0 L k n pc Ls (st) := by
  subst hp
  exact W.via fun s T locs X hM hO t h1 => XS.aloadN X.here C.1 rfl (hb C.2.1 hd) hl hr h1
theorem Wk.istore {i : Nat} {x : Int32} (C : Cx Z own name bytes maxL ret p m meth c M) (hd : decode bytes pc = .ok (.istore i, 2)) (hl : storeLocals Ls i (.int x) = some Ls') (hp : pc' = pc + 2) (W : Wk p l e R m args below meth c M P n0 L k n pc' Ls' (st)) : Wk p l e R m args below meth c M P n0 L k n pc Ls (.int x :: st) := by
  subst hp
  exact W.via fun s T locs X hM hO t h1 => XS.istore X.here C.1 rfl (hb C.2.1 hd) rfl hl h1
theorem Wk.istoreV {i : Nat} {x : Int32} (F : Int32 → Array Slot) (C : Cx Z own name bytes maxL ret p m meth c M) (hd : decode bytes pc = .ok (.istore i, 2)) (hl : storeLocals Ls i (.int x) = some (F x)) (hp : pc' = pc + 2) (W : ∀ v : Int32, v = x → Wk p l e R m args below meth c M P n0 L k n pc' (F v) (st)) : Wk p l e R m args below meth c M P n0 L k n pc Ls (.int x :: st) := Wk.istore C hd hl hp (W x rfl)
theorem Wk.istoreN {i : Fin 4} {x : Int32} (C : Cx Z own name bytes maxL ret p m meth c M) (hd : decode bytes pc = .ok (.istore_n i, 1)) (hl : storeLocals Ls i.val (.int x) = some Ls') (hp : pc' = pc + 1) (W : Wk p l e R m args below meth c M P n0 L k n pc' Ls' (st)) : Wk p l e R m args below meth c M P n0 L k n pc Ls (.int x :: st) := by
  subst hp
  exact W.via fun s T locs X hM hO t h1 => XS.istoreN X.here C.1 rfl (hb C.2.1 hd) rfl hl h1
theorem Wk.istoreNV {i : Fin 4} {x : Int32} (F : Int32 → Array Slot) (C : Cx Z own name bytes maxL ret p m meth c M) (hd : decode bytes pc = .ok (.istore_n i, 1)) (hl : storeLocals Ls i.val (.int x) = some (F x)) (hp : pc' = pc + 1) (W : ∀ v : Int32, v = x → Wk p l e R m args below meth c M P n0 L k n pc' (F v) (st)) : Wk p l e R m args below meth c M P n0 L k n pc Ls (.int x :: st) := Wk.istoreN C hd hl hp (W x rfl)
theorem Wk.lstore {i : Nat} {x : Int64} (C : Cx Z own name bytes maxL ret p m meth c M) (hd : decode bytes pc = .ok (.lstore i, 2)) (hl : storeLocals Ls i (.long x) = some Ls') (hp : pc' = pc + 2) (W : Wk p l e R m args below meth c M P n0 L k n pc' Ls' (st)) : Wk p l e R m args below meth c M P n0 L k n pc Ls (.long x :: st) := by
  subst hp
  exact W.via fun s T locs X hM hO t h1 => XS.lstore X.here C.1 rfl (hb C.2.1 hd) rfl hl h1
theorem Wk.lstoreV {i : Nat} {x : Int64} (F : Int64 → Array Slot) (C : Cx Z own name bytes maxL ret p m meth c M) (hd : decode bytes pc = .ok (.lstore i, 2)) (hl : storeLocals Ls i (.long x) = some (F x)) (hp : pc' = pc + 2) (W : ∀ v : Int64, v = x → Wk p l e R m args below meth c M P n0 L k n pc' (F v) (st)) : Wk p l e R m args below meth c M P n0 L k n pc Ls (.long x :: st) := Wk.lstore C hd hl hp (W x rfl)
theorem Wk.lstoreN {i : Fin 4} {x : Int64} (C : Cx Z own name bytes maxL ret p m meth c M) (hd : decode bytes pc = .ok (.lstore_n i, 1)) (hl : storeLocals Ls i.val (.long x) = some Ls') (hp : pc' = pc + 1) (W : Wk p l e R m args below meth c M P n0 L k n pc' Ls' (st)) : Wk p l e R m args below meth c M P n0 L k n pc Ls (.long x :: st) := by
  subst hp
  exact W.via fun s T locs X hM hO t h1 => XS.lstoreN X.here C.1 rfl (hb C.2.1 hd) rfl hl h1
theorem Wk.lstoreNV {i : Fin 4} {x : Int64} (F : Int64 → Array Slot) (C : Cx Z own name bytes maxL ret p m meth c M) (hd : decode bytes pc = .ok (.lstore_n i, 1)) (hl : storeLocals Ls i.val (.long x) = some (F x)) (hp : pc' = pc + 1) (W : ∀ v : Int64, v = x → Wk p l e R m args below meth c M P n0 L k n pc' (F v) (st)) : Wk p l e R m args below meth c M P n0 L k n pc Ls (.long x :: st) := Wk.lstoreN C hd hl hp (W x rfl)
theorem Wk.astore {i : Nat} {x : Value} (C : Cx Z own name bytes maxL ret p m meth c M) (hd : decode bytes pc = .ok (.astore i, 2)) (hr : x.isRef = true) (hl : storeLocals Ls i x = some Ls') (hp : pc' = pc + 2) (W : Wk p l e R m args below meth c M P n0 L k n pc' Ls' (st)) : Wk p l e R m args below meth c M P n0 L k n pc Ls (x :: st) := by
  subst hp
  exact W.via fun s T locs X hM hO t h1 => XS.astore X.here C.1 rfl (hb C.2.1 hd) rfl hr hl h1
theorem Wk.astoreN {i : Fin 4} {x : Value} (C : Cx Z own name bytes maxL ret p m meth c M) (hd : decode bytes pc = .ok (.astore_n i, 1)) (hr : x.isRef = true) (hl : storeLocals Ls i.val x = some Ls') (hp : pc' = pc + 1) (W : Wk p l e R m args below meth c M P n0 L k n pc' Ls' (st)) : Wk p l e R m args below meth c M P n0 L k n pc Ls (x :: st) := by
  subst hp
  exact W.via fun s T locs X hM hO t h1 => XS.astoreN X.here C.1 rfl (hb C.2.1 hd) rfl hr hl h1
theorem Wk.iinc {i : Nat} {cst : Int} {x z : Int32} (C : Cx Z own name bytes maxL ret p m meth c M) (hd : decode bytes pc = .ok (.iinc i cst, 3)) (hl : Ls[i]? = some (.val (.int x))) (hz : x + Int32.ofInt cst = z) (hl' : storeLocals Ls i (.int z) = some Ls') (hp : pc' = pc + 3) (W : Wk p l e R m args below meth c M P n0 L k n pc' Ls' (st)) : Wk p l e R m args below meth c M P n0 L k n pc Ls (st) := by
  subst hp
  exact W.via fun s T locs X hM hO t h1 => XS.iinc X.here C.1 rfl (hb C.2.1 hd) hl (by rw [hz]; exact hl') h1
theorem Wk.iconst {i : Int} {z : Int32} (C : Cx Z own name bytes maxL ret p m meth c M) (hd : decode bytes pc = .ok (.iconst i, 1)) (hz : Int32.ofInt i = z) (hp : pc' = pc + 1) (W : Wk p l e R m args below meth c M P n0 L k n pc' Ls (.int z :: st)) : Wk p l e R m args below meth c M P n0 L k n pc Ls (st) := by
  subst hp
  subst hz
  exact W.via fun s T locs X hM hO t h1 => XS.iconst X.here C.1 rfl (hb C.2.1 hd) h1
theorem Wk.bipush {i : Int} {z : Int32} (C : Cx Z own name bytes maxL ret p m meth c M) (hd : decode bytes pc = .ok (.bipush i, 2)) (hz : (Int8.ofInt i).toInt32 = z) (hp : pc' = pc + 2) (W : Wk p l e R m args below meth c M P n0 L k n pc' Ls (.int z :: st)) : Wk p l e R m args below meth c M P n0 L k n pc Ls (st) := by
  subst hp
  subst hz
  exact W.via fun s T locs X hM hO t h1 => XS.bipush X.here C.1 rfl (hb C.2.1 hd) h1
theorem Wk.sipush {i : Int} {z : Int32} (C : Cx Z own name bytes maxL ret p m meth c M) (hd : decode bytes pc = .ok (.sipush i, 3)) (hz : (Int16.ofInt i).toInt32 = z) (hp : pc' = pc + 3) (W : Wk p l e R m args below meth c M P n0 L k n pc' Ls (.int z :: st)) : Wk p l e R m args below meth c M P n0 L k n pc Ls (st) := by
  subst hp
  subst hz
  exact W.via fun s T locs X hM hO t h1 => XS.sipush X.here C.1 rfl (hb C.2.1 hd) h1
theorem Wk.lconst {i : Fin 2} {z : Int64} (C : Cx Z own name bytes maxL ret p m meth c M) (hd : decode bytes pc = .ok (.lconst i, 1)) (hz : Int64.ofNat i = z) (hp : pc' = pc + 1) (W : Wk p l e R m args below meth c M P n0 L k n pc' Ls (.long z :: st)) : Wk p l e R m args below meth c M P n0 L k n pc Ls (st) := by
  subst hp
  subst hz
  exact W.via fun s T locs X hM hO t h1 => XS.lconst X.here C.1 rfl (hb C.2.1 hd) h1
theorem Wk.aconstNull (C : Cx Z own name bytes maxL ret p m meth c M) (hd : decode bytes pc = .ok (.aconst_null, 1)) (hp : pc' = pc + 1) (W : Wk p l e R m args below meth c M P n0 L k n pc' Ls (.null :: st)) : Wk p l e R m args below meth c M P n0 L k n pc Ls (st) := by
  subst hp
  exact W.via fun s T locs X hM hO t h1 => XS.aconstNull X.here C.1 rfl (hb C.2.1 hd) h1
theorem Wk.ldcInt {i : Nat} {z : Int32} (C : Cx Z own name bytes maxL ret p m meth c M) (w : (Cond.constant own i z).before a0 Z = true) (hd : decode bytes pc = .ok (.ldc i, 2)) (hp : pc' = pc + 2) (W : Wk p l e R m args below meth c M P n0 L k n pc' Ls (.int z :: st)) : Wk p l e R m args below meth c M P n0 L k n pc Ls (st) := by
  subst hp
  exact W.via fun s T locs X hM hO t h1 => X.ldcInt C.1 (C.2.2.2.2.2.2.1 _ _ hM).2 (mvT (C.2.2.2.2.2.2.1 _ _ hM).1 w) (g := mkF m pc Ls st) rfl (hb C.2.1 hd) t h1
theorem Wk.ldcwInt {i : Nat} {z : Int32} (C : Cx Z own name bytes maxL ret p m meth c M) (w : (Cond.constant own i z).before a0 Z = true) (hd : decode bytes pc = .ok (.ldc_w i, 3)) (hp : pc' = pc + 3) (W : Wk p l e R m args below meth c M P n0 L k n pc' Ls (.int z :: st)) : Wk p l e R m args below meth c M P n0 L k n pc Ls (st) := by
  subst hp
  exact W.via fun s T locs X hM hO t h1 => X.ldcwInt C.1 (C.2.2.2.2.2.2.1 _ _ hM).2 (mvT (C.2.2.2.2.2.2.1 _ _ hM).1 w) (g := mkF m pc Ls st) rfl (hb C.2.1 hd) t h1
theorem Wk.ldc2Long {i : Nat} {z : Int64} (C : Cx Z own name bytes maxL ret p m meth c M) (w : (Cond.constantLong own i z).before a0 Z = true) (hd : decode bytes pc = .ok (.ldc2_w i, 3)) (hp : pc' = pc + 3) (W : Wk p l e R m args below meth c M P n0 L k n pc' Ls (.long z :: st)) : Wk p l e R m args below meth c M P n0 L k n pc Ls (st) := by
  subst hp
  exact W.via fun s T locs X hM hO t h1 => X.ldc2Long C.1 (C.2.2.2.2.2.2.1 _ _ hM).2 (mvT (C.2.2.2.2.2.2.1 _ _ hM).1 w) (g := mkF m pc Ls st) rfl (hb C.2.1 hd) t h1
theorem Wk.iadd {x y : Int32} (C : Cx Z own name bytes maxL ret p m meth c M) (hd : decode bytes pc = .ok (.iadd, 1)) (hp : pc' = pc + 1) (W : Wk p l e R m args below meth c M P n0 L k n pc' Ls (.int (x + y) :: st)) : Wk p l e R m args below meth c M P n0 L k n pc Ls (.int y :: .int x :: st) := by
  subst hp
  exact W.via fun s T locs X hM hO t h1 => XS.iadd X.here C.1 rfl (hb C.2.1 hd) rfl h1
theorem Wk.isub {x y : Int32} (C : Cx Z own name bytes maxL ret p m meth c M) (hd : decode bytes pc = .ok (.isub, 1)) (hp : pc' = pc + 1) (W : Wk p l e R m args below meth c M P n0 L k n pc' Ls (.int (x - y) :: st)) : Wk p l e R m args below meth c M P n0 L k n pc Ls (.int y :: .int x :: st) := by
  subst hp
  exact W.via fun s T locs X hM hO t h1 => XS.isub X.here C.1 rfl (hb C.2.1 hd) rfl h1
theorem Wk.imul {x y : Int32} (C : Cx Z own name bytes maxL ret p m meth c M) (hd : decode bytes pc = .ok (.imul, 1)) (hp : pc' = pc + 1) (W : Wk p l e R m args below meth c M P n0 L k n pc' Ls (.int (x * y) :: st)) : Wk p l e R m args below meth c M P n0 L k n pc Ls (.int y :: .int x :: st) := by
  subst hp
  exact W.via fun s T locs X hM hO t h1 => XS.imul X.here C.1 rfl (hb C.2.1 hd) rfl h1
theorem Wk.iand {x y : Int32} (C : Cx Z own name bytes maxL ret p m meth c M) (hd : decode bytes pc = .ok (.iand, 1)) (hp : pc' = pc + 1) (W : Wk p l e R m args below meth c M P n0 L k n pc' Ls (.int (x &&& y) :: st)) : Wk p l e R m args below meth c M P n0 L k n pc Ls (.int y :: .int x :: st) := by
  subst hp
  exact W.via fun s T locs X hM hO t h1 => XS.iand X.here C.1 rfl (hb C.2.1 hd) rfl h1
theorem Wk.ior {x y : Int32} (C : Cx Z own name bytes maxL ret p m meth c M) (hd : decode bytes pc = .ok (.ior, 1)) (hp : pc' = pc + 1) (W : Wk p l e R m args below meth c M P n0 L k n pc' Ls (.int (x ||| y) :: st)) : Wk p l e R m args below meth c M P n0 L k n pc Ls (.int y :: .int x :: st) := by
  subst hp
  exact W.via fun s T locs X hM hO t h1 => XS.ior X.here C.1 rfl (hb C.2.1 hd) rfl h1
theorem Wk.ixor {x y : Int32} (C : Cx Z own name bytes maxL ret p m meth c M) (hd : decode bytes pc = .ok (.ixor, 1)) (hp : pc' = pc + 1) (W : Wk p l e R m args below meth c M P n0 L k n pc' Ls (.int (x ^^^ y) :: st)) : Wk p l e R m args below meth c M P n0 L k n pc Ls (.int y :: .int x :: st) := by
  subst hp
  exact W.via fun s T locs X hM hO t h1 => XS.ixor X.here C.1 rfl (hb C.2.1 hd) rfl h1
theorem Wk.ishl {x y : Int32} (C : Cx Z own name bytes maxL ret p m meth c M) (hd : decode bytes pc = .ok (.ishl, 1)) (hp : pc' = pc + 1) (W : Wk p l e R m args below meth c M P n0 L k n pc' Ls (.int (x <<< (y &&& 31)) :: st)) : Wk p l e R m args below meth c M P n0 L k n pc Ls (.int y :: .int x :: st) := by
  subst hp
  exact W.via fun s T locs X hM hO t h1 => XS.ishl X.here C.1 rfl (hb C.2.1 hd) rfl h1
theorem Wk.ishr {x y : Int32} (C : Cx Z own name bytes maxL ret p m meth c M) (hd : decode bytes pc = .ok (.ishr, 1)) (hp : pc' = pc + 1) (W : Wk p l e R m args below meth c M P n0 L k n pc' Ls (.int (x >>> (y &&& 31)) :: st)) : Wk p l e R m args below meth c M P n0 L k n pc Ls (.int y :: .int x :: st) := by
  subst hp
  exact W.via fun s T locs X hM hO t h1 => XS.ishr X.here C.1 rfl (hb C.2.1 hd) rfl h1
theorem Wk.iushr {x y : Int32} (C : Cx Z own name bytes maxL ret p m meth c M) (hd : decode bytes pc = .ok (.iushr, 1)) (hp : pc' = pc + 1) (W : Wk p l e R m args below meth c M P n0 L k n pc' Ls (.int ((x.toUInt32 >>> (y &&& 31).toUInt32).toInt32) :: st)) : Wk p l e R m args below meth c M P n0 L k n pc Ls (.int y :: .int x :: st) := by
  subst hp
  exact W.via fun s T locs X hM hO t h1 => XS.iushr X.here C.1 rfl (hb C.2.1 hd) rfl h1
theorem Wk.irem {x y : Int32} (C : Cx Z own name bytes maxL ret p m meth c M) (hd : decode bytes pc = .ok (.irem, 1)) (hy : y ≠ 0) (hp : pc' = pc + 1) (W : Wk p l e R m args below meth c M P n0 L k n pc' Ls (.int (x % y) :: st)) : Wk p l e R m args below meth c M P n0 L k n pc Ls (.int y :: .int x :: st) := by
  subst hp
  exact W.via fun s T locs X hM hO t h1 => iremM X C.1 rfl (hb C.2.1 hd) rfl hy h1
theorem Wk.idiv {x y : Int32} (C : Cx Z own name bytes maxL ret p m meth c M) (hd : decode bytes pc = .ok (.idiv, 1)) (hy : y ≠ 0) (hp : pc' = pc + 1) (W : Wk p l e R m args below meth c M P n0 L k n pc' Ls (.int (x / y) :: st)) : Wk p l e R m args below meth c M P n0 L k n pc Ls (.int y :: .int x :: st) := by
  subst hp
  exact W.via fun s T locs X hM hO t h1 => XS.idiv X.here C.1 rfl (hb C.2.1 hd) rfl hy h1
theorem Wk.ladd {x y : Int64} (C : Cx Z own name bytes maxL ret p m meth c M) (hd : decode bytes pc = .ok (.ladd, 1)) (hp : pc' = pc + 1) (W : Wk p l e R m args below meth c M P n0 L k n pc' Ls (.long (x + y) :: st)) : Wk p l e R m args below meth c M P n0 L k n pc Ls (.long y :: .long x :: st) := by
  subst hp
  exact W.via fun s T locs X hM hO t h1 => XS.ladd X.here C.1 rfl (hb C.2.1 hd) rfl h1
theorem Wk.lsub {x y : Int64} (C : Cx Z own name bytes maxL ret p m meth c M) (hd : decode bytes pc = .ok (.lsub, 1)) (hp : pc' = pc + 1) (W : Wk p l e R m args below meth c M P n0 L k n pc' Ls (.long (x - y) :: st)) : Wk p l e R m args below meth c M P n0 L k n pc Ls (.long y :: .long x :: st) := by
  subst hp
  exact W.via fun s T locs X hM hO t h1 => XS.lsub X.here C.1 rfl (hb C.2.1 hd) rfl h1
theorem Wk.lmul {x y : Int64} (C : Cx Z own name bytes maxL ret p m meth c M) (hd : decode bytes pc = .ok (.lmul, 1)) (hp : pc' = pc + 1) (W : Wk p l e R m args below meth c M P n0 L k n pc' Ls (.long (x * y) :: st)) : Wk p l e R m args below meth c M P n0 L k n pc Ls (.long y :: .long x :: st) := by
  subst hp
  exact W.via fun s T locs X hM hO t h1 => XS.lmul X.here C.1 rfl (hb C.2.1 hd) rfl h1
theorem Wk.land {x y : Int64} (C : Cx Z own name bytes maxL ret p m meth c M) (hd : decode bytes pc = .ok (.land, 1)) (hp : pc' = pc + 1) (W : Wk p l e R m args below meth c M P n0 L k n pc' Ls (.long (x &&& y) :: st)) : Wk p l e R m args below meth c M P n0 L k n pc Ls (.long y :: .long x :: st) := by
  subst hp
  exact W.via fun s T locs X hM hO t h1 => XS.land X.here C.1 rfl (hb C.2.1 hd) rfl h1
theorem Wk.lor {x y : Int64} (C : Cx Z own name bytes maxL ret p m meth c M) (hd : decode bytes pc = .ok (.lor, 1)) (hp : pc' = pc + 1) (W : Wk p l e R m args below meth c M P n0 L k n pc' Ls (.long (x ||| y) :: st)) : Wk p l e R m args below meth c M P n0 L k n pc Ls (.long y :: .long x :: st) := by
  subst hp
  exact W.via fun s T locs X hM hO t h1 => XS.lor X.here C.1 rfl (hb C.2.1 hd) rfl h1
theorem Wk.lxor {x y : Int64} (C : Cx Z own name bytes maxL ret p m meth c M) (hd : decode bytes pc = .ok (.lxor, 1)) (hp : pc' = pc + 1) (W : Wk p l e R m args below meth c M P n0 L k n pc' Ls (.long (x ^^^ y) :: st)) : Wk p l e R m args below meth c M P n0 L k n pc Ls (.long y :: .long x :: st) := by
  subst hp
  exact W.via fun s T locs X hM hO t h1 => XS.lxor X.here C.1 rfl (hb C.2.1 hd) rfl h1
theorem Wk.lshl {x : Int64} {y : Int32} (C : Cx Z own name bytes maxL ret p m meth c M) (hd : decode bytes pc = .ok (.lshl, 1)) (hp : pc' = pc + 1) (W : Wk p l e R m args below meth c M P n0 L k n pc' Ls (.long (x <<< (y &&& 0x3f).toInt64) :: st)) : Wk p l e R m args below meth c M P n0 L k n pc Ls (.int y :: .long x :: st) := by
  subst hp
  exact W.via fun s T locs X hM hO t h1 => XS.lshl X.here C.1 rfl (hb C.2.1 hd) rfl h1
theorem Wk.lshr {x : Int64} {y : Int32} (C : Cx Z own name bytes maxL ret p m meth c M) (hd : decode bytes pc = .ok (.lshr, 1)) (hp : pc' = pc + 1) (W : Wk p l e R m args below meth c M P n0 L k n pc' Ls (.long (x >>> (y &&& 0x3f).toInt64) :: st)) : Wk p l e R m args below meth c M P n0 L k n pc Ls (.int y :: .long x :: st) := by
  subst hp
  exact W.via fun s T locs X hM hO t h1 => XS.lshr X.here C.1 rfl (hb C.2.1 hd) rfl h1
theorem Wk.lushr {x : Int64} {y : Int32} (C : Cx Z own name bytes maxL ret p m meth c M) (hd : decode bytes pc = .ok (.lushr, 1)) (hp : pc' = pc + 1) (W : Wk p l e R m args below meth c M P n0 L k n pc' Ls (.long ((x.toUInt64 >>> (y &&& 0x3f).toInt64.toUInt64).toInt64) :: st)) : Wk p l e R m args below meth c M P n0 L k n pc Ls (.int y :: .long x :: st) := by
  subst hp
  exact W.via fun s T locs X hM hO t h1 => XS.lushr X.here C.1 rfl (hb C.2.1 hd) rfl h1
theorem Wk.lrem {x y : Int64} (C : Cx Z own name bytes maxL ret p m meth c M) (hd : decode bytes pc = .ok (.lrem, 1)) (hy : y ≠ 0) (hp : pc' = pc + 1) (W : Wk p l e R m args below meth c M P n0 L k n pc' Ls (.long (x % y) :: st)) : Wk p l e R m args below meth c M P n0 L k n pc Ls (.long y :: .long x :: st) := by
  subst hp
  exact W.via fun s T locs X hM hO t h1 => XS.lrem X.here C.1 rfl (hb C.2.1 hd) rfl hy (by rw [lrem_mod]; exact h1)
theorem Wk.i2b {x : Int32} (C : Cx Z own name bytes maxL ret p m meth c M) (hd : decode bytes pc = .ok (.i2b, 1)) (hp : pc' = pc + 1) (W : Wk p l e R m args below meth c M P n0 L k n pc' Ls (.int (x.toInt8.toInt32) :: st)) : Wk p l e R m args below meth c M P n0 L k n pc Ls (.int x :: st) := by
  subst hp
  exact W.via fun s T locs X hM hO t h1 => XS.i2b X.here C.1 rfl (hb C.2.1 hd) rfl h1
theorem Wk.i2c {x : Int32} (C : Cx Z own name bytes maxL ret p m meth c M) (hd : decode bytes pc = .ok (.i2c, 1)) (hp : pc' = pc + 1) (W : Wk p l e R m args below meth c M P n0 L k n pc' Ls (.int (x.toUInt32.toUInt16.toUInt32.toInt32) :: st)) : Wk p l e R m args below meth c M P n0 L k n pc Ls (.int x :: st) := by
  subst hp
  exact W.via fun s T locs X hM hO t h1 => XS.i2c X.here C.1 rfl (hb C.2.1 hd) rfl h1
theorem Wk.i2s {x : Int32} (C : Cx Z own name bytes maxL ret p m meth c M) (hd : decode bytes pc = .ok (.i2s, 1)) (hp : pc' = pc + 1) (W : Wk p l e R m args below meth c M P n0 L k n pc' Ls (.int (x.toInt16.toInt32) :: st)) : Wk p l e R m args below meth c M P n0 L k n pc Ls (.int x :: st) := by
  subst hp
  exact W.via fun s T locs X hM hO t h1 => XS.i2s X.here C.1 rfl (hb C.2.1 hd) rfl h1
theorem Wk.i2l {x : Int32} (C : Cx Z own name bytes maxL ret p m meth c M) (hd : decode bytes pc = .ok (.i2l, 1)) (hp : pc' = pc + 1) (W : Wk p l e R m args below meth c M P n0 L k n pc' Ls (.long (x.toInt64) :: st)) : Wk p l e R m args below meth c M P n0 L k n pc Ls (.int x :: st) := by
  subst hp
  exact W.via fun s T locs X hM hO t h1 => XS.i2l X.here C.1 rfl (hb C.2.1 hd) rfl h1
theorem Wk.l2i {x : Int64} (C : Cx Z own name bytes maxL ret p m meth c M) (hd : decode bytes pc = .ok (.l2i, 1)) (hp : pc' = pc + 1) (W : Wk p l e R m args below meth c M P n0 L k n pc' Ls (.int (x.toInt32) :: st)) : Wk p l e R m args below meth c M P n0 L k n pc Ls (.long x :: st) := by
  subst hp
  exact W.via fun s T locs X hM hO t h1 => XS.l2i X.here C.1 rfl (hb C.2.1 hd) rfl h1
theorem Wk.lneg {x : Int64} (C : Cx Z own name bytes maxL ret p m meth c M) (hd : decode bytes pc = .ok (.lneg, 1)) (hp : pc' = pc + 1) (W : Wk p l e R m args below meth c M P n0 L k n pc' Ls (.long (-x) :: st)) : Wk p l e R m args below meth c M P n0 L k n pc Ls (.long x :: st) := by
  subst hp
  exact W.via fun s T locs X hM hO t h1 => XS.lneg X.here C.1 rfl (hb C.2.1 hd) rfl h1
theorem Wk.ineg {x : Int32} (C : Cx Z own name bytes maxL ret p m meth c M) (hd : decode bytes pc = .ok (.ineg, 1)) (hp : pc' = pc + 1) (W : Wk p l e R m args below meth c M P n0 L k n pc' Ls (.int (-x) :: st)) : Wk p l e R m args below meth c M P n0 L k n pc Ls (.int x :: st) := by
  subst hp
  exact W.via fun s T locs X hM hO t h1 => XS.ineg X.here C.1 rfl (hb C.2.1 hd) rfl h1
theorem Wk.dup {x : Value} (C : Cx Z own name bytes maxL ret p m meth c M) (hd : decode bytes pc = .ok (.dup, 1)) (hc : x.category = 1) (hp : pc' = pc + 1) (W : Wk p l e R m args below meth c M P n0 L k n pc' Ls (x :: x :: st)) : Wk p l e R m args below meth c M P n0 L k n pc Ls (x :: st) := by
  subst hp
  exact W.via fun s T locs X hM hO t h1 => XS.dup X.here C.1 rfl (hb C.2.1 hd) rfl hc h1
theorem Wk.pop {x : Value} (C : Cx Z own name bytes maxL ret p m meth c M) (hd : decode bytes pc = .ok (.pop, 1)) (hc : x.category = 1) (hp : pc' = pc + 1) (W : Wk p l e R m args below meth c M P n0 L k n pc' Ls (st)) : Wk p l e R m args below meth c M P n0 L k n pc Ls (x :: st) := by
  subst hp
  exact W.via fun s T locs X hM hO t h1 => XS.pop X.here C.1 rfl (hb C.2.1 hd) rfl hc h1
theorem Wk.dupX1 {x y : Value} (C : Cx Z own name bytes maxL ret p m meth c M) (hd : decode bytes pc = .ok (.dup_x1, 1)) (hc : x.category = 1) (hc' : y.category = 1) (hp : pc' = pc + 1) (W : Wk p l e R m args below meth c M P n0 L k n pc' Ls (x :: y :: x :: st)) : Wk p l e R m args below meth c M P n0 L k n pc Ls (x :: y :: st) := by
  subst hp
  exact W.via fun s T locs X hM hO t h1 => XS.dupX1 X.here C.1 rfl (hb C.2.1 hd) rfl hc hc' h1
theorem Wk.dup2 {x y : Value} (C : Cx Z own name bytes maxL ret p m meth c M) (hd : decode bytes pc = .ok (.dup2, 1)) (hc : x.category = 1) (hc' : y.category = 1) (hp : pc' = pc + 1) (W : Wk p l e R m args below meth c M P n0 L k n pc' Ls (x :: y :: x :: y :: st)) : Wk p l e R m args below meth c M P n0 L k n pc Ls (x :: y :: st) := by
  subst hp
  exact W.via fun s T locs X hM hO t h1 => Jvm.Free.XT.dup2 X.here C.1 rfl (hb C.2.1 hd) rfl hc hc' h1
theorem Wk.goto {o : Int} (C : Cx Z own name bytes maxL ret p m meth c M) (hd : decode bytes pc = .ok (.goto o, 3)) (ho : 0 ≤ (pc : Int) + o) (hp : ((pc : Int) + o).toNat = pc') (W : Wk p l e R m args below meth c M P n0 L k n pc' Ls (st)) : Wk p l e R m args below meth c M P n0 L k n pc Ls (st) :=
  W.via fun s T locs X hM hO t h1 => XS.goto X.here C.1 rfl (pc0 := pc) rfl (hb C.2.1 hd) ho hp h1
theorem Wk.icmp_lt {x y : Int32} {o : Int} {pcT pcF : Nat} (C : Cx Z own name bytes maxL ret p m meth c M) (hd : decode bytes pc = .ok (.if_icmp .lt o, 3)) (ho : 0 ≤ (pc : Int) + o) (hp : ((pc : Int) + o).toNat = pcT) (hp' : pcF = pc + 3) (hT : x < y → Wk p l e R m args below meth c M P n0 L k n pcT Ls (st)) (hF : ¬ x < y → Wk p l e R m args below meth c M P n0 L k n pcF Ls (st)) : Wk p l e R m args below meth c M P n0 L k n pc Ls (.int y :: .int x :: st) := by
  subst hp'
  by_cases h : x < y
  · exact (hT h).via fun s T locs X hM hO t h1 => XS.icmpYes X.here C.1 rfl (pc0 := pc) rfl (hb C.2.1 hd) rfl (tlt h).1 ho hp h1
  · exact (hF h).via fun s T locs X hM hO t h1 => XS.icmpNo X.here C.1 rfl (hb C.2.1 hd) rfl (flt h).1 h1
theorem Wk.if_lt {x : Int32} {o : Int} {pcT pcF : Nat} (C : Cx Z own name bytes maxL ret p m meth c M) (hd : decode bytes pc = .ok (.ifCond .lt o, 3)) (ho : 0 ≤ (pc : Int) + o) (hp : ((pc : Int) + o).toNat = pcT) (hp' : pcF = pc + 3) (hT : x < 0 → Wk p l e R m args below meth c M P n0 L k n pcT Ls (st)) (hF : ¬ x < 0 → Wk p l e R m args below meth c M P n0 L k n pcF Ls (st)) : Wk p l e R m args below meth c M P n0 L k n pc Ls (.int x :: st) := by
  subst hp'
  by_cases h : x < 0
  · exact (hT h).via fun s T locs X hM hO t h1 => XS.ifYes X.here C.1 rfl (pc0 := pc) rfl (hb C.2.1 hd) rfl ((if0 _ _).trans (tlt h).1) ho hp h1
  · exact (hF h).via fun s T locs X hM hO t h1 => XS.ifNo X.here C.1 rfl (hb C.2.1 hd) rfl ((if0 _ _).trans (flt h).1) h1
theorem Wk.lcmp_lt {x y : Int64} {o : Int} {pc1 pcT pcF : Nat} (C : Cx Z own name bytes maxL ret p m meth c M) (hd0 : decode bytes pc = .ok (.lcmp, 1)) (hp1 : pc1 = pc + 1) (hd : decode bytes pc1 = .ok (.ifCond .lt o, 3)) (ho : 0 ≤ (pc1 : Int) + o) (hp : ((pc1 : Int) + o).toNat = pcT) (hp' : pcF = pc1 + 3) (hT : x < y → Wk p l e R m args below meth c M P n0 L k n pcT Ls (st)) (hF : ¬ x < y → Wk p l e R m args below meth c M P n0 L k n pcF Ls (st)) : Wk p l e R m args below meth c M P n0 L k n pc Ls (.long y :: .long x :: st) := by
  subst hp1
  have W1 : Wk p l e R m args below meth c M P n0 L k n (pc + 1) Ls (.int (lcmpW x y) :: st) := Wk.if_lt C hd ho hp hp' (fun h => hT ((lw_lt x y).mp h)) (fun h => hF (fun q => h ((lw_lt x y).mpr q)))
  exact W1.via fun s T locs X hM hO t h1 => XS.lcmp X.here C.1 rfl (hb C.2.1 hd0) rfl h1
theorem Wk.icmp_ge {x y : Int32} {o : Int} {pcT pcF : Nat} (C : Cx Z own name bytes maxL ret p m meth c M) (hd : decode bytes pc = .ok (.if_icmp .ge o, 3)) (ho : 0 ≤ (pc : Int) + o) (hp : ((pc : Int) + o).toNat = pcT) (hp' : pcF = pc + 3) (hT : ¬ x < y → Wk p l e R m args below meth c M P n0 L k n pcT Ls (st)) (hF : x < y → Wk p l e R m args below meth c M P n0 L k n pcF Ls (st)) : Wk p l e R m args below meth c M P n0 L k n pc Ls (.int y :: .int x :: st) := by
  subst hp'
  by_cases h : x < y
  · exact (hF h).via fun s T locs X hM hO t h1 => XS.icmpNo X.here C.1 rfl (hb C.2.1 hd) rfl (tlt h).2.1 h1
  · exact (hT h).via fun s T locs X hM hO t h1 => XS.icmpYes X.here C.1 rfl (pc0 := pc) rfl (hb C.2.1 hd) rfl (flt h).2.1 ho hp h1
theorem Wk.if_ge {x : Int32} {o : Int} {pcT pcF : Nat} (C : Cx Z own name bytes maxL ret p m meth c M) (hd : decode bytes pc = .ok (.ifCond .ge o, 3)) (ho : 0 ≤ (pc : Int) + o) (hp : ((pc : Int) + o).toNat = pcT) (hp' : pcF = pc + 3) (hT : ¬ x < 0 → Wk p l e R m args below meth c M P n0 L k n pcT Ls (st)) (hF : x < 0 → Wk p l e R m args below meth c M P n0 L k n pcF Ls (st)) : Wk p l e R m args below meth c M P n0 L k n pc Ls (.int x :: st) := by
  subst hp'
  by_cases h : x < 0
  · exact (hF h).via fun s T locs X hM hO t h1 => XS.ifNo X.here C.1 rfl (hb C.2.1 hd) rfl ((if0 _ _).trans (tlt h).2.1) h1
  · exact (hT h).via fun s T locs X hM hO t h1 => XS.ifYes X.here C.1 rfl (pc0 := pc) rfl (hb C.2.1 hd) rfl ((if0 _ _).trans (flt h).2.1) ho hp h1
theorem Wk.lcmp_ge {x y : Int64} {o : Int} {pc1 pcT pcF : Nat} (C : Cx Z own name bytes maxL ret p m meth c M) (hd0 : decode bytes pc = .ok (.lcmp, 1)) (hp1 : pc1 = pc + 1) (hd : decode bytes pc1 = .ok (.ifCond .ge o, 3)) (ho : 0 ≤ (pc1 : Int) + o) (hp : ((pc1 : Int) + o).toNat = pcT) (hp' : pcF = pc1 + 3) (hT : ¬ x < y → Wk p l e R m args below meth c M P n0 L k n pcT Ls (st)) (hF : x < y → Wk p l e R m args below meth c M P n0 L k n pcF Ls (st)) : Wk p l e R m args below meth c M P n0 L k n pc Ls (.long y :: .long x :: st) := by
  subst hp1
  have W1 : Wk p l e R m args below meth c M P n0 L k n (pc + 1) Ls (.int (lcmpW x y) :: st) := Wk.if_ge C hd ho hp hp' (fun h => hT (fun q => h ((lw_lt x y).mpr q))) (fun h => hF ((lw_lt x y).mp h))
  exact W1.via fun s T locs X hM hO t h1 => XS.lcmp X.here C.1 rfl (hb C.2.1 hd0) rfl h1
theorem Wk.icmp_gt {x y : Int32} {o : Int} {pcT pcF : Nat} (C : Cx Z own name bytes maxL ret p m meth c M) (hd : decode bytes pc = .ok (.if_icmp .gt o, 3)) (ho : 0 ≤ (pc : Int) + o) (hp : ((pc : Int) + o).toNat = pcT) (hp' : pcF = pc + 3) (hT : y < x → Wk p l e R m args below meth c M P n0 L k n pcT Ls (st)) (hF : ¬ y < x → Wk p l e R m args below meth c M P n0 L k n pcF Ls (st)) : Wk p l e R m args below meth c M P n0 L k n pc Ls (.int y :: .int x :: st) := by
  subst hp'
  by_cases h : y < x
  · exact (hT h).via fun s T locs X hM hO t h1 => XS.icmpYes X.here C.1 rfl (pc0 := pc) rfl (hb C.2.1 hd) rfl (tlt h).2.2.1 ho hp h1
  · exact (hF h).via fun s T locs X hM hO t h1 => XS.icmpNo X.here C.1 rfl (hb C.2.1 hd) rfl (flt h).2.2.1 h1
theorem Wk.if_gt {x : Int32} {o : Int} {pcT pcF : Nat} (C : Cx Z own name bytes maxL ret p m meth c M) (hd : decode bytes pc = .ok (.ifCond .gt o, 3)) (ho : 0 ≤ (pc : Int) + o) (hp : ((pc : Int) + o).toNat = pcT) (hp' : pcF = pc + 3) (hT : 0 < x → Wk p l e R m args below meth c M P n0 L k n pcT Ls (st)) (hF : ¬ 0 < x → Wk p l e R m args below meth c M P n0 L k n pcF Ls (st)) : Wk p l e R m args below meth c M P n0 L k n pc Ls (.int x :: st) := by
  subst hp'
  by_cases h : 0 < x
  · exact (hT h).via fun s T locs X hM hO t h1 => XS.ifYes X.here C.1 rfl (pc0 := pc) rfl (hb C.2.1 hd) rfl ((if0 _ _).trans (tlt h).2.2.1) ho hp h1
  · exact (hF h).via fun s T locs X hM hO t h1 => XS.ifNo X.here C.1 rfl (hb C.2.1 hd) rfl ((if0 _ _).trans (flt h).2.2.1) h1
theorem Wk.lcmp_gt {x y : Int64} {o : Int} {pc1 pcT pcF : Nat} (C : Cx Z own name bytes maxL ret p m meth c M) (hd0 : decode bytes pc = .ok (.lcmp, 1)) (hp1 : pc1 = pc + 1) (hd : decode bytes pc1 = .ok (.ifCond .gt o, 3)) (ho : 0 ≤ (pc1 : Int) + o) (hp : ((pc1 : Int) + o).toNat = pcT) (hp' : pcF = pc1 + 3) (hT : y < x → Wk p l e R m args below meth c M P n0 L k n pcT Ls (st)) (hF : ¬ y < x → Wk p l e R m args below meth c M P n0 L k n pcF Ls (st)) : Wk p l e R m args below meth c M P n0 L k n pc Ls (.long y :: .long x :: st) := by
  subst hp1
  have W1 : Wk p l e R m args below meth c M P n0 L k n (pc + 1) Ls (.int (lcmpW x y) :: st) := Wk.if_gt C hd ho hp hp' (fun h => hT ((lw_gt x y).mp h)) (fun h => hF (fun q => h ((lw_gt x y).mpr q)))
  exact W1.via fun s T locs X hM hO t h1 => XS.lcmp X.here C.1 rfl (hb C.2.1 hd0) rfl h1
theorem Wk.icmp_le {x y : Int32} {o : Int} {pcT pcF : Nat} (C : Cx Z own name bytes maxL ret p m meth c M) (hd : decode bytes pc = .ok (.if_icmp .le o, 3)) (ho : 0 ≤ (pc : Int) + o) (hp : ((pc : Int) + o).toNat = pcT) (hp' : pcF = pc + 3) (hT : ¬ y < x → Wk p l e R m args below meth c M P n0 L k n pcT Ls (st)) (hF : y < x → Wk p l e R m args below meth c M P n0 L k n pcF Ls (st)) : Wk p l e R m args below meth c M P n0 L k n pc Ls (.int y :: .int x :: st) := by
  subst hp'
  by_cases h : y < x
  · exact (hF h).via fun s T locs X hM hO t h1 => XS.icmpNo X.here C.1 rfl (hb C.2.1 hd) rfl (tlt h).2.2.2 h1
  · exact (hT h).via fun s T locs X hM hO t h1 => XS.icmpYes X.here C.1 rfl (pc0 := pc) rfl (hb C.2.1 hd) rfl (flt h).2.2.2 ho hp h1
theorem Wk.if_le {x : Int32} {o : Int} {pcT pcF : Nat} (C : Cx Z own name bytes maxL ret p m meth c M) (hd : decode bytes pc = .ok (.ifCond .le o, 3)) (ho : 0 ≤ (pc : Int) + o) (hp : ((pc : Int) + o).toNat = pcT) (hp' : pcF = pc + 3) (hT : ¬ 0 < x → Wk p l e R m args below meth c M P n0 L k n pcT Ls (st)) (hF : 0 < x → Wk p l e R m args below meth c M P n0 L k n pcF Ls (st)) : Wk p l e R m args below meth c M P n0 L k n pc Ls (.int x :: st) := by
  subst hp'
  by_cases h : 0 < x
  · exact (hF h).via fun s T locs X hM hO t h1 => XS.ifNo X.here C.1 rfl (hb C.2.1 hd) rfl ((if0 _ _).trans (tlt h).2.2.2) h1
  · exact (hT h).via fun s T locs X hM hO t h1 => XS.ifYes X.here C.1 rfl (pc0 := pc) rfl (hb C.2.1 hd) rfl ((if0 _ _).trans (flt h).2.2.2) ho hp h1
theorem Wk.lcmp_le {x y : Int64} {o : Int} {pc1 pcT pcF : Nat} (C : Cx Z own name bytes maxL ret p m meth c M) (hd0 : decode bytes pc = .ok (.lcmp, 1)) (hp1 : pc1 = pc + 1) (hd : decode bytes pc1 = .ok (.ifCond .le o, 3)) (ho : 0 ≤ (pc1 : Int) + o) (hp : ((pc1 : Int) + o).toNat = pcT) (hp' : pcF = pc1 + 3) (hT : ¬ y < x → Wk p l e R m args below meth c M P n0 L k n pcT Ls (st)) (hF : y < x → Wk p l e R m args below meth c M P n0 L k n pcF Ls (st)) : Wk p l e R m args below meth c M P n0 L k n pc Ls (.long y :: .long x :: st) := by
  subst hp1
  have W1 : Wk p l e R m args below meth c M P n0 L k n (pc + 1) Ls (.int (lcmpW x y) :: st) := Wk.if_le C hd ho hp hp' (fun h => hT (fun q => h ((lw_gt x y).mpr q))) (fun h => hF ((lw_gt x y).mp h))
  exact W1.via fun s T locs X hM hO t h1 => XS.lcmp X.here C.1 rfl (hb C.2.1 hd0) rfl h1
theorem Wk.icmp_eq {x y : Int32} {o : Int} {pcT pcF : Nat} (C : Cx Z own name bytes maxL ret p m meth c M) (hd : decode bytes pc = .ok (.if_icmp .eq o, 3)) (ho : 0 ≤ (pc : Int) + o) (hp : ((pc : Int) + o).toNat = pcT) (hp' : pcF = pc + 3) (hT : x = y → Wk p l e R m args below meth c M P n0 L k n pcT Ls (st)) (hF : ¬ x = y → Wk p l e R m args below meth c M P n0 L k n pcF Ls (st)) : Wk p l e R m args below meth c M P n0 L k n pc Ls (.int y :: .int x :: st) := by
  subst hp'
  by_cases h : x = y
  · exact (hT h).via fun s T locs X hM hO t h1 => XS.icmpYes X.here C.1 rfl (pc0 := pc) rfl (hb C.2.1 hd) rfl (teq h).1 ho hp h1
  · exact (hF h).via fun s T locs X hM hO t h1 => XS.icmpNo X.here C.1 rfl (hb C.2.1 hd) rfl (feq h).1 h1
theorem Wk.if_eq {x : Int32} {o : Int} {pcT pcF : Nat} (C : Cx Z own name bytes maxL ret p m meth c M) (hd : decode bytes pc = .ok (.ifCond .eq o, 3)) (ho : 0 ≤ (pc : Int) + o) (hp : ((pc : Int) + o).toNat = pcT) (hp' : pcF = pc + 3) (hT : x = 0 → Wk p l e R m args below meth c M P n0 L k n pcT Ls (st)) (hF : ¬ x = 0 → Wk p l e R m args below meth c M P n0 L k n pcF Ls (st)) : Wk p l e R m args below meth c M P n0 L k n pc Ls (.int x :: st) := by
  subst hp'
  by_cases h : x = 0
  · exact (hT h).via fun s T locs X hM hO t h1 => XS.ifYes X.here C.1 rfl (pc0 := pc) rfl (hb C.2.1 hd) rfl ((if0 _ _).trans (teq h).1) ho hp h1
  · exact (hF h).via fun s T locs X hM hO t h1 => XS.ifNo X.here C.1 rfl (hb C.2.1 hd) rfl ((if0 _ _).trans (feq h).1) h1
theorem Wk.lcmp_eq {x y : Int64} {o : Int} {pc1 pcT pcF : Nat} (C : Cx Z own name bytes maxL ret p m meth c M) (hd0 : decode bytes pc = .ok (.lcmp, 1)) (hp1 : pc1 = pc + 1) (hd : decode bytes pc1 = .ok (.ifCond .eq o, 3)) (ho : 0 ≤ (pc1 : Int) + o) (hp : ((pc1 : Int) + o).toNat = pcT) (hp' : pcF = pc1 + 3) (hT : x = y → Wk p l e R m args below meth c M P n0 L k n pcT Ls (st)) (hF : ¬ x = y → Wk p l e R m args below meth c M P n0 L k n pcF Ls (st)) : Wk p l e R m args below meth c M P n0 L k n pc Ls (.long y :: .long x :: st) := by
  subst hp1
  have W1 : Wk p l e R m args below meth c M P n0 L k n (pc + 1) Ls (.int (lcmpW x y) :: st) := Wk.if_eq C hd ho hp hp' (fun h => hT ((lw_eq x y).mp h)) (fun h => hF (fun q => h ((lw_eq x y).mpr q)))
  exact W1.via fun s T locs X hM hO t h1 => XS.lcmp X.here C.1 rfl (hb C.2.1 hd0) rfl h1
theorem Wk.icmp_ne {x y : Int32} {o : Int} {pcT pcF : Nat} (C : Cx Z own name bytes maxL ret p m meth c M) (hd : decode bytes pc = .ok (.if_icmp .ne o, 3)) (ho : 0 ≤ (pc : Int) + o) (hp : ((pc : Int) + o).toNat = pcT) (hp' : pcF = pc + 3) (hT : ¬ x = y → Wk p l e R m args below meth c M P n0 L k n pcT Ls (st)) (hF : x = y → Wk p l e R m args below meth c M P n0 L k n pcF Ls (st)) : Wk p l e R m args below meth c M P n0 L k n pc Ls (.int y :: .int x :: st) := by
  subst hp'
  by_cases h : x = y
  · exact (hF h).via fun s T locs X hM hO t h1 => XS.icmpNo X.here C.1 rfl (hb C.2.1 hd) rfl (teq h).2 h1
  · exact (hT h).via fun s T locs X hM hO t h1 => XS.icmpYes X.here C.1 rfl (pc0 := pc) rfl (hb C.2.1 hd) rfl (feq h).2 ho hp h1
theorem Wk.if_ne {x : Int32} {o : Int} {pcT pcF : Nat} (C : Cx Z own name bytes maxL ret p m meth c M) (hd : decode bytes pc = .ok (.ifCond .ne o, 3)) (ho : 0 ≤ (pc : Int) + o) (hp : ((pc : Int) + o).toNat = pcT) (hp' : pcF = pc + 3) (hT : ¬ x = 0 → Wk p l e R m args below meth c M P n0 L k n pcT Ls (st)) (hF : x = 0 → Wk p l e R m args below meth c M P n0 L k n pcF Ls (st)) : Wk p l e R m args below meth c M P n0 L k n pc Ls (.int x :: st) := by
  subst hp'
  by_cases h : x = 0
  · exact (hF h).via fun s T locs X hM hO t h1 => XS.ifNo X.here C.1 rfl (hb C.2.1 hd) rfl ((if0 _ _).trans (teq h).2) h1
  · exact (hT h).via fun s T locs X hM hO t h1 => XS.ifYes X.here C.1 rfl (pc0 := pc) rfl (hb C.2.1 hd) rfl ((if0 _ _).trans (feq h).2) ho hp h1
theorem Wk.lcmp_ne {x y : Int64} {o : Int} {pc1 pcT pcF : Nat} (C : Cx Z own name bytes maxL ret p m meth c M) (hd0 : decode bytes pc = .ok (.lcmp, 1)) (hp1 : pc1 = pc + 1) (hd : decode bytes pc1 = .ok (.ifCond .ne o, 3)) (ho : 0 ≤ (pc1 : Int) + o) (hp : ((pc1 : Int) + o).toNat = pcT) (hp' : pcF = pc1 + 3) (hT : ¬ x = y → Wk p l e R m args below meth c M P n0 L k n pcT Ls (st)) (hF : x = y → Wk p l e R m args below meth c M P n0 L k n pcF Ls (st)) : Wk p l e R m args below meth c M P n0 L k n pc Ls (.long y :: .long x :: st) := by
  subst hp1
  have W1 : Wk p l e R m args below meth c M P n0 L k n (pc + 1) Ls (.int (lcmpW x y) :: st) := Wk.if_ne C hd ho hp hp' (fun h => hT (fun q => h ((lw_eq x y).mpr q))) (fun h => hF ((lw_eq x y).mp h))
  exact W1.via fun s T locs X hM hO t h1 => XS.lcmp X.here C.1 rfl (hb C.2.1 hd0) rfl h1
theorem Wk.ifnullYes {o : Int} (C : Cx Z own name bytes maxL ret p m meth c M) (hd : decode bytes pc = .ok (.ifnull o, 3)) (ho : 0 ≤ (pc : Int) + o) (hp : ((pc : Int) + o).toNat = pc') (W : Wk p l e R m args below meth c M P n0 L k n pc' Ls (st)) : Wk p l e R m args below meth c M P n0 L k n pc Ls (.null :: st) :=
  W.via fun s T locs X hM hO t h1 => XS.ifnullYes X.here C.1 rfl (pc0 := pc) rfl (hb C.2.1 hd) rfl ho hp h1
theorem Wk.ifnullNo {b : Addr} {o : Int} (C : Cx Z own name bytes maxL ret p m meth c M) (hd : decode bytes pc = .ok (.ifnull o, 3)) (hp : pc' = pc + 3) (W : Wk p l e R m args below meth c M P n0 L k n pc' Ls (st)) : Wk p l e R m args below meth c M P n0 L k n pc Ls (.ref b :: st) := by
  subst hp
  exact W.via fun s T locs X hM hO t h1 => XS.ifnullNo X.here C.1 rfl (hb C.2.1 hd) rfl h1
theorem Wk.ifnonnullYes {b : Addr} {o : Int} (C : Cx Z own name bytes maxL ret p m meth c M) (hd : decode bytes pc = .ok (.ifnonnull o, 3)) (ho : 0 ≤ (pc : Int) + o) (hp : ((pc : Int) + o).toNat = pc') (W : Wk p l e R m args below meth c M P n0 L k n pc' Ls (st)) : Wk p l e R m args below meth c M P n0 L k n pc Ls (.ref b :: st) :=
  W.via fun s T locs X hM hO t h1 => XS.ifnonnullYes X.here C.1 rfl (pc0 := pc) rfl (hb C.2.1 hd) rfl ho hp h1
theorem Wk.ifnonnullNo {o : Int} (C : Cx Z own name bytes maxL ret p m meth c M) (hd : decode bytes pc = .ok (.ifnonnull o, 3)) (hp : pc' = pc + 3) (W : Wk p l e R m args below meth c M P n0 L k n pc' Ls (st)) : Wk p l e R m args below meth c M P n0 L k n pc Ls (.null :: st) := by
  subst hp
  exact W.via fun s T locs X hM hO t h1 => XS.ifnonnullNo X.here C.1 rfl (hb C.2.1 hd) rfl h1
theorem Wk.acmp {cd : ACond} {x y : Value} {o : Int} {same : Bool} (C : Cx Z own name bytes maxL ret p m meth c M) (hd : decode bytes pc = .ok (.if_acmp cd o, 3)) (h1 : x.isRef = true) (h2 : y.isRef = true) (hq : decide (x = y) = same) (ho : 0 ≤ (pc : Int) + o) (hp : pc' = if acV cd same = true then ((pc : Int) + o).toNat else pc + 3) (W : Wk p l e R m args below meth c M P n0 L k n pc' Ls (st)) : Wk p l e R m args below meth c M P n0 L k n pc Ls (y :: x :: st) :=
  W.via fun s T locs X hM hO t r => Jvm.RoadKit.acmp (g := mkF m pc Ls (y :: x :: st)) X C.1 rfl h1 h2 (pc0 := pc) rfl (hb C.2.1 hd) rfl hq ho hp r
theorem Wk.join0 {pcj : Nat} (Lj : Array Slot) (sj : List Value) (J : Wk p l e R m args below meth c M P n0 L k n pcj Lj (sj)) (K : Wk p l e R m args below meth c M P n0 L k n pcj Lj (sj) → Wk p l e R m args below meth c M P n0 L k n pc Ls (st)) : Wk p l e R m args below meth c M P n0 L k n pc Ls (st) := K J
theorem Wk.join1 {pcj : Nat} {A0 : Type} (F : A0 → Array Slot) (G : A0 → List Value) (E0 : A0) (J : ∀ v0, v0 = E0 → Wk p l e R m args below meth c M P n0 L k n pcj (F v0) (G v0)) (K : (∀ v0, v0 = E0 → Wk p l e R m args below meth c M P n0 L k n pcj (F v0) (G v0)) → Wk p l e R m args below meth c M P n0 L k n pc Ls (st)) : Wk p l e R m args below meth c M P n0 L k n pc Ls (st) := K J
theorem Wk.join2 {pcj : Nat} {A0 A1 : Type} (F : A0 → A1 → Array Slot) (G : A0 → A1 → List Value) (E0 : A0) (E1 : A1) (J : ∀ v0 v1, v0 = E0 → v1 = E1 → Wk p l e R m args below meth c M P n0 L k n pcj (F v0 v1) (G v0 v1)) (K : (∀ v0 v1, v0 = E0 → v1 = E1 → Wk p l e R m args below meth c M P n0 L k n pcj (F v0 v1) (G v0 v1)) → Wk p l e R m args below meth c M P n0 L k n pc Ls (st)) : Wk p l e R m args below meth c M P n0 L k n pc Ls (st) := K J
theorem Wk.join3 {pcj : Nat} {A0 A1 A2 : Type} (F : A0 → A1 → A2 → Array Slot) (G : A0 → A1 → A2 → List Value) (E0 : A0) (E1 : A1) (E2 : A2) (J : ∀ v0 v1 v2, v0 = E0 → v1 = E1 → v2 = E2 → Wk p l e R m args below meth c M P n0 L k n pcj (F v0 v1 v2) (G v0 v1 v2)) (K : (∀ v0 v1 v2, v0 = E0 → v1 = E1 → v2 = E2 → Wk p l e R m args below meth c M P n0 L k n pcj (F v0 v1 v2) (G v0 v1 v2)) → Wk p l e R m args below meth c M P n0 L k n pc Ls (st)) : Wk p l e R m args below meth c M P n0 L k n pc Ls (st) := K J
theorem Wk.join4 {pcj : Nat} {A0 A1 A2 A3 : Type} (F : A0 → A1 → A2 → A3 → Array Slot) (G : A0 → A1 → A2 → A3 → List Value) (E0 : A0) (E1 : A1) (E2 : A2) (E3 : A3) (J : ∀ v0 v1 v2 v3, v0 = E0 → v1 = E1 → v2 = E2 → v3 = E3 → Wk p l e R m args below meth c M P n0 L k n pcj (F v0 v1 v2 v3) (G v0 v1 v2 v3)) (K : (∀ v0 v1 v2 v3, v0 = E0 → v1 = E1 → v2 = E2 → v3 = E3 → Wk p l e R m args below meth c M P n0 L k n pcj (F v0 v1 v2 v3) (G v0 v1 v2 v3)) → Wk p l e R m args below meth c M P n0 L k n pc Ls (st)) : Wk p l e R m args below meth c M P n0 L k n pc Ls (st) := K J
theorem Wk.ind {A : Type} (μ : A → Nat) (F : A → Array Slot) (H : A → List (Addr × (Cell → Prop))) (I : A → Prop) (step : ∀ a, I a → (∀ b, I b → μ b < μ a → Wk p l e R m args below meth c M P n0 (H b) k n pc (F b) (st)) → Wk p l e R m args below meth c M P n0 (H a) k n pc (F a) (st)) (a : A) (ha : I a) : Wk p l e R m args below meth c M P n0 (H a) k n pc (F a) (st) := by
  have key : ∀ (N : Nat) (a : A), μ a < N → I a → Wk p l e R m args below meth c M P n0 (H a) k n pc (F a) (st) := by
    intro N
    induction N with
    | zero => intro a h; exact absurd h (Nat.not_lt_zero _)
    | succ N ih => intro a h hI; exact step a hI fun b hb hlt => ih b (by omega) hb
  exact key _ a (Nat.lt_succ_self _) ha
theorem idx_of {j : Int32} {i nn : Nat} (hj : j.toInt = (i : Int)) (hi : i < nn) : ¬ (j < 0 ∨ nn ≤ j.toNatClampNeg) ∧ j.toNatClampNeg = i := by
  have e : j.toNatClampNeg = i := by show j.toInt.toNat = i; omega
  refine ⟨fun q => ?_, e⟩
  rcases q with q | q
  · rw [Int32.lt_iff_toInt_lt] at q
    have : (0 : Int32).toInt = 0 := rfl
    omega
  · omega
theorem Wk.iaload {a : Addr} {j : Int32} {q i nn : Nat} {f : Nat → Int32} (C : Cx Z own name bytes maxL ret p m meth c M) (hd : decode bytes pc = .ok (.iaload, 1)) (hL : L[q]? = some (a, ArrC Z .int nn f)) (hj : j.toInt = (i : Int)) (hi : i < nn) (hp : pc' = pc + 1) (W : Wk p l e R m args below meth c M P n0 L k n pc' Ls (.int (f i) :: st)) : Wk p l e R m args below meth c M P n0 L k n pc Ls (.int j :: .ref a :: st) := by
  subst hp
  refine W.via fun s T locs X hM hO t r => ?_
  obtain ⟨cl, g1, g2, g3, g4, g5, -⟩ := (hO.2.2 _ _ hL).2
  obtain ⟨b1, b2⟩ := idx_of hj hi
  rw [← g4] at b1
  exact X.iaload C.1 (j := j) (v := .int (f i)) g1 (State.isArrayOf_alike (C.2.2.2.2.2.2.1 _ _ hM).1.alike g2) g3 b1 (by rw [b2]; exact g5 i hi) (g := mkF m pc Ls (.int j :: .ref a :: st)) rfl rfl (hb C.2.1 hd) t r
theorem Wk.baload {a : Addr} {j : Int32} {q i nn : Nat} {f : Nat → Int32} (C : Cx Z own name bytes maxL ret p m meth c M) (hd : decode bytes pc = .ok (.baload, 1)) (hL : L[q]? = some (a, ArrC Z .byte nn f)) (hj : j.toInt = (i : Int)) (hi : i < nn) (hp : pc' = pc + 1) (W : Wk p l e R m args below meth c M P n0 L k n pc' Ls (.int (f i) :: st)) : Wk p l e R m args below meth c M P n0 L k n pc Ls (.int j :: .ref a :: st) := by
  subst hp
  refine W.via fun s T locs X hM hO t r => ?_
  obtain ⟨cl, g1, g2, g3, g4, g5, -⟩ := (hO.2.2 _ _ hL).2
  obtain ⟨b1, b2⟩ := idx_of hj hi
  rw [← g4] at b1
  exact X.baloadBytes C.1 (j := j) (v := .int (f i)) g1 (State.isArrayOf_alike (C.2.2.2.2.2.2.1 _ _ hM).1.alike g2) g3 b1 (by rw [b2]; exact g5 i hi) (g := mkF m pc Ls (.int j :: .ref a :: st)) rfl rfl (hb C.2.1 hd) t r
theorem Wk.caload {a : Addr} {j : Int32} {q i nn : Nat} {f : Nat → Int32} (C : Cx Z own name bytes maxL ret p m meth c M) (hd : decode bytes pc = .ok (.caload, 1)) (hL : L[q]? = some (a, ArrC Z .char nn f)) (hj : j.toInt = (i : Int)) (hi : i < nn) (hp : pc' = pc + 1) (W : Wk p l e R m args below meth c M P n0 L k n pc' Ls (.int (f i) :: st)) : Wk p l e R m args below meth c M P n0 L k n pc Ls (.int j :: .ref a :: st) := by
  subst hp
  refine W.via fun s T locs X hM hO t r => ?_
  obtain ⟨cl, g1, g2, g3, g4, g5, -⟩ := (hO.2.2 _ _ hL).2
  obtain ⟨b1, b2⟩ := idx_of hj hi
  rw [← g4] at b1
  exact X.caload C.1 (j := j) (v := .int (f i)) g1 (State.isArrayOf_alike (C.2.2.2.2.2.2.1 _ _ hM).1.alike g2) g3 b1 (by rw [b2]; exact g5 i hi) (g := mkF m pc Ls (.int j :: .ref a :: st)) rfl rfl (hb C.2.1 hd) t r
theorem Wk.arraylength {a : Addr} {q nn : Nat} {ty : FieldType} {z : Int32} {φ : Cell → Prop} (C : Cx Z own name bytes maxL ret p m meth c M) (hd : decode bytes pc = .ok (.arraylength, 1)) (hL : L[q]? = some (a, φ)) (hφ : ∀ c, φ c → Z.isArrayOf c ty ∧ c.slots.size = nn) (hz : nn.toInt32 = z) (hp : pc' = pc + 1) (W : Wk p l e R m args below meth c M P n0 L k n pc' Ls (.int z :: st)) : Wk p l e R m args below meth c M P n0 L k n pc Ls (.ref a :: st) := by
  subst hp hz
  refine W.via fun s T locs X hM hO t r => ?_
  obtain ⟨cl, g1, g2⟩ := (hO.2.2 _ _ hL).2
  obtain ⟨g3, g4⟩ := hφ cl g2
  subst g4
  exact X.arraylength C.1 g1 (State.isArrayOf_alike (C.2.2.2.2.2.2.1 _ _ hM).1.alike g3) (g := mkF m pc Ls (.ref a :: st)) rfl rfl (hb C.2.1 hd) t r
theorem Wk.iastore {a : Addr} {j x : Int32} {q i nn : Nat} {f : Nat → Int32} (C : Cx Z own name bytes maxL ret p m meth c M) (hd : decode bytes pc = .ok (.iastore, 1)) (hL : L[q]? = some (a, ArrC Z .int nn f)) (hj : j.toInt = (i : Int)) (hi : i < nn) (hp : pc' = pc + 1) (W : Wk p l e R m args below meth c M P n0 (L.set q (a, ArrC Z .int nn (upd f i (x)))) k n pc' Ls (st)) : Wk p l e R m args below meth c M P n0 L k n pc Ls (.int x :: .int j :: .ref a :: st) := by
  subst hp
  intro s T locs X hM hF hO
  obtain ⟨h0, cl, g1, g2, g3, g4, -⟩ := hO.2.2 _ _ hL
  obtain ⟨b1, b2⟩ := idx_of hj hi
  rw [← g4] at b1
  obtain ⟨T', h', X', e', Wh, stp⟩ := stI X C.1 (C.2.2.2.2.2.2.1 _ _ hM).1 rfl ⟨g1, g2, g3⟩ (j := j) b1 (g := mkF m pc Ls (.int x :: .int j :: .ref a :: st)) rfl rfl (hb C.2.1 hd)
  rw [b2] at Wh
  subst e'
  obtain ⟨t, r1, r2⟩ := W s T' _ X' (C.2.2.2.2.2.2.2 s _ _ (Nat.le_of_eq Wh.size.symm) hM) (Fr.snoc X' hF h0.1) (hO.wr Wh hL (φ' := ArrC Z .int nn (upd f i (x))) fun c hc _ => hc.set hi rfl)
  exact ⟨t, stp t r1, r2⟩
theorem Wk.bastore {a : Addr} {j x : Int32} {q i nn : Nat} {f : Nat → Int32} (C : Cx Z own name bytes maxL ret p m meth c M) (hd : decode bytes pc = .ok (.bastore, 1)) (hL : L[q]? = some (a, ArrC Z .byte nn f)) (hj : j.toInt = (i : Int)) (hi : i < nn) (hp : pc' = pc + 1) (W : Wk p l e R m args below meth c M P n0 (L.set q (a, ArrC Z .byte nn (upd f i (x.toInt8.toInt32)))) k n pc' Ls (st)) : Wk p l e R m args below meth c M P n0 L k n pc Ls (.int x :: .int j :: .ref a :: st) := by
  subst hp
  intro s T locs X hM hF hO
  obtain ⟨h0, cl, g1, g2, g3, g4, -⟩ := hO.2.2 _ _ hL
  obtain ⟨b1, b2⟩ := idx_of hj hi
  rw [← g4] at b1
  obtain ⟨T', h', X', e', Wh, stp⟩ := stB X C.1 (C.2.2.2.2.2.2.1 _ _ hM).1 rfl ⟨g1, g2, g3⟩ (j := j) b1 (g := mkF m pc Ls (.int x :: .int j :: .ref a :: st)) rfl rfl (hb C.2.1 hd)
  rw [b2] at Wh
  subst e'
  obtain ⟨t, r1, r2⟩ := W s T' _ X' (C.2.2.2.2.2.2.2 s _ _ (Nat.le_of_eq Wh.size.symm) hM) (Fr.snoc X' hF h0.1) (hO.wr Wh hL (φ' := ArrC Z .byte nn (upd f i (x.toInt8.toInt32))) fun c hc _ => hc.set hi (fits_nar_byte x))
  exact ⟨t, stp t r1, r2⟩
theorem Wk.castore {a : Addr} {j x : Int32} {q i nn : Nat} {f : Nat → Int32} (C : Cx Z own name bytes maxL ret p m meth c M) (hd : decode bytes pc = .ok (.castore, 1)) (hL : L[q]? = some (a, ArrC Z .char nn f)) (hj : j.toInt = (i : Int)) (hi : i < nn) (hp : pc' = pc + 1) (W : Wk p l e R m args below meth c M P n0 (L.set q (a, ArrC Z .char nn (upd f i (nar .char x)))) k n pc' Ls (st)) : Wk p l e R m args below meth c M P n0 L k n pc Ls (.int x :: .int j :: .ref a :: st) := by
  subst hp
  intro s T locs X hM hF hO
  obtain ⟨h0, cl, g1, g2, g3, g4, -⟩ := hO.2.2 _ _ hL
  obtain ⟨b1, b2⟩ := idx_of hj hi
  rw [← g4] at b1
  obtain ⟨T', h', X', e', Wh, stp⟩ := stC X C.1 (C.2.2.2.2.2.2.1 _ _ hM).1 rfl ⟨g1, g2, g3⟩ (j := j) b1 (g := mkF m pc Ls (.int x :: .int j :: .ref a :: st)) rfl rfl (hb C.2.1 hd)
  rw [b2] at Wh
  subst e'
  obtain ⟨t, r1, r2⟩ := W s T' _ X' (C.2.2.2.2.2.2.2 s _ _ (Nat.le_of_eq Wh.size.symm) hM) (Fr.snoc X' hF h0.1) (hO.wr Wh hL (φ' := ArrC Z .char nn (upd f i (nar .char x))) fun c hc _ => hc.set hi (fits_nar_char x))
  exact ⟨t, stp t r1, r2⟩
theorem Wk.newarray {aty : ArrayType} {z : Int32} {nn cap : Nat} {d : Int32} (C : Cx Z own name bytes maxL ret p m meth c M) (w : (Cond.arrayClass (newarray.typeOf aty)).before a0 Z = true) (hd : decode bytes pc = .ok (.newarray aty, 2)) (hdv : defaultValue (newarray.typeOf aty) = .int d) (hfd : fits (newarray.typeOf aty) (.int d) = true) (hz : z.toInt = (nn : Int)) (hcap : nn ≤ cap) (hb8 : cap * 8 ≤ 536870912) (hk : k + 1 ≤ R.cells) (hn : n + cap ≤ R.slots) (hp : pc' = pc + 2)
    (W : ∀ a : Addr, Wk p l e R m args below meth c M P n0 ((a, ArrC Z (newarray.typeOf aty) nn (fun _ => d)) :: L) (k + 1) (n + cap) pc' Ls (.ref a :: st)) : Wk p l e R m args below meth c M P n0 L k n pc Ls (.int z :: st) := by
  subst hp
  intro s T locs X hM hF hO
  have ez : z.toNatClampNeg = nn := by show z.toInt.toNat = nn; omega
  have nz : ¬ z < 0 := fun q => by
    rw [Int32.lt_iff_toInt_lt] at q
    have : (0 : Int32).toInt = 0 := rfl
    omega
  obtain ⟨T', h', cA, X', e', E, A, Ex, stp⟩ := newPE X C.1 (C.2.2.2.2.2.2.1 _ _ hM).1 w rfl (g := mkF m pc Ls (.int z :: st)) rfl (hb C.2.1 hd) rfl nz (cap := cap) (by rw [ez]; exact hcap) hb8 hk hn (ad := "[" ++ (newarray.typeOf aty).toString) rfl
  subst e'
  obtain ⟨t, r1, r2⟩ := W T.heap.size s T' _ X' (C.2.2.2.2.2.2.2 s _ _ E.1 hM) hF (hO.cons E ⟨_, A.1, A.2.1, A.2.2, (sz_new _ _ _).trans ez, fun i hi => by
    show (Array.replicate z.toNatClampNeg (defaultValue (newarray.typeOf aty)))[i]? = _
    rw [ez, hdv]; simp [hi], fun _ _ => hfd, of_exa A.1 Ex⟩)
  exact ⟨t, stp t r1, r2⟩
def AnyC : Cell → Prop := fun _ => True
theorem Wk.anewarray {C' : String} {index : Nat} {z : Int32} {nn cap : Nat} (C : Cx Z own name bytes maxL ret p m meth c M) (w1 : (Cond.classLink own index C').before a0 Z = true) (w2 : (Cond.arrayOver (.object C')).before a0 Z = true) (hd : decode bytes pc = .ok (.anewarray index, 3)) (hz : z.toInt = (nn : Int)) (hcap : nn ≤ cap) (hb8 : cap * 8 ≤ 536870912) (hk : k + 1 ≤ R.cells) (hn : n + cap ≤ R.slots) (hp : pc' = pc + 3)
    (W : ∀ a : Addr, Wk p l e R m args below meth c M P n0 ((a, AnyC) :: L) (k + 1) (n + cap) pc' Ls (.ref a :: st)) : Wk p l e R m args below meth c M P n0 L k n pc Ls (.int z :: st) := by
  subst hp
  intro s T locs X hM hF hO
  have ez : z.toNatClampNeg = nn := by show z.toInt.toNat = nn; omega
  have nz : ¬ z < 0 := fun q => by
    rw [Int32.lt_iff_toInt_lt] at q
    have : (0 : Int32).toInt = 0 := rfl
    omega
  obtain ⟨T', h', cA, X', e', E, A, -, stp⟩ := newR X C.1 (C.2.2.2.2.2.2.1 _ _ hM).1 (C.2.2.2.2.2.2.1 _ _ hM).2 w1 w2 rfl (g := mkF m pc Ls (.int z :: st)) rfl (hb C.2.1 hd) rfl nz (cap := cap) (by rw [ez]; exact hcap) hb8 hk hn
  subst e'
  obtain ⟨t, r1, r2⟩ := W T.heap.size s T' _ X' (C.2.2.2.2.2.2.2 s _ _ E.1 hM) hF (hO.cons E ⟨_, A.1, trivial⟩)
  exact ⟨t, stp t r1, r2⟩
theorem Wk.new {C' : String} {index nf : Nat} {ks : List (String × String × String × FieldType)} {vs : List Value} (C : Cx Z own name bytes maxL ret p m meth c M) (w : (Cond.classLink own index C').before a0 Z = true) (wi : (Cond.instantiable C' nf).before a0 Z = true) (wz : (Cond.initialized C').before a0 Z = true) (H : Lays Z a0 C' ks) (hd : decode bytes pc = .ok (.new index, 3)) (hv : vs = ks.map (fun kk => defaultValue kk.2.2.2)) (hk : k + 1 ≤ R.cells) (hn : n + nf ≤ R.slots) (hp : pc' = pc + 3)
    (W : ∀ a : Addr, Wk p l e R m args below meth c M P n0 ((a, ObjC Z C' ks vs) :: L) (k + 1) (n + nf) pc' Ls (.ref a :: st)) : Wk p l e R m args below meth c M P n0 L k n pc Ls (st) := by
  subst hp hv
  intro s T locs X hM hF hO
  obtain ⟨T', h', X', e', E, A, D, -, stp⟩ := newO X C.1 (C.2.2.2.2.2.2.1 _ _ hM).1 (C.2.2.2.2.2.2.1 _ _ hM).2 w wi wz rfl (g := mkF m pc Ls st) rfl (hb C.2.1 hd) hk hn
  subst e'
  obtain ⟨cl, kc, g1, -⟩ := id A
  obtain ⟨t, r1, r2⟩ := W T.heap.size s T' _ X' (C.2.2.2.2.2.2.2 s _ _ E.1 hM) hF (hO.cons E ⟨cl, g1, of_exa g1 A, fun i kk v hkk hvv => by
    rw [List.getElem?_map, hkk] at hvv
    cases hvv
    have q := H.1 kk (List.mem_of_getElem? hkk)
    exact of_fld g1 (D q.1 q.2)⟩)
  exact ⟨t, stp t r1, r2⟩
theorem Wk.getfield {C' O nm d host : String} {ty : FieldType} {index i q : Nat} {a : Addr} {ks : List (String × String × String × FieldType)} {vs : List Value} {v : Value} (C : Cx Z own name bytes maxL ret p m meth c M) (w : (Cond.fieldLink own index O nm d).before a0 Z = true ∨ (Cond.fieldLinkNest own index O nm d host).before a0 Z = true) (hd : decode bytes pc = .ok (.getfield index, 3)) (hL : L[q]? = some (a, ObjC Z C' ks vs)) (hk : ks[i]? = some (O, nm, d, ty)) (hv : vs[i]? = some v) (hp : pc' = pc + 3)
    (W : Wk p l e R m args below meth c M P n0 L k n pc' Ls (v :: st)) : Wk p l e R m args below meth c M P n0 L k n pc Ls (.ref a :: st) := by
  subst hp
  intro s T locs X hM hF hO
  obtain ⟨h0, cl, g1, g2, g3⟩ := hO.2.2 _ _ hL
  obtain ⟨T', X', e', stp⟩ := getF X C.1 (C.2.2.2.2.2.2.1 _ _ hM).1 (C.2.2.2.2.2.2.1 _ _ hM).2 w Via.refl rfl (fld_of g1 (g3 i _ v hk hv)) (g := mkF m pc Ls (.ref a :: st)) rfl rfl (hb C.2.1 hd)
  rw [← e'] at hM hO
  obtain ⟨t, r1, r2⟩ := W s T' _ X' hM hF hO
  exact ⟨t, stp t r1, r2⟩
theorem Wk.putfield {C' O nm d host : String} {ty : FieldType} {index i q nf : Nat} {a : Addr} {ks : List (String × String × String × FieldType)} {vs : List Value} {v : Value} (C : Cx Z own name bytes maxL ret p m meth c M) (w : (Cond.fieldLink own index O nm d).before a0 Z = true ∨ (Cond.fieldLinkNest own index O nm d host).before a0 Z = true) (H : Lays Z a0 C' ks) (hlay : (Cond.lays C' O nm d).before a0 Z = true ∨ ((Cond.laysFinal C' O nm d).before a0 Z = true ∧ own = O ∧ name = "<init>")) (wi : (Cond.instantiable C' nf).before a0 Z = true) (hd : decode bytes pc = .ok (.putfield index, 3)) (hL : L[q]? = some (a, ObjC Z C' ks vs)) (hk : ks[i]? = some (O, nm, d, ty)) (hv : i < vs.length) (hnar : narrow ty v = v) (hfit : fits ty v = true) (hp : pc' = pc + 3)
    (W : Wk p l e R m args below meth c M P n0 (L.set q (a, ObjC Z C' ks (vs.set i v))) k n pc' Ls (st)) : Wk p l e R m args below meth c M P n0 L k n pc Ls (v :: .ref a :: st) := by
  subst hp
  intro s T locs X hM hF hO
  obtain ⟨h0, cl, g1, g2, g3⟩ := hO.2.2 _ _ hL
  obtain ⟨v0, hv0⟩ : ∃ v0, vs[i]? = some v0 := ⟨_, List.getElem?_eq_getElem hv⟩
  have hpf : parseFieldDescriptor d = some ty := (H.1 (O, nm, d, ty) (List.mem_of_getElem? hk)).2
  obtain ⟨T', h', X', e', Wh, stp⟩ := putF (own := own) (R0 := O) (O := O) (n := nm) (d := d) (host := host) (C := C') (kk := nf) (v := v) (old := v0) X C.1 (C.2.2.2.2.2.2.1 _ _ hM).1 (C.2.2.2.2.2.2.1 _ _ hM).2 w Via.refl rfl (fld_of g1 (g3 i _ v0 hk hv0)) (exa_of g1 g2) (hlay.imp id fun q => ⟨q.1, q.2.1, C.2.2.2.2.2.1.trans q.2.2⟩) wi (ty := ty) hpf hnar hfit (g := mkF m pc Ls (v :: .ref a :: st)) rfl rfl (hb C.2.1 hd)
  subst e'
  have hset : ∀ c, ObjC Z C' ks vs c → Jvm.RoadKit.slotOf Z O nm d < c.slots.size → ObjC Z C' ks (vs.set i v) (c.setSlot (Jvm.RoadKit.slotOf Z O nm d) v) := fun c hc hsl => ObjC.set (kk := (O, nm, d, ty)) hc H hk hv hsl
  obtain ⟨t, r1, r2⟩ := W s T' _ X' (C.2.2.2.2.2.2.2 s _ _ (Nat.le_of_eq Wh.size.symm) hM) (Fr.snoc X' hF h0.1) (hO.wr Wh hL hset)
  exact ⟨t, stp t r1, r2⟩
theorem Wk.objInit {idx W0 : Nat} {a : Addr} (C : Cx Z own name bytes maxL ret p m meth c M) (w1 : (Cond.methodLink own idx Lib.objectInit).before a0 Z = true) (w2 : (Cond.instanceMethod Lib.objectInit).before a0 Z = true) (w3 : (Cond.code Lib.objectInit object_method_1_code 1 none).before a0 Z = true) (hd : decode bytes pc = .ok (.invokespecial idx, 3)) (hsz : Ls.size = maxL) (hf : 1 ≤ R.frames) (hW : (st.map fun v => v.category).sum = W0) (hl : W0 + 12 ≤ R.locals) (hp : pc' = pc + 3)
    (W : Wk p l e R m args below meth c M P n0 L k n pc' Ls (st)) : Wk p l e R m args below meth c M P n0 L k n pc Ls (.ref a :: st) := by
  subst hp
  intro s T locs X hM hF hO
  obtain ⟨T', X', e', stp⟩ := initO X C.1 (C.2.2.2.2.2.2.1 _ _ hM).1 (C.2.2.2.2.2.2.1 _ _ hM).2 w1 w2 w3 rfl (g := mkF m pc Ls (.ref a :: st)) rfl (hsz.trans C.2.2.1.symm) (rest := st) rfl (hb C.2.1 hd) hf (W := W0) (by show 2 * 0 + _ ≤ _; omega) hl
  rw [← e'] at hM hO
  obtain ⟨t, r1, r2⟩ := W s T' _ X' hM hF hO
  exact ⟨t, stp t r1, r2⟩
/-! the end: v is returned, Q holds of it and of the heap -/
def Pend (below : List Frame) (FE : Outcome → State → List Loc → Prop) (n0 : Base) (Q : Option Value → Heap → Prop) (t : State) : Prop := ∃ v L, t.status = .running ∧ Ended t below (.returned v) ∧ Q v t.heap ∧ Fr n0.1 L ∧ FE (.returned v) t L
def Ok (M : State → Heap → Prop) (FE : Outcome → State → List Loc → Prop) (K N : Nat) : Prop := ∀ (s t : State) (L : List Loc) (k n : Nat) (v : Option Value), M s t.heap → s.WarmedH t.vm → s.sameButNew ({ t with vm := s.vm } : State) L k n → k ≤ K → n ≤ N → FE (.returned v) t L
theorem Wk.retI {z : Int32} {FE : Outcome → State → List Loc → Prop} {Q : Option Value → Heap → Prop} {K N : Nat} (C : Cx Z own name bytes maxL (some .int) p m meth c M) (J : Ok M FE K N) (hd : decode bytes pc = .ok (.ireturn, 1)) (hk : k ≤ K) (hn : n ≤ N) (hq : ∀ h, Own n0 h L → Q (some (.int z)) h) : Wk p l e R m args below meth c M (Pend below FE n0 Q) n0 L k n pc Ls (.int z :: st) := by
  intro s T locs X hM hF hO
  obtain ⟨fs, hr, hrun, hended, hW, hsame⟩ := X.leave (v := some (.int z)) (fun h => by rw [C.2.2.2.1] at h; cases h) C.2.2.2.2.1
  exact ⟨_, Jvm.RoadKit.retI X C.1 C.2.2.2.1 (hb C.2.1 hd) hr, _, locs, hrun, hended, hq _ hO, hF, J s _ locs k n _ hM hW hsame hk hn⟩
theorem Wk.retN {z z' : Int32} {ty : FieldType} {FE : Outcome → State → List Loc → Prop} {Q : Option Value → Heap → Prop} {K N : Nat} (C : Cx Z own name bytes maxL (some ty) p m meth c M) (J : Ok M FE K N) (hd : decode bytes pc = .ok (.ireturn, 1)) (hk : k ≤ K) (hn : n ≤ N) (ht : ty = .boolean ∨ ty = .byte ∨ ty = .char ∨ ty = .short) (hz : nar ty z = z') (hq : ∀ h, Own n0 h L → Q (some (.int z')) h) : Wk p l e R m args below meth c M (Pend below FE n0 Q) n0 L k n pc Ls (.int z :: st) := by
  subst hz
  intro s T locs X hM hF hO
  obtain ⟨fs, hr, hrun, hended, hW, hsame⟩ := X.leave (v := some (.int (nar ty z))) (fun h => by rw [C.2.2.2.1] at h; cases h) C.2.2.2.2.1
  exact ⟨_, Jvm.RoadKit.retN X C.1 C.2.2.2.1 ht (hb C.2.1 hd) hr, _, locs, hrun, hended, hq _ hO, hF, J s _ locs k n _ hM hW hsame hk hn⟩
theorem Wk.retL {z : Int64} {FE : Outcome → State → List Loc → Prop} {Q : Option Value → Heap → Prop} {K N : Nat} (C : Cx Z own name bytes maxL (some .long) p m meth c M) (J : Ok M FE K N) (hd : decode bytes pc = .ok (.lreturn, 1)) (hk : k ≤ K) (hn : n ≤ N) (hq : ∀ h, Own n0 h L → Q (some (.long z)) h) : Wk p l e R m args below meth c M (Pend below FE n0 Q) n0 L k n pc Ls (.long z :: []) := by
  intro s T locs X hM hF hO
  obtain ⟨fs, hr, hrun, hended, hW, hsame⟩ := X.leave (v := some (.long z)) (fun h => by rw [C.2.2.2.1] at h; cases h) C.2.2.2.2.1
  exact ⟨_, X.lreturnOut C.1 C.2.2.2.1 (hb C.2.1 hd) hr, _, locs, hrun, hended, hq _ hO, hF, J s _ locs k n _ hM hW hsame hk hn⟩
theorem Wk.retA {z : Value} {ty : FieldType} {FE : Outcome → State → List Loc → Prop} {Q : Option Value → Heap → Prop} {K N : Nat} (C : Cx Z own name bytes maxL (some ty) p m meth c M) (J : Ok M FE K N) (hd : decode bytes pc = .ok (.areturn, 1)) (hk : k ≤ K) (hn : n ≤ N) (hz : z.isRef = true) (ht : ty.isReference = true) (hq : ∀ h, Own n0 h L → Q (some z) h) : Wk p l e R m args below meth c M (Pend below FE n0 Q) n0 L k n pc Ls (z :: []) := by
  intro s T locs X hM hF hO
  obtain ⟨fs, hr, hrun, hended, hW, hsame⟩ := X.leave (v := some z) (fun h => by rw [C.2.2.2.1] at h; cases h) C.2.2.2.2.1
  exact ⟨_, X.areturnOut C.1 hz C.2.2.2.1 ht (hb C.2.1 hd) hr, _, locs, hrun, hended, hq _ hO, hF, J s _ locs k n _ hM hW hsame hk hn⟩
theorem Wk.retV {FE : Outcome → State → List Loc → Prop} {Q : Option Value → Heap → Prop} {K N : Nat} (C : Cx Z own name bytes maxL none p m meth c M) (J : Ok M FE K N) (hd : decode bytes pc = .ok (.return_, 1)) (hk : k ≤ K) (hn : n ≤ N) (hq : ∀ h, Own n0 h L → Q none h) : Wk p l e R m args below meth c M (Pend below FE n0 Q) n0 L k n pc Ls ([]) := by
  intro s T locs X hM hF hO
  obtain ⟨fs, hr, hrun, hended, hW, hsame⟩ := X.leave (v := none) (fun h => by rfl) C.2.2.2.2.1
  exact ⟨_, X.returnOut C.1 C.2.2.2.1 (hb C.2.1 hd) hr, _, locs, hrun, hended, hq _ hO, hF, J s _ locs k n _ hM hW hsame hk hn⟩
/-- a method's contract: called with as' over the heap h it returns, and Q holds -/
def Meth (l : Launch) (Z : State) (y : MethodName) (bytes : ByteArray) (maxL : Nat) (ret : Option FieldType) (ws : List Jvm.Cond) (rm : Room) (as' : Array Value) (h : Heap) (n0 : Base) (Q : Option Value → Heap → Prop) : Prop :=
  MetFree l y (head1 (Jvm.Cond.code y bytes maxL ret :: ws) rm) (fun a U => a = as' ∧ Z.Warmed39 U.vm ∧ U.heap = h) (fun _ _ _ _ _ => True) (fun _ U o U' => ∃ v L, o = .returned v ∧ (Q v U'.heap ∧ h.size ≤ U'.heap.size ∧ Fr n0.1 L) ∧ FrameEnd U o U' L rm.cells rm.slots)
theorem Meth.of {y : MethodName} {ws : List Jvm.Cond} {rm : Room} {as' : Array Value} {h : Heap} {Q : Option Value → Heap → Prop} (hp : plainFor y = true) (hE : ∀ m, entryFrame m as' maxL = mkF m 0 Ls []) (hO : Own n0 h L)
    (body : ∀ (p : Program) (e : Env) (m : MethodId) (below : List Frame) (meth : Method) (c : Code) (M : State → Heap → Prop) (FE : Outcome → State → List Loc → Prop), Cx Z y.cls y.name bytes maxL ret p m meth c M → Ok M FE rm.cells rm.slots → Wk p l e rm m as' below meth c M (Pend below FE n0 Q) n0 L 0 0 0 Ls []) :
    Meth l Z y bytes maxL ret ws rm as' h n0 Q := by
  refine MetFree.of_bodySF hp hisR ?_
  intro p e s m args below meth c s₁ Bd hml0 hP hK
  obtain ⟨rfl, hZ, hh⟩ := hP
  have hnm := (name_of_methodNamed Bd.named Bd.method).1
  have e0 : s₁.heap = h := by rw [← hh, Bd.state]; rfl
  have CC : Cx Z y.cls y.name bytes maxL ret p m meth c (fun s' _ => s' = s) := ⟨Bd.exec, Bd.bytes, hml0, Bd.returns, Bd.notSynchronized, hnm, fun s' _ q => by subst q; exact ⟨hZ, findClass_of_methodNamed Bd.named⟩, fun _ _ _ _ q => q⟩
  have JJ : Ok (fun s' _ => s' = s) (fun o t L => FrameEnd s o t L rm.cells rm.slots) rm.cells rm.slots := fun s' t L k n v q hW hs hk hn => by subst q; exact ⟨⟨_, rfl⟩, hW, hs.mono hk hn⟩
  obtain ⟨t, r1, v, Lo, r2, r3, r4, r5, r6⟩ := body p e m below meth c _ _ CC JJ s s₁ [] (Stand.of_body Bd) rfl (Fr.nil n0.1) (by rw [e0]; exact hO)
  refine ⟨t, .returned v, castTop (hE m) r1, r2, r3, v, Lo, rfl, ⟨r4, ?_, r5⟩, r6⟩
  rw [← hh]; exact r6.2.2.2.1
theorem Wk.callS {y : MethodName} {bytes' : ByteArray} {maxL' : Nat} {ret' : Option FieldType} {index W0 : Nat} {rm : Room} {Q : Option Value → Heap → Prop} {argsL st0 : List Value} {ps : List FieldType} {rt : Option FieldType} (C : Cx Z own name bytes maxL ret p m meth c M) (w1 : (Jvm.Cond.methodLink own index y).before a0 Z = true) (w2 : (Jvm.Cond.static y).before a0 Z = true) (w3 : (Jvm.Cond.initialized y.cls).before a0 Z = true) (w4 : (Jvm.Cond.code y bytes' maxL' ret').before a0 Z = true) (hy : y.cls ≠ "java/lang/invoke/MethodHandle" ∧ y.cls ≠ "java/lang/invoke/VarHandle")
    (hM : ∀ h, Own n0 h L → Meth l Z y bytes' maxL' ret' [] rm argsL.toArray h n0 Q) (hf : rm.frames + 1 ≤ R.frames) (hl : W0 + (maxL' + 11) + rm.locals ≤ R.locals) (hk : k + rm.cells ≤ R.cells) (hn : n + rm.slots ≤ R.slots) (hd : decode bytes pc = .ok (.invokestatic index, 3)) (hsz : Ls.size = maxL) (hpd : parseMethodDescriptor y.desc = some ⟨ps, rt⟩) (hlen : argsL.length = ps.length) (hst : st0 = argsL.reverse ++ st) (hW : (st.map fun v => v.category).sum = W0) (hp : pc' = pc + 3)
    (W : ∀ v h', Q v h' → ∃ L', Own n0 h' L' ∧ Wk p l e R m args below meth c M P n0 L' (k + rm.cells) (n + rm.slots) pc' Ls (v.toList ++ st)) : Wk p l e R m args below meth c M P n0 L k n pc Ls (st0) := by
  subst hp hst
  intro s T locs X hMs hF hO
  obtain ⟨hZ, hown⟩ := C.2.2.2.2.2.2.1 _ _ hMs
  obtain ⟨_, _, ⟨T1, L1, k1, n1⟩, -, X', ⟨Lc, hQ, l1, y1, z1⟩, stp⟩ := Jvm.LawKit.callS X C.1 (y := y) hown (mvT hZ w1) (mvT hZ w2) (mvT hZ w3) (mvT hZ w4) hy (backOf (W := W0) (Q := fun v h' L => Q v h' ∧ T.heap.size ≤ h'.size ∧ Fr n0.1 L) (hM _ hO) hZ w4 w3 hf hl) (g := mkF m pc Ls (argsL.reverse ++ st)) rfl (hsz.trans C.2.2.1.symm) (argsL := argsL) (rest := st) (lenOf hpd hlen) rfl (by show 2 * 0 + _ ≤ _; omega) (hb C.2.1 hd) (fun _ _ => ⟨rfl, rfl, hk, hn⟩)
  dsimp only [Pt.U, Pt.locs, Pt.cells, Pt.slots] at X' l1 y1 z1 stp hQ
  subst l1 y1 z1
  obtain ⟨hQ1, hQ2, hQ3⟩ := hQ
  obtain ⟨L', O', W'⟩ := W _ _ hQ1
  obtain ⟨t, r1, r2⟩ := W' s T1 _ X' (C.2.2.2.2.2.2.2 s _ _ hQ2 hMs) (Fr.app hF hQ3) O'
  exact ⟨t, stp t r1, r2⟩
theorem Wk.callI {y : MethodName} {bytes' : ByteArray} {maxL' : Nat} {ret' : Option FieldType} {index W0 : Nat} {rm : Room} {Q : Option Value → Heap → Prop} {a : Addr} {argsL st0 : List Value} {ps : List FieldType} {rt : Option FieldType} (C : Cx Z own name bytes maxL ret p m meth c M) (hret' : ret' = none) (hy1 : y.name = "<init>") (w1 : (Jvm.Cond.methodLink own index y).before a0 Z = true) (w2 : (Jvm.Cond.instanceMethod y).before a0 Z = true) (w3 : (Jvm.Cond.initialized y.cls).before a0 Z = true) (w4 : (Jvm.Cond.code y bytes' maxL' ret').before a0 Z = true) (hy : y.cls ≠ "java/lang/invoke/MethodHandle" ∧ y.cls ≠ "java/lang/invoke/VarHandle")
    (hM : ∀ h, Own n0 h L → Meth l Z y bytes' maxL' ret' [] rm (.ref a :: argsL).toArray h n0 Q) (hf : rm.frames + 1 ≤ R.frames) (hl : W0 + (maxL' + 11) + rm.locals ≤ R.locals) (hk : k + rm.cells ≤ R.cells) (hn : n + rm.slots ≤ R.slots) (hd : decode bytes pc = .ok (.invokespecial index, 3)) (hsz : Ls.size = maxL) (hpd : parseMethodDescriptor y.desc = some ⟨ps, rt⟩) (hlen : argsL.length = ps.length) (hst : st0 = argsL.reverse ++ .ref a :: st) (hW : (st.map fun v => v.category).sum = W0) (hp : pc' = pc + 3)
    (W : ∀ v h', Q v h' → ∃ L', Own n0 h' L' ∧ Wk p l e R m args below meth c M P n0 L' (k + rm.cells) (n + rm.slots) pc' Ls (v.toList ++ st)) : Wk p l e R m args below meth c M P n0 L k n pc Ls (st0) := by
  subst hp hst
  intro s T locs X hMs hF hO
  subst hret'
  obtain ⟨hZ, hown⟩ := C.2.2.2.2.2.2.1 _ _ hMs
  obtain ⟨_, _, ⟨T1, L1, k1, n1⟩, -, X', ⟨Lc, hQ, l1, y1, z1⟩, stp⟩ := X.specialBack C.1 (y := y) hy1 hown (mvT hZ w1) (mvT hZ w2) (mvT hZ w4) hy (backOf (W := W0) (Q := fun v h' L => Q v h' ∧ T.heap.size ≤ h'.size ∧ Fr n0.1 L) (hM _ hO) hZ w4 w3 hf hl) (g := mkF m pc Ls (argsL.reverse ++ .ref a :: st)) rfl (hsz.trans C.2.2.1.symm) (Steps.refl _) (a := a) (argsL := argsL) (rest := st) (lenOf hpd hlen) rfl (by show 2 * 0 + _ ≤ _; omega) (hb C.2.1 hd) (fun _ _ => ⟨rfl, rfl, hk, hn⟩)
  dsimp only [Pt.U, Pt.locs, Pt.cells, Pt.slots] at X' l1 y1 z1 stp hQ
  subst l1 y1 z1
  obtain ⟨hQ1, hQ2, hQ3⟩ := hQ
  obtain ⟨L', O', W'⟩ := W _ _ hQ1
  obtain ⟨t, r1, r2⟩ := W' s T1 _ X' (C.2.2.2.2.2.2.2 s _ _ hQ2 hMs) (Fr.app hF hQ3) O'
  exact ⟨t, stp.trans r1, r2⟩
theorem Wk.callV {y : MethodName} {C' : String} {bytes' : ByteArray} {maxL' : Nat} {ret' : Option FieldType} {index W0 q : Nat} {rm : Room} {Q : Option Value → Heap → Prop} {a : Addr} {ks : List (String × String × String × FieldType)} {vs : List Value} {argsL st0 : List Value} {ps : List FieldType} {rt : Option FieldType} (C : Cx Z own name bytes maxL ret p m meth c M) (hL : L[q]? = some (a, ObjC Z C' ks vs)) (w1 : (Jvm.Cond.methodLink own index y).before a0 Z = true) (w5 : (Jvm.Cond.declares y).before a0 Z = true) (w6 : (Jvm.Cond.selects C' y y).before a0 Z = true) (w2 : (Jvm.Cond.instanceMethod y).before a0 Z = true) (w3 : (Jvm.Cond.initialized y.cls).before a0 Z = true) (w4 : (Jvm.Cond.code y bytes' maxL' ret').before a0 Z = true) (hy : y.cls ≠ "java/lang/invoke/MethodHandle" ∧ y.cls ≠ "java/lang/invoke/VarHandle")
    (hM : ∀ h, Own n0 h L → Meth l Z y bytes' maxL' ret' [] rm (.ref a :: argsL).toArray h n0 Q) (hf : rm.frames + 1 ≤ R.frames) (hl : W0 + (maxL' + 11) + rm.locals ≤ R.locals) (hk : k + rm.cells ≤ R.cells) (hn : n + rm.slots ≤ R.slots) (hd : decode bytes pc = .ok (.invokevirtual index, 3)) (hsz : Ls.size = maxL) (hpd : parseMethodDescriptor y.desc = some ⟨ps, rt⟩) (hlen : argsL.length = ps.length) (hst : st0 = argsL.reverse ++ .ref a :: st) (hW : (st.map fun v => v.category).sum = W0) (hp : pc' = pc + 3)
    (W : ∀ v h', Q v h' → ∃ L', Own n0 h' L' ∧ Wk p l e R m args below meth c M P n0 L' (k + rm.cells) (n + rm.slots) pc' Ls (v.toList ++ st)) : Wk p l e R m args below meth c M P n0 L k n pc Ls (st0) := by
  subst hp hst
  intro s T locs X hMs hF hO
  obtain ⟨hZ, hown⟩ := C.2.2.2.2.2.2.1 _ _ hMs
  obtain ⟨h0, cl, g1, g2, g3⟩ := hO.2.2 _ _ hL
  obtain ⟨cq, kq, qa, qb, qc⟩ := isOf hZ rfl (exa_of g1 g2)
  obtain ⟨_, _, ⟨T1, L1, k1, n1⟩, -, X', ⟨Lc, hQ, l1, y1, z1⟩, stp⟩ := X.virtualBack C.1 (y := y) (z := y) hown (mvT hZ w1) (mvT hZ w5) (notFace_of_selects (args := #[]) (mvT hZ w6)) (mvT hZ w6) (mvT hZ w2) hy (backOf (W := W0) (Q := fun v h' L => Q v h' ∧ T.heap.size ≤ h'.size ∧ Fr n0.1 L) (hM _ hO) hZ w4 w3 hf hl) qa qc (g := mkF m pc Ls (argsL.reverse ++ .ref a :: st)) rfl (hsz.trans C.2.2.1.symm) (Steps.refl _) (argsL := argsL) (rest := st) (lenOf hpd hlen) rfl (by show 2 * 0 + _ ≤ _; omega) (hb C.2.1 hd) (fun _ _ => ⟨rfl, rfl, hk, hn⟩)
  dsimp only [Pt.U, Pt.locs, Pt.cells, Pt.slots] at X' l1 y1 z1 stp hQ
  subst l1 y1 z1
  obtain ⟨hQ1, hQ2, hQ3⟩ := hQ
  obtain ⟨L', O', W'⟩ := W _ _ hQ1
  obtain ⟨t, r1, r2⟩ := W' s T1 _ X' (C.2.2.2.2.2.2.2 s _ _ hQ2 hMs) (Fr.app hF hQ3) O'
  exact ⟨t, stp.trans r1, r2⟩
end OwnKit

section OwnWide
variable {p : Program} {l : Launch} {e : Env} {R : Room} {m : MethodId} {args : Array Value} {below : List Frame} {meth : Method} {c : Code} {P : State → Prop} {n0 : Base} {Z s0 : State} {a0 : Array Value} {own name : String} {bytes : ByteArray} {maxL : Nat} {ret : Option FieldType} {L : List (Addr × (Cell → Prop))} {k n pc pc' : Nat} {Ls Ls' : Array Slot} {st : List Value}
def MW (Z s0 : State) (own : String) (m : MethodId) : State → Heap → Prop := fun s h => ∃ (vm0 : Vm) (k0 : Nat), s = s0.setVm vm0 ∧ s0.Since vm0 k0 ∧ k0 ≤ h.size ∧ Z.Warmed39 vm0 ∧ vm0.findClass own = some m.cls
theorem Wk.ldcS {text : String} {i nS : Nat} (C : Cx Z own name bytes maxL ret p m meth c (MW Z s0 own m)) (w : (Jvm.Cond.stringLink own i text).before a0 Z = true) (wS : ∀ a ∈ Bundle.stringAtoms, a.before a0 Z = true) (hd : decode bytes pc = .ok (.ldc i, 2)) (hn : 4 * text.toList.length ≤ nS) (hbig : nS ≤ 536870912) (hk : k + 2 ≤ R.cells) (hl : n + (nS + 4) ≤ R.slots) (hp : pc' = pc + 2)
    (W : ∀ a : Addr, Wk p l e R m args below meth c (MW Z s0 own m) P n0 L (k + 2) (n + (nS + 4)) pc' Ls (.ref a :: st)) : Wk p l e R m args below meth c (MW Z s0 own m) P n0 L k n pc Ls (st) := by
  subst hp
  intro s T locs X hM hF hO
  obtain ⟨vm0, k0, rfl, hS, hk0, hZ, hown⟩ := hM
  obtain ⟨a, T', h', k1, X', e', E, hS', hk1, hZ', hown', stp⟩ := Jvm.RoadKit.ldcS X C.1 hZ hown w wS rfl hS hk0 (g := mkF m pc Ls st) rfl (hb C.2.1 hd) hn hbig hk hl
  subst e'
  obtain ⟨t, r1, r2⟩ := W a _ T' _ X' ⟨T'.vm, k1, rfl, hS', hk1, hZ', hown'⟩ hF (hO.ext E)
  exact ⟨t, stp t r1, r2⟩
def MethW (l : Launch) (Z : State) (y : MethodName) (bytes : ByteArray) (maxL : Nat) (ret : Option FieldType) (ws : List Jvm.Cond) (rm : Room) (as' : Array Value) (h : Heap) (n0 : Base) (Q : Option Value → Heap → Prop) : Prop :=
  MetFree l y (head1 (Jvm.Cond.code y bytes maxL ret :: ws) rm) (fun a U => a = as' ∧ Z.Warmed39 U.vm ∧ U.heap = h) (fun _ _ _ _ _ => True) (fun _ U o U' => ∃ v L, o = .returned v ∧ (Q v U'.heap ∧ h.size ≤ U'.heap.size ∧ Fr n0.1 L) ∧ ReturnedEndW U o U' L rm.cells rm.slots)
theorem MethW.of {y : MethodName} {ws : List Jvm.Cond} {rm : Room} {as' : Array Value} {h : Heap} {Q : Option Value → Heap → Prop} (hp : plainFor y = true) (hE : ∀ m, entryFrame m as' maxL = mkF m 0 Ls []) (hO : Own n0 h L)
    (body : ∀ (p : Program) (e : Env) (s0 : State) (m : MethodId) (below : List Frame) (meth : Method) (c : Code) (FE : Outcome → State → List Loc → Prop), Cx Z y.cls y.name bytes maxL ret p m meth c (MW Z s0 y.cls m) → Ok (MW Z s0 y.cls m) FE rm.cells rm.slots → Wk p l e rm m as' below meth c (MW Z s0 y.cls m) (Pend below FE n0 Q) n0 L 0 0 0 Ls []) :
    MethW l Z y bytes maxL ret ws rm as' h n0 Q := by
  refine MetFree.of_bodySF hp hisR ?_
  intro p e s m args below meth c s₁ Bd hml0 hP hK
  obtain ⟨rfl, hZ, hh⟩ := hP
  have hnm := (name_of_methodNamed Bd.named Bd.method).1
  have e0 : s₁.heap = h := by rw [← hh, Bd.state]; rfl
  have hown := findClass_of_methodNamed Bd.named
  have CC : Cx Z y.cls y.name bytes maxL ret p m meth c (MW Z s y.cls m) := ⟨Bd.exec, Bd.bytes, hml0, Bd.returns, Bd.notSynchronized, hnm, fun s' _ ⟨vm0, k0, q, hS, hk0, h1, h2⟩ => by subst q; exact ⟨h1, h2⟩, fun s' h1 h2 hle ⟨vm0, k0, q, hS, hk0, h1, h2⟩ => ⟨vm0, k0, q, hS, Nat.le_trans hk0 hle, h1, h2⟩⟩
  have JJ : Ok (MW Z s y.cls m) (fun o t L => ReturnedEndW s o t L rm.cells rm.slots) rm.cells rm.slots := fun s' t L k n v ⟨vm0, k0, q, hS, hk0, h1, h2⟩ hW hs hk hn => by
    subst q
    obtain ⟨a, b, c'⟩ := hS.ended (U := t) hW hk0 hs
    exact ⟨⟨_, rfl⟩, a, b, c'.mono hk hn⟩
  obtain ⟨t, r1, v, Lo, r2, r3, r4, r5, r6⟩ := body p e s m below meth c _ CC JJ s s₁ [] (Stand.of_body Bd) ⟨s.vm, s.heap.size, rfl, (State.WarmedH.refl s).since _, by rw [e0, ← hh]; exact Nat.le_refl _, hZ, hown⟩ (Fr.nil n0.1) (by rw [e0]; exact hO)
  refine ⟨t, .returned v, castTop (hE m) r1, r2, r3, v, Lo, rfl, ⟨r4, ?_, r5⟩, r6⟩
  rw [← hh]; exact r6.2.2.2.2.1
theorem Wk.callIW {y : MethodName} {bytes' : ByteArray} {maxL' : Nat} {ret' : Option FieldType} {index W0 : Nat} {rm : Room} {Q : Option Value → Heap → Prop} {a : Addr} {argsL st0 : List Value} {ps : List FieldType} {rt : Option FieldType} (C : Cx Z own name bytes maxL ret p m meth c (MW Z s0 own m)) (hret' : ret' = none) (hy1 : y.name = "<init>") (w1 : (Jvm.Cond.methodLink own index y).before a0 Z = true) (w2 : (Jvm.Cond.instanceMethod y).before a0 Z = true) (w3 : (Jvm.Cond.initialized y.cls).before a0 Z = true) (w4 : (Jvm.Cond.code y bytes' maxL' ret').before a0 Z = true) (hy : y.cls ≠ "java/lang/invoke/MethodHandle" ∧ y.cls ≠ "java/lang/invoke/VarHandle")
    (hM : ∀ h, Own n0 h L → MethW l Z y bytes' maxL' ret' [] rm (.ref a :: argsL).toArray h n0 Q) (hf : rm.frames + 1 ≤ R.frames) (hl : W0 + (maxL' + 11) + rm.locals ≤ R.locals) (hk : k + rm.cells ≤ R.cells) (hn : n + rm.slots ≤ R.slots) (hd : decode bytes pc = .ok (.invokespecial index, 3)) (hsz : Ls.size = maxL) (hpd : parseMethodDescriptor y.desc = some ⟨ps, rt⟩) (hlen : argsL.length = ps.length) (hst : st0 = argsL.reverse ++ .ref a :: st) (hW : (st.map fun v => v.category).sum = W0) (hp : pc' = pc + 3)
    (W : ∀ v h', Q v h' → ∃ L', Own n0 h' L' ∧ Wk p l e R m args below meth c (MW Z s0 own m) P n0 L' (k + rm.cells) (n + rm.slots) pc' Ls (v.toList ++ st)) : Wk p l e R m args below meth c (MW Z s0 own m) P n0 L k n pc Ls (st0) := by
  subst hp hst hret'
  intro s T locs X hMs hF hO
  obtain ⟨vm0, k0, rfl, hS, hk0, hZ, hown⟩ := hMs
  obtain ⟨_, _, ⟨T1, L1, k1, n1⟩, -, X', hS2, hgr, ⟨Lc, hQ, l1, y1, z1⟩, stp⟩ := X.specialBackS C.1 (y := y) hy1 hown (mvT (s := s0.setVm vm0) hZ w1) (mvT (s := s0.setVm vm0) hZ w2) (mvT (s := s0.setVm vm0) hZ w4) hy (backOfS (W := W0) (Q := fun v h' L => Q v h' ∧ T.heap.size ≤ h'.size ∧ Fr n0.1 L) (hM _ hO) (s := s0.setVm vm0) hZ w4 w3 hf hl) (g := mkF m pc Ls (argsL.reverse ++ .ref a :: st)) rfl (hsz.trans C.2.2.1.symm) (Steps.refl _) (a := a) (argsL := argsL) (rest := st) (lenOf hpd hlen) rfl (by show 2 * 0 + _ ≤ _; omega) (hb C.2.1 hd) (fun _ _ => ⟨rfl, rfl, hk, hn⟩)
  dsimp only [Pt.U, Pt.locs, Pt.cells, Pt.slots] at X' l1 y1 z1 stp hQ hS2 hgr
  subst l1 y1 z1
  obtain ⟨hQ1, hQ2, hQ3⟩ := hQ
  obtain ⟨L', O', W'⟩ := W _ _ hQ1
  obtain ⟨t, r1, r2⟩ := W' (s0.setVm T1.vm) T1 _ X' ⟨T1.vm, T1.heap.size, rfl, hS.trans hS2 (Nat.le_trans hk0 hgr), Nat.le_refl _, State.Warmed39.trans (t := s0.setVm vm0) hZ hS2.1, by rw [hS2.1.alike.findClass]; exact hown⟩ (Fr.app hF hQ3) O'
  exact ⟨t, stp.trans r1, r2⟩
end OwnWide

section OwnRead
variable {p : Program} {l : Launch} {e : Env} {R : Room} {m : MethodId} {args : Array Value} {below : List Frame} {meth : Method} {c : Code} {M : State → Heap → Prop} {P : State → Prop} {n0 : Base} {Z : State} {a0 : Array Value} {own name : String} {bytes : ByteArray} {maxL : Nat} {ret : Option FieldType} {L : List (Addr × (Cell → Prop))} {k n pc pc' : Nat} {Ls Ls' : Array Slot} {st : List Value}
def ArrR (Z : State) (ty : FieldType) (n : Nat) (f : Nat → Int32) (c : Cell) : Prop := Z.isArrayOf c ty ∧ c.vm ≠ .unknown ∧ c.slots.size = n ∧ (∀ i, i < n → c.slots[i]? = some (.int (f i))) ∧ True
def StaC (Z : State) (C nm d : String) (v : Value) (sa : Addr) (cell : Cell) : Prop := ∃ (cf i : Nat) (k : Class) (f : Field), Z.fieldFound? C nm d = some (cf, k, i, f) ∧ f.isStatic = true ∧ k.init = .initialized ∧ k.statics = some sa ∧ cell.vm.isStatics = true ∧ cell.slots[f.slot]? = some v
theorem staC_of {h : Heap} {C nm d : String} {v : Value} (F : Sta Z h C nm d v) : ∃ sa, Hs h sa (StaC Z C nm d v sa) := by
  obtain ⟨cf, i, k, f, st, cell, h1, h2, h3, h4, h5, h6, h7⟩ := F
  exact ⟨st, cell, h5, cf, i, k, f, h1, h2, h3, h4, h6, h7⟩
theorem sta_of {h : Heap} {C nm d : String} {v : Value} {sa : Addr} (H : Hs h sa (StaC Z C nm d v sa)) : Sta Z h C nm d v := by
  obtain ⟨cell, h5, cf, i, k, f, h1, h2, h3, h4, h6, h7⟩ := H
  exact ⟨cf, i, k, f, sa, cell, h1, h2, h3, h4, h5, h6, h7⟩
theorem Wk.getfieldR {C' O nm d host : String} {ty : FieldType} {index i q : Nat} {a : Addr} {ks : List (String × String × String × FieldType)} {vs : List Value} {v : Value} (C : Cx Z own name bytes maxL ret p m meth c M) (w : (Cond.fieldLink own index O nm d).before a0 Z = true ∨ (Cond.fieldLinkNest own index O nm d host).before a0 Z = true) (hd : decode bytes pc = .ok (.getfield index, 3)) (hL : n0.2[q]? = some (a, ObjC Z C' ks vs)) (hk : ks[i]? = some (O, nm, d, ty)) (hv : vs[i]? = some v) (hp : pc' = pc + 3)
    (W : Wk p l e R m args below meth c M P n0 L k n pc' Ls (v :: st)) : Wk p l e R m args below meth c M P n0 L k n pc Ls (.ref a :: st) := by
  subst hp
  intro s T locs X hM hF hO
  obtain ⟨cl, g1, g2, g3⟩ := hO.1.2 _ (List.mem_of_getElem? hL)
  obtain ⟨T', X', e', stp⟩ := getF X C.1 (C.2.2.2.2.2.2.1 _ _ hM).1 (C.2.2.2.2.2.2.1 _ _ hM).2 w Via.refl rfl (fld_of g1 (g3 i _ v hk hv)) (g := mkF m pc Ls (.ref a :: st)) rfl rfl (hb C.2.1 hd)
  rw [← e'] at hM hO
  obtain ⟨t, r1, r2⟩ := W s T' _ X' hM hF hO
  exact ⟨t, stp t r1, r2⟩
theorem Wk.callVR {y : MethodName} {C' : String} {bytes' : ByteArray} {maxL' : Nat} {ret' : Option FieldType} {index W0 q : Nat} {rm : Room} {Q : Option Value → Heap → Prop} {a : Addr} {ks : List (String × String × String × FieldType)} {vs : List Value} {argsL st0 : List Value} {ps : List FieldType} {rt : Option FieldType} (C : Cx Z own name bytes maxL ret p m meth c M) (hL : n0.2[q]? = some (a, ObjC Z C' ks vs)) (w1 : (Jvm.Cond.methodLink own index y).before a0 Z = true) (w5 : (Jvm.Cond.declares y).before a0 Z = true) (w6 : (Jvm.Cond.selects C' y y).before a0 Z = true) (w2 : (Jvm.Cond.instanceMethod y).before a0 Z = true) (w3 : (Jvm.Cond.initialized y.cls).before a0 Z = true) (w4 : (Jvm.Cond.code y bytes' maxL' ret').before a0 Z = true) (hy : y.cls ≠ "java/lang/invoke/MethodHandle" ∧ y.cls ≠ "java/lang/invoke/VarHandle")
    (hM : ∀ h, Own n0 h L → Meth l Z y bytes' maxL' ret' [] rm (.ref a :: argsL).toArray h n0 Q) (hf : rm.frames + 1 ≤ R.frames) (hl : W0 + (maxL' + 11) + rm.locals ≤ R.locals) (hk : k + rm.cells ≤ R.cells) (hn : n + rm.slots ≤ R.slots) (hd : decode bytes pc = .ok (.invokevirtual index, 3)) (hsz : Ls.size = maxL) (hpd : parseMethodDescriptor y.desc = some ⟨ps, rt⟩) (hlen : argsL.length = ps.length) (hst : st0 = argsL.reverse ++ .ref a :: st) (hW : (st.map fun v => v.category).sum = W0) (hp : pc' = pc + 3)
    (W : ∀ v h', Q v h' → ∃ L', Own n0 h' L' ∧ Wk p l e R m args below meth c M P n0 L' (k + rm.cells) (n + rm.slots) pc' Ls (v.toList ++ st)) : Wk p l e R m args below meth c M P n0 L k n pc Ls (st0) := by
  subst hp hst
  intro s T locs X hMs hF hO
  obtain ⟨hZ, hown⟩ := C.2.2.2.2.2.2.1 _ _ hMs
  obtain ⟨cl, g1, g2, g3⟩ := hO.1.2 _ (List.mem_of_getElem? hL)
  obtain ⟨cq, kq, qa, qb, qc⟩ := isOf hZ rfl (exa_of g1 g2)
  obtain ⟨_, _, ⟨T1, L1, k1, n1⟩, -, X', ⟨Lc, hQ, l1, y1, z1⟩, stp⟩ := X.virtualBack C.1 (y := y) (z := y) hown (mvT hZ w1) (mvT hZ w5) (notFace_of_selects (args := #[]) (mvT hZ w6)) (mvT hZ w6) (mvT hZ w2) hy (backOf (W := W0) (Q := fun v h' L => Q v h' ∧ T.heap.size ≤ h'.size ∧ Fr n0.1 L) (hM _ hO) hZ w4 w3 hf hl) qa qc (g := mkF m pc Ls (argsL.reverse ++ .ref a :: st)) rfl (hsz.trans C.2.2.1.symm) (Steps.refl _) (argsL := argsL) (rest := st) (lenOf hpd hlen) rfl (by show 2 * 0 + _ ≤ _; omega) (hb C.2.1 hd) (fun _ _ => ⟨rfl, rfl, hk, hn⟩)
  dsimp only [Pt.U, Pt.locs, Pt.cells, Pt.slots] at X' l1 y1 z1 stp hQ
  subst l1 y1 z1
  obtain ⟨hQ1, hQ2, hQ3⟩ := hQ
  obtain ⟨L', O', W'⟩ := W _ _ hQ1
  obtain ⟨t, r1, r2⟩ := W' s T1 _ X' (C.2.2.2.2.2.2.2 s _ _ hQ2 hMs) (Fr.app hF hQ3) O'
  exact ⟨t, stp.trans r1, r2⟩
theorem Wk.baloadR {a : Addr} {j : Int32} {q i nn : Nat} {f : Nat → Int32} (C : Cx Z own name bytes maxL ret p m meth c M) (hd : decode bytes pc = .ok (.baload, 1)) (hL : n0.2[q]? = some (a, ArrR Z .byte nn f)) (hj : j.toInt = (i : Int)) (hi : i < nn) (hp : pc' = pc + 1) (W : Wk p l e R m args below meth c M P n0 L k n pc' Ls (.int (f i) :: st)) : Wk p l e R m args below meth c M P n0 L k n pc Ls (.int j :: .ref a :: st) := by
  subst hp
  refine W.via fun s T locs X hM hO t r => ?_
  obtain ⟨cl, g1, g2, g3, g4, g5, -⟩ := hO.1.2 _ (List.mem_of_getElem? hL)
  obtain ⟨b1, b2⟩ := idx_of hj hi
  rw [← g4] at b1
  exact X.baloadBytes C.1 (j := j) (v := .int (f i)) g1 (State.isArrayOf_alike (C.2.2.2.2.2.2.1 _ _ hM).1.alike g2) g3 b1 (by rw [b2]; exact g5 i hi) (g := mkF m pc Ls (.int j :: .ref a :: st)) rfl rfl (hb C.2.1 hd) t r
theorem Wk.arraylengthR {a : Addr} {q nn : Nat} {ty : FieldType} {z : Int32} {φ : Cell → Prop} (C : Cx Z own name bytes maxL ret p m meth c M) (hd : decode bytes pc = .ok (.arraylength, 1)) (hL : n0.2[q]? = some (a, φ)) (hφ : ∀ c, φ c → Z.isArrayOf c ty ∧ c.slots.size = nn) (hz : nn.toInt32 = z) (hp : pc' = pc + 1) (W : Wk p l e R m args below meth c M P n0 L k n pc' Ls (.int z :: st)) : Wk p l e R m args below meth c M P n0 L k n pc Ls (.ref a :: st) := by
  subst hp hz
  refine W.via fun s T locs X hM hO t r => ?_
  obtain ⟨cl, g1, g2⟩ := hO.1.2 _ (List.mem_of_getElem? hL)
  obtain ⟨g3, g4⟩ := hφ cl g2
  subst g4
  exact X.arraylength C.1 g1 (State.isArrayOf_alike (C.2.2.2.2.2.2.1 _ _ hM).1.alike g3) (g := mkF m pc Ls (.ref a :: st)) rfl rfl (hb C.2.1 hd) t r
theorem Wk.getstaticR {C' nm d : String} {index q : Nat} {sa : Addr} {v : Value} (C : Cx Z own name bytes maxL ret p m meth c M) (w : (Cond.fieldLink own index C' nm d).before a0 Z = true) (hd : decode bytes pc = .ok (.getstatic index, 3)) (hL : n0.2[q]? = some (sa, StaC Z C' nm d v sa)) (hp : pc' = pc + 3)
    (W : Wk p l e R m args below meth c M P n0 L k n pc' Ls (v :: st)) : Wk p l e R m args below meth c M P n0 L k n pc Ls (st) := by
  subst hp
  intro s T locs X hM hF hO
  obtain ⟨T', X', e', stp⟩ := getS2 (host := "") X C.1 (C.2.2.2.2.2.2.1 _ _ hM).1 (C.2.2.2.2.2.2.1 _ _ hM).2 (Or.inl w) Via.refl rfl (sta_of (hO.1.2 _ (List.mem_of_getElem? hL))) (g := mkF m pc Ls st) rfl (hb C.2.1 hd)
  rw [← e'] at hM hO
  obtain ⟨t, r1, r2⟩ := W s T' _ X' hM hF hO
  exact ⟨t, stp t r1, r2⟩
/-! the law's own start: nothing loaded yet -/
def M0 (Z : State) : State → Heap → Prop := fun s _ => s = Z
def MethL (l : Launch) (Z : State) (y : MethodName) (bytes : ByteArray) (maxL : Nat) (ret : Option FieldType) (ws : List Jvm.Cond) (rm : Room) (as' : Array Value) (n0 : Base) (Q : Option Value → Heap → Prop) : Prop :=
  MetFree l y (head1 (Jvm.Cond.code y bytes maxL ret :: ws) rm) (fun a U => a = as' ∧ U = Z) (fun _ _ _ _ _ => True) (fun _ U o U' => ∃ v L, o = .returned v ∧ (Q v U'.heap ∧ Fr n0.1 L) ∧ ReturnedEndW U o U' L rm.cells rm.slots)
theorem MethL.of {y : MethodName} {ws : List Jvm.Cond} {rm : Room} {as' : Array Value} {Q : Option Value → Heap → Prop} (hp : plainFor y = true) (hE : ∀ m, entryFrame m as' maxL = mkF m 0 Ls []) (hO : Own n0 Z.heap L)
    (body : ∀ (p : Program) (e : Env) (m : MethodId) (below : List Frame) (meth : Method) (c : Code) (FE : Outcome → State → List Loc → Prop), Cx Z y.cls y.name bytes maxL ret p m meth c (M0 Z) → Cx Z y.cls y.name bytes maxL ret p m meth c (MW Z Z y.cls m) → Ok (MW Z Z y.cls m) FE rm.cells rm.slots → Wk p l e rm m as' below meth c (M0 Z) (Pend below FE n0 Q) n0 L 0 0 0 Ls []) :
    MethL l Z y bytes maxL ret ws rm as' n0 Q := by
  refine MetFree.of_bodySF hp hisR ?_
  intro p e s m args below meth c s₁ Bd hml0 hP hK
  obtain ⟨rfl, hs⟩ := hP
  subst hs
  have hnm := (name_of_methodNamed Bd.named Bd.method).1
  have e0 : s₁.heap = s.heap := by rw [Bd.state]; rfl
  have hown := findClass_of_methodNamed Bd.named
  have C0 : Cx s y.cls y.name bytes maxL ret p m meth c (M0 s) := ⟨Bd.exec, Bd.bytes, hml0, Bd.returns, Bd.notSynchronized, hnm, fun s' _ q => by have q' : s' = s := q; subst q'; exact ⟨State.Warmed39.refl _, hown⟩, fun s' h1 h2 hle q => q⟩
  have CC : Cx s y.cls y.name bytes maxL ret p m meth c (MW s s y.cls m) := ⟨Bd.exec, Bd.bytes, hml0, Bd.returns, Bd.notSynchronized, hnm, fun s' _ ⟨vm0, k0, q, hS, hk0, h1, h2⟩ => by subst q; exact ⟨h1, h2⟩, fun s' h1 h2 hle ⟨vm0, k0, q, hS, hk0, h1, h2⟩ => ⟨vm0, k0, q, hS, Nat.le_trans hk0 hle, h1, h2⟩⟩
  have JJ : Ok (MW s s y.cls m) (fun o t L => ReturnedEndW s o t L rm.cells rm.slots) rm.cells rm.slots := fun s' t L k n v ⟨vm0, k0, q, hS, hk0, h1, h2⟩ hW hs hk hn => by
    subst q
    obtain ⟨a, b, c'⟩ := hS.ended (U := t) hW hk0 hs
    exact ⟨⟨_, rfl⟩, a, b, c'.mono hk hn⟩
  obtain ⟨t, r1, v, Lo, r2, r3, r4, r5, r6⟩ := body p e m below meth c _ C0 CC JJ s s₁ [] (Stand.of_body Bd) rfl (Fr.nil n0.1) (by rw [e0]; exact hO)
  exact ⟨t, .returned v, castTop (hE m) r1, r2, r3, v, Lo, rfl, ⟨r4, r5⟩, r6⟩
/-! a cell that isn't the String's and not its array's -/
def Away (Z : State) (φ : Cell → Prop) : Prop := ∀ c, φ c → ¬ ExaC Z "java/lang/String" c ∧ ¬ (Z.isArrayOf c .byte ∧ c.slots.size = 1)
theorem exaC_ne {C D : String} (hne : C ≠ D) {c : Cell} (E : ExaC Z C c) (F : ExaC Z D c) : False := by
  obtain ⟨k1, f1, -⟩ := E
  obtain ⟨k2, f2, -⟩ := F
  obtain ⟨kk, g1, g2⟩ := Vm.findClass_spec f1
  obtain ⟨kk', g1', g2'⟩ := Vm.findClass_spec f2
  cases g1.symm.trans g1'
  exact hne (g2.symm.trans g2')
theorem Away.obj {C : String} {nf : Nat} {ks : List (String × String × String × FieldType)} {vs : List Value} (w : (Cond.instantiable C nf).before a0 Z = true) (hne : C ≠ "java/lang/String") : Away Z (ObjC Z C ks vs) := fun c A => ⟨fun F => exaC_ne hne A.1 F, fun q => by
  obtain ⟨⟨-, kA, hkA, comp, hkind⟩, -⟩ := q
  obtain ⟨k1, f1, g1, -⟩ := A.1
  obtain ⟨cI, kI, hfI, hkI, hkindI, -⟩ := Cond.instantiable_spec w
  cases f1.symm.trans hfI
  cases hkA.symm.trans hkI
  rw [hkindI] at hkind
  cases hkind⟩
theorem Away.arr {nn : Nat} {f : Nat → Int32} (hn : nn ≠ 1) : Away Z (ArrC Z .byte nn f) := fun c A => ⟨fun F => exaC_ne (by decide) A.2.2.2.2.2 F, fun q => hn (A.2.2.1.symm.trans q.2)⟩
theorem mvMN' {s : State} {args' : Array Value} {own' host : String} {y : MethodName} {index : Nat} (hZ : Z.Warmed39 s.vm) (w : (Jvm.Cond.methodLinkNest own' index y host).before a0 Z = true) : (Jvm.Cond.methodLinkNest own' index y host).before args' s = true := (Cond.methodLinkNest_wide hZ w :)
theorem Wk.callSNW {s0 : State} {y : MethodName} {host : String} {bytes' : ByteArray} {maxL' : Nat} {ret' : Option FieldType} {index W0 : Nat} {rm : Room} {Q : Option Value → Heap → Prop} {argsL st0 : List Value} {ps : List FieldType} {rt : Option FieldType} (C : Cx Z own name bytes maxL ret p m meth c (MW Z s0 own m)) (w1 : (Jvm.Cond.methodLinkNest own index y host).before a0 Z = true) (w2 : (Jvm.Cond.static y).before a0 Z = true) (w3 : (Jvm.Cond.initialized y.cls).before a0 Z = true) (w4 : (Jvm.Cond.code y bytes' maxL' ret').before a0 Z = true) (hy : y.cls ≠ "java/lang/invoke/MethodHandle" ∧ y.cls ≠ "java/lang/invoke/VarHandle")
    (hM : ∀ h, Own n0 h L → MethW l Z y bytes' maxL' ret' [] rm argsL.toArray h n0 Q) (hf : rm.frames + 1 ≤ R.frames) (hl : W0 + (maxL' + 11) + rm.locals ≤ R.locals) (hk : k + rm.cells ≤ R.cells) (hn : n + rm.slots ≤ R.slots) (hd : decode bytes pc = .ok (.invokestatic index, 3)) (hsz : Ls.size = maxL) (hpd : parseMethodDescriptor y.desc = some ⟨ps, rt⟩) (hlen : argsL.length = ps.length) (hst : st0 = argsL.reverse ++ st) (hW : (st.map fun v => v.category).sum = W0) (hp : pc' = pc + 3)
    (W : ∀ v h', Q v h' → ∃ L', Own n0 h' L' ∧ Wk p l e R m args below meth c (MW Z s0 own m) P n0 L' (k + rm.cells) (n + rm.slots) pc' Ls (v.toList ++ st)) : Wk p l e R m args below meth c (MW Z s0 own m) P n0 L k n pc Ls (st0) := by
  subst hp hst
  intro s T locs X hMs hF hO
  obtain ⟨vm0, k0, rfl, hS, hk0, hZ, hown⟩ := hMs
  obtain ⟨_, _, ⟨T1, L1, k1, n1⟩, -, X', hS2, hgr, ⟨Lc, hQ, l1, y1, z1⟩, stp⟩ := callSNS X C.1 (y := y) hown (mvMN' (s := s0.setVm vm0) hZ w1) (mvT (s := s0.setVm vm0) hZ w2) (mvT (s := s0.setVm vm0) hZ w3) (mvT (s := s0.setVm vm0) hZ w4) hy (backOfS (W := W0) (Q := fun v h' L => Q v h' ∧ T.heap.size ≤ h'.size ∧ Fr n0.1 L) (hM _ hO) (s := s0.setVm vm0) hZ w4 w3 hf hl) (g := mkF m pc Ls (argsL.reverse ++ st)) rfl (hsz.trans C.2.2.1.symm) (argsL := argsL) (rest := st) (lenOf hpd hlen) rfl (by show 2 * 0 + _ ≤ _; omega) (hb C.2.1 hd) (fun _ _ => ⟨rfl, rfl, hk, hn⟩)
  dsimp only [Pt.U, Pt.locs, Pt.cells, Pt.slots] at X' l1 y1 z1 stp hQ hS2 hgr
  subst l1 y1 z1
  obtain ⟨hQ1, hQ2, hQ3⟩ := hQ
  obtain ⟨L', O', W'⟩ := W _ _ hQ1
  obtain ⟨t, r1, r2⟩ := W' (s0.setVm T1.vm) T1 _ X' ⟨T1.vm, T1.heap.size, rfl, hS.trans hS2 (Nat.le_trans hk0 hgr), Nat.le_refl _, State.Warmed39.trans (t := s0.setVm vm0) hZ hS2.1, by rw [hS2.1.alike.findClass]; exact hown⟩ (Fr.app hF hQ3) O'
  exact ⟨t, stp.trans r1, r2⟩
end OwnRead
abbrev HW (Z : State) (a0 : Array Value) : Prop := ∀ d ∈ tables_1, d.before a0 Z = true
theorem w0 {Z : State} {a0 : Array Value} (hw : HW Z a0) : (Jvm.Cond.arrayClass Jvm.ClassFile.FieldType.byte).before a0 Z = true := hw _ (List.mem_of_getElem? (i := 0) rfl)
theorem w1 {Z : State} {a0 : Array Value} (hw : HW Z a0) : (Jvm.Cond.classLink "com/example/quorumgate/quorumgate/cluster/PutIfAbsentApplyToPinLaw" (7 : Nat) "com/example/quorumgate/quorumgate/cluster/Command$PutIfAbsent").before a0 Z = true := hw _ (List.mem_of_getElem? (i := 1) rfl)
theorem w2 {Z : State} {a0 : Array Value} (hw : HW Z a0) : (Jvm.Cond.instantiable "com/example/quorumgate/quorumgate/cluster/Command$PutIfAbsent" (2 : Nat)).before a0 Z = true := hw _ (List.mem_of_getElem? (i := 2) rfl)
theorem w3 {Z : State} {a0 : Array Value} (hw : HW Z a0) : (Jvm.Cond.initialized "com/example/quorumgate/quorumgate/cluster/Command$PutIfAbsent").before a0 Z = true := hw _ (List.mem_of_getElem? (i := 3) rfl)
theorem w4 {Z : State} {a0 : Array Value} (hw : HW Z a0) : (Jvm.Cond.classLink "com/example/quorumgate/quorumgate/cluster/PutIfAbsentApplyToPinLaw" (9 : Nat) "com/example/quorumgate/quorumgate/cluster/Key").before a0 Z = true := hw _ (List.mem_of_getElem? (i := 4) rfl)
theorem w5 {Z : State} {a0 : Array Value} (hw : HW Z a0) : (Jvm.Cond.instantiable "com/example/quorumgate/quorumgate/cluster/Key" (1 : Nat)).before a0 Z = true := hw _ (List.mem_of_getElem? (i := 5) rfl)
theorem w6 {Z : State} {a0 : Array Value} (hw : HW Z a0) : (Jvm.Cond.initialized "com/example/quorumgate/quorumgate/cluster/Key").before a0 Z = true := hw _ (List.mem_of_getElem? (i := 6) rfl)
theorem w7 {Z : State} {a0 : Array Value} (hw : HW Z a0) : (Jvm.Cond.stringLink "com/example/quorumgate/quorumgate/cluster/PutIfAbsentApplyToPinLaw" (11 : Nat) "k").before a0 Z = true := hw _ (List.mem_of_getElem? (i := 7) rfl)
theorem w8 {Z : State} {a0 : Array Value} (hw : HW Z a0) : (Jvm.Cond.initialized "java/lang/String").before a0 Z = true := hw _ (List.mem_of_getElem? (i := 8) rfl)
theorem w9 {Z : State} {a0 : Array Value} (hw : HW Z a0) : (Jvm.Cond.instantiable "java/lang/String" (4 : Nat)).before a0 Z = true := hw _ (List.mem_of_getElem? (i := 9) rfl)
theorem w10 {Z : State} {a0 : Array Value} (hw : HW Z a0) : (Jvm.Cond.laysFinal "java/lang/String" "java/lang/String" "value" "[B").before a0 Z = true := hw _ (List.mem_of_getElem? (i := 10) rfl)
theorem w11 {Z : State} {a0 : Array Value} (hw : HW Z a0) : (Jvm.Cond.laysFinal "java/lang/String" "java/lang/String" "coder" "B").before a0 Z = true := hw _ (List.mem_of_getElem? (i := 11) rfl)
theorem w12 {Z : State} {a0 : Array Value} (hw : HW Z a0) : (Jvm.Cond.soleField "java/lang/String" "value").before a0 Z = true := hw _ (List.mem_of_getElem? (i := 12) rfl)
theorem w13 {Z : State} {a0 : Array Value} (hw : HW Z a0) : (Jvm.Cond.soleField "java/lang/String" "coder").before a0 Z = true := hw _ (List.mem_of_getElem? (i := 13) rfl)
theorem w14 {Z : State} {a0 : Array Value} (hw : HW Z a0) : (Jvm.Cond.methodLink "com/example/quorumgate/quorumgate/cluster/PutIfAbsentApplyToPinLaw" (13 : Nat) ({ cls := "com/example/quorumgate/quorumgate/cluster/Key", name := "<init>", desc := "(Ljava/lang/String;)V" } : Jvm.MethodName)).before a0 Z = true := hw _ (List.mem_of_getElem? (i := 14) rfl)
theorem w15 {Z : State} {a0 : Array Value} (hw : HW Z a0) : (Jvm.Cond.instanceMethod ({ cls := "com/example/quorumgate/quorumgate/cluster/Key", name := "<init>", desc := "(Ljava/lang/String;)V" } : Jvm.MethodName)).before a0 Z = true := hw _ (List.mem_of_getElem? (i := 15) rfl)
theorem w16 {Z : State} {a0 : Array Value} (hw : HW Z a0) : (Jvm.Cond.code ({ cls := "com/example/quorumgate/quorumgate/cluster/Key", name := "<init>", desc := "(Ljava/lang/String;)V" } : Jvm.MethodName) prog_19_method_1_code (4 : Nat) (Option.none : Option Jvm.ClassFile.FieldType)).before a0 Z = true := hw _ (List.mem_of_getElem? (i := 16) rfl)
theorem w17 {Z : State} {a0 : Array Value} (hw : HW Z a0) : (Jvm.Cond.methodLink "com/example/quorumgate/quorumgate/cluster/Key" (1 : Nat) ({ cls := "java/lang/Record", name := "<init>", desc := "()V" } : Jvm.MethodName)).before a0 Z = true := hw _ (List.mem_of_getElem? (i := 17) rfl)
theorem w18 {Z : State} {a0 : Array Value} (hw : HW Z a0) : (Jvm.Cond.instanceMethod ({ cls := "java/lang/Record", name := "<init>", desc := "()V" } : Jvm.MethodName)).before a0 Z = true := hw _ (List.mem_of_getElem? (i := 18) rfl)
theorem w20 {Z : State} {a0 : Array Value} (hw : HW Z a0) : (Jvm.Cond.initialized "java/lang/Record").before a0 Z = true := hw _ (List.mem_of_getElem? (i := 20) rfl)
theorem w21 {Z : State} {a0 : Array Value} (hw : HW Z a0) : (Jvm.Cond.code ({ cls := "java/lang/Record", name := "<init>", desc := "()V" } : Jvm.MethodName) jdk_30_method_1_code (1 : Nat) (Option.none : Option Jvm.ClassFile.FieldType)).before a0 Z = true := hw _ (List.mem_of_getElem? (i := 21) rfl)
theorem w22 {Z : State} {a0 : Array Value} (hw : HW Z a0) : (Jvm.Cond.methodLink "java/lang/Record" (1 : Nat) ({ cls := "java/lang/Object", name := "<init>", desc := "()V" } : Jvm.MethodName)).before a0 Z = true := hw _ (List.mem_of_getElem? (i := 22) rfl)
theorem w23 {Z : State} {a0 : Array Value} (hw : HW Z a0) : (Jvm.Cond.instanceMethod ({ cls := "java/lang/Object", name := "<init>", desc := "()V" } : Jvm.MethodName)).before a0 Z = true := hw _ (List.mem_of_getElem? (i := 23) rfl)
theorem w24 {Z : State} {a0 : Array Value} (hw : HW Z a0) : (Jvm.Cond.code ({ cls := "java/lang/Object", name := "<init>", desc := "()V" } : Jvm.MethodName) object_method_1_code (1 : Nat) (Option.none : Option Jvm.ClassFile.FieldType)).before a0 Z = true := hw _ (List.mem_of_getElem? (i := 24) rfl)
theorem w25 {Z : State} {a0 : Array Value} (hw : HW Z a0) : (Jvm.Cond.stringLink "com/example/quorumgate/quorumgate/cluster/Key" (7 : Nat) "name").before a0 Z = true := hw _ (List.mem_of_getElem? (i := 25) rfl)
theorem w26 {Z : State} {a0 : Array Value} (hw : HW Z a0) : (Jvm.Cond.methodLink "com/example/quorumgate/quorumgate/cluster/Key" (9 : Nat) ({ cls := "java/util/Objects", name := "requireNonNull", desc := "(Ljava/lang/Object;Ljava/lang/String;)Ljava/lang/Object;" } : Jvm.MethodName)).before a0 Z = true := hw _ (List.mem_of_getElem? (i := 26) rfl)
theorem w27 {Z : State} {a0 : Array Value} (hw : HW Z a0) : (Jvm.Cond.static ({ cls := "java/util/Objects", name := "requireNonNull", desc := "(Ljava/lang/Object;Ljava/lang/String;)Ljava/lang/Object;" } : Jvm.MethodName)).before a0 Z = true := hw _ (List.mem_of_getElem? (i := 27) rfl)
theorem w28 {Z : State} {a0 : Array Value} (hw : HW Z a0) : (Jvm.Cond.initialized "java/util/Objects").before a0 Z = true := hw _ (List.mem_of_getElem? (i := 28) rfl)
theorem w29 {Z : State} {a0 : Array Value} (hw : HW Z a0) : (Jvm.Cond.code ({ cls := "java/util/Objects", name := "requireNonNull", desc := "(Ljava/lang/Object;Ljava/lang/String;)Ljava/lang/Object;" } : Jvm.MethodName) jdk_31_method_11_code (2 : Nat) (Option.some (Jvm.ClassFile.FieldType.object "java/lang/Object"))).before a0 Z = true := hw _ (List.mem_of_getElem? (i := 29) rfl)
theorem w30 {Z : State} {a0 : Array Value} (hw : HW Z a0) : (Jvm.Cond.methodLink "com/example/quorumgate/quorumgate/cluster/Key" (15 : Nat) ({ cls := "java/lang/String", name := "isEmpty", desc := "()Z" } : Jvm.MethodName)).before a0 Z = true := hw _ (List.mem_of_getElem? (i := 30) rfl)
theorem w31 {Z : State} {a0 : Array Value} (hw : HW Z a0) : (Jvm.Cond.declares ({ cls := "java/lang/String", name := "isEmpty", desc := "()Z" } : Jvm.MethodName)).before a0 Z = true := hw _ (List.mem_of_getElem? (i := 31) rfl)
theorem w32 {Z : State} {a0 : Array Value} (hw : HW Z a0) : (Jvm.Cond.instanceMethod ({ cls := "java/lang/String", name := "isEmpty", desc := "()Z" } : Jvm.MethodName)).before a0 Z = true := hw _ (List.mem_of_getElem? (i := 32) rfl)
theorem w33 {Z : State} {a0 : Array Value} (hw : HW Z a0) : (Jvm.Cond.selects "java/lang/String" ({ cls := "java/lang/String", name := "isEmpty", desc := "()Z" } : Jvm.MethodName) ({ cls := "java/lang/String", name := "isEmpty", desc := "()Z" } : Jvm.MethodName)).before a0 Z = true := hw _ (List.mem_of_getElem? (i := 33) rfl)
theorem w34 {Z : State} {a0 : Array Value} (hw : HW Z a0) : (Jvm.Cond.code ({ cls := "java/lang/String", name := "isEmpty", desc := "()Z" } : Jvm.MethodName) jdk_42_method_55_code (1 : Nat) (Option.some Jvm.ClassFile.FieldType.boolean)).before a0 Z = true := hw _ (List.mem_of_getElem? (i := 34) rfl)
theorem w35 {Z : State} {a0 : Array Value} (hw : HW Z a0) : (Jvm.Cond.fieldLink "java/lang/String" (9 : Nat) "java/lang/String" "value" "[B").before a0 Z = true := hw _ (List.mem_of_getElem? (i := 35) rfl)
theorem w36 {Z : State} {a0 : Array Value} (hw : HW Z a0) : (Jvm.Cond.methodLink "com/example/quorumgate/quorumgate/cluster/Key" (30 : Nat) ({ cls := "java/lang/String", name := "length", desc := "()I" } : Jvm.MethodName)).before a0 Z = true := hw _ (List.mem_of_getElem? (i := 36) rfl)
theorem w37 {Z : State} {a0 : Array Value} (hw : HW Z a0) : (Jvm.Cond.declares ({ cls := "java/lang/String", name := "length", desc := "()I" } : Jvm.MethodName)).before a0 Z = true := hw _ (List.mem_of_getElem? (i := 37) rfl)
theorem w38 {Z : State} {a0 : Array Value} (hw : HW Z a0) : (Jvm.Cond.instanceMethod ({ cls := "java/lang/String", name := "length", desc := "()I" } : Jvm.MethodName)).before a0 Z = true := hw _ (List.mem_of_getElem? (i := 38) rfl)
theorem w39 {Z : State} {a0 : Array Value} (hw : HW Z a0) : (Jvm.Cond.selects "java/lang/String" ({ cls := "java/lang/String", name := "length", desc := "()I" } : Jvm.MethodName) ({ cls := "java/lang/String", name := "length", desc := "()I" } : Jvm.MethodName)).before a0 Z = true := hw _ (List.mem_of_getElem? (i := 39) rfl)
theorem w40 {Z : State} {a0 : Array Value} (hw : HW Z a0) : (Jvm.Cond.code ({ cls := "java/lang/String", name := "length", desc := "()I" } : Jvm.MethodName) jdk_42_method_54_code (1 : Nat) (Option.some Jvm.ClassFile.FieldType.int)).before a0 Z = true := hw _ (List.mem_of_getElem? (i := 40) rfl)
theorem w41 {Z : State} {a0 : Array Value} (hw : HW Z a0) : (Jvm.Cond.methodLink "java/lang/String" (335 : Nat) ({ cls := "java/lang/String", name := "coder", desc := "()B" } : Jvm.MethodName)).before a0 Z = true := hw _ (List.mem_of_getElem? (i := 41) rfl)
theorem w42 {Z : State} {a0 : Array Value} (hw : HW Z a0) : (Jvm.Cond.declares ({ cls := "java/lang/String", name := "coder", desc := "()B" } : Jvm.MethodName)).before a0 Z = true := hw _ (List.mem_of_getElem? (i := 42) rfl)
theorem w43 {Z : State} {a0 : Array Value} (hw : HW Z a0) : (Jvm.Cond.instanceMethod ({ cls := "java/lang/String", name := "coder", desc := "()B" } : Jvm.MethodName)).before a0 Z = true := hw _ (List.mem_of_getElem? (i := 43) rfl)
theorem w44 {Z : State} {a0 : Array Value} (hw : HW Z a0) : (Jvm.Cond.selects "java/lang/String" ({ cls := "java/lang/String", name := "coder", desc := "()B" } : Jvm.MethodName) ({ cls := "java/lang/String", name := "coder", desc := "()B" } : Jvm.MethodName)).before a0 Z = true := hw _ (List.mem_of_getElem? (i := 44) rfl)
theorem w45 {Z : State} {a0 : Array Value} (hw : HW Z a0) : (Jvm.Cond.code ({ cls := "java/lang/String", name := "coder", desc := "()B" } : Jvm.MethodName) jdk_42_method_152_code (1 : Nat) (Option.some Jvm.ClassFile.FieldType.byte)).before a0 Z = true := hw _ (List.mem_of_getElem? (i := 45) rfl)
theorem w46 {Z : State} {a0 : Array Value} (hw : HW Z a0) : (Jvm.Cond.fieldLink "java/lang/String" (38 : Nat) "java/lang/String" "COMPACT_STRINGS" "Z").before a0 Z = true := hw _ (List.mem_of_getElem? (i := 46) rfl)
theorem w47 {Z : State} {a0 : Array Value} (hw : HW Z a0) : (Jvm.Cond.fieldLink "java/lang/String" (15 : Nat) "java/lang/String" "coder" "B").before a0 Z = true := hw _ (List.mem_of_getElem? (i := 47) rfl)
theorem w48 {Z : State} {a0 : Array Value} (hw : HW Z a0) : (Jvm.Cond.methodLink "com/example/quorumgate/quorumgate/cluster/Key" (34 : Nat) ({ cls := "java/lang/String", name := "charAt", desc := "(I)C" } : Jvm.MethodName)).before a0 Z = true := hw _ (List.mem_of_getElem? (i := 48) rfl)
theorem w49 {Z : State} {a0 : Array Value} (hw : HW Z a0) : (Jvm.Cond.declares ({ cls := "java/lang/String", name := "charAt", desc := "(I)C" } : Jvm.MethodName)).before a0 Z = true := hw _ (List.mem_of_getElem? (i := 49) rfl)
theorem w50 {Z : State} {a0 : Array Value} (hw : HW Z a0) : (Jvm.Cond.instanceMethod ({ cls := "java/lang/String", name := "charAt", desc := "(I)C" } : Jvm.MethodName)).before a0 Z = true := hw _ (List.mem_of_getElem? (i := 50) rfl)
theorem w51 {Z : State} {a0 : Array Value} (hw : HW Z a0) : (Jvm.Cond.selects "java/lang/String" ({ cls := "java/lang/String", name := "charAt", desc := "(I)C" } : Jvm.MethodName) ({ cls := "java/lang/String", name := "charAt", desc := "(I)C" } : Jvm.MethodName)).before a0 Z = true := hw _ (List.mem_of_getElem? (i := 51) rfl)
theorem w52 {Z : State} {a0 : Array Value} (hw : HW Z a0) : (Jvm.Cond.code ({ cls := "java/lang/String", name := "charAt", desc := "(I)C" } : Jvm.MethodName) jdk_42_method_56_code (2 : Nat) (Option.some Jvm.ClassFile.FieldType.char)).before a0 Z = true := hw _ (List.mem_of_getElem? (i := 52) rfl)
theorem w53 {Z : State} {a0 : Array Value} (hw : HW Z a0) : (Jvm.Cond.methodLink "java/lang/String" (492 : Nat) ({ cls := "java/lang/String", name := "isLatin1", desc := "()Z" } : Jvm.MethodName)).before a0 Z = true := hw _ (List.mem_of_getElem? (i := 53) rfl)
theorem w54 {Z : State} {a0 : Array Value} (hw : HW Z a0) : (Jvm.Cond.declares ({ cls := "java/lang/String", name := "isLatin1", desc := "()Z" } : Jvm.MethodName)).before a0 Z = true := hw _ (List.mem_of_getElem? (i := 54) rfl)
theorem w55 {Z : State} {a0 : Array Value} (hw : HW Z a0) : (Jvm.Cond.instanceMethod ({ cls := "java/lang/String", name := "isLatin1", desc := "()Z" } : Jvm.MethodName)).before a0 Z = true := hw _ (List.mem_of_getElem? (i := 55) rfl)
theorem w56 {Z : State} {a0 : Array Value} (hw : HW Z a0) : (Jvm.Cond.selects "java/lang/String" ({ cls := "java/lang/String", name := "isLatin1", desc := "()Z" } : Jvm.MethodName) ({ cls := "java/lang/String", name := "isLatin1", desc := "()Z" } : Jvm.MethodName)).before a0 Z = true := hw _ (List.mem_of_getElem? (i := 56) rfl)
theorem w57 {Z : State} {a0 : Array Value} (hw : HW Z a0) : (Jvm.Cond.code ({ cls := "java/lang/String", name := "isLatin1", desc := "()Z" } : Jvm.MethodName) jdk_42_method_154_code (1 : Nat) (Option.some Jvm.ClassFile.FieldType.boolean)).before a0 Z = true := hw _ (List.mem_of_getElem? (i := 57) rfl)
theorem w58 {Z : State} {a0 : Array Value} (hw : HW Z a0) : (Jvm.Cond.methodLink "java/lang/String" (495 : Nat) ({ cls := "java/lang/StringLatin1", name := "charAt", desc := "([BI)C" } : Jvm.MethodName)).before a0 Z = true := hw _ (List.mem_of_getElem? (i := 58) rfl)
theorem w59 {Z : State} {a0 : Array Value} (hw : HW Z a0) : (Jvm.Cond.static ({ cls := "java/lang/StringLatin1", name := "charAt", desc := "([BI)C" } : Jvm.MethodName)).before a0 Z = true := hw _ (List.mem_of_getElem? (i := 59) rfl)
theorem w60 {Z : State} {a0 : Array Value} (hw : HW Z a0) : (Jvm.Cond.initialized "java/lang/StringLatin1").before a0 Z = true := hw _ (List.mem_of_getElem? (i := 60) rfl)
theorem w61 {Z : State} {a0 : Array Value} (hw : HW Z a0) : (Jvm.Cond.code ({ cls := "java/lang/StringLatin1", name := "charAt", desc := "([BI)C" } : Jvm.MethodName) jdk_43_method_2_code (2 : Nat) (Option.some Jvm.ClassFile.FieldType.char)).before a0 Z = true := hw _ (List.mem_of_getElem? (i := 61) rfl)
theorem w62 {Z : State} {a0 : Array Value} (hw : HW Z a0) : (Jvm.Cond.methodLink "java/lang/StringLatin1" (9 : Nat) ({ cls := "java/lang/String", name := "checkIndex", desc := "(II)V" } : Jvm.MethodName)).before a0 Z = true := hw _ (List.mem_of_getElem? (i := 62) rfl)
theorem w63 {Z : State} {a0 : Array Value} (hw : HW Z a0) : (Jvm.Cond.static ({ cls := "java/lang/String", name := "checkIndex", desc := "(II)V" } : Jvm.MethodName)).before a0 Z = true := hw _ (List.mem_of_getElem? (i := 63) rfl)
theorem w64 {Z : State} {a0 : Array Value} (hw : HW Z a0) : (Jvm.Cond.code ({ cls := "java/lang/String", name := "checkIndex", desc := "(II)V" } : Jvm.MethodName) jdk_42_method_155_code (2 : Nat) (Option.none : Option Jvm.ClassFile.FieldType)).before a0 Z = true := hw _ (List.mem_of_getElem? (i := 64) rfl)
theorem w65 {Z : State} {a0 : Array Value} (hw : HW Z a0) : (Jvm.Cond.fieldLink "java/lang/String" (1053 : Nat) "jdk/internal/util/Preconditions" "SIOOBE_FORMATTER" "Ljava/util/function/BiFunction;").before a0 Z = true := hw _ (List.mem_of_getElem? (i := 65) rfl)
theorem w66 {Z : State} {a0 : Array Value} (hw : HW Z a0) : (Jvm.Cond.initialized "jdk/internal/util/Preconditions").before a0 Z = true := hw _ (List.mem_of_getElem? (i := 66) rfl)
theorem w67 {Z : State} {a0 : Array Value} (hw : HW Z a0) : (Jvm.Cond.methodLink "java/lang/String" (1059 : Nat) ({ cls := "jdk/internal/util/Preconditions", name := "checkIndex", desc := "(IILjava/util/function/BiFunction;)I" } : Jvm.MethodName)).before a0 Z = true := hw _ (List.mem_of_getElem? (i := 67) rfl)
theorem w68 {Z : State} {a0 : Array Value} (hw : HW Z a0) : (Jvm.Cond.static ({ cls := "jdk/internal/util/Preconditions", name := "checkIndex", desc := "(IILjava/util/function/BiFunction;)I" } : Jvm.MethodName)).before a0 Z = true := hw _ (List.mem_of_getElem? (i := 68) rfl)
theorem w69 {Z : State} {a0 : Array Value} (hw : HW Z a0) : (Jvm.Cond.code ({ cls := "jdk/internal/util/Preconditions", name := "checkIndex", desc := "(IILjava/util/function/BiFunction;)I" } : Jvm.MethodName) jdk_41_method_11_code (3 : Nat) (Option.some Jvm.ClassFile.FieldType.int)).before a0 Z = true := hw _ (List.mem_of_getElem? (i := 69) rfl)
theorem w70 {Z : State} {a0 : Array Value} (hw : HW Z a0) : (Jvm.Cond.methodLink "com/example/quorumgate/quorumgate/cluster/Key" (38 : Nat) ({ cls := "com/example/quorumgate/quorumgate/cluster/Key", name := "isAllowed", desc := "(C)Z" } : Jvm.MethodName)).before a0 Z = true := hw _ (List.mem_of_getElem? (i := 70) rfl)
theorem w71 {Z : State} {a0 : Array Value} (hw : HW Z a0) : (Jvm.Cond.static ({ cls := "com/example/quorumgate/quorumgate/cluster/Key", name := "isAllowed", desc := "(C)Z" } : Jvm.MethodName)).before a0 Z = true := hw _ (List.mem_of_getElem? (i := 71) rfl)
theorem w72 {Z : State} {a0 : Array Value} (hw : HW Z a0) : (Jvm.Cond.code ({ cls := "com/example/quorumgate/quorumgate/cluster/Key", name := "isAllowed", desc := "(C)Z" } : Jvm.MethodName) prog_19_method_2_code (1 : Nat) (Option.some Jvm.ClassFile.FieldType.boolean)).before a0 Z = true := hw _ (List.mem_of_getElem? (i := 72) rfl)
theorem w73 {Z : State} {a0 : Array Value} (hw : HW Z a0) : (Jvm.Cond.fieldLink "com/example/quorumgate/quorumgate/cluster/Key" (60 : Nat) "com/example/quorumgate/quorumgate/cluster/Key" "name" "Ljava/lang/String;").before a0 Z = true := hw _ (List.mem_of_getElem? (i := 73) rfl)
theorem w74 {Z : State} {a0 : Array Value} (hw : HW Z a0) : (Jvm.Cond.laysFinal "com/example/quorumgate/quorumgate/cluster/Key" "com/example/quorumgate/quorumgate/cluster/Key" "name" "Ljava/lang/String;").before a0 Z = true := hw _ (List.mem_of_getElem? (i := 74) rfl)
theorem w75 {Z : State} {a0 : Array Value} (hw : HW Z a0) : (Jvm.Cond.methodLink "com/example/quorumgate/quorumgate/cluster/PutIfAbsentApplyToPinLaw" (16 : Nat) ({ cls := "com/example/quorumgate/quorumgate/cluster/Command$PutIfAbsent", name := "<init>", desc := "(Lcom/example/quorumgate/quorumgate/cluster/Key;[B)V" } : Jvm.MethodName)).before a0 Z = true := hw _ (List.mem_of_getElem? (i := 75) rfl)
theorem w76 {Z : State} {a0 : Array Value} (hw : HW Z a0) : (Jvm.Cond.instanceMethod ({ cls := "com/example/quorumgate/quorumgate/cluster/Command$PutIfAbsent", name := "<init>", desc := "(Lcom/example/quorumgate/quorumgate/cluster/Key;[B)V" } : Jvm.MethodName)).before a0 Z = true := hw _ (List.mem_of_getElem? (i := 76) rfl)
theorem w77 {Z : State} {a0 : Array Value} (hw : HW Z a0) : (Jvm.Cond.code ({ cls := "com/example/quorumgate/quorumgate/cluster/Command$PutIfAbsent", name := "<init>", desc := "(Lcom/example/quorumgate/quorumgate/cluster/Key;[B)V" } : Jvm.MethodName) prog_13_method_1_code (3 : Nat) (Option.none : Option Jvm.ClassFile.FieldType)).before a0 Z = true := hw _ (List.mem_of_getElem? (i := 77) rfl)
theorem w78 {Z : State} {a0 : Array Value} (hw : HW Z a0) : (Jvm.Cond.methodLink "com/example/quorumgate/quorumgate/cluster/Command$PutIfAbsent" (1 : Nat) ({ cls := "java/lang/Record", name := "<init>", desc := "()V" } : Jvm.MethodName)).before a0 Z = true := hw _ (List.mem_of_getElem? (i := 78) rfl)
theorem w79 {Z : State} {a0 : Array Value} (hw : HW Z a0) : (Jvm.Cond.methodLinkNest "com/example/quorumgate/quorumgate/cluster/Command$PutIfAbsent" (7 : Nat) ({ cls := "com/example/quorumgate/quorumgate/cluster/Command", name := "checkPut", desc := "(Lcom/example/quorumgate/quorumgate/cluster/Key;[B)V" } : Jvm.MethodName) "com/example/quorumgate/quorumgate/cluster/Command").before a0 Z = true := hw _ (List.mem_of_getElem? (i := 79) rfl)
theorem w80 {Z : State} {a0 : Array Value} (hw : HW Z a0) : (Jvm.Cond.static ({ cls := "com/example/quorumgate/quorumgate/cluster/Command", name := "checkPut", desc := "(Lcom/example/quorumgate/quorumgate/cluster/Key;[B)V" } : Jvm.MethodName)).before a0 Z = true := hw _ (List.mem_of_getElem? (i := 80) rfl)
theorem w81 {Z : State} {a0 : Array Value} (hw : HW Z a0) : (Jvm.Cond.initialized "com/example/quorumgate/quorumgate/cluster/Command").before a0 Z = true := hw _ (List.mem_of_getElem? (i := 81) rfl)
theorem w82 {Z : State} {a0 : Array Value} (hw : HW Z a0) : (Jvm.Cond.code ({ cls := "com/example/quorumgate/quorumgate/cluster/Command", name := "checkPut", desc := "(Lcom/example/quorumgate/quorumgate/cluster/Key;[B)V" } : Jvm.MethodName) prog_10_method_3_code (2 : Nat) (Option.none : Option Jvm.ClassFile.FieldType)).before a0 Z = true := hw _ (List.mem_of_getElem? (i := 82) rfl)
theorem w83 {Z : State} {a0 : Array Value} (hw : HW Z a0) : (Jvm.Cond.stringLink "com/example/quorumgate/quorumgate/cluster/Command" (1 : Nat) "key").before a0 Z = true := hw _ (List.mem_of_getElem? (i := 83) rfl)
theorem w84 {Z : State} {a0 : Array Value} (hw : HW Z a0) : (Jvm.Cond.methodLink "com/example/quorumgate/quorumgate/cluster/Command" (3 : Nat) ({ cls := "java/util/Objects", name := "requireNonNull", desc := "(Ljava/lang/Object;Ljava/lang/String;)Ljava/lang/Object;" } : Jvm.MethodName)).before a0 Z = true := hw _ (List.mem_of_getElem? (i := 84) rfl)
theorem w85 {Z : State} {a0 : Array Value} (hw : HW Z a0) : (Jvm.Cond.constant "com/example/quorumgate/quorumgate/cluster/Command" (11 : Nat) (1048576 : Int32)).before a0 Z = true := hw _ (List.mem_of_getElem? (i := 85) rfl)
theorem w86 {Z : State} {a0 : Array Value} (hw : HW Z a0) : (Jvm.Cond.fieldLink "com/example/quorumgate/quorumgate/cluster/Command$PutIfAbsent" (13 : Nat) "com/example/quorumgate/quorumgate/cluster/Command$PutIfAbsent" "key" "Lcom/example/quorumgate/quorumgate/cluster/Key;").before a0 Z = true := hw _ (List.mem_of_getElem? (i := 86) rfl)
theorem w87 {Z : State} {a0 : Array Value} (hw : HW Z a0) : (Jvm.Cond.laysFinal "com/example/quorumgate/quorumgate/cluster/Command$PutIfAbsent" "com/example/quorumgate/quorumgate/cluster/Command$PutIfAbsent" "key" "Lcom/example/quorumgate/quorumgate/cluster/Key;").before a0 Z = true := hw _ (List.mem_of_getElem? (i := 87) rfl)
theorem w88 {Z : State} {a0 : Array Value} (hw : HW Z a0) : (Jvm.Cond.fieldLink "com/example/quorumgate/quorumgate/cluster/Command$PutIfAbsent" (19 : Nat) "com/example/quorumgate/quorumgate/cluster/Command$PutIfAbsent" "value" "[B").before a0 Z = true := hw _ (List.mem_of_getElem? (i := 88) rfl)
theorem w89 {Z : State} {a0 : Array Value} (hw : HW Z a0) : (Jvm.Cond.laysFinal "com/example/quorumgate/quorumgate/cluster/Command$PutIfAbsent" "com/example/quorumgate/quorumgate/cluster/Command$PutIfAbsent" "value" "[B").before a0 Z = true := hw _ (List.mem_of_getElem? (i := 89) rfl)
theorem w90 {Z : State} {a0 : Array Value} (hw : HW Z a0) : (Jvm.Cond.methodLink "com/example/quorumgate/quorumgate/cluster/PutIfAbsentApplyToPinLaw" (19 : Nat) ({ cls := "com/example/quorumgate/quorumgate/cluster/Command$PutIfAbsent", name := "applyTo", desc := "([B)[B" } : Jvm.MethodName)).before a0 Z = true := hw _ (List.mem_of_getElem? (i := 90) rfl)
theorem w91 {Z : State} {a0 : Array Value} (hw : HW Z a0) : (Jvm.Cond.declares ({ cls := "com/example/quorumgate/quorumgate/cluster/Command$PutIfAbsent", name := "applyTo", desc := "([B)[B" } : Jvm.MethodName)).before a0 Z = true := hw _ (List.mem_of_getElem? (i := 91) rfl)
theorem w92 {Z : State} {a0 : Array Value} (hw : HW Z a0) : (Jvm.Cond.instanceMethod ({ cls := "com/example/quorumgate/quorumgate/cluster/Command$PutIfAbsent", name := "applyTo", desc := "([B)[B" } : Jvm.MethodName)).before a0 Z = true := hw _ (List.mem_of_getElem? (i := 92) rfl)
theorem w93 {Z : State} {a0 : Array Value} (hw : HW Z a0) : (Jvm.Cond.selects "com/example/quorumgate/quorumgate/cluster/Command$PutIfAbsent" ({ cls := "com/example/quorumgate/quorumgate/cluster/Command$PutIfAbsent", name := "applyTo", desc := "([B)[B" } : Jvm.MethodName) ({ cls := "com/example/quorumgate/quorumgate/cluster/Command$PutIfAbsent", name := "applyTo", desc := "([B)[B" } : Jvm.MethodName)).before a0 Z = true := hw _ (List.mem_of_getElem? (i := 93) rfl)
theorem w94 {Z : State} {a0 : Array Value} (hw : HW Z a0) : (Jvm.Cond.code ({ cls := "com/example/quorumgate/quorumgate/cluster/Command$PutIfAbsent", name := "applyTo", desc := "([B)[B" } : Jvm.MethodName) prog_13_method_2_code (2 : Nat) (Option.some (Jvm.ClassFile.FieldType.array Jvm.ClassFile.FieldType.byte))).before a0 Z = true := hw _ (List.mem_of_getElem? (i := 94) rfl)
theorem d1_0 : decode prog_19_method_1_code 0 = .ok (.aload_n 0, 1) := by decide +kernel
theorem d1_1 : decode prog_19_method_1_code 1 = .ok (.invokespecial 1, 3) := by decide +kernel
theorem d1_4 : decode prog_19_method_1_code 4 = .ok (.aload_n 1, 1) := by decide +kernel
theorem d1_5 : decode prog_19_method_1_code 5 = .ok (.ldc 7, 2) := by decide +kernel
theorem d1_7 : decode prog_19_method_1_code 7 = .ok (.invokestatic 9, 3) := by decide +kernel
theorem d1_10 : decode prog_19_method_1_code 10 = .ok (.pop, 1) := by decide +kernel
theorem d1_11 : decode prog_19_method_1_code 11 = .ok (.aload_n 1, 1) := by decide +kernel
theorem d1_12 : decode prog_19_method_1_code 12 = .ok (.invokevirtual 15, 3) := by decide +kernel
theorem d1_15 : decode prog_19_method_1_code 15 = .ok (.ifCond .eq 13, 3) := by decide +kernel
theorem d1_28 : decode prog_19_method_1_code 28 = .ok (.iconst 0, 1) := by decide +kernel
theorem d1_29 : decode prog_19_method_1_code 29 = .ok (.istore_n 2, 1) := by decide +kernel
theorem d1_30 : decode prog_19_method_1_code 30 = .ok (.iload_n 2, 1) := by decide +kernel
theorem d1_31 : decode prog_19_method_1_code 31 = .ok (.aload_n 1, 1) := by decide +kernel
theorem d1_32 : decode prog_19_method_1_code 32 = .ok (.invokevirtual 30, 3) := by decide +kernel
theorem d1_35 : decode prog_19_method_1_code 35 = .ok (.if_icmp .ge 53, 3) := by decide +kernel
theorem d1_38 : decode prog_19_method_1_code 38 = .ok (.aload_n 1, 1) := by decide +kernel
theorem d1_39 : decode prog_19_method_1_code 39 = .ok (.iload_n 2, 1) := by decide +kernel
theorem d1_40 : decode prog_19_method_1_code 40 = .ok (.invokevirtual 34, 3) := by decide +kernel
theorem d1_43 : decode prog_19_method_1_code 43 = .ok (.istore_n 3, 1) := by decide +kernel
theorem d1_44 : decode prog_19_method_1_code 44 = .ok (.iload_n 3, 1) := by decide +kernel
theorem d1_45 : decode prog_19_method_1_code 45 = .ok (.invokestatic 38, 3) := by decide +kernel
theorem d1_48 : decode prog_19_method_1_code 48 = .ok (.ifCond .ne 34, 3) := by decide +kernel
theorem d1_82 : decode prog_19_method_1_code 82 = .ok (.iinc 2 1, 3) := by decide +kernel
theorem d1_85 : decode prog_19_method_1_code 85 = .ok (.goto (-55), 3) := by decide +kernel
theorem d1_88 : decode prog_19_method_1_code 88 = .ok (.aload_n 1, 1) := by decide +kernel
theorem d1_89 : decode prog_19_method_1_code 89 = .ok (.invokevirtual 30, 3) := by decide +kernel
theorem d1_92 : decode prog_19_method_1_code 92 = .ok (.sipush 256, 3) := by decide +kernel
theorem d1_95 : decode prog_19_method_1_code 95 = .ok (.if_icmp .le 20, 3) := by decide +kernel
theorem d1_115 : decode prog_19_method_1_code 115 = .ok (.aload_n 0, 1) := by decide +kernel
theorem d1_116 : decode prog_19_method_1_code 116 = .ok (.aload_n 1, 1) := by decide +kernel
theorem d1_117 : decode prog_19_method_1_code 117 = .ok (.putfield 60, 3) := by decide +kernel
theorem d1_120 : decode prog_19_method_1_code 120 = .ok (.return_, 1) := by decide +kernel
theorem d2_0 : decode jdk_30_method_1_code 0 = .ok (.aload_n 0, 1) := by decide +kernel
theorem d2_1 : decode jdk_30_method_1_code 1 = .ok (.invokespecial 1, 3) := by decide +kernel
theorem d2_4 : decode jdk_30_method_1_code 4 = .ok (.return_, 1) := by decide +kernel
theorem d4_0 : decode jdk_31_method_11_code 0 = .ok (.aload_n 0, 1) := by decide +kernel
theorem d4_1 : decode jdk_31_method_11_code 1 = .ok (.ifnonnull 12, 3) := by decide +kernel
theorem d4_13 : decode jdk_31_method_11_code 13 = .ok (.aload_n 0, 1) := by decide +kernel
theorem d4_14 : decode jdk_31_method_11_code 14 = .ok (.areturn, 1) := by decide +kernel
theorem d5_0 : decode jdk_42_method_55_code 0 = .ok (.aload_n 0, 1) := by decide +kernel
theorem d5_1 : decode jdk_42_method_55_code 1 = .ok (.getfield 9, 3) := by decide +kernel
theorem d5_4 : decode jdk_42_method_55_code 4 = .ok (.arraylength, 1) := by decide +kernel
theorem d5_5 : decode jdk_42_method_55_code 5 = .ok (.ifCond .ne 7, 3) := by decide +kernel
theorem d5_12 : decode jdk_42_method_55_code 12 = .ok (.iconst 0, 1) := by decide +kernel
theorem d5_13 : decode jdk_42_method_55_code 13 = .ok (.ireturn, 1) := by decide +kernel
theorem d6_0 : decode jdk_42_method_54_code 0 = .ok (.aload_n 0, 1) := by decide +kernel
theorem d6_1 : decode jdk_42_method_54_code 1 = .ok (.getfield 9, 3) := by decide +kernel
theorem d6_4 : decode jdk_42_method_54_code 4 = .ok (.arraylength, 1) := by decide +kernel
theorem d6_5 : decode jdk_42_method_54_code 5 = .ok (.aload_n 0, 1) := by decide +kernel
theorem d6_6 : decode jdk_42_method_54_code 6 = .ok (.invokevirtual 335, 3) := by decide +kernel
theorem d6_9 : decode jdk_42_method_54_code 9 = .ok (.ishr, 1) := by decide +kernel
theorem d6_10 : decode jdk_42_method_54_code 10 = .ok (.ireturn, 1) := by decide +kernel
theorem d7_0 : decode jdk_42_method_152_code 0 = .ok (.getstatic 38, 3) := by decide +kernel
theorem d7_3 : decode jdk_42_method_152_code 3 = .ok (.ifCond .eq 10, 3) := by decide +kernel
theorem d7_6 : decode jdk_42_method_152_code 6 = .ok (.aload_n 0, 1) := by decide +kernel
theorem d7_7 : decode jdk_42_method_152_code 7 = .ok (.getfield 15, 3) := by decide +kernel
theorem d7_10 : decode jdk_42_method_152_code 10 = .ok (.goto 4, 3) := by decide +kernel
theorem d7_14 : decode jdk_42_method_152_code 14 = .ok (.ireturn, 1) := by decide +kernel
theorem d8_0 : decode jdk_42_method_56_code 0 = .ok (.aload_n 0, 1) := by decide +kernel
theorem d8_1 : decode jdk_42_method_56_code 1 = .ok (.invokevirtual 492, 3) := by decide +kernel
theorem d8_4 : decode jdk_42_method_56_code 4 = .ok (.ifCond .eq 12, 3) := by decide +kernel
theorem d8_7 : decode jdk_42_method_56_code 7 = .ok (.aload_n 0, 1) := by decide +kernel
theorem d8_8 : decode jdk_42_method_56_code 8 = .ok (.getfield 9, 3) := by decide +kernel
theorem d8_11 : decode jdk_42_method_56_code 11 = .ok (.iload_n 1, 1) := by decide +kernel
theorem d8_12 : decode jdk_42_method_56_code 12 = .ok (.invokestatic 495, 3) := by decide +kernel
theorem d8_15 : decode jdk_42_method_56_code 15 = .ok (.ireturn, 1) := by decide +kernel
theorem d9_0 : decode jdk_42_method_154_code 0 = .ok (.getstatic 38, 3) := by decide +kernel
theorem d9_3 : decode jdk_42_method_154_code 3 = .ok (.ifCond .eq 14, 3) := by decide +kernel
theorem d9_6 : decode jdk_42_method_154_code 6 = .ok (.aload_n 0, 1) := by decide +kernel
theorem d9_7 : decode jdk_42_method_154_code 7 = .ok (.getfield 15, 3) := by decide +kernel
theorem d9_10 : decode jdk_42_method_154_code 10 = .ok (.ifCond .ne 7, 3) := by decide +kernel
theorem d9_13 : decode jdk_42_method_154_code 13 = .ok (.iconst 1, 1) := by decide +kernel
theorem d9_14 : decode jdk_42_method_154_code 14 = .ok (.goto 4, 3) := by decide +kernel
theorem d9_18 : decode jdk_42_method_154_code 18 = .ok (.ireturn, 1) := by decide +kernel
theorem d10_0 : decode jdk_43_method_2_code 0 = .ok (.iload_n 1, 1) := by decide +kernel
theorem d10_1 : decode jdk_43_method_2_code 1 = .ok (.aload_n 0, 1) := by decide +kernel
theorem d10_2 : decode jdk_43_method_2_code 2 = .ok (.arraylength, 1) := by decide +kernel
theorem d10_3 : decode jdk_43_method_2_code 3 = .ok (.invokestatic 9, 3) := by decide +kernel
theorem d10_6 : decode jdk_43_method_2_code 6 = .ok (.aload_n 0, 1) := by decide +kernel
theorem d10_7 : decode jdk_43_method_2_code 7 = .ok (.iload_n 1, 1) := by decide +kernel
theorem d10_8 : decode jdk_43_method_2_code 8 = .ok (.baload, 1) := by decide +kernel
theorem d10_9 : decode jdk_43_method_2_code 9 = .ok (.sipush 255, 3) := by decide +kernel
theorem d10_12 : decode jdk_43_method_2_code 12 = .ok (.iand, 1) := by decide +kernel
theorem d10_13 : decode jdk_43_method_2_code 13 = .ok (.i2c, 1) := by decide +kernel
theorem d10_14 : decode jdk_43_method_2_code 14 = .ok (.ireturn, 1) := by decide +kernel
theorem d11_0 : decode jdk_42_method_155_code 0 = .ok (.iload_n 0, 1) := by decide +kernel
theorem d11_1 : decode jdk_42_method_155_code 1 = .ok (.iload_n 1, 1) := by decide +kernel
theorem d11_2 : decode jdk_42_method_155_code 2 = .ok (.getstatic 1053, 3) := by decide +kernel
theorem d11_5 : decode jdk_42_method_155_code 5 = .ok (.invokestatic 1059, 3) := by decide +kernel
theorem d11_8 : decode jdk_42_method_155_code 8 = .ok (.pop, 1) := by decide +kernel
theorem d11_9 : decode jdk_42_method_155_code 9 = .ok (.return_, 1) := by decide +kernel
theorem d12_0 : decode jdk_41_method_11_code 0 = .ok (.iload_n 0, 1) := by decide +kernel
theorem d12_1 : decode jdk_41_method_11_code 1 = .ok (.ifCond .lt 8, 3) := by decide +kernel
theorem d12_4 : decode jdk_41_method_11_code 4 = .ok (.iload_n 0, 1) := by decide +kernel
theorem d12_5 : decode jdk_41_method_11_code 5 = .ok (.iload_n 1, 1) := by decide +kernel
theorem d12_6 : decode jdk_41_method_11_code 6 = .ok (.if_icmp .lt 10, 3) := by decide +kernel
theorem d12_16 : decode jdk_41_method_11_code 16 = .ok (.iload_n 0, 1) := by decide +kernel
theorem d12_17 : decode jdk_41_method_11_code 17 = .ok (.ireturn, 1) := by decide +kernel
theorem d13_0 : decode prog_19_method_2_code 0 = .ok (.iload_n 0, 1) := by decide +kernel
theorem d13_1 : decode prog_19_method_2_code 1 = .ok (.bipush 97, 2) := by decide +kernel
theorem d13_3 : decode prog_19_method_2_code 3 = .ok (.if_icmp .lt 9, 3) := by decide +kernel
theorem d13_6 : decode prog_19_method_2_code 6 = .ok (.iload_n 0, 1) := by decide +kernel
theorem d13_7 : decode prog_19_method_2_code 7 = .ok (.bipush 122, 2) := by decide +kernel
theorem d13_9 : decode prog_19_method_2_code 9 = .ok (.if_icmp .le 45, 3) := by decide +kernel
theorem d13_54 : decode prog_19_method_2_code 54 = .ok (.iconst 1, 1) := by decide +kernel
theorem d13_55 : decode prog_19_method_2_code 55 = .ok (.goto 4, 3) := by decide +kernel
theorem d13_59 : decode prog_19_method_2_code 59 = .ok (.ireturn, 1) := by decide +kernel
theorem d14_0 : decode prog_13_method_1_code 0 = .ok (.aload_n 0, 1) := by decide +kernel
theorem d14_1 : decode prog_13_method_1_code 1 = .ok (.invokespecial 1, 3) := by decide +kernel
theorem d14_4 : decode prog_13_method_1_code 4 = .ok (.aload_n 1, 1) := by decide +kernel
theorem d14_5 : decode prog_13_method_1_code 5 = .ok (.aload_n 2, 1) := by decide +kernel
theorem d14_6 : decode prog_13_method_1_code 6 = .ok (.invokestatic 7, 3) := by decide +kernel
theorem d14_9 : decode prog_13_method_1_code 9 = .ok (.aload_n 0, 1) := by decide +kernel
theorem d14_10 : decode prog_13_method_1_code 10 = .ok (.aload_n 1, 1) := by decide +kernel
theorem d14_11 : decode prog_13_method_1_code 11 = .ok (.putfield 13, 3) := by decide +kernel
theorem d14_14 : decode prog_13_method_1_code 14 = .ok (.aload_n 0, 1) := by decide +kernel
theorem d14_15 : decode prog_13_method_1_code 15 = .ok (.aload_n 2, 1) := by decide +kernel
theorem d14_16 : decode prog_13_method_1_code 16 = .ok (.putfield 19, 3) := by decide +kernel
theorem d14_19 : decode prog_13_method_1_code 19 = .ok (.return_, 1) := by decide +kernel
theorem d15_0 : decode prog_10_method_3_code 0 = .ok (.aload_n 0, 1) := by decide +kernel
theorem d15_1 : decode prog_10_method_3_code 1 = .ok (.ldc 1, 2) := by decide +kernel
theorem d15_3 : decode prog_10_method_3_code 3 = .ok (.invokestatic 3, 3) := by decide +kernel
theorem d15_6 : decode prog_10_method_3_code 6 = .ok (.pop, 1) := by decide +kernel
theorem d15_7 : decode prog_10_method_3_code 7 = .ok (.aload_n 1, 1) := by decide +kernel
theorem d15_8 : decode prog_10_method_3_code 8 = .ok (.arraylength, 1) := by decide +kernel
theorem d15_9 : decode prog_10_method_3_code 9 = .ok (.ldc 11, 2) := by decide +kernel
theorem d15_11 : decode prog_10_method_3_code 11 = .ok (.if_icmp .le 18, 3) := by decide +kernel
theorem d15_29 : decode prog_10_method_3_code 29 = .ok (.return_, 1) := by decide +kernel
theorem d16_0 : decode prog_13_method_2_code 0 = .ok (.aload_n 1, 1) := by decide +kernel
theorem d16_1 : decode prog_13_method_2_code 1 = .ok (.ifnonnull 10, 3) := by decide +kernel
theorem d16_4 : decode prog_13_method_2_code 4 = .ok (.aload_n 0, 1) := by decide +kernel
theorem d16_5 : decode prog_13_method_2_code 5 = .ok (.getfield 19, 3) := by decide +kernel
theorem d16_8 : decode prog_13_method_2_code 8 = .ok (.goto 4, 3) := by decide +kernel
theorem d16_11 : decode prog_13_method_2_code 11 = .ok (.aload_n 1, 1) := by decide +kernel
theorem d16_12 : decode prog_13_method_2_code 12 = .ok (.areturn, 1) := by decide +kernel
theorem pd_0 : parseMethodDescriptor "(IILjava/util/function/BiFunction;)I" = some ⟨[.int, .int, (.object "java/util/function/BiFunction")], some .int⟩ := by decide +kernel
theorem pd_1 : parseMethodDescriptor "(II)V" = some ⟨[.int, .int], none⟩ := by decide +kernel
theorem pd_2 : parseMethodDescriptor "()Z" = some ⟨[], some .boolean⟩ := by decide +kernel
theorem pd_3 : parseMethodDescriptor "([BI)C" = some ⟨[(.array .byte), .int], some .char⟩ := by decide +kernel
theorem pd_4 : parseMethodDescriptor "()B" = some ⟨[], some .byte⟩ := by decide +kernel
theorem pd_5 : parseMethodDescriptor "()V" = some ⟨[], none⟩ := by decide +kernel
theorem pd_6 : parseMethodDescriptor "(Ljava/lang/Object;Ljava/lang/String;)Ljava/lang/Object;" = some ⟨[(.object "java/lang/Object"), (.object "java/lang/String")], some (.object "java/lang/Object")⟩ := by decide +kernel
theorem pd_7 : parseMethodDescriptor "()I" = some ⟨[], some .int⟩ := by decide +kernel
theorem pd_8 : parseMethodDescriptor "(I)C" = some ⟨[.int], some .char⟩ := by decide +kernel
theorem pd_9 : parseMethodDescriptor "(C)Z" = some ⟨[.char], some .boolean⟩ := by decide +kernel
theorem pd_10 : parseMethodDescriptor "(Lcom/example/quorumgate/quorumgate/cluster/Key;[B)V" = some ⟨[(.object "com/example/quorumgate/quorumgate/cluster/Key"), (.array .byte)], none⟩ := by decide +kernel
theorem pd_11 : parseMethodDescriptor "(Ljava/lang/String;)V" = some ⟨[(.object "java/lang/String")], none⟩ := by decide +kernel
theorem pd_12 : parseMethodDescriptor "([B)[B" = some ⟨[(.array .byte)], some (.array .byte)⟩ := by decide +kernel
theorem pn_0 : plainName "jdk/internal/util/Preconditions" = true := by first | (simp [plainName, overriddenIn]; done) | decide +kernel
theorem pn_1 : plainName "java/lang/String" = true := by first | (simp [plainName, overriddenIn]; done) | decide +kernel
theorem pn_2 : plainName "java/lang/StringLatin1" = true := by first | (simp [plainName, overriddenIn]; done) | decide +kernel
theorem pn_3 : plainName "com/example/quorumgate/quorumgate/cluster/Key" = true := by first | (simp [plainName, overriddenIn]; done) | decide +kernel
theorem pn_4 : plainName "java/lang/Record" = true := by first | (simp [plainName, overriddenIn]; done) | decide +kernel
theorem pn_5 : plainName "java/util/Objects" = true := by first | (simp [plainName, overriddenIn]; done) | decide +kernel
theorem pn_6 : plainName "com/example/quorumgate/quorumgate/cluster/Command" = true := by first | (simp [plainName, overriddenIn]; done) | decide +kernel
theorem pn_7 : plainName "com/example/quorumgate/quorumgate/cluster/Command$PutIfAbsent" = true := by first | (simp [plainName, overriddenIn]; done) | decide +kernel
theorem pn_8 : plainName "com/example/quorumgate/quorumgate/cluster/PutIfAbsentApplyToPinLaw" = true := by first | (simp [plainName, overriddenIn]; done) | decide +kernel
theorem wSt {Z : State} {a0 : Array Value} (hw : HW Z a0) : ∀ a ∈ Bundle.stringAtoms, a.before a0 Z = true := by
  intro a ha
  simp only [Bundle.stringAtoms, List.mem_cons, List.not_mem_nil, or_false] at ha
  rcases ha with rfl | rfl | rfl | rfl | rfl | rfl | rfl <;> first | exact w0 hw | exact w8 hw | exact w9 hw | exact w10 hw | exact w11 hw | exact w12 hw | exact w13 hw
def ks_0 : List (String × String × String × FieldType) := [("java/lang/String", "value", "[B", (.array .byte)), ("java/lang/String", "coder", "B", .byte)]
theorem lays_ks_0 {Z : State} {a0 : Array Value} (hw : HW Z a0) : Lays Z a0 "java/lang/String" ks_0 := by
  refine ⟨fun kk hk => ?_, by decide⟩
  simp only [ks_0, List.mem_cons, List.not_mem_nil, or_false] at hk
  rcases hk with rfl | rfl
  · exact ⟨Or.inr (w10 hw), by decide⟩
  · exact ⟨Or.inr (w11 hw), by decide⟩
def ks_1 : List (String × String × String × FieldType) := [("com/example/quorumgate/quorumgate/cluster/Key", "name", "Ljava/lang/String;", (.object "java/lang/String"))]
theorem lays_ks_1 {Z : State} {a0 : Array Value} (hw : HW Z a0) : Lays Z a0 "com/example/quorumgate/quorumgate/cluster/Key" ks_1 := by
  refine ⟨fun kk hk => ?_, by decide⟩
  simp only [ks_1, List.mem_cons, List.not_mem_nil, or_false] at hk
  rcases hk with rfl
  · exact ⟨Or.inr (w74 hw), by decide⟩
def ks_2 : List (String × String × String × FieldType) := [("com/example/quorumgate/quorumgate/cluster/Command$PutIfAbsent", "key", "Lcom/example/quorumgate/quorumgate/cluster/Key;", (.object "com/example/quorumgate/quorumgate/cluster/Key")), ("com/example/quorumgate/quorumgate/cluster/Command$PutIfAbsent", "value", "[B", (.array .byte))]
theorem lays_ks_2 {Z : State} {a0 : Array Value} (hw : HW Z a0) : Lays Z a0 "com/example/quorumgate/quorumgate/cluster/Command$PutIfAbsent" ks_2 := by
  refine ⟨fun kk hk => ?_, by decide⟩
  simp only [ks_2, List.mem_cons, List.not_mem_nil, or_false] at hk
  rcases hk with rfl | rfl
  · exact ⟨Or.inr (w87 hw), by decide⟩
  · exact ⟨Or.inr (w89 hw), by decide⟩
section OwnLit
variable {p : Program} {l : Launch} {e : Env} {R : Room} {m : MethodId} {args : Array Value} {below : List Frame} {meth : Method} {c : Code} {M : State → Heap → Prop} {P : State → Prop} {n0 : Base} {Z : State} {a0 : Array Value} {own name : String} {bytes : ByteArray} {maxL : Nat} {ret : Option FieldType} {L : List (Addr × (Cell → Prop))} {k n pc pc' : Nat} {Ls Ls' : Array Slot} {st : List Value}
/-! what the base holds behind the load of the literal: the String at ra, its array at rb, the two statics -/
def KS (Z : State) (n0 : Base) (ra rb sa sb : Addr) (cz : Int32) (vf : Value) : Prop :=
  n0.2[0]? = some (ra, ObjC Z "java/lang/String" ks_0 [.ref rb, .int (0 : Int32)]) ∧ n0.2[1]? = some (rb, ArrR Z .byte 1 (fun _ => (107 : Int32))) ∧ n0.2[2]? = some (sa, StaC Z "java/lang/String" "COMPACT_STRINGS" "Z" (.int cz) sa) ∧ n0.2[3]? = some (sb, StaC Z "jdk/internal/util/Preconditions" "SIOOBE_FORMATTER" "Ljava/util/function/BiFunction;" vf sb) ∧ cz ≠ 0 ∧ vf.isRef = true
theorem Wk.ldcK {FE : Outcome → State → List Loc → Prop} {Q : Option Value → Heap → Prop} {text : String} {i nS : Nat} {sa sb : Addr} {cz : Int32} {vf : Value} (C : Cx Z own name bytes maxL ret p m meth c (M0 Z)) (w : (Jvm.Cond.stringLink own i text).before a0 Z = true) (wS : ∀ a ∈ Bundle.stringAtoms, a.before a0 Z = true) (hh : Jvm.Lit.constHeld Z own i) (hcw : Jvm.Lit.compactW.before a0 Z = true)
    (hn0 : n0.1 = Z.heap.size) (hst : n0.2 = [(sa, StaC Z "java/lang/String" "COMPACT_STRINGS" "Z" (.int cz) sa), (sb, StaC Z "jdk/internal/util/Preconditions" "SIOOBE_FORMATTER" "Ljava/util/function/BiFunction;" vf sb)]) (hcz : cz ≠ 0) (hvf : vf.isRef = true) (ht : (∀ c ∈ text.toList, c.toNat < 256) ∧ text.toList.map (fun c => Value.int (Jvm.Lit.byteI c.toNat.toUInt16)) = [.int 107]) (hA : ∀ x ∈ L, Away Z x.2)
    (hd : decode bytes pc = .ok (.ldc i, 2)) (hn : 4 * text.toList.length ≤ nS) (hbig : nS ≤ 536870912) (hk : k + 2 ≤ R.cells) (hl : n + (nS + 4) ≤ R.slots) (hp : pc' = pc + 2)
    (W : ∀ (a b : Addr) (n1 : Base), KS Z n1 a b sa sb cz vf → Wk p l e R m args below meth c (MW Z Z own m) (Pend below FE n1 Q) n1 L (k + 2) (n + (nS + 4)) pc' Ls (.ref a :: st)) : Wk p l e R m args below meth c (M0 Z) (Pend below FE n0 Q) n0 L k n pc Ls (st) := by
  subst hp
  intro s T locs X hM hF hO
  have hM' : s = Z := hM
  have X0 : Stand p l e R (Z.setVm Z.vm) m args below meth c T locs k n := hM' ▸ X
  have hown := (C.2.2.2.2.2.2.1 s T.heap hM).2
  rw [hM'] at hown
  obtain ⟨a, T', h', k1, b, kc, X', e', E, hS', hk1, hZ', hown', Ex, Fc, Fv, Av, -, -, -, stp⟩ := ldcSV X0 C.1 (State.Warmed39.refl Z) hown w wS rfl ((State.WarmedH.refl Z).since Z.heap.size) (by rw [← hn0]; exact hO.1.1) (hn0 ▸ hF) (fun _ _ q => q) IB.start (by simp) hh hcw ht (z := 1) (by decide) (by decide) (g := mkF m pc Ls st) rfl (hb C.2.1 hd) hn hbig hk hl
  subst e'
  have Ex' := Ex
  obtain ⟨ca, ka, ga, -⟩ := Ex'
  obtain ⟨cb, Ab, -, Sb, -, Hb, -⟩ := Av
  have hsb : cb.slots.size = 1 := Sb
  have HA : Hs T'.heap a (ObjC Z "java/lang/String" ks_0 [.ref b, .int (0 : Int32)]) := ⟨ca, ga, of_exa ga Ex, fun j kk v hkk hv => by
    match j with
    | 0 => cases hkk; cases hv; exact of_fld ga Fv
    | 1 => cases hkk; cases hv; exact of_fld ga Fc
    | j + 2 => simp at hv⟩
  have HB : Hs T'.heap b (ArrR Z .byte 1 (fun _ => (107 : Int32))) := ⟨cb, Ab.1, Ab.2.1, Ab.2.2, hsb, fun j hj => by
    obtain rfl : j = 0 := by omega
    exact Hb 0 (by omega), trivial⟩
  have O' := hO.ext E
  obtain ⟨t, r1, r2⟩ := W a b (n0.1, (a, ObjC Z "java/lang/String" ks_0 [.ref b, .int (0 : Int32)]) :: (b, ArrR Z .byte 1 (fun _ => (107 : Int32))) :: n0.2) ⟨rfl, rfl, by show n0.2[0]? = _; rw [hst]; rfl, by show n0.2[1]? = _; rw [hst]; rfl, hcz, hvf⟩ (Z.setVm T'.vm) T' _ X' ⟨T'.vm, k1, rfl, hS', hk1, hZ', hown'⟩ hF
    ⟨⟨O'.1.1, fun y hy => by
      rcases List.mem_cons.mp hy with rfl | hy
      · exact HA
      · rcases List.mem_cons.mp hy with rfl | hy
        · exact HB
        · exact O'.1.2 y hy⟩, O'.2.1, fun j x hx => ⟨⟨(O'.2.2 j x hx).1.1, fun y hy => by
      obtain ⟨cx, g1, g2⟩ := (O'.2.2 j x hx).2
      obtain ⟨q1, q2⟩ := hA x (List.mem_of_getElem? hx) cx g2
      rcases List.mem_cons.mp hy with rfl | hy
      · intro q
        rw [q] at g1
        exact q1 (of_exa g1 Ex)
      · rcases List.mem_cons.mp hy with rfl | hy
        · intro q
          rw [q] at g1
          cases g1.symm.trans Ab.1
          exact q2 ⟨Ab.2.1, hsb⟩
        · exact (O'.2.2 j x hx).1.2 y hy⟩, (O'.2.2 j x hx).2⟩⟩
  exact ⟨t, stp t r1, r2⟩
end OwnLit
theorem ef_rm12 (m : MethodId) (vf : Value) (hv : vf.isRef = true) : entryFrame m #[.int (0 : Int32), .int (1 : Int32), vf] 3 = mkF m 0 #[.val (.int (0 : Int32)), .val (.int (1 : Int32)), .val (vf)] [] := by
  rcases ref_cases hv with rfl | ⟨_, rfl⟩ <;> first | (simp [entryFrame, mkF, argsToLocals, Value.category]; done) | rfl
set_option maxRecDepth 65536 in
set_option maxHeartbeats 40000000 in
theorem rm12 (l : Launch) (Z : State) (a0 : Array Value) (hw : HW Z a0) (vf : Value) (L : List (Addr × (Cell → Prop))) (h : Heap) (n0 : Base) (O : Own n0 h L) (hv : vf.isRef = true) :
    Meth l Z (⟨"jdk/internal/util/Preconditions", "checkIndex", "(IILjava/util/function/BiFunction;)I"⟩ : MethodName) jdk_41_method_11_code 3 (some .int) [] ({ frames := 0, cells := 0, slots := 0, locals := 0 } : Room) #[.int (0 : Int32), .int (1 : Int32), vf] h n0 (fun v h' => v = some (.int (0 : Int32)) ∧ Own n0 h' L) := by
  refine Meth.of (plainFor_of_name pn_0) (fun m => ef_rm12 m vf hv) O ?_
  intro p e m below meth c M FE C J
  change Cx Z "jdk/internal/util/Preconditions" "checkIndex" jdk_41_method_11_code 3 (some .int) p m meth c M at C
  clear O
  refine Wk.iloadN (pc' := 1) C d12_0 rfl rfl ?_
  refine Wk.if_lt (pcT := 9) (pcF := 4) C d12_1 (by decide) (by decide) rfl (fun q => absurd q (by decide)) (fun _ => ?_)
  refine Wk.iloadN (pc' := 5) C d12_4 rfl rfl ?_
  refine Wk.iloadN (pc' := 6) C d12_5 rfl rfl ?_
  refine Wk.icmp_lt (pcT := 16) (pcF := 9) C d12_6 (by decide) (by decide) rfl (fun _ => ?_) (fun q => absurd q (by decide))
  refine Wk.iloadN (pc' := 17) C d12_16 rfl rfl ?_
  exact Wk.retI C J d12_17 (by decide) (by decide) (fun h O => ⟨rfl, O⟩)
theorem ef_rm11 (m : MethodId)  : entryFrame m #[.int (0 : Int32), .int (1 : Int32)] 2 = mkF m 0 #[.val (.int (0 : Int32)), .val (.int (1 : Int32))] [] := by first | (simp [entryFrame, mkF, argsToLocals, Value.category]; done) | rfl
set_option maxRecDepth 65536 in
set_option maxHeartbeats 40000000 in
theorem rm11 (l : Launch) (Z : State) (a0 : Array Value) (hw : HW Z a0)  (L : List (Addr × (Cell → Prop))) (ra rb sa sb : Addr) (cz : Int32) (vf : Value) (h : Heap) (n0 : Base) (O : Own n0 h L) (K : KS Z n0 ra rb sa sb cz vf) :
    Meth l Z (⟨"java/lang/String", "checkIndex", "(II)V"⟩ : MethodName) jdk_42_method_155_code 2 none [] ({ frames := 1, cells := 0, slots := 0, locals := 14 } : Room) #[.int (0 : Int32), .int (1 : Int32)] h n0 (fun v h' => v = none ∧ Own n0 h' L) := by
  refine Meth.of (plainFor_of_name pn_1) (fun m => ef_rm11 m ) O ?_
  intro p e m below meth c M FE C J
  change Cx Z "java/lang/String" "checkIndex" jdk_42_method_155_code 2 none p m meth c M at C
  clear O
  refine Wk.iloadN (pc' := 1) C d11_0 rfl rfl ?_
  refine Wk.iloadN (pc' := 2) C d11_1 rfl rfl ?_
  refine Wk.getstaticR (pc' := 5) (q := 3) C (w65 hw) d11_2 K.2.2.2.1 rfl ?_
  refine Wk.callS (pc' := 8) (rm := { frames := 0, cells := 0, slots := 0, locals := 0 }) (W0 := 0) (argsL := [.int (0 : Int32), .int (1 : Int32), vf]) (st := []) C (w67 hw) (w68 hw) (w66 hw) (w69 hw) (by decide) (fun h O => rm12 l Z a0 hw vf L h n0 O K.2.2.2.2.2) (by decide) (by decide) (by decide) (by decide) d11_5 rfl pd_0 rfl rfl rfl rfl ?_
  rintro _ h' ⟨rfl, O'⟩
  refine ⟨_, O', ?_⟩
  change Wk p l e _ m _ below meth c _ _ n0 L 0 0 8 #[.val (.int (0 : Int32)), .val (.int (1 : Int32))] [.int (0 : Int32)]
  refine Wk.pop (pc' := 9) C d11_8 rfl rfl ?_
  exact Wk.retV C J d11_9 (by decide) (by decide) (fun h O => ⟨rfl, O⟩)
theorem ef_rm10 (m : MethodId) (rb : Addr) : entryFrame m #[.ref rb, .int (0 : Int32)] 2 = mkF m 0 #[.val (.ref rb), .val (.int (0 : Int32))] [] := by first | (simp [entryFrame, mkF, argsToLocals, Value.category]; done) | rfl
set_option maxRecDepth 65536 in
set_option maxHeartbeats 40000000 in
theorem rm10 (l : Launch) (Z : State) (a0 : Array Value) (hw : HW Z a0) (rb : Addr) (L : List (Addr × (Cell → Prop))) (ra sa sb : Addr) (cz : Int32) (vf : Value) (h : Heap) (n0 : Base) (O : Own n0 h L) (K : KS Z n0 ra rb sa sb cz vf) :
    Meth l Z (⟨"java/lang/StringLatin1", "charAt", "([BI)C"⟩ : MethodName) jdk_43_method_2_code 2 (some .char) [] ({ frames := 2, cells := 0, slots := 0, locals := 27 } : Room) #[.ref rb, .int (0 : Int32)] h n0 (fun v h' => v = some (.int (107 : Int32)) ∧ Own n0 h' L) := by
  refine Meth.of (plainFor_of_name pn_2) (fun m => ef_rm10 m rb) O ?_
  intro p e m below meth c M FE C J
  change Cx Z "java/lang/StringLatin1" "charAt" jdk_43_method_2_code 2 (some .char) p m meth c M at C
  clear O
  refine Wk.iloadN (pc' := 1) C d10_0 rfl rfl ?_
  refine Wk.aloadN (pc' := 2) C d10_1 rfl rfl rfl ?_
  refine Wk.arraylengthR (pc' := 3) (q := 1) (z := (1 : Int32)) C d10_2 K.2.1 (fun _ A => ⟨A.1, A.2.2.1⟩) rfl rfl ?_
  refine Wk.callS (pc' := 6) (rm := { frames := 1, cells := 0, slots := 0, locals := 14 }) (W0 := 0) (argsL := [.int (0 : Int32), .int (1 : Int32)]) (st := []) C (w62 hw) (w63 hw) (w8 hw) (w64 hw) (by decide) (fun h O => rm11 l Z a0 hw L ra rb sa sb cz vf h n0 O K) (by decide) (by decide) (by decide) (by decide) d10_3 rfl pd_1 rfl rfl rfl rfl ?_
  rintro _ h' ⟨rfl, O'⟩
  refine ⟨_, O', ?_⟩
  change Wk p l e _ m _ below meth c _ _ n0 L 0 0 6 #[.val (.ref rb), .val (.int (0 : Int32))] []
  refine Wk.aloadN (pc' := 7) C d10_6 rfl rfl rfl ?_
  refine Wk.iloadN (pc' := 8) C d10_7 rfl rfl ?_
  refine Wk.baloadR (pc' := 9) (q := 1) (i := 0) C d10_8 K.2.1 (by decide) (by decide) rfl ?_
  change Wk p l e _ m _ below meth c _ _ n0 L 0 0 9 #[.val (.ref rb), .val (.int (0 : Int32))] [.int (107 : Int32)]
  refine Wk.sipush (z := (255 : Int32)) (pc' := 12) C d10_9 rfl rfl ?_
  refine Wk.iand (pc' := 13) C d10_12 rfl ?_
  refine Wk.i2c (pc' := 14) C d10_13 rfl ?_
  exact Wk.retN C J d10_14 (by decide) (by decide) (by simp) rfl (fun h O => ⟨congrArg (fun z => some (Value.int z)) (by decide), O⟩)
theorem ef_rm9 (m : MethodId) (r0 : Addr) : entryFrame m #[.ref r0] 1 = mkF m 0 #[.val (.ref r0)] [] := by first | (simp [entryFrame, mkF, argsToLocals, Value.category]; done) | rfl
set_option maxRecDepth 65536 in
set_option maxHeartbeats 40000000 in
theorem rm9 (l : Launch) (Z : State) (a0 : Array Value) (hw : HW Z a0) (r0 : Addr) (L : List (Addr × (Cell → Prop))) (rb sa sb : Addr) (cz : Int32) (vf : Value) (h : Heap) (n0 : Base) (O : Own n0 h L) (K : KS Z n0 r0 rb sa sb cz vf) :
    Meth l Z (⟨"java/lang/String", "isLatin1", "()Z"⟩ : MethodName) jdk_42_method_154_code 1 (some .boolean) [] ({ frames := 0, cells := 0, slots := 0, locals := 0 } : Room) #[.ref r0] h n0 (fun v h' => v = some (.int (1 : Int32)) ∧ Own n0 h' L) := by
  refine Meth.of (plainFor_of_name pn_1) (fun m => ef_rm9 m r0) O ?_
  intro p e m below meth c M FE C J
  change Cx Z "java/lang/String" "isLatin1" jdk_42_method_154_code 1 (some .boolean) p m meth c M at C
  clear O
  refine Wk.getstaticR (pc' := 3) (q := 2) C (w46 hw) d9_0 K.2.2.1 rfl ?_
  refine Wk.if_eq (pcT := 17) (pcF := 6) C d9_3 (by decide) (by decide) rfl (fun c1 => (show False from K.2.2.2.2.1 c1).elim) (fun c1 => ?_)
  refine Wk.aloadN (pc' := 7) C d9_6 rfl rfl rfl ?_
  refine Wk.getfieldR (pc' := 10) (host := "") (q := 0) (i := 1) C (Or.inl (w47 hw)) d9_7 K.1 rfl rfl rfl ?_
  refine Wk.if_ne (pcT := 17) (pcF := 13) C d9_10 (by decide) (by decide) rfl (fun q => absurd q (by decide)) (fun _ => ?_)
  refine Wk.iconst (z := (1 : Int32)) (pc' := 14) C d9_13 rfl rfl ?_
  refine Wk.goto (pc' := 18) C d9_14 (by decide) (by decide) ?_
  exact Wk.retN C J d9_18 (by decide) (by decide) (by simp) rfl (fun h O => ⟨congrArg (fun z => some (Value.int z)) (by decide), O⟩)
theorem ef_rm8 (m : MethodId) (r0 : Addr) : entryFrame m #[.ref r0, .int (0 : Int32)] 2 = mkF m 0 #[.val (.ref r0), .val (.int (0 : Int32))] [] := by first | (simp [entryFrame, mkF, argsToLocals, Value.category]; done) | rfl
set_option maxRecDepth 65536 in
set_option maxHeartbeats 40000000 in
theorem rm8 (l : Launch) (Z : State) (a0 : Array Value) (hw : HW Z a0) (r0 : Addr) (L : List (Addr × (Cell → Prop))) (rb sa sb : Addr) (cz : Int32) (vf : Value) (h : Heap) (n0 : Base) (O : Own n0 h L) (K : KS Z n0 r0 rb sa sb cz vf) :
    Meth l Z (⟨"java/lang/String", "charAt", "(I)C"⟩ : MethodName) jdk_42_method_56_code 2 (some .char) [] ({ frames := 3, cells := 0, slots := 0, locals := 40 } : Room) #[.ref r0, .int (0 : Int32)] h n0 (fun v h' => v = some (.int (107 : Int32)) ∧ Own n0 h' L) := by
  refine Meth.of (plainFor_of_name pn_1) (fun m => ef_rm8 m r0) O ?_
  intro p e m below meth c M FE C J
  change Cx Z "java/lang/String" "charAt" jdk_42_method_56_code 2 (some .char) p m meth c M at C
  clear O
  refine Wk.aloadN (pc' := 1) C d8_0 rfl rfl rfl ?_
  refine Wk.callVR (pc' := 4) (rm := { frames := 0, cells := 0, slots := 0, locals := 0 }) (W0 := 0) (q := 0) (argsL := []) (st := []) C K.1 (w53 hw) (w54 hw) (w56 hw) (w55 hw) (w8 hw) (w57 hw) (by decide) (fun h O => rm9 l Z a0 hw r0 L rb sa sb cz vf h n0 O K) (by decide) (by decide) (by decide) (by decide) d8_1 rfl pd_2 rfl rfl rfl rfl ?_
  rintro _ h' ⟨rfl, O'⟩
  refine ⟨_, O', ?_⟩
  change Wk p l e _ m _ below meth c _ _ n0 L 0 0 4 #[.val (.ref r0), .val (.int (0 : Int32))] [.int (1 : Int32)]
  refine Wk.if_eq (pcT := 16) (pcF := 7) C d8_4 (by decide) (by decide) rfl (fun q => absurd q (by decide)) (fun _ => ?_)
  refine Wk.aloadN (pc' := 8) C d8_7 rfl rfl rfl ?_
  refine Wk.getfieldR (pc' := 11) (host := "") (q := 0) (i := 0) C (Or.inl (w35 hw)) d8_8 K.1 rfl rfl rfl ?_
  refine Wk.iloadN (pc' := 12) C d8_11 rfl rfl ?_
  refine Wk.callS (pc' := 15) (rm := { frames := 2, cells := 0, slots := 0, locals := 27 }) (W0 := 0) (argsL := [.ref rb, .int (0 : Int32)]) (st := []) C (w58 hw) (w59 hw) (w60 hw) (w61 hw) (by decide) (fun h O => rm10 l Z a0 hw rb L r0 sa sb cz vf h n0 O K) (by decide) (by decide) (by decide) (by decide) d8_12 rfl pd_3 rfl rfl rfl rfl ?_
  rintro _ h' ⟨rfl, O'⟩
  refine ⟨_, O', ?_⟩
  change Wk p l e _ m _ below meth c _ _ n0 L 0 0 15 #[.val (.ref r0), .val (.int (0 : Int32))] [.int (107 : Int32)]
  exact Wk.retN C J d8_15 (by decide) (by decide) (by simp) rfl (fun h O => ⟨congrArg (fun z => some (Value.int z)) (by decide), O⟩)
theorem ef_rm7 (m : MethodId) (r0 : Addr) : entryFrame m #[.ref r0] 1 = mkF m 0 #[.val (.ref r0)] [] := by first | (simp [entryFrame, mkF, argsToLocals, Value.category]; done) | rfl
set_option maxRecDepth 65536 in
set_option maxHeartbeats 40000000 in
theorem rm7 (l : Launch) (Z : State) (a0 : Array Value) (hw : HW Z a0) (r0 : Addr) (L : List (Addr × (Cell → Prop))) (rb sa sb : Addr) (cz : Int32) (vf : Value) (h : Heap) (n0 : Base) (O : Own n0 h L) (K : KS Z n0 r0 rb sa sb cz vf) :
    Meth l Z (⟨"java/lang/String", "coder", "()B"⟩ : MethodName) jdk_42_method_152_code 1 (some .byte) [] ({ frames := 0, cells := 0, slots := 0, locals := 0 } : Room) #[.ref r0] h n0 (fun v h' => v = some (.int (0 : Int32)) ∧ Own n0 h' L) := by
  refine Meth.of (plainFor_of_name pn_1) (fun m => ef_rm7 m r0) O ?_
  intro p e m below meth c M FE C J
  change Cx Z "java/lang/String" "coder" jdk_42_method_152_code 1 (some .byte) p m meth c M at C
  clear O
  refine Wk.getstaticR (pc' := 3) (q := 2) C (w46 hw) d7_0 K.2.2.1 rfl ?_
  refine Wk.if_eq (pcT := 13) (pcF := 6) C d7_3 (by decide) (by decide) rfl (fun c2 => (show False from K.2.2.2.2.1 c2).elim) (fun c2 => ?_)
  refine Wk.aloadN (pc' := 7) C d7_6 rfl rfl rfl ?_
  refine Wk.getfieldR (pc' := 10) (host := "") (q := 0) (i := 1) C (Or.inl (w47 hw)) d7_7 K.1 rfl rfl rfl ?_
  refine Wk.goto (pc' := 14) C d7_10 (by decide) (by decide) ?_
  exact Wk.retN C J d7_14 (by decide) (by decide) (by simp) rfl (fun h O => ⟨congrArg (fun z => some (Value.int z)) (by decide), O⟩)
theorem ef_rm6 (m : MethodId) (r0 : Addr) : entryFrame m #[.ref r0] 1 = mkF m 0 #[.val (.ref r0)] [] := by first | (simp [entryFrame, mkF, argsToLocals, Value.category]; done) | rfl
set_option maxRecDepth 65536 in
set_option maxHeartbeats 40000000 in
theorem rm6 (l : Launch) (Z : State) (a0 : Array Value) (hw : HW Z a0) (r0 : Addr) (L : List (Addr × (Cell → Prop))) (rb sa sb : Addr) (cz : Int32) (vf : Value) (h : Heap) (n0 : Base) (O : Own n0 h L) (K : KS Z n0 r0 rb sa sb cz vf) :
    Meth l Z (⟨"java/lang/String", "length", "()I"⟩ : MethodName) jdk_42_method_54_code 1 (some .int) [] ({ frames := 1, cells := 0, slots := 0, locals := 13 } : Room) #[.ref r0] h n0 (fun v h' => v = some (.int (1 : Int32)) ∧ Own n0 h' L) := by
  refine Meth.of (plainFor_of_name pn_1) (fun m => ef_rm6 m r0) O ?_
  intro p e m below meth c M FE C J
  change Cx Z "java/lang/String" "length" jdk_42_method_54_code 1 (some .int) p m meth c M at C
  clear O
  refine Wk.aloadN (pc' := 1) C d6_0 rfl rfl rfl ?_
  refine Wk.getfieldR (pc' := 4) (host := "") (q := 0) (i := 0) C (Or.inl (w35 hw)) d6_1 K.1 rfl rfl rfl ?_
  refine Wk.arraylengthR (pc' := 5) (q := 1) (z := (1 : Int32)) C d6_4 K.2.1 (fun _ A => ⟨A.1, A.2.2.1⟩) rfl rfl ?_
  refine Wk.aloadN (pc' := 6) C d6_5 rfl rfl rfl ?_
  refine Wk.callVR (pc' := 9) (rm := { frames := 0, cells := 0, slots := 0, locals := 0 }) (W0 := 1) (q := 0) (argsL := []) (st := [.int (1 : Int32)]) C K.1 (w41 hw) (w42 hw) (w44 hw) (w43 hw) (w8 hw) (w45 hw) (by decide) (fun h O => rm7 l Z a0 hw r0 L rb sa sb cz vf h n0 O K) (by decide) (by decide) (by decide) (by decide) d6_6 rfl pd_4 rfl rfl rfl rfl ?_
  rintro _ h' ⟨rfl, O'⟩
  refine ⟨_, O', ?_⟩
  change Wk p l e _ m _ below meth c _ _ n0 L 0 0 9 #[.val (.ref r0)] [.int (0 : Int32), .int (1 : Int32)]
  refine Wk.ishr (pc' := 10) C d6_9 rfl ?_
  exact Wk.retI C J d6_10 (by decide) (by decide) (fun h O => ⟨congrArg (fun z => some (Value.int z)) (by decide), O⟩)
theorem ef_rm5 (m : MethodId) (r0 : Addr) : entryFrame m #[.ref r0] 1 = mkF m 0 #[.val (.ref r0)] [] := by first | (simp [entryFrame, mkF, argsToLocals, Value.category]; done) | rfl
set_option maxRecDepth 65536 in
set_option maxHeartbeats 40000000 in
theorem rm5 (l : Launch) (Z : State) (a0 : Array Value) (hw : HW Z a0) (r0 : Addr) (L : List (Addr × (Cell → Prop))) (rb sa sb : Addr) (cz : Int32) (vf : Value) (h : Heap) (n0 : Base) (O : Own n0 h L) (K : KS Z n0 r0 rb sa sb cz vf) :
    Meth l Z (⟨"java/lang/String", "isEmpty", "()Z"⟩ : MethodName) jdk_42_method_55_code 1 (some .boolean) [] ({ frames := 0, cells := 0, slots := 0, locals := 0 } : Room) #[.ref r0] h n0 (fun v h' => v = some (.int (0 : Int32)) ∧ Own n0 h' L) := by
  refine Meth.of (plainFor_of_name pn_1) (fun m => ef_rm5 m r0) O ?_
  intro p e m below meth c M FE C J
  change Cx Z "java/lang/String" "isEmpty" jdk_42_method_55_code 1 (some .boolean) p m meth c M at C
  clear O
  refine Wk.aloadN (pc' := 1) C d5_0 rfl rfl rfl ?_
  refine Wk.getfieldR (pc' := 4) (host := "") (q := 0) (i := 0) C (Or.inl (w35 hw)) d5_1 K.1 rfl rfl rfl ?_
  refine Wk.arraylengthR (pc' := 5) (q := 1) (z := (1 : Int32)) C d5_4 K.2.1 (fun _ A => ⟨A.1, A.2.2.1⟩) rfl rfl ?_
  refine Wk.if_ne (pcT := 12) (pcF := 8) C d5_5 (by decide) (by decide) rfl (fun _ => ?_) (fun q => absurd q (by decide))
  refine Wk.iconst (z := (0 : Int32)) (pc' := 13) C d5_12 rfl rfl ?_
  exact Wk.retN C J d5_13 (by decide) (by decide) (by simp) rfl (fun h O => ⟨congrArg (fun z => some (Value.int z)) (by decide), O⟩)
theorem ef_rm13 (m : MethodId)  : entryFrame m #[.int (107 : Int32)] 1 = mkF m 0 #[.val (.int (107 : Int32))] [] := by first | (simp [entryFrame, mkF, argsToLocals, Value.category]; done) | rfl
set_option maxRecDepth 65536 in
set_option maxHeartbeats 40000000 in
theorem rm13 (l : Launch) (Z : State) (a0 : Array Value) (hw : HW Z a0)  (L : List (Addr × (Cell → Prop))) (h : Heap) (n0 : Base) (O : Own n0 h L) :
    Meth l Z (⟨"com/example/quorumgate/quorumgate/cluster/Key", "isAllowed", "(C)Z"⟩ : MethodName) prog_19_method_2_code 1 (some .boolean) [] ({ frames := 0, cells := 0, slots := 0, locals := 0 } : Room) #[.int (107 : Int32)] h n0 (fun v h' => v = some (.int (1 : Int32)) ∧ Own n0 h' L) := by
  refine Meth.of (plainFor_of_name pn_3) (fun m => ef_rm13 m ) O ?_
  intro p e m below meth c M FE C J
  change Cx Z "com/example/quorumgate/quorumgate/cluster/Key" "isAllowed" prog_19_method_2_code 1 (some .boolean) p m meth c M at C
  clear O
  refine Wk.iloadN (pc' := 1) C d13_0 rfl rfl ?_
  refine Wk.bipush (z := (97 : Int32)) (pc' := 3) C d13_1 rfl rfl ?_
  refine Wk.icmp_lt (pcT := 12) (pcF := 6) C d13_3 (by decide) (by decide) rfl (fun q => absurd q (by decide)) (fun _ => ?_)
  refine Wk.iloadN (pc' := 7) C d13_6 rfl rfl ?_
  refine Wk.bipush (z := (122 : Int32)) (pc' := 9) C d13_7 rfl rfl ?_
  refine Wk.icmp_le (pcT := 54) (pcF := 12) C d13_9 (by decide) (by decide) rfl (fun _ => ?_) (fun q => absurd q (by decide))
  refine Wk.iconst (z := (1 : Int32)) (pc' := 55) C d13_54 rfl rfl ?_
  refine Wk.goto (pc' := 59) C d13_55 (by decide) (by decide) ?_
  exact Wk.retN C J d13_59 (by decide) (by decide) (by simp) rfl (fun h O => ⟨congrArg (fun z => some (Value.int z)) (by decide), O⟩)
theorem ef_rm2 (m : MethodId) (r0 : Addr) : entryFrame m #[.ref r0] 1 = mkF m 0 #[.val (.ref r0)] [] := by first | (simp [entryFrame, mkF, argsToLocals, Value.category]; done) | rfl
set_option maxRecDepth 65536 in
set_option maxHeartbeats 40000000 in
theorem rm2 (l : Launch) (Z : State) (a0 : Array Value) (hw : HW Z a0) (r0 : Addr) (L : List (Addr × (Cell → Prop))) (h : Heap) (n0 : Base) (O : Own n0 h L) :
    Meth l Z (⟨"java/lang/Record", "<init>", "()V"⟩ : MethodName) jdk_30_method_1_code 1 none [] ({ frames := 1, cells := 0, slots := 0, locals := 12 } : Room) #[.ref r0] h n0 (fun v h' => v = none ∧ Own n0 h' L) := by
  refine Meth.of (plainFor_of_name pn_4) (fun m => ef_rm2 m r0) O ?_
  intro p e m below meth c M FE C J
  change Cx Z "java/lang/Record" "<init>" jdk_30_method_1_code 1 none p m meth c M at C
  clear O
  refine Wk.aloadN (pc' := 1) C d2_0 rfl rfl rfl ?_
  refine Wk.objInit (pc' := 4) (W0 := 0) C (w22 hw) (w23 hw) (w24 hw) d2_1 rfl (by decide) rfl (by decide) rfl ?_
  exact Wk.retV C J d2_4 (by decide) (by decide) (fun h O => ⟨rfl, O⟩)
theorem ef_rm4 (m : MethodId) (r0 : Addr) (r1 : Addr) : entryFrame m #[.ref r0, .ref r1] 2 = mkF m 0 #[.val (.ref r0), .val (.ref r1)] [] := by first | (simp [entryFrame, mkF, argsToLocals, Value.category]; done) | rfl
set_option maxRecDepth 65536 in
set_option maxHeartbeats 40000000 in
theorem rm4 (l : Launch) (Z : State) (a0 : Array Value) (hw : HW Z a0) (r0 : Addr) (r1 : Addr) (L : List (Addr × (Cell → Prop))) (h : Heap) (n0 : Base) (O : Own n0 h L) :
    Meth l Z (⟨"java/util/Objects", "requireNonNull", "(Ljava/lang/Object;Ljava/lang/String;)Ljava/lang/Object;"⟩ : MethodName) jdk_31_method_11_code 2 (some (.object "java/lang/Object")) [] ({ frames := 0, cells := 0, slots := 0, locals := 0 } : Room) #[.ref r0, .ref r1] h n0 (fun v h' => v = some (.ref r0) ∧ Own n0 h' L) := by
  refine Meth.of (plainFor_of_name pn_5) (fun m => ef_rm4 m r0 r1) O ?_
  intro p e m below meth c M FE C J
  change Cx Z "java/util/Objects" "requireNonNull" jdk_31_method_11_code 2 (some (.object "java/lang/Object")) p m meth c M at C
  clear O
  refine Wk.aloadN (pc' := 1) C d4_0 rfl rfl rfl ?_
  refine Wk.ifnonnullYes (pc' := 13) C d4_1 (by decide) (by decide) ?_
  refine Wk.aloadN (pc' := 14) C d4_13 rfl rfl rfl ?_
  exact Wk.retA C J d4_14 (by decide) (by decide) rfl rfl (fun h O => ⟨rfl, O⟩)
theorem ef_rm1 (m : MethodId) (r0 : Addr) (r1 : Addr) : entryFrame m #[.ref r0, .ref r1] 4 = mkF m 0 #[.val (.ref r0), .val (.ref r1), .unset, .unset] [] := by first | (simp [entryFrame, mkF, argsToLocals, Value.category]; done) | rfl
set_option maxRecDepth 65536 in
set_option maxHeartbeats 40000000 in
theorem rm1 (l : Launch) (Z : State) (a0 : Array Value) (hw : HW Z a0) (r0 : Addr) (r1 : Addr) (L : List (Addr × (Cell → Prop))) (rb sa sb : Addr) (cz : Int32) (vf : Value) (h : Heap) (n0 : Base) (O : Own n0 h ((r0, ObjC Z "com/example/quorumgate/quorumgate/cluster/Key" ks_1 [.null]) :: L)) (K : KS Z n0 r1 rb sa sb cz vf) :
    MethW l Z (⟨"com/example/quorumgate/quorumgate/cluster/Key", "<init>", "(Ljava/lang/String;)V"⟩ : MethodName) prog_19_method_1_code 4 none [] ({ frames := 4, cells := 2, slots := 20, locals := 53 } : Room) #[.ref r0, .ref r1] h n0 (fun v h' => v = none ∧ Own n0 h' ((r0, ObjC Z "com/example/quorumgate/quorumgate/cluster/Key" ks_1 [.ref r1]) :: L)) := by
  refine MethW.of (plainFor_of_name pn_3) (fun m => ef_rm1 m r0 r1) O ?_
  intro p e s0 m below meth c FE C J
  change Cx Z "com/example/quorumgate/quorumgate/cluster/Key" "<init>" prog_19_method_1_code 4 none p m meth c (MW Z s0 "com/example/quorumgate/quorumgate/cluster/Key" m) at C
  change Ok (MW Z s0 "com/example/quorumgate/quorumgate/cluster/Key" m) FE _ _ at J
  change Wk p l e _ m _ below meth c (MW Z s0 "com/example/quorumgate/quorumgate/cluster/Key" m) _ n0 _ 0 0 0 _ _
  clear O
  refine Wk.aloadN (pc' := 1) C d1_0 rfl rfl rfl ?_
  refine Wk.callI (pc' := 4) (rm := { frames := 1, cells := 0, slots := 0, locals := 12 }) (W0 := 0) (a := r0) (argsL := []) (st := []) C rfl rfl (w17 hw) (w18 hw) (w20 hw) (w21 hw) (by decide) (fun h O => rm2 l Z a0 hw r0 ((r0, ObjC Z "com/example/quorumgate/quorumgate/cluster/Key" ks_1 [.null]) :: L) h n0 O) (by decide) (by decide) (by decide) (by decide) d1_1 rfl pd_5 rfl rfl rfl rfl ?_
  rintro _ h' ⟨rfl, O'⟩
  refine ⟨_, O', ?_⟩
  change Wk p l e _ m _ below meth c _ _ n0 ((r0, ObjC Z "com/example/quorumgate/quorumgate/cluster/Key" ks_1 [.null]) :: L) 0 0 4 #[.val (.ref r0), .val (.ref r1), .unset, .unset] []
  refine Wk.aloadN (pc' := 5) C d1_4 rfl rfl rfl ?_
  refine Wk.ldcS (pc' := 7) (nS := 16) C (w25 hw) (wSt hw) d1_5 (by decide) (by decide) (by decide) (by decide) rfl ?_
  intro a3
  change Wk p l e _ m _ below meth c _ _ n0 ((r0, ObjC Z "com/example/quorumgate/quorumgate/cluster/Key" ks_1 [.null]) :: L) 2 20 7 #[.val (.ref r0), .val (.ref r1), .unset, .unset] [.ref a3, .ref r1]
  refine Wk.callS (pc' := 10) (rm := { frames := 0, cells := 0, slots := 0, locals := 0 }) (W0 := 0) (argsL := [.ref r1, .ref a3]) (st := []) C (w26 hw) (w27 hw) (w28 hw) (w29 hw) (by decide) (fun h O => rm4 l Z a0 hw r1 a3 ((r0, ObjC Z "com/example/quorumgate/quorumgate/cluster/Key" ks_1 [.null]) :: L) h n0 O) (by decide) (by decide) (by decide) (by decide) d1_7 rfl pd_6 rfl rfl rfl rfl ?_
  rintro _ h' ⟨rfl, O'⟩
  refine ⟨_, O', ?_⟩
  change Wk p l e _ m _ below meth c _ _ n0 ((r0, ObjC Z "com/example/quorumgate/quorumgate/cluster/Key" ks_1 [.null]) :: L) 2 20 10 #[.val (.ref r0), .val (.ref r1), .unset, .unset] [.ref r1]
  refine Wk.pop (pc' := 11) C d1_10 rfl rfl ?_
  refine Wk.aloadN (pc' := 12) C d1_11 rfl rfl rfl ?_
  refine Wk.callVR (pc' := 15) (rm := { frames := 0, cells := 0, slots := 0, locals := 0 }) (W0 := 0) (q := 0) (argsL := []) (st := []) C K.1 (w30 hw) (w31 hw) (w33 hw) (w32 hw) (w8 hw) (w34 hw) (by decide) (fun h O => rm5 l Z a0 hw r1 ((r0, ObjC Z "com/example/quorumgate/quorumgate/cluster/Key" ks_1 [.null]) :: L) rb sa sb cz vf h n0 O K) (by decide) (by decide) (by decide) (by decide) d1_12 rfl pd_2 rfl rfl rfl rfl ?_
  rintro _ h' ⟨rfl, O'⟩
  refine ⟨_, O', ?_⟩
  change Wk p l e _ m _ below meth c _ _ n0 ((r0, ObjC Z "com/example/quorumgate/quorumgate/cluster/Key" ks_1 [.null]) :: L) 2 20 15 #[.val (.ref r0), .val (.ref r1), .unset, .unset] [.int (0 : Int32)]
  refine Wk.if_eq (pcT := 28) (pcF := 18) C d1_15 (by decide) (by decide) rfl (fun _ => ?_) (fun q => absurd q (by decide))
  refine Wk.iconst (z := (0 : Int32)) (pc' := 29) C d1_28 rfl rfl ?_
  refine Wk.istoreN (Ls' := #[.val (.ref r0), .val (.ref r1), .val (.int (0 : Int32)), .unset]) (pc' := 30) C d1_29 rfl rfl ?_
  refine Wk.iloadN (pc' := 31) C d1_30 rfl rfl ?_
  refine Wk.aloadN (pc' := 32) C d1_31 rfl rfl rfl ?_
  refine Wk.callVR (pc' := 35) (rm := { frames := 1, cells := 0, slots := 0, locals := 13 }) (W0 := 1) (q := 0) (argsL := []) (st := [.int (0 : Int32)]) C K.1 (w36 hw) (w37 hw) (w39 hw) (w38 hw) (w8 hw) (w40 hw) (by decide) (fun h O => rm6 l Z a0 hw r1 ((r0, ObjC Z "com/example/quorumgate/quorumgate/cluster/Key" ks_1 [.null]) :: L) rb sa sb cz vf h n0 O K) (by decide) (by decide) (by decide) (by decide) d1_32 rfl pd_7 rfl rfl rfl rfl ?_
  rintro _ h' ⟨rfl, O'⟩
  refine ⟨_, O', ?_⟩
  change Wk p l e _ m _ below meth c _ _ n0 ((r0, ObjC Z "com/example/quorumgate/quorumgate/cluster/Key" ks_1 [.null]) :: L) 2 20 35 #[.val (.ref r0), .val (.ref r1), .val (.int (0 : Int32)), .unset] [.int (1 : Int32), .int (0 : Int32)]
  refine Wk.icmp_ge (pcT := 88) (pcF := 38) C d1_35 (by decide) (by decide) rfl (fun q => absurd q (by decide)) (fun _ => ?_)
  refine Wk.aloadN (pc' := 39) C d1_38 rfl rfl rfl ?_
  refine Wk.iloadN (pc' := 40) C d1_39 rfl rfl ?_
  refine Wk.callVR (pc' := 43) (rm := { frames := 3, cells := 0, slots := 0, locals := 40 }) (W0 := 0) (q := 0) (argsL := [.int (0 : Int32)]) (st := []) C K.1 (w48 hw) (w49 hw) (w51 hw) (w50 hw) (w8 hw) (w52 hw) (by decide) (fun h O => rm8 l Z a0 hw r1 ((r0, ObjC Z "com/example/quorumgate/quorumgate/cluster/Key" ks_1 [.null]) :: L) rb sa sb cz vf h n0 O K) (by decide) (by decide) (by decide) (by decide) d1_40 rfl pd_8 rfl rfl rfl rfl ?_
  rintro _ h' ⟨rfl, O'⟩
  refine ⟨_, O', ?_⟩
  change Wk p l e _ m _ below meth c _ _ n0 ((r0, ObjC Z "com/example/quorumgate/quorumgate/cluster/Key" ks_1 [.null]) :: L) 2 20 43 #[.val (.ref r0), .val (.ref r1), .val (.int (0 : Int32)), .unset] [.int (107 : Int32)]
  refine Wk.istoreN (Ls' := #[.val (.ref r0), .val (.ref r1), .val (.int (0 : Int32)), .val (.int (107 : Int32))]) (pc' := 44) C d1_43 rfl rfl ?_
  refine Wk.iloadN (pc' := 45) C d1_44 rfl rfl ?_
  refine Wk.callS (pc' := 48) (rm := { frames := 0, cells := 0, slots := 0, locals := 0 }) (W0 := 0) (argsL := [.int (107 : Int32)]) (st := []) C (w70 hw) (w71 hw) (w6 hw) (w72 hw) (by decide) (fun h O => rm13 l Z a0 hw ((r0, ObjC Z "com/example/quorumgate/quorumgate/cluster/Key" ks_1 [.null]) :: L) h n0 O) (by decide) (by decide) (by decide) (by decide) d1_45 rfl pd_9 rfl rfl rfl rfl ?_
  rintro _ h' ⟨rfl, O'⟩
  refine ⟨_, O', ?_⟩
  change Wk p l e _ m _ below meth c _ _ n0 ((r0, ObjC Z "com/example/quorumgate/quorumgate/cluster/Key" ks_1 [.null]) :: L) 2 20 48 #[.val (.ref r0), .val (.ref r1), .val (.int (0 : Int32)), .val (.int (107 : Int32))] [.int (1 : Int32)]
  refine Wk.if_ne (pcT := 82) (pcF := 51) C d1_48 (by decide) (by decide) rfl (fun _ => ?_) (fun q => absurd q (by decide))
  refine Wk.iinc (z := (1 : Int32)) (Ls' := #[.val (.ref r0), .val (.ref r1), .val (.int (1 : Int32)), .val (.int (107 : Int32))]) (pc' := 85) C d1_82 rfl (by decide) rfl rfl ?_
  refine Wk.goto (pc' := 30) C d1_85 (by decide) (by decide) ?_
  refine Wk.iloadN (pc' := 31) C d1_30 rfl rfl ?_
  refine Wk.aloadN (pc' := 32) C d1_31 rfl rfl rfl ?_
  refine Wk.callVR (pc' := 35) (rm := { frames := 1, cells := 0, slots := 0, locals := 13 }) (W0 := 1) (q := 0) (argsL := []) (st := [.int (1 : Int32)]) C K.1 (w36 hw) (w37 hw) (w39 hw) (w38 hw) (w8 hw) (w40 hw) (by decide) (fun h O => rm6 l Z a0 hw r1 ((r0, ObjC Z "com/example/quorumgate/quorumgate/cluster/Key" ks_1 [.null]) :: L) rb sa sb cz vf h n0 O K) (by decide) (by decide) (by decide) (by decide) d1_32 rfl pd_7 rfl rfl rfl rfl ?_
  rintro _ h' ⟨rfl, O'⟩
  refine ⟨_, O', ?_⟩
  change Wk p l e _ m _ below meth c _ _ n0 ((r0, ObjC Z "com/example/quorumgate/quorumgate/cluster/Key" ks_1 [.null]) :: L) 2 20 35 #[.val (.ref r0), .val (.ref r1), .val (.int (1 : Int32)), .val (.int (107 : Int32))] [.int (1 : Int32), .int (1 : Int32)]
  refine Wk.icmp_ge (pcT := 88) (pcF := 38) C d1_35 (by decide) (by decide) rfl (fun _ => ?_) (fun q => absurd q (by decide))
  refine Wk.aloadN (pc' := 89) C d1_88 rfl rfl rfl ?_
  refine Wk.callVR (pc' := 92) (rm := { frames := 1, cells := 0, slots := 0, locals := 13 }) (W0 := 0) (q := 0) (argsL := []) (st := []) C K.1 (w36 hw) (w37 hw) (w39 hw) (w38 hw) (w8 hw) (w40 hw) (by decide) (fun h O => rm6 l Z a0 hw r1 ((r0, ObjC Z "com/example/quorumgate/quorumgate/cluster/Key" ks_1 [.null]) :: L) rb sa sb cz vf h n0 O K) (by decide) (by decide) (by decide) (by decide) d1_89 rfl pd_7 rfl rfl rfl rfl ?_
  rintro _ h' ⟨rfl, O'⟩
  refine ⟨_, O', ?_⟩
  change Wk p l e _ m _ below meth c _ _ n0 ((r0, ObjC Z "com/example/quorumgate/quorumgate/cluster/Key" ks_1 [.null]) :: L) 2 20 92 #[.val (.ref r0), .val (.ref r1), .val (.int (1 : Int32)), .val (.int (107 : Int32))] [.int (1 : Int32)]
  refine Wk.sipush (z := (256 : Int32)) (pc' := 95) C d1_92 rfl rfl ?_
  refine Wk.icmp_le (pcT := 115) (pcF := 98) C d1_95 (by decide) (by decide) rfl (fun _ => ?_) (fun q => absurd q (by decide))
  refine Wk.aloadN (pc' := 116) C d1_115 rfl rfl rfl ?_
  refine Wk.aloadN (pc' := 117) C d1_116 rfl rfl rfl ?_
  refine Wk.putfield (pc' := 120) (host := "") (q := 0) (i := 0) C (Or.inl (w73 hw)) (lays_ks_1 hw) (Or.inr ⟨(w74 hw), rfl, rfl⟩) (w5 hw) d1_117 rfl rfl (Nat.le_of_ble_eq_true rfl) rfl rfl rfl ?_
  change Wk p l e _ m _ below meth c _ _ n0 ((r0, ObjC Z "com/example/quorumgate/quorumgate/cluster/Key" ks_1 [.ref r1]) :: L) 2 20 120 #[.val (.ref r0), .val (.ref r1), .val (.int (1 : Int32)), .val (.int (107 : Int32))] []
  exact Wk.retV C J d1_120 (by decide) (by decide) (fun h O => ⟨rfl, O⟩)
theorem ef_rm15 (m : MethodId) (r0 : Addr) (r1 : Addr) : entryFrame m #[.ref r0, .ref r1] 2 = mkF m 0 #[.val (.ref r0), .val (.ref r1)] [] := by first | (simp [entryFrame, mkF, argsToLocals, Value.category]; done) | rfl
set_option maxRecDepth 65536 in
set_option maxHeartbeats 40000000 in
theorem rm15 (l : Launch) (Z : State) (a0 : Array Value) (hw : HW Z a0) (r0 : Addr) (r1 : Addr) (L : List (Addr × (Cell → Prop))) (q0 nn : Nat) (f : Nat → Int32) (h : Heap) (n0 : Base) (O : Own n0 h L) (hq0 : L[q0]? = some (r1, ArrC Z .byte nn f)) (hnn : ¬ (1048576 : Int32) < nn.toInt32) :
    MethW l Z (⟨"com/example/quorumgate/quorumgate/cluster/Command", "checkPut", "(Lcom/example/quorumgate/quorumgate/cluster/Key;[B)V"⟩ : MethodName) prog_10_method_3_code 2 none [] ({ frames := 1, cells := 2, slots := 16, locals := 13 } : Room) #[.ref r0, .ref r1] h n0 (fun v h' => v = none ∧ Own n0 h' L) := by
  refine MethW.of (plainFor_of_name pn_6) (fun m => ef_rm15 m r0 r1) O ?_
  intro p e s0 m below meth c FE C J
  change Cx Z "com/example/quorumgate/quorumgate/cluster/Command" "checkPut" prog_10_method_3_code 2 none p m meth c (MW Z s0 "com/example/quorumgate/quorumgate/cluster/Command" m) at C
  change Ok (MW Z s0 "com/example/quorumgate/quorumgate/cluster/Command" m) FE _ _ at J
  change Wk p l e _ m _ below meth c (MW Z s0 "com/example/quorumgate/quorumgate/cluster/Command" m) _ n0 _ 0 0 0 _ _
  clear O
  refine Wk.aloadN (pc' := 1) C d15_0 rfl rfl rfl ?_
  refine Wk.ldcS (pc' := 3) (nS := 12) C (w83 hw) (wSt hw) d15_1 (by decide) (by decide) (by decide) (by decide) rfl ?_
  intro a4
  change Wk p l e _ m _ below meth c _ _ n0 L 2 16 3 #[.val (.ref r0), .val (.ref r1)] [.ref a4, .ref r0]
  refine Wk.callS (pc' := 6) (rm := { frames := 0, cells := 0, slots := 0, locals := 0 }) (W0 := 0) (argsL := [.ref r0, .ref a4]) (st := []) C (w84 hw) (w27 hw) (w28 hw) (w29 hw) (by decide) (fun h O => rm4 l Z a0 hw r0 a4 L h n0 O) (by decide) (by decide) (by decide) (by decide) d15_3 rfl pd_6 rfl rfl rfl rfl ?_
  rintro _ h' ⟨rfl, O'⟩
  refine ⟨_, O', ?_⟩
  change Wk p l e _ m _ below meth c _ _ n0 L 2 16 6 #[.val (.ref r0), .val (.ref r1)] [.ref r0]
  refine Wk.pop (pc' := 7) C d15_6 rfl rfl ?_
  refine Wk.aloadN (pc' := 8) C d15_7 rfl rfl rfl ?_
  refine Wk.arraylength (pc' := 9) (q := q0) (z := nn.toInt32) C d15_8 hq0 (fun _ A => ⟨A.1, A.2.2.1⟩) rfl rfl ?_
  refine Wk.ldcInt (z := (1048576 : Int32)) (pc' := 11) C (w85 hw) d15_9 rfl ?_
  refine Wk.icmp_le (pcT := 29) (pcF := 14) C d15_11 (by decide) (by decide) rfl (fun c5 => ?_) (fun c5 => (show False from hnn c5).elim)
  exact Wk.retV C J d15_29 (by decide) (by decide) (fun h O => ⟨rfl, O⟩)
theorem ef_rm14 (m : MethodId) (r0 : Addr) (r1 : Addr) (r2 : Addr) : entryFrame m #[.ref r0, .ref r1, .ref r2] 3 = mkF m 0 #[.val (.ref r0), .val (.ref r1), .val (.ref r2)] [] := by first | (simp [entryFrame, mkF, argsToLocals, Value.category]; done) | rfl
set_option maxRecDepth 65536 in
set_option maxHeartbeats 40000000 in
theorem rm14 (l : Launch) (Z : State) (a0 : Array Value) (hw : HW Z a0) (r0 : Addr) (r1 : Addr) (r2 : Addr) (L : List (Addr × (Cell → Prop))) (q0 nn : Nat) (f : Nat → Int32) (h : Heap) (n0 : Base) (O : Own n0 h ((r0, ObjC Z "com/example/quorumgate/quorumgate/cluster/Command$PutIfAbsent" ks_2 [.null, .null]) :: L)) (hq0 : L[q0]? = some (r2, ArrC Z .byte nn f)) (hnn : ¬ (1048576 : Int32) < nn.toInt32) :
    MethW l Z (⟨"com/example/quorumgate/quorumgate/cluster/Command$PutIfAbsent", "<init>", "(Lcom/example/quorumgate/quorumgate/cluster/Key;[B)V"⟩ : MethodName) prog_13_method_1_code 3 none [] ({ frames := 2, cells := 2, slots := 16, locals := 26 } : Room) #[.ref r0, .ref r1, .ref r2] h n0 (fun v h' => v = none ∧ Own n0 h' ((r0, ObjC Z "com/example/quorumgate/quorumgate/cluster/Command$PutIfAbsent" ks_2 [.ref r1, .ref r2]) :: L)) := by
  refine MethW.of (plainFor_of_name pn_7) (fun m => ef_rm14 m r0 r1 r2) O ?_
  intro p e s0 m below meth c FE C J
  change Cx Z "com/example/quorumgate/quorumgate/cluster/Command$PutIfAbsent" "<init>" prog_13_method_1_code 3 none p m meth c (MW Z s0 "com/example/quorumgate/quorumgate/cluster/Command$PutIfAbsent" m) at C
  change Ok (MW Z s0 "com/example/quorumgate/quorumgate/cluster/Command$PutIfAbsent" m) FE _ _ at J
  change Wk p l e _ m _ below meth c (MW Z s0 "com/example/quorumgate/quorumgate/cluster/Command$PutIfAbsent" m) _ n0 _ 0 0 0 _ _
  clear O
  refine Wk.aloadN (pc' := 1) C d14_0 rfl rfl rfl ?_
  refine Wk.callI (pc' := 4) (rm := { frames := 1, cells := 0, slots := 0, locals := 12 }) (W0 := 0) (a := r0) (argsL := []) (st := []) C rfl rfl (w78 hw) (w18 hw) (w20 hw) (w21 hw) (by decide) (fun h O => rm2 l Z a0 hw r0 ((r0, ObjC Z "com/example/quorumgate/quorumgate/cluster/Command$PutIfAbsent" ks_2 [.null, .null]) :: L) h n0 O) (by decide) (by decide) (by decide) (by decide) d14_1 rfl pd_5 rfl rfl rfl rfl ?_
  rintro _ h' ⟨rfl, O'⟩
  refine ⟨_, O', ?_⟩
  change Wk p l e _ m _ below meth c _ _ n0 ((r0, ObjC Z "com/example/quorumgate/quorumgate/cluster/Command$PutIfAbsent" ks_2 [.null, .null]) :: L) 0 0 4 #[.val (.ref r0), .val (.ref r1), .val (.ref r2)] []
  refine Wk.aloadN (pc' := 5) C d14_4 rfl rfl rfl ?_
  refine Wk.aloadN (pc' := 6) C d14_5 rfl rfl rfl ?_
  refine Wk.callSNW (pc' := 9) (rm := { frames := 1, cells := 2, slots := 16, locals := 13 }) (W0 := 0) (argsL := [.ref r1, .ref r2]) (st := []) C (w79 hw) (w80 hw) (w81 hw) (w82 hw) (by decide) (fun h O => rm15 l Z a0 hw r1 r2 ((r0, ObjC Z "com/example/quorumgate/quorumgate/cluster/Command$PutIfAbsent" ks_2 [.null, .null]) :: L) (q0 + 1) nn (f) h n0 O hq0 hnn) (by decide) (by decide) (by decide) (by decide) d14_6 rfl pd_10 rfl rfl rfl rfl ?_
  rintro _ h' ⟨rfl, O'⟩
  refine ⟨_, O', ?_⟩
  change Wk p l e _ m _ below meth c _ _ n0 ((r0, ObjC Z "com/example/quorumgate/quorumgate/cluster/Command$PutIfAbsent" ks_2 [.null, .null]) :: L) 2 16 9 #[.val (.ref r0), .val (.ref r1), .val (.ref r2)] []
  refine Wk.aloadN (pc' := 10) C d14_9 rfl rfl rfl ?_
  refine Wk.aloadN (pc' := 11) C d14_10 rfl rfl rfl ?_
  refine Wk.putfield (pc' := 14) (host := "") (q := 0) (i := 0) C (Or.inl (w86 hw)) (lays_ks_2 hw) (Or.inr ⟨(w87 hw), rfl, rfl⟩) (w2 hw) d14_11 rfl rfl (Nat.le_of_ble_eq_true rfl) rfl rfl rfl ?_
  change Wk p l e _ m _ below meth c _ _ n0 ((r0, ObjC Z "com/example/quorumgate/quorumgate/cluster/Command$PutIfAbsent" ks_2 [.ref r1, .null]) :: L) 2 16 14 #[.val (.ref r0), .val (.ref r1), .val (.ref r2)] []
  refine Wk.aloadN (pc' := 15) C d14_14 rfl rfl rfl ?_
  refine Wk.aloadN (pc' := 16) C d14_15 rfl rfl rfl ?_
  refine Wk.putfield (pc' := 19) (host := "") (q := 0) (i := 1) C (Or.inl (w88 hw)) (lays_ks_2 hw) (Or.inr ⟨(w89 hw), rfl, rfl⟩) (w2 hw) d14_16 rfl rfl (Nat.le_of_ble_eq_true rfl) rfl rfl rfl ?_
  change Wk p l e _ m _ below meth c _ _ n0 ((r0, ObjC Z "com/example/quorumgate/quorumgate/cluster/Command$PutIfAbsent" ks_2 [.ref r1, .ref r2]) :: L) 2 16 19 #[.val (.ref r0), .val (.ref r1), .val (.ref r2)] []
  exact Wk.retV C J d14_19 (by decide) (by decide) (fun h O => ⟨rfl, O⟩)
theorem ef_rm16n (m : MethodId) (r0 : Addr) : entryFrame m #[.ref r0, .null] 2 = mkF m 0 #[.val (.ref r0), .val (.null)] [] := by first | (simp [entryFrame, mkF, argsToLocals, Value.category]; done) | rfl
set_option maxRecDepth 65536 in
set_option maxHeartbeats 40000000 in
theorem rm16n (l : Launch) (Z : State) (a0 : Array Value) (hw : HW Z a0) (r0 : Addr) (L : List (Addr × (Cell → Prop))) (q0 : Nat) (rk rv : Addr) (h : Heap) (n0 : Base) (O : Own n0 h L) (hq0 : L[q0]? = some (r0, ObjC Z "com/example/quorumgate/quorumgate/cluster/Command$PutIfAbsent" ks_2 [.ref rk, .ref rv])) :
    Meth l Z (⟨"com/example/quorumgate/quorumgate/cluster/Command$PutIfAbsent", "applyTo", "([B)[B"⟩ : MethodName) prog_13_method_2_code 2 (some (.array .byte)) [] ({ frames := 0, cells := 0, slots := 0, locals := 0 } : Room) #[.ref r0, .null] h n0 (fun v h' => v = some (.ref rv) ∧ Own n0 h' L) := by
  refine Meth.of (plainFor_of_name pn_7) (fun m => ef_rm16n m r0) O ?_
  intro p e m below meth c M FE C J
  change Cx Z "com/example/quorumgate/quorumgate/cluster/Command$PutIfAbsent" "applyTo" prog_13_method_2_code 2 (some (.array .byte)) p m meth c M at C
  clear O
  refine Wk.aloadN (pc' := 1) C d16_0 rfl rfl rfl ?_
  refine Wk.ifnonnullNo (pc' := 4) C d16_1 rfl ?_
  refine Wk.aloadN (pc' := 5) C d16_4 rfl rfl rfl ?_
  refine Wk.getfield (pc' := 8) (host := "") (q := q0) (i := 1) C (Or.inl (w88 hw)) d16_5 hq0 rfl rfl rfl ?_
  refine Wk.goto (pc' := 12) C d16_8 (by decide) (by decide) ?_
  exact Wk.retA C J d16_12 (by decide) (by decide) rfl rfl (fun h O => ⟨rfl, O⟩)
theorem ef_rm16r (m : MethodId) (r0 : Addr) (r1 : Addr) : entryFrame m #[.ref r0, .ref r1] 2 = mkF m 0 #[.val (.ref r0), .val (.ref r1)] [] := by first | (simp [entryFrame, mkF, argsToLocals, Value.category]; done) | rfl
set_option maxRecDepth 65536 in
set_option maxHeartbeats 40000000 in
theorem rm16r (l : Launch) (Z : State) (a0 : Array Value) (hw : HW Z a0) (r0 : Addr) (r1 : Addr) (L : List (Addr × (Cell → Prop))) (q0 : Nat) (rk rv : Addr) (h : Heap) (n0 : Base) (O : Own n0 h L) (hq0 : L[q0]? = some (r0, ObjC Z "com/example/quorumgate/quorumgate/cluster/Command$PutIfAbsent" ks_2 [.ref rk, .ref rv])) :
    Meth l Z (⟨"com/example/quorumgate/quorumgate/cluster/Command$PutIfAbsent", "applyTo", "([B)[B"⟩ : MethodName) prog_13_method_2_code 2 (some (.array .byte)) [] ({ frames := 0, cells := 0, slots := 0, locals := 0 } : Room) #[.ref r0, .ref r1] h n0 (fun v h' => v = some (.ref r1) ∧ Own n0 h' L) := by
  refine Meth.of (plainFor_of_name pn_7) (fun m => ef_rm16r m r0 r1) O ?_
  intro p e m below meth c M FE C J
  change Cx Z "com/example/quorumgate/quorumgate/cluster/Command$PutIfAbsent" "applyTo" prog_13_method_2_code 2 (some (.array .byte)) p m meth c M at C
  clear O
  refine Wk.aloadN (pc' := 1) C d16_0 rfl rfl rfl ?_
  refine Wk.ifnonnullYes (pc' := 11) C d16_1 (by decide) (by decide) ?_
  refine Wk.aloadN (pc' := 12) C d16_11 rfl rfl rfl ?_
  exact Wk.retA C J d16_12 (by decide) (by decide) rfl rfl (fun h O => ⟨rfl, O⟩)
theorem ef_rmLaw (m : MethodId) (x0 : Int32) (x1 : Int32) : entryFrame m #[.int x0, .int x1] 13 = mkF m 0 #[.val (.int x0), .val (.int x1), .unset, .unset, .unset, .unset, .unset, .unset, .unset, .unset, .unset, .unset, .unset] [] := by first | (simp [entryFrame, mkF, argsToLocals, Value.category]; done) | rfl
set_option maxRecDepth 65536 in
set_option maxHeartbeats 40000000 in
theorem rmLaw (l : Launch) (Z : State) (a0 : Array Value) (hw : HW Z a0) (x0 : Int32) (x1 : Int32) (sa sb : Addr) (cz : Int32) (vf : Value) (n0 : Base) (O : Own n0 Z.heap []) (hh : Jvm.Lit.constHeld Z "com/example/quorumgate/quorumgate/cluster/PutIfAbsentApplyToPinLaw" 11) (hcw : Jvm.Lit.compactW.before a0 Z = true) (hn0 : n0.1 = Z.heap.size) (hst : n0.2 = [(sa, StaC Z "java/lang/String" "COMPACT_STRINGS" "Z" (.int cz) sa), (sb, StaC Z "jdk/internal/util/Preconditions" "SIOOBE_FORMATTER" "Ljava/util/function/BiFunction;" vf sb)]) (hcz : cz ≠ 0) (hvf : vf.isRef = true) :
    MethL l Z x code maxLocals ret tables_1 room_1 #[.int x0, .int x1] n0 (fun v h' => v = some (.int 1)) := by
  refine MethL.of (plainFor_of_name pn_8) (fun m => ef_rmLaw m x0 x1) O ?_
  intro p e m below meth c FE C C1 J
  change Cx Z "com/example/quorumgate/quorumgate/cluster/PutIfAbsentApplyToPinLaw" "law" code 13 (some .boolean) p m meth c (M0 Z) at C
  change Cx Z "com/example/quorumgate/quorumgate/cluster/PutIfAbsentApplyToPinLaw" "law" code 13 (some .boolean) p m meth c (MW Z Z "com/example/quorumgate/quorumgate/cluster/PutIfAbsentApplyToPinLaw" m) at C1
  change Ok (MW Z Z "com/example/quorumgate/quorumgate/cluster/PutIfAbsentApplyToPinLaw" m) FE _ _ at J
  change Wk p l e _ m _ below meth c (M0 Z) _ n0 _ 0 0 0 _ _
  clear O
  refine Wk.iconst (z := (0 : Int32)) (pc' := 1) C at_0 rfl rfl ?_
  refine Wk.newarray (pc' := 3) (aty := .byte) (nn := 0) (cap := 0) (d := 0) C (w0 hw) at_1 rfl rfl (by decide) (by decide) (by decide) (by decide) (by decide) rfl ?_
  intro a6
  change Wk p l e _ m _ below meth c _ _ n0 ((a6, ArrC Z .byte 0 (fun _ => 0)) :: []) 1 0 3 #[.val (.int x0), .val (.int x1), .unset, .unset, .unset, .unset, .unset, .unset, .unset, .unset, .unset, .unset, .unset] [.ref a6]
  refine Wk.astoreN (Ls' := #[.val (.int x0), .val (.int x1), .val (.ref a6), .unset, .unset, .unset, .unset, .unset, .unset, .unset, .unset, .unset, .unset]) (pc' := 4) C at_3 rfl rfl rfl ?_
  refine Wk.iconst (z := (2 : Int32)) (pc' := 5) C at_4 rfl rfl ?_
  refine Wk.newarray (pc' := 7) (aty := .byte) (nn := 2) (cap := 2) (d := 0) C (w0 hw) at_5 rfl rfl (by decide) (by decide) (by decide) (by decide) (by decide) rfl ?_
  intro a7
  change Wk p l e _ m _ below meth c _ _ n0 ((a7, ArrC Z .byte 2 (fun _ => 0)) :: (a6, ArrC Z .byte 0 (fun _ => 0)) :: []) 2 2 7 #[.val (.int x0), .val (.int x1), .val (.ref a6), .unset, .unset, .unset, .unset, .unset, .unset, .unset, .unset, .unset, .unset] [.ref a7]
  refine Wk.dup (pc' := 8) C at_7 rfl rfl ?_
  refine Wk.iconst (z := (0 : Int32)) (pc' := 9) C at_8 rfl rfl ?_
  refine Wk.iloadN (pc' := 10) C at_9 rfl rfl ?_
  refine Wk.i2b (pc' := 11) C at_10 rfl ?_
  refine Wk.bastore (pc' := 12) (q := 0) (i := 0) C at_11 rfl (by decide) (by decide) rfl ?_
  change Wk p l e _ m _ below meth c _ _ n0 ((a7, ArrC Z .byte 2 (upd (fun _ => 0) 0 ((x0.toInt8.toInt32).toInt8.toInt32))) :: (a6, ArrC Z .byte 0 (fun _ => 0)) :: []) 2 2 12 #[.val (.int x0), .val (.int x1), .val (.ref a6), .unset, .unset, .unset, .unset, .unset, .unset, .unset, .unset, .unset, .unset] [.ref a7]
  refine Wk.dup (pc' := 13) C at_12 rfl rfl ?_
  refine Wk.iconst (z := (1 : Int32)) (pc' := 14) C at_13 rfl rfl ?_
  refine Wk.iloadN (pc' := 15) C at_14 rfl rfl ?_
  refine Wk.bipush (z := (8 : Int32)) (pc' := 17) C at_15 rfl rfl ?_
  refine Wk.ishr (pc' := 18) C at_17 rfl ?_
  refine Wk.i2b (pc' := 19) C at_18 rfl ?_
  refine Wk.bastore (pc' := 20) (q := 0) (i := 1) C at_19 rfl (by decide) (by decide) rfl ?_
  change Wk p l e _ m _ below meth c _ _ n0 ((a7, ArrC Z .byte 2 (upd (upd (fun _ => 0) 0 ((x0.toInt8.toInt32).toInt8.toInt32)) 1 (((x0 >>> ((8 : Int32) &&& 31)).toInt8.toInt32).toInt8.toInt32))) :: (a6, ArrC Z .byte 0 (fun _ => 0)) :: []) 2 2 20 #[.val (.int x0), .val (.int x1), .val (.ref a6), .unset, .unset, .unset, .unset, .unset, .unset, .unset, .unset, .unset, .unset] [.ref a7]
  refine Wk.astoreN (Ls' := #[.val (.int x0), .val (.int x1), .val (.ref a6), .val (.ref a7), .unset, .unset, .unset, .unset, .unset, .unset, .unset, .unset, .unset]) (pc' := 21) C at_20 rfl rfl rfl ?_
  refine Wk.iloadN (pc' := 22) C at_21 rfl rfl ?_
  refine Wk.bipush (z := (16 : Int32)) (pc' := 24) C at_22 rfl rfl ?_
  refine Wk.iushr (pc' := 25) C at_24 rfl ?_
  refine Wk.iconst (z := (1 : Int32)) (pc' := 26) C at_25 rfl rfl ?_
  refine Wk.iand (pc' := 27) C at_26 rfl ?_
  refine Wk.if_eq (pcT := 34) (pcF := 30) C at_27 (by decide) (by decide) rfl (fun c8 => ?_) (fun c8 => ?_)
  · skip
    refine Wk.aloadN (pc' := 35) C at_34 rfl rfl rfl ?_
    refine Wk.astore (Ls' := #[.val (.int x0), .val (.int x1), .val (.ref a6), .val (.ref a7), .val (.ref a6), .unset, .unset, .unset, .unset, .unset, .unset, .unset, .unset]) (pc' := 37) C at_35 rfl rfl rfl ?_
    refine Wk.iconst (z := (0 : Int32)) (pc' := 38) C at_37 rfl rfl ?_
    refine Wk.newarray (pc' := 40) (aty := .byte) (nn := 0) (cap := 0) (d := 0) C (w0 hw) at_38 rfl rfl (by decide) (by decide) (by decide) (by decide) (by decide) rfl ?_
    intro a9
    change Wk p l e _ m _ below meth c _ _ n0 ((a9, ArrC Z .byte 0 (fun _ => 0)) :: (a7, ArrC Z .byte 2 (upd (upd (fun _ => 0) 0 ((x0.toInt8.toInt32).toInt8.toInt32)) 1 (((x0 >>> ((8 : Int32) &&& 31)).toInt8.toInt32).toInt8.toInt32))) :: (a6, ArrC Z .byte 0 (fun _ => 0)) :: []) 3 2 40 #[.val (.int x0), .val (.int x1), .val (.ref a6), .val (.ref a7), .val (.ref a6), .unset, .unset, .unset, .unset, .unset, .unset, .unset, .unset] [.ref a9]
    refine Wk.astore (Ls' := #[.val (.int x0), .val (.int x1), .val (.ref a6), .val (.ref a7), .val (.ref a6), .val (.ref a9), .unset, .unset, .unset, .unset, .unset, .unset, .unset]) (pc' := 42) C at_40 rfl rfl rfl ?_
    refine Wk.iconst (z := (2 : Int32)) (pc' := 43) C at_42 rfl rfl ?_
    refine Wk.newarray (pc' := 45) (aty := .byte) (nn := 2) (cap := 2) (d := 0) C (w0 hw) at_43 rfl rfl (by decide) (by decide) (by decide) (by decide) (by decide) rfl ?_
    intro a10
    change Wk p l e _ m _ below meth c _ _ n0 ((a10, ArrC Z .byte 2 (fun _ => 0)) :: (a9, ArrC Z .byte 0 (fun _ => 0)) :: (a7, ArrC Z .byte 2 (upd (upd (fun _ => 0) 0 ((x0.toInt8.toInt32).toInt8.toInt32)) 1 (((x0 >>> ((8 : Int32) &&& 31)).toInt8.toInt32).toInt8.toInt32))) :: (a6, ArrC Z .byte 0 (fun _ => 0)) :: []) 4 4 45 #[.val (.int x0), .val (.int x1), .val (.ref a6), .val (.ref a7), .val (.ref a6), .val (.ref a9), .unset, .unset, .unset, .unset, .unset, .unset, .unset] [.ref a10]
    refine Wk.dup (pc' := 46) C at_45 rfl rfl ?_
    refine Wk.iconst (z := (0 : Int32)) (pc' := 47) C at_46 rfl rfl ?_
    refine Wk.iloadN (pc' := 48) C at_47 rfl rfl ?_
    refine Wk.i2b (pc' := 49) C at_48 rfl ?_
    refine Wk.bastore (pc' := 50) (q := 0) (i := 0) C at_49 rfl (by decide) (by decide) rfl ?_
    change Wk p l e _ m _ below meth c _ _ n0 ((a10, ArrC Z .byte 2 (upd (fun _ => 0) 0 ((x1.toInt8.toInt32).toInt8.toInt32))) :: (a9, ArrC Z .byte 0 (fun _ => 0)) :: (a7, ArrC Z .byte 2 (upd (upd (fun _ => 0) 0 ((x0.toInt8.toInt32).toInt8.toInt32)) 1 (((x0 >>> ((8 : Int32) &&& 31)).toInt8.toInt32).toInt8.toInt32))) :: (a6, ArrC Z .byte 0 (fun _ => 0)) :: []) 4 4 50 #[.val (.int x0), .val (.int x1), .val (.ref a6), .val (.ref a7), .val (.ref a6), .val (.ref a9), .unset, .unset, .unset, .unset, .unset, .unset, .unset] [.ref a10]
    refine Wk.dup (pc' := 51) C at_50 rfl rfl ?_
    refine Wk.iconst (z := (1 : Int32)) (pc' := 52) C at_51 rfl rfl ?_
    refine Wk.iloadN (pc' := 53) C at_52 rfl rfl ?_
    refine Wk.bipush (z := (8 : Int32)) (pc' := 55) C at_53 rfl rfl ?_
    refine Wk.ishr (pc' := 56) C at_55 rfl ?_
    refine Wk.i2b (pc' := 57) C at_56 rfl ?_
    refine Wk.bastore (pc' := 58) (q := 0) (i := 1) C at_57 rfl (by decide) (by decide) rfl ?_
    change Wk p l e _ m _ below meth c _ _ n0 ((a10, ArrC Z .byte 2 (upd (upd (fun _ => 0) 0 ((x1.toInt8.toInt32).toInt8.toInt32)) 1 (((x1 >>> ((8 : Int32) &&& 31)).toInt8.toInt32).toInt8.toInt32))) :: (a9, ArrC Z .byte 0 (fun _ => 0)) :: (a7, ArrC Z .byte 2 (upd (upd (fun _ => 0) 0 ((x0.toInt8.toInt32).toInt8.toInt32)) 1 (((x0 >>> ((8 : Int32) &&& 31)).toInt8.toInt32).toInt8.toInt32))) :: (a6, ArrC Z .byte 0 (fun _ => 0)) :: []) 4 4 58 #[.val (.int x0), .val (.int x1), .val (.ref a6), .val (.ref a7), .val (.ref a6), .val (.ref a9), .unset, .unset, .unset, .unset, .unset, .unset, .unset] [.ref a10]
    refine Wk.astore (Ls' := #[.val (.int x0), .val (.int x1), .val (.ref a6), .val (.ref a7), .val (.ref a6), .val (.ref a9), .val (.ref a10), .unset, .unset, .unset, .unset, .unset, .unset]) (pc' := 60) C at_58 rfl rfl rfl ?_
    refine Wk.iloadN (pc' := 61) C at_60 rfl rfl ?_
    refine Wk.bipush (z := (16 : Int32)) (pc' := 63) C at_61 rfl rfl ?_
    refine Wk.iushr (pc' := 64) C at_63 rfl ?_
    refine Wk.iconst (z := (3 : Int32)) (pc' := 65) C at_64 rfl rfl ?_
    refine Wk.iand (pc' := 66) C at_65 rfl ?_
    refine Wk.istoreV (fun v11 => #[.val (.int x0), .val (.int x1), .val (.ref a6), .val (.ref a7), .val (.ref a6), .val (.ref a9), .val (.ref a10), .val (.int v11), .unset, .unset, .unset, .unset, .unset]) (pc' := 68) C at_66 rfl rfl ?_
    intro v11 hv11
    refine Wk.iload (pc' := 70) C at_68 rfl rfl ?_
    refine Wk.if_ne (pcT := 77) (pcF := 73) C at_70 (by decide) (by decide) rfl (fun c12 => ?_) (fun c12 => ?_)
    · skip
      refine Wk.iload (pc' := 79) C at_77 rfl rfl ?_
      refine Wk.iconst (z := (1 : Int32)) (pc' := 80) C at_79 rfl rfl ?_
      refine Wk.icmp_ne (pcT := 88) (pcF := 83) C at_80 (by decide) (by decide) rfl (fun c13 => ?_) (fun c13 => ?_)
      · skip
        refine Wk.aload (pc' := 90) C at_88 rfl rfl rfl ?_
        refine Wk.astore (Ls' := #[.val (.int x0), .val (.int x1), .val (.ref a6), .val (.ref a7), .val (.ref a6), .val (.ref a9), .val (.ref a10), .val (.int v11), .val (.ref a10), .unset, .unset, .unset, .unset]) (pc' := 92) C at_90 rfl rfl rfl ?_
        refine Wk.new (pc' := 95) (ks := ks_2) (vs := [.null, .null]) C (w1 hw) (w2 hw) (w3 hw) (lays_ks_2 hw) at_92 rfl (by decide) (by decide) rfl ?_
        intro a14
        change Wk p l e _ m _ below meth c _ _ n0 ((a14, ObjC Z "com/example/quorumgate/quorumgate/cluster/Command$PutIfAbsent" ks_2 [.null, .null]) :: (a10, ArrC Z .byte 2 (upd (upd (fun _ => 0) 0 ((x1.toInt8.toInt32).toInt8.toInt32)) 1 (((x1 >>> ((8 : Int32) &&& 31)).toInt8.toInt32).toInt8.toInt32))) :: (a9, ArrC Z .byte 0 (fun _ => 0)) :: (a7, ArrC Z .byte 2 (upd (upd (fun _ => 0) 0 ((x0.toInt8.toInt32).toInt8.toInt32)) 1 (((x0 >>> ((8 : Int32) &&& 31)).toInt8.toInt32).toInt8.toInt32))) :: (a6, ArrC Z .byte 0 (fun _ => 0)) :: []) 5 6 95 #[.val (.int x0), .val (.int x1), .val (.ref a6), .val (.ref a7), .val (.ref a6), .val (.ref a9), .val (.ref a10), .val (.int v11), .val (.ref a10), .unset, .unset, .unset, .unset] [.ref a14]
        refine Wk.dup (pc' := 96) C at_95 rfl rfl ?_
        refine Wk.new (pc' := 99) (ks := ks_1) (vs := [.null]) C (w4 hw) (w5 hw) (w6 hw) (lays_ks_1 hw) at_96 rfl (by decide) (by decide) rfl ?_
        intro a15
        change Wk p l e _ m _ below meth c _ _ n0 ((a15, ObjC Z "com/example/quorumgate/quorumgate/cluster/Key" ks_1 [.null]) :: (a14, ObjC Z "com/example/quorumgate/quorumgate/cluster/Command$PutIfAbsent" ks_2 [.null, .null]) :: (a10, ArrC Z .byte 2 (upd (upd (fun _ => 0) 0 ((x1.toInt8.toInt32).toInt8.toInt32)) 1 (((x1 >>> ((8 : Int32) &&& 31)).toInt8.toInt32).toInt8.toInt32))) :: (a9, ArrC Z .byte 0 (fun _ => 0)) :: (a7, ArrC Z .byte 2 (upd (upd (fun _ => 0) 0 ((x0.toInt8.toInt32).toInt8.toInt32)) 1 (((x0 >>> ((8 : Int32) &&& 31)).toInt8.toInt32).toInt8.toInt32))) :: (a6, ArrC Z .byte 0 (fun _ => 0)) :: []) 6 7 99 #[.val (.int x0), .val (.int x1), .val (.ref a6), .val (.ref a7), .val (.ref a6), .val (.ref a9), .val (.ref a10), .val (.int v11), .val (.ref a10), .unset, .unset, .unset, .unset] [.ref a15, .ref a14, .ref a14]
        refine Wk.dup (pc' := 100) C at_99 rfl rfl ?_
        refine Wk.ldcK (pc' := 102) (nS := 4) C (w7 hw) (wSt hw) hh hcw hn0 hst hcz hvf ⟨by decide, by decide⟩ ?_ at_100 (by decide) (by decide) (by decide) (by decide) rfl ?_
        · intro x hx
          simp only [List.mem_cons, List.not_mem_nil, or_false] at hx
          rcases hx with rfl | rfl | rfl | rfl | rfl | rfl
          · exact Away.obj (w5 hw) (by decide)
          · exact Away.obj (w2 hw) (by decide)
          · exact Away.arr (by decide)
          · exact Away.arr (by decide)
          · exact Away.arr (by decide)
          · exact Away.arr (by decide)
        clear hn0 hst
        intro a16 rb n0 K
        replace C := C1
        change Wk p l e _ m _ below meth c _ _ n0 ((a15, ObjC Z "com/example/quorumgate/quorumgate/cluster/Key" ks_1 [.null]) :: (a14, ObjC Z "com/example/quorumgate/quorumgate/cluster/Command$PutIfAbsent" ks_2 [.null, .null]) :: (a10, ArrC Z .byte 2 (upd (upd (fun _ => 0) 0 ((x1.toInt8.toInt32).toInt8.toInt32)) 1 (((x1 >>> ((8 : Int32) &&& 31)).toInt8.toInt32).toInt8.toInt32))) :: (a9, ArrC Z .byte 0 (fun _ => 0)) :: (a7, ArrC Z .byte 2 (upd (upd (fun _ => 0) 0 ((x0.toInt8.toInt32).toInt8.toInt32)) 1 (((x0 >>> ((8 : Int32) &&& 31)).toInt8.toInt32).toInt8.toInt32))) :: (a6, ArrC Z .byte 0 (fun _ => 0)) :: []) 8 15 102 #[.val (.int x0), .val (.int x1), .val (.ref a6), .val (.ref a7), .val (.ref a6), .val (.ref a9), .val (.ref a10), .val (.int v11), .val (.ref a10), .unset, .unset, .unset, .unset] [.ref a16, .ref a15, .ref a15, .ref a14, .ref a14]
        refine Wk.callIW (pc' := 105) (rm := { frames := 4, cells := 2, slots := 20, locals := 53 }) (W0 := 3) (a := a15) (argsL := [.ref a16]) (st := [.ref a15, .ref a14, .ref a14]) C rfl rfl (w14 hw) (w15 hw) (w6 hw) (w16 hw) (by decide) (fun h O => rm1 l Z a0 hw a15 a16 ((a14, ObjC Z "com/example/quorumgate/quorumgate/cluster/Command$PutIfAbsent" ks_2 [.null, .null]) :: (a10, ArrC Z .byte 2 (upd (upd (fun _ => 0) 0 ((x1.toInt8.toInt32).toInt8.toInt32)) 1 (((x1 >>> ((8 : Int32) &&& 31)).toInt8.toInt32).toInt8.toInt32))) :: (a9, ArrC Z .byte 0 (fun _ => 0)) :: (a7, ArrC Z .byte 2 (upd (upd (fun _ => 0) 0 ((x0.toInt8.toInt32).toInt8.toInt32)) 1 (((x0 >>> ((8 : Int32) &&& 31)).toInt8.toInt32).toInt8.toInt32))) :: (a6, ArrC Z .byte 0 (fun _ => 0)) :: []) rb sa sb cz vf h n0 O K) (by decide) (by decide) (by decide) (by decide) at_102 rfl pd_11 rfl rfl rfl rfl ?_
        rintro _ h' ⟨rfl, O'⟩
        refine ⟨_, O', ?_⟩
        change Wk p l e _ m _ below meth c _ _ n0 ((a15, ObjC Z "com/example/quorumgate/quorumgate/cluster/Key" ks_1 [.ref a16]) :: (a14, ObjC Z "com/example/quorumgate/quorumgate/cluster/Command$PutIfAbsent" ks_2 [.null, .null]) :: (a10, ArrC Z .byte 2 (upd (upd (fun _ => 0) 0 ((x1.toInt8.toInt32).toInt8.toInt32)) 1 (((x1 >>> ((8 : Int32) &&& 31)).toInt8.toInt32).toInt8.toInt32))) :: (a9, ArrC Z .byte 0 (fun _ => 0)) :: (a7, ArrC Z .byte 2 (upd (upd (fun _ => 0) 0 ((x0.toInt8.toInt32).toInt8.toInt32)) 1 (((x0 >>> ((8 : Int32) &&& 31)).toInt8.toInt32).toInt8.toInt32))) :: (a6, ArrC Z .byte 0 (fun _ => 0)) :: []) 10 35 105 #[.val (.int x0), .val (.int x1), .val (.ref a6), .val (.ref a7), .val (.ref a6), .val (.ref a9), .val (.ref a10), .val (.int v11), .val (.ref a10), .unset, .unset, .unset, .unset] [.ref a15, .ref a14, .ref a14]
        refine Wk.aload (pc' := 107) C at_105 rfl rfl rfl ?_
        refine Wk.recast (L' := ((a14, ObjC Z "com/example/quorumgate/quorumgate/cluster/Command$PutIfAbsent" ks_2 [.null, .null]) :: (a15, ObjC Z "com/example/quorumgate/quorumgate/cluster/Key" ks_1 [.ref a16]) :: (a10, ArrC Z .byte 2 (upd (upd (fun _ => 0) 0 ((x1.toInt8.toInt32).toInt8.toInt32)) 1 (((x1 >>> ((8 : Int32) &&& 31)).toInt8.toInt32).toInt8.toInt32))) :: (a9, ArrC Z .byte 0 (fun _ => 0)) :: (a7, ArrC Z .byte 2 (upd (upd (fun _ => 0) 0 ((x0.toInt8.toInt32).toInt8.toInt32)) 1 (((x0 >>> ((8 : Int32) &&& 31)).toInt8.toInt32).toInt8.toInt32))) :: (a6, ArrC Z .byte 0 (fun _ => 0)) :: [])) ?_ (fun h O => (O.front 1 rfl))
        refine Wk.callIW (pc' := 110) (rm := { frames := 2, cells := 2, slots := 16, locals := 26 }) (W0 := 1) (a := a14) (argsL := [.ref a15, .ref a6]) (st := [.ref a14]) C rfl rfl (w75 hw) (w76 hw) (w3 hw) (w77 hw) (by decide) (fun h O => rm14 l Z a0 hw a14 a15 a6 ((a15, ObjC Z "com/example/quorumgate/quorumgate/cluster/Key" ks_1 [.ref a16]) :: (a10, ArrC Z .byte 2 (upd (upd (fun _ => 0) 0 ((x1.toInt8.toInt32).toInt8.toInt32)) 1 (((x1 >>> ((8 : Int32) &&& 31)).toInt8.toInt32).toInt8.toInt32))) :: (a9, ArrC Z .byte 0 (fun _ => 0)) :: (a7, ArrC Z .byte 2 (upd (upd (fun _ => 0) 0 ((x0.toInt8.toInt32).toInt8.toInt32)) 1 (((x0 >>> ((8 : Int32) &&& 31)).toInt8.toInt32).toInt8.toInt32))) :: (a6, ArrC Z .byte 0 (fun _ => 0)) :: []) 4 0 (fun _ => 0) h n0 O rfl (by decide)) (by decide) (by decide) (by decide) (by decide) at_107 rfl pd_10 rfl rfl rfl rfl ?_
        rintro _ h' ⟨rfl, O'⟩
        refine ⟨_, O', ?_⟩
        change Wk p l e _ m _ below meth c _ _ n0 ((a14, ObjC Z "com/example/quorumgate/quorumgate/cluster/Command$PutIfAbsent" ks_2 [.ref a15, .ref a6]) :: (a15, ObjC Z "com/example/quorumgate/quorumgate/cluster/Key" ks_1 [.ref a16]) :: (a10, ArrC Z .byte 2 (upd (upd (fun _ => 0) 0 ((x1.toInt8.toInt32).toInt8.toInt32)) 1 (((x1 >>> ((8 : Int32) &&& 31)).toInt8.toInt32).toInt8.toInt32))) :: (a9, ArrC Z .byte 0 (fun _ => 0)) :: (a7, ArrC Z .byte 2 (upd (upd (fun _ => 0) 0 ((x0.toInt8.toInt32).toInt8.toInt32)) 1 (((x0 >>> ((8 : Int32) &&& 31)).toInt8.toInt32).toInt8.toInt32))) :: (a6, ArrC Z .byte 0 (fun _ => 0)) :: []) 12 51 110 #[.val (.int x0), .val (.int x1), .val (.ref a6), .val (.ref a7), .val (.ref a6), .val (.ref a9), .val (.ref a10), .val (.int v11), .val (.ref a10), .unset, .unset, .unset, .unset] [.ref a14]
        refine Wk.astore (Ls' := #[.val (.int x0), .val (.int x1), .val (.ref a6), .val (.ref a7), .val (.ref a6), .val (.ref a9), .val (.ref a10), .val (.int v11), .val (.ref a10), .val (.ref a14), .unset, .unset, .unset]) (pc' := 112) C at_110 rfl rfl rfl ?_
        refine Wk.aload (pc' := 114) C at_112 rfl rfl rfl ?_
        refine Wk.aload (pc' := 116) C at_114 rfl rfl rfl ?_
        refine Wk.callV (pc' := 119) (rm := { frames := 0, cells := 0, slots := 0, locals := 0 }) (W0 := 0) (q := 0) (argsL := [.ref a10]) (st := []) C rfl (w90 hw) (w91 hw) (w93 hw) (w92 hw) (w3 hw) (w94 hw) (by decide) (fun h O => rm16r l Z a0 hw a14 a10 ((a14, ObjC Z "com/example/quorumgate/quorumgate/cluster/Command$PutIfAbsent" ks_2 [.ref a15, .ref a6]) :: (a15, ObjC Z "com/example/quorumgate/quorumgate/cluster/Key" ks_1 [.ref a16]) :: (a10, ArrC Z .byte 2 (upd (upd (fun _ => 0) 0 ((x1.toInt8.toInt32).toInt8.toInt32)) 1 (((x1 >>> ((8 : Int32) &&& 31)).toInt8.toInt32).toInt8.toInt32))) :: (a9, ArrC Z .byte 0 (fun _ => 0)) :: (a7, ArrC Z .byte 2 (upd (upd (fun _ => 0) 0 ((x0.toInt8.toInt32).toInt8.toInt32)) 1 (((x0 >>> ((8 : Int32) &&& 31)).toInt8.toInt32).toInt8.toInt32))) :: (a6, ArrC Z .byte 0 (fun _ => 0)) :: []) 0 a15 a6 h n0 O rfl) (by decide) (by decide) (by decide) (by decide) at_116 rfl pd_12 rfl rfl rfl rfl ?_
        rintro _ h' ⟨rfl, O'⟩
        refine ⟨_, O', ?_⟩
        change Wk p l e _ m _ below meth c _ _ n0 ((a14, ObjC Z "com/example/quorumgate/quorumgate/cluster/Command$PutIfAbsent" ks_2 [.ref a15, .ref a6]) :: (a15, ObjC Z "com/example/quorumgate/quorumgate/cluster/Key" ks_1 [.ref a16]) :: (a10, ArrC Z .byte 2 (upd (upd (fun _ => 0) 0 ((x1.toInt8.toInt32).toInt8.toInt32)) 1 (((x1 >>> ((8 : Int32) &&& 31)).toInt8.toInt32).toInt8.toInt32))) :: (a9, ArrC Z .byte 0 (fun _ => 0)) :: (a7, ArrC Z .byte 2 (upd (upd (fun _ => 0) 0 ((x0.toInt8.toInt32).toInt8.toInt32)) 1 (((x0 >>> ((8 : Int32) &&& 31)).toInt8.toInt32).toInt8.toInt32))) :: (a6, ArrC Z .byte 0 (fun _ => 0)) :: []) 12 51 119 #[.val (.int x0), .val (.int x1), .val (.ref a6), .val (.ref a7), .val (.ref a6), .val (.ref a9), .val (.ref a10), .val (.int v11), .val (.ref a10), .val (.ref a14), .unset, .unset, .unset] [.ref a10]
        refine Wk.astore (Ls' := #[.val (.int x0), .val (.int x1), .val (.ref a6), .val (.ref a7), .val (.ref a6), .val (.ref a9), .val (.ref a10), .val (.int v11), .val (.ref a10), .val (.ref a14), .val (.ref a10), .unset, .unset]) (pc' := 121) C at_119 rfl rfl rfl ?_
        refine Wk.aload (pc' := 123) C at_121 rfl rfl rfl ?_
        refine Wk.aload (pc' := 125) C at_123 rfl rfl rfl ?_
        refine Wk.callV (pc' := 128) (rm := { frames := 0, cells := 0, slots := 0, locals := 0 }) (W0 := 0) (q := 0) (argsL := [.ref a10]) (st := []) C rfl (w90 hw) (w91 hw) (w93 hw) (w92 hw) (w3 hw) (w94 hw) (by decide) (fun h O => rm16r l Z a0 hw a14 a10 ((a14, ObjC Z "com/example/quorumgate/quorumgate/cluster/Command$PutIfAbsent" ks_2 [.ref a15, .ref a6]) :: (a15, ObjC Z "com/example/quorumgate/quorumgate/cluster/Key" ks_1 [.ref a16]) :: (a10, ArrC Z .byte 2 (upd (upd (fun _ => 0) 0 ((x1.toInt8.toInt32).toInt8.toInt32)) 1 (((x1 >>> ((8 : Int32) &&& 31)).toInt8.toInt32).toInt8.toInt32))) :: (a9, ArrC Z .byte 0 (fun _ => 0)) :: (a7, ArrC Z .byte 2 (upd (upd (fun _ => 0) 0 ((x0.toInt8.toInt32).toInt8.toInt32)) 1 (((x0 >>> ((8 : Int32) &&& 31)).toInt8.toInt32).toInt8.toInt32))) :: (a6, ArrC Z .byte 0 (fun _ => 0)) :: []) 0 a15 a6 h n0 O rfl) (by decide) (by decide) (by decide) (by decide) at_125 rfl pd_12 rfl rfl rfl rfl ?_
        rintro _ h' ⟨rfl, O'⟩
        refine ⟨_, O', ?_⟩
        change Wk p l e _ m _ below meth c _ _ n0 ((a14, ObjC Z "com/example/quorumgate/quorumgate/cluster/Command$PutIfAbsent" ks_2 [.ref a15, .ref a6]) :: (a15, ObjC Z "com/example/quorumgate/quorumgate/cluster/Key" ks_1 [.ref a16]) :: (a10, ArrC Z .byte 2 (upd (upd (fun _ => 0) 0 ((x1.toInt8.toInt32).toInt8.toInt32)) 1 (((x1 >>> ((8 : Int32) &&& 31)).toInt8.toInt32).toInt8.toInt32))) :: (a9, ArrC Z .byte 0 (fun _ => 0)) :: (a7, ArrC Z .byte 2 (upd (upd (fun _ => 0) 0 ((x0.toInt8.toInt32).toInt8.toInt32)) 1 (((x0 >>> ((8 : Int32) &&& 31)).toInt8.toInt32).toInt8.toInt32))) :: (a6, ArrC Z .byte 0 (fun _ => 0)) :: []) 12 51 128 #[.val (.int x0), .val (.int x1), .val (.ref a6), .val (.ref a7), .val (.ref a6), .val (.ref a9), .val (.ref a10), .val (.int v11), .val (.ref a10), .val (.ref a14), .val (.ref a10), .unset, .unset] [.ref a10]
        refine Wk.astore (Ls' := #[.val (.int x0), .val (.int x1), .val (.ref a6), .val (.ref a7), .val (.ref a6), .val (.ref a9), .val (.ref a10), .val (.int v11), .val (.ref a10), .val (.ref a14), .val (.ref a10), .val (.ref a10), .unset]) (pc' := 130) C at_128 rfl rfl rfl ?_
        refine Wk.aload (pc' := 132) C at_130 rfl rfl rfl ?_
        refine Wk.ifnonnullYes (pc' := 152) C at_132 (by decide) (by decide) ?_
        refine Wk.aload (pc' := 154) C at_152 rfl rfl rfl ?_
        refine Wk.aload (pc' := 156) C at_154 rfl rfl rfl ?_
        refine Wk.acmp (pc' := 159) (same := true) C at_156 rfl rfl (decide_eq_true rfl) (by decide) (by decide) ?_
        refine Wk.iconst (z := (1 : Int32)) (pc' := 160) C at_159 rfl rfl ?_
        refine Wk.goto (pc' := 164) C at_160 (by decide) (by decide) ?_
        refine Wk.istore (Ls' := #[.val (.int x0), .val (.int x1), .val (.ref a6), .val (.ref a7), .val (.ref a6), .val (.ref a9), .val (.ref a10), .val (.int v11), .val (.ref a10), .val (.ref a14), .val (.ref a10), .val (.ref a10), .val (.int (1 : Int32))]) (pc' := 166) C at_164 rfl rfl ?_
        refine Wk.iload (pc' := 168) C at_166 rfl rfl ?_
        refine Wk.if_eq (pcT := 182) (pcF := 171) C at_168 (by decide) (by decide) rfl (fun q => absurd q (by decide)) (fun _ => ?_)
        refine Wk.aload (pc' := 173) C at_171 rfl rfl rfl ?_
        refine Wk.aload (pc' := 175) C at_173 rfl rfl rfl ?_
        refine Wk.acmp (pc' := 178) (same := true) C at_175 rfl rfl (decide_eq_true rfl) (by decide) (by decide) ?_
        refine Wk.iconst (z := (1 : Int32)) (pc' := 179) C at_178 rfl rfl ?_
        refine Wk.goto (pc' := 183) C at_179 (by decide) (by decide) ?_
        refine Wk.istore (Ls' := #[.val (.int x0), .val (.int x1), .val (.ref a6), .val (.ref a7), .val (.ref a6), .val (.ref a9), .val (.ref a10), .val (.int v11), .val (.ref a10), .val (.ref a14), .val (.ref a10), .val (.ref a10), .val (.int (1 : Int32))]) (pc' := 185) C at_183 rfl rfl ?_
        refine Wk.iload (pc' := 187) C at_185 rfl rfl ?_
        refine Wk.if_eq (pcT := 205) (pcF := 190) C at_187 (by decide) (by decide) rfl (fun q => absurd q (by decide)) (fun _ => ?_)
        refine Wk.aloadN (pc' := 191) C at_190 rfl rfl rfl ?_
        refine Wk.arraylength (pc' := 192) (q := 5) (z := (0 : Int32)) C at_191 rfl (fun _ A => ⟨A.1, A.2.2.1⟩) rfl rfl ?_
        refine Wk.if_ne (pcT := 205) (pcF := 195) C at_192 (by decide) (by decide) rfl (fun q => absurd q (by decide)) (fun _ => ?_)
        refine Wk.aload (pc' := 197) C at_195 rfl rfl rfl ?_
        refine Wk.arraylength (pc' := 198) (q := 3) (z := (0 : Int32)) C at_197 rfl (fun _ A => ⟨A.1, A.2.2.1⟩) rfl rfl ?_
        refine Wk.if_ne (pcT := 205) (pcF := 201) C at_198 (by decide) (by decide) rfl (fun q => absurd q (by decide)) (fun _ => ?_)
        refine Wk.iconst (z := (1 : Int32)) (pc' := 202) C at_201 rfl rfl ?_
        refine Wk.goto (pc' := 206) C at_202 (by decide) (by decide) ?_
        refine Wk.istore (Ls' := #[.val (.int x0), .val (.int x1), .val (.ref a6), .val (.ref a7), .val (.ref a6), .val (.ref a9), .val (.ref a10), .val (.int v11), .val (.ref a10), .val (.ref a14), .val (.ref a10), .val (.ref a10), .val (.int (1 : Int32))]) (pc' := 208) C at_206 rfl rfl ?_
        refine Wk.iload (pc' := 210) C at_208 rfl rfl ?_
        refine Wk.if_eq (pcT := 242) (pcF := 213) C at_210 (by decide) (by decide) rfl (fun q => absurd q (by decide)) (fun _ => ?_)
        refine Wk.aloadN (pc' := 214) C at_213 rfl rfl rfl ?_
        refine Wk.arraylength (pc' := 215) (q := 4) (z := (2 : Int32)) C at_214 rfl (fun _ A => ⟨A.1, A.2.2.1⟩) rfl rfl ?_
        refine Wk.iconst (z := (2 : Int32)) (pc' := 216) C at_215 rfl rfl ?_
        refine Wk.icmp_ne (pcT := 242) (pcF := 219) C at_216 (by decide) (by decide) rfl (fun q => absurd q (by decide)) (fun _ => ?_)
        refine Wk.aloadN (pc' := 220) C at_219 rfl rfl rfl ?_
        refine Wk.iconst (z := (0 : Int32)) (pc' := 221) C at_220 rfl rfl ?_
        refine Wk.baload (pc' := 222) (q := 4) (i := 0) C at_221 rfl (by decide) (by decide) rfl ?_
        change Wk p l e _ m _ below meth c _ _ n0 ((a14, ObjC Z "com/example/quorumgate/quorumgate/cluster/Command$PutIfAbsent" ks_2 [.ref a15, .ref a6]) :: (a15, ObjC Z "com/example/quorumgate/quorumgate/cluster/Key" ks_1 [.ref a16]) :: (a10, ArrC Z .byte 2 (upd (upd (fun _ => 0) 0 ((x1.toInt8.toInt32).toInt8.toInt32)) 1 (((x1 >>> ((8 : Int32) &&& 31)).toInt8.toInt32).toInt8.toInt32))) :: (a9, ArrC Z .byte 0 (fun _ => 0)) :: (a7, ArrC Z .byte 2 (upd (upd (fun _ => 0) 0 ((x0.toInt8.toInt32).toInt8.toInt32)) 1 (((x0 >>> ((8 : Int32) &&& 31)).toInt8.toInt32).toInt8.toInt32))) :: (a6, ArrC Z .byte 0 (fun _ => 0)) :: []) 12 51 222 #[.val (.int x0), .val (.int x1), .val (.ref a6), .val (.ref a7), .val (.ref a6), .val (.ref a9), .val (.ref a10), .val (.int v11), .val (.ref a10), .val (.ref a14), .val (.ref a10), .val (.ref a10), .val (.int (1 : Int32))] [.int ((x0.toInt8.toInt32).toInt8.toInt32)]
        refine Wk.iloadN (pc' := 223) C at_222 rfl rfl ?_
        refine Wk.i2b (pc' := 224) C at_223 rfl ?_
        refine Wk.icmp_ne (pcT := 242) (pcF := 227) C at_224 (by decide) (by decide) rfl (fun c17 => (show False from c17 (by simp)).elim) (fun c17 => ?_)
        refine Wk.aloadN (pc' := 228) C at_227 rfl rfl rfl ?_
        refine Wk.iconst (z := (1 : Int32)) (pc' := 229) C at_228 rfl rfl ?_
        refine Wk.baload (pc' := 230) (q := 4) (i := 1) C at_229 rfl (by decide) (by decide) rfl ?_
        change Wk p l e _ m _ below meth c _ _ n0 ((a14, ObjC Z "com/example/quorumgate/quorumgate/cluster/Command$PutIfAbsent" ks_2 [.ref a15, .ref a6]) :: (a15, ObjC Z "com/example/quorumgate/quorumgate/cluster/Key" ks_1 [.ref a16]) :: (a10, ArrC Z .byte 2 (upd (upd (fun _ => 0) 0 ((x1.toInt8.toInt32).toInt8.toInt32)) 1 (((x1 >>> ((8 : Int32) &&& 31)).toInt8.toInt32).toInt8.toInt32))) :: (a9, ArrC Z .byte 0 (fun _ => 0)) :: (a7, ArrC Z .byte 2 (upd (upd (fun _ => 0) 0 ((x0.toInt8.toInt32).toInt8.toInt32)) 1 (((x0 >>> ((8 : Int32) &&& 31)).toInt8.toInt32).toInt8.toInt32))) :: (a6, ArrC Z .byte 0 (fun _ => 0)) :: []) 12 51 230 #[.val (.int x0), .val (.int x1), .val (.ref a6), .val (.ref a7), .val (.ref a6), .val (.ref a9), .val (.ref a10), .val (.int v11), .val (.ref a10), .val (.ref a14), .val (.ref a10), .val (.ref a10), .val (.int (1 : Int32))] [.int (((x0 >>> ((8 : Int32) &&& 31)).toInt8.toInt32).toInt8.toInt32)]
        refine Wk.iloadN (pc' := 231) C at_230 rfl rfl ?_
        refine Wk.bipush (z := (8 : Int32)) (pc' := 233) C at_231 rfl rfl ?_
        refine Wk.ishr (pc' := 234) C at_233 rfl ?_
        refine Wk.i2b (pc' := 235) C at_234 rfl ?_
        refine Wk.icmp_ne (pcT := 242) (pcF := 238) C at_235 (by decide) (by decide) rfl (fun c18 => (show False from c18 (by simp)).elim) (fun c18 => ?_)
        refine Wk.iconst (z := (1 : Int32)) (pc' := 239) C at_238 rfl rfl ?_
        refine Wk.goto (pc' := 243) C at_239 (by decide) (by decide) ?_
        refine Wk.istore (Ls' := #[.val (.int x0), .val (.int x1), .val (.ref a6), .val (.ref a7), .val (.ref a6), .val (.ref a9), .val (.ref a10), .val (.int v11), .val (.ref a10), .val (.ref a14), .val (.ref a10), .val (.ref a10), .val (.int (1 : Int32))]) (pc' := 245) C at_243 rfl rfl ?_
        refine Wk.iload (pc' := 247) C at_245 rfl rfl ?_
        refine Wk.if_eq (pcT := 282) (pcF := 250) C at_247 (by decide) (by decide) rfl (fun q => absurd q (by decide)) (fun _ => ?_)
        refine Wk.aload (pc' := 252) C at_250 rfl rfl rfl ?_
        refine Wk.arraylength (pc' := 253) (q := 2) (z := (2 : Int32)) C at_252 rfl (fun _ A => ⟨A.1, A.2.2.1⟩) rfl rfl ?_
        refine Wk.iconst (z := (2 : Int32)) (pc' := 254) C at_253 rfl rfl ?_
        refine Wk.icmp_ne (pcT := 282) (pcF := 257) C at_254 (by decide) (by decide) rfl (fun q => absurd q (by decide)) (fun _ => ?_)
        refine Wk.aload (pc' := 259) C at_257 rfl rfl rfl ?_
        refine Wk.iconst (z := (0 : Int32)) (pc' := 260) C at_259 rfl rfl ?_
        refine Wk.baload (pc' := 261) (q := 2) (i := 0) C at_260 rfl (by decide) (by decide) rfl ?_
        change Wk p l e _ m _ below meth c _ _ n0 ((a14, ObjC Z "com/example/quorumgate/quorumgate/cluster/Command$PutIfAbsent" ks_2 [.ref a15, .ref a6]) :: (a15, ObjC Z "com/example/quorumgate/quorumgate/cluster/Key" ks_1 [.ref a16]) :: (a10, ArrC Z .byte 2 (upd (upd (fun _ => 0) 0 ((x1.toInt8.toInt32).toInt8.toInt32)) 1 (((x1 >>> ((8 : Int32) &&& 31)).toInt8.toInt32).toInt8.toInt32))) :: (a9, ArrC Z .byte 0 (fun _ => 0)) :: (a7, ArrC Z .byte 2 (upd (upd (fun _ => 0) 0 ((x0.toInt8.toInt32).toInt8.toInt32)) 1 (((x0 >>> ((8 : Int32) &&& 31)).toInt8.toInt32).toInt8.toInt32))) :: (a6, ArrC Z .byte 0 (fun _ => 0)) :: []) 12 51 261 #[.val (.int x0), .val (.int x1), .val (.ref a6), .val (.ref a7), .val (.ref a6), .val (.ref a9), .val (.ref a10), .val (.int v11), .val (.ref a10), .val (.ref a14), .val (.ref a10), .val (.ref a10), .val (.int (1 : Int32))] [.int ((x1.toInt8.toInt32).toInt8.toInt32)]
        refine Wk.iloadN (pc' := 262) C at_261 rfl rfl ?_
        refine Wk.i2b (pc' := 263) C at_262 rfl ?_
        refine Wk.icmp_ne (pcT := 282) (pcF := 266) C at_263 (by decide) (by decide) rfl (fun c19 => (show False from c19 (by simp)).elim) (fun c19 => ?_)
        refine Wk.aload (pc' := 268) C at_266 rfl rfl rfl ?_
        refine Wk.iconst (z := (1 : Int32)) (pc' := 269) C at_268 rfl rfl ?_
        refine Wk.baload (pc' := 270) (q := 2) (i := 1) C at_269 rfl (by decide) (by decide) rfl ?_
        change Wk p l e _ m _ below meth c _ _ n0 ((a14, ObjC Z "com/example/quorumgate/quorumgate/cluster/Command$PutIfAbsent" ks_2 [.ref a15, .ref a6]) :: (a15, ObjC Z "com/example/quorumgate/quorumgate/cluster/Key" ks_1 [.ref a16]) :: (a10, ArrC Z .byte 2 (upd (upd (fun _ => 0) 0 ((x1.toInt8.toInt32).toInt8.toInt32)) 1 (((x1 >>> ((8 : Int32) &&& 31)).toInt8.toInt32).toInt8.toInt32))) :: (a9, ArrC Z .byte 0 (fun _ => 0)) :: (a7, ArrC Z .byte 2 (upd (upd (fun _ => 0) 0 ((x0.toInt8.toInt32).toInt8.toInt32)) 1 (((x0 >>> ((8 : Int32) &&& 31)).toInt8.toInt32).toInt8.toInt32))) :: (a6, ArrC Z .byte 0 (fun _ => 0)) :: []) 12 51 270 #[.val (.int x0), .val (.int x1), .val (.ref a6), .val (.ref a7), .val (.ref a6), .val (.ref a9), .val (.ref a10), .val (.int v11), .val (.ref a10), .val (.ref a14), .val (.ref a10), .val (.ref a10), .val (.int (1 : Int32))] [.int (((x1 >>> ((8 : Int32) &&& 31)).toInt8.toInt32).toInt8.toInt32)]
        refine Wk.iloadN (pc' := 271) C at_270 rfl rfl ?_
        refine Wk.bipush (z := (8 : Int32)) (pc' := 273) C at_271 rfl rfl ?_
        refine Wk.ishr (pc' := 274) C at_273 rfl ?_
        refine Wk.i2b (pc' := 275) C at_274 rfl ?_
        refine Wk.icmp_ne (pcT := 282) (pcF := 278) C at_275 (by decide) (by decide) rfl (fun c20 => (show False from c20 (by simp)).elim) (fun c20 => ?_)
        refine Wk.iconst (z := (1 : Int32)) (pc' := 279) C at_278 rfl rfl ?_
        refine Wk.goto (pc' := 283) C at_279 (by decide) (by decide) ?_
        refine Wk.istore (Ls' := #[.val (.int x0), .val (.int x1), .val (.ref a6), .val (.ref a7), .val (.ref a6), .val (.ref a9), .val (.ref a10), .val (.int v11), .val (.ref a10), .val (.ref a14), .val (.ref a10), .val (.ref a10), .val (.int (1 : Int32))]) (pc' := 285) C at_283 rfl rfl ?_
        refine Wk.iload (pc' := 287) C at_285 rfl rfl ?_
        exact Wk.retN C J at_287 (by decide) (by decide) (by simp) rfl (fun h O => rfl)
      · skip
        subst c13
        refine Wk.aload (pc' := 85) C at_83 rfl rfl rfl ?_
        refine Wk.goto (pc' := 90) C at_85 (by decide) (by decide) ?_
        refine Wk.astore (Ls' := #[.val (.int x0), .val (.int x1), .val (.ref a6), .val (.ref a7), .val (.ref a6), .val (.ref a9), .val (.ref a10), .val (.int (1 : Int32)), .val (.ref a9), .unset, .unset, .unset, .unset]) (pc' := 92) C at_90 rfl rfl rfl ?_
        refine Wk.new (pc' := 95) (ks := ks_2) (vs := [.null, .null]) C (w1 hw) (w2 hw) (w3 hw) (lays_ks_2 hw) at_92 rfl (by decide) (by decide) rfl ?_
        intro a21
        change Wk p l e _ m _ below meth c _ _ n0 ((a21, ObjC Z "com/example/quorumgate/quorumgate/cluster/Command$PutIfAbsent" ks_2 [.null, .null]) :: (a10, ArrC Z .byte 2 (upd (upd (fun _ => 0) 0 ((x1.toInt8.toInt32).toInt8.toInt32)) 1 (((x1 >>> ((8 : Int32) &&& 31)).toInt8.toInt32).toInt8.toInt32))) :: (a9, ArrC Z .byte 0 (fun _ => 0)) :: (a7, ArrC Z .byte 2 (upd (upd (fun _ => 0) 0 ((x0.toInt8.toInt32).toInt8.toInt32)) 1 (((x0 >>> ((8 : Int32) &&& 31)).toInt8.toInt32).toInt8.toInt32))) :: (a6, ArrC Z .byte 0 (fun _ => 0)) :: []) 5 6 95 #[.val (.int x0), .val (.int x1), .val (.ref a6), .val (.ref a7), .val (.ref a6), .val (.ref a9), .val (.ref a10), .val (.int (1 : Int32)), .val (.ref a9), .unset, .unset, .unset, .unset] [.ref a21]
        refine Wk.dup (pc' := 96) C at_95 rfl rfl ?_
        refine Wk.new (pc' := 99) (ks := ks_1) (vs := [.null]) C (w4 hw) (w5 hw) (w6 hw) (lays_ks_1 hw) at_96 rfl (by decide) (by decide) rfl ?_
        intro a22
        change Wk p l e _ m _ below meth c _ _ n0 ((a22, ObjC Z "com/example/quorumgate/quorumgate/cluster/Key" ks_1 [.null]) :: (a21, ObjC Z "com/example/quorumgate/quorumgate/cluster/Command$PutIfAbsent" ks_2 [.null, .null]) :: (a10, ArrC Z .byte 2 (upd (upd (fun _ => 0) 0 ((x1.toInt8.toInt32).toInt8.toInt32)) 1 (((x1 >>> ((8 : Int32) &&& 31)).toInt8.toInt32).toInt8.toInt32))) :: (a9, ArrC Z .byte 0 (fun _ => 0)) :: (a7, ArrC Z .byte 2 (upd (upd (fun _ => 0) 0 ((x0.toInt8.toInt32).toInt8.toInt32)) 1 (((x0 >>> ((8 : Int32) &&& 31)).toInt8.toInt32).toInt8.toInt32))) :: (a6, ArrC Z .byte 0 (fun _ => 0)) :: []) 6 7 99 #[.val (.int x0), .val (.int x1), .val (.ref a6), .val (.ref a7), .val (.ref a6), .val (.ref a9), .val (.ref a10), .val (.int (1 : Int32)), .val (.ref a9), .unset, .unset, .unset, .unset] [.ref a22, .ref a21, .ref a21]
        refine Wk.dup (pc' := 100) C at_99 rfl rfl ?_
        refine Wk.ldcK (pc' := 102) (nS := 4) C (w7 hw) (wSt hw) hh hcw hn0 hst hcz hvf ⟨by decide, by decide⟩ ?_ at_100 (by decide) (by decide) (by decide) (by decide) rfl ?_
        · intro x hx
          simp only [List.mem_cons, List.not_mem_nil, or_false] at hx
          rcases hx with rfl | rfl | rfl | rfl | rfl | rfl
          · exact Away.obj (w5 hw) (by decide)
          · exact Away.obj (w2 hw) (by decide)
          · exact Away.arr (by decide)
          · exact Away.arr (by decide)
          · exact Away.arr (by decide)
          · exact Away.arr (by decide)
        clear hn0 hst
        intro a23 rb n0 K
        replace C := C1
        change Wk p l e _ m _ below meth c _ _ n0 ((a22, ObjC Z "com/example/quorumgate/quorumgate/cluster/Key" ks_1 [.null]) :: (a21, ObjC Z "com/example/quorumgate/quorumgate/cluster/Command$PutIfAbsent" ks_2 [.null, .null]) :: (a10, ArrC Z .byte 2 (upd (upd (fun _ => 0) 0 ((x1.toInt8.toInt32).toInt8.toInt32)) 1 (((x1 >>> ((8 : Int32) &&& 31)).toInt8.toInt32).toInt8.toInt32))) :: (a9, ArrC Z .byte 0 (fun _ => 0)) :: (a7, ArrC Z .byte 2 (upd (upd (fun _ => 0) 0 ((x0.toInt8.toInt32).toInt8.toInt32)) 1 (((x0 >>> ((8 : Int32) &&& 31)).toInt8.toInt32).toInt8.toInt32))) :: (a6, ArrC Z .byte 0 (fun _ => 0)) :: []) 8 15 102 #[.val (.int x0), .val (.int x1), .val (.ref a6), .val (.ref a7), .val (.ref a6), .val (.ref a9), .val (.ref a10), .val (.int (1 : Int32)), .val (.ref a9), .unset, .unset, .unset, .unset] [.ref a23, .ref a22, .ref a22, .ref a21, .ref a21]
        refine Wk.callIW (pc' := 105) (rm := { frames := 4, cells := 2, slots := 20, locals := 53 }) (W0 := 3) (a := a22) (argsL := [.ref a23]) (st := [.ref a22, .ref a21, .ref a21]) C rfl rfl (w14 hw) (w15 hw) (w6 hw) (w16 hw) (by decide) (fun h O => rm1 l Z a0 hw a22 a23 ((a21, ObjC Z "com/example/quorumgate/quorumgate/cluster/Command$PutIfAbsent" ks_2 [.null, .null]) :: (a10, ArrC Z .byte 2 (upd (upd (fun _ => 0) 0 ((x1.toInt8.toInt32).toInt8.toInt32)) 1 (((x1 >>> ((8 : Int32) &&& 31)).toInt8.toInt32).toInt8.toInt32))) :: (a9, ArrC Z .byte 0 (fun _ => 0)) :: (a7, ArrC Z .byte 2 (upd (upd (fun _ => 0) 0 ((x0.toInt8.toInt32).toInt8.toInt32)) 1 (((x0 >>> ((8 : Int32) &&& 31)).toInt8.toInt32).toInt8.toInt32))) :: (a6, ArrC Z .byte 0 (fun _ => 0)) :: []) rb sa sb cz vf h n0 O K) (by decide) (by decide) (by decide) (by decide) at_102 rfl pd_11 rfl rfl rfl rfl ?_
        rintro _ h' ⟨rfl, O'⟩
        refine ⟨_, O', ?_⟩
        change Wk p l e _ m _ below meth c _ _ n0 ((a22, ObjC Z "com/example/quorumgate/quorumgate/cluster/Key" ks_1 [.ref a23]) :: (a21, ObjC Z "com/example/quorumgate/quorumgate/cluster/Command$PutIfAbsent" ks_2 [.null, .null]) :: (a10, ArrC Z .byte 2 (upd (upd (fun _ => 0) 0 ((x1.toInt8.toInt32).toInt8.toInt32)) 1 (((x1 >>> ((8 : Int32) &&& 31)).toInt8.toInt32).toInt8.toInt32))) :: (a9, ArrC Z .byte 0 (fun _ => 0)) :: (a7, ArrC Z .byte 2 (upd (upd (fun _ => 0) 0 ((x0.toInt8.toInt32).toInt8.toInt32)) 1 (((x0 >>> ((8 : Int32) &&& 31)).toInt8.toInt32).toInt8.toInt32))) :: (a6, ArrC Z .byte 0 (fun _ => 0)) :: []) 10 35 105 #[.val (.int x0), .val (.int x1), .val (.ref a6), .val (.ref a7), .val (.ref a6), .val (.ref a9), .val (.ref a10), .val (.int (1 : Int32)), .val (.ref a9), .unset, .unset, .unset, .unset] [.ref a22, .ref a21, .ref a21]
        refine Wk.aload (pc' := 107) C at_105 rfl rfl rfl ?_
        refine Wk.recast (L' := ((a21, ObjC Z "com/example/quorumgate/quorumgate/cluster/Command$PutIfAbsent" ks_2 [.null, .null]) :: (a22, ObjC Z "com/example/quorumgate/quorumgate/cluster/Key" ks_1 [.ref a23]) :: (a10, ArrC Z .byte 2 (upd (upd (fun _ => 0) 0 ((x1.toInt8.toInt32).toInt8.toInt32)) 1 (((x1 >>> ((8 : Int32) &&& 31)).toInt8.toInt32).toInt8.toInt32))) :: (a9, ArrC Z .byte 0 (fun _ => 0)) :: (a7, ArrC Z .byte 2 (upd (upd (fun _ => 0) 0 ((x0.toInt8.toInt32).toInt8.toInt32)) 1 (((x0 >>> ((8 : Int32) &&& 31)).toInt8.toInt32).toInt8.toInt32))) :: (a6, ArrC Z .byte 0 (fun _ => 0)) :: [])) ?_ (fun h O => (O.front 1 rfl))
        refine Wk.callIW (pc' := 110) (rm := { frames := 2, cells := 2, slots := 16, locals := 26 }) (W0 := 1) (a := a21) (argsL := [.ref a22, .ref a6]) (st := [.ref a21]) C rfl rfl (w75 hw) (w76 hw) (w3 hw) (w77 hw) (by decide) (fun h O => rm14 l Z a0 hw a21 a22 a6 ((a22, ObjC Z "com/example/quorumgate/quorumgate/cluster/Key" ks_1 [.ref a23]) :: (a10, ArrC Z .byte 2 (upd (upd (fun _ => 0) 0 ((x1.toInt8.toInt32).toInt8.toInt32)) 1 (((x1 >>> ((8 : Int32) &&& 31)).toInt8.toInt32).toInt8.toInt32))) :: (a9, ArrC Z .byte 0 (fun _ => 0)) :: (a7, ArrC Z .byte 2 (upd (upd (fun _ => 0) 0 ((x0.toInt8.toInt32).toInt8.toInt32)) 1 (((x0 >>> ((8 : Int32) &&& 31)).toInt8.toInt32).toInt8.toInt32))) :: (a6, ArrC Z .byte 0 (fun _ => 0)) :: []) 4 0 (fun _ => 0) h n0 O rfl (by decide)) (by decide) (by decide) (by decide) (by decide) at_107 rfl pd_10 rfl rfl rfl rfl ?_
        rintro _ h' ⟨rfl, O'⟩
        refine ⟨_, O', ?_⟩
        change Wk p l e _ m _ below meth c _ _ n0 ((a21, ObjC Z "com/example/quorumgate/quorumgate/cluster/Command$PutIfAbsent" ks_2 [.ref a22, .ref a6]) :: (a22, ObjC Z "com/example/quorumgate/quorumgate/cluster/Key" ks_1 [.ref a23]) :: (a10, ArrC Z .byte 2 (upd (upd (fun _ => 0) 0 ((x1.toInt8.toInt32).toInt8.toInt32)) 1 (((x1 >>> ((8 : Int32) &&& 31)).toInt8.toInt32).toInt8.toInt32))) :: (a9, ArrC Z .byte 0 (fun _ => 0)) :: (a7, ArrC Z .byte 2 (upd (upd (fun _ => 0) 0 ((x0.toInt8.toInt32).toInt8.toInt32)) 1 (((x0 >>> ((8 : Int32) &&& 31)).toInt8.toInt32).toInt8.toInt32))) :: (a6, ArrC Z .byte 0 (fun _ => 0)) :: []) 12 51 110 #[.val (.int x0), .val (.int x1), .val (.ref a6), .val (.ref a7), .val (.ref a6), .val (.ref a9), .val (.ref a10), .val (.int (1 : Int32)), .val (.ref a9), .unset, .unset, .unset, .unset] [.ref a21]
        refine Wk.astore (Ls' := #[.val (.int x0), .val (.int x1), .val (.ref a6), .val (.ref a7), .val (.ref a6), .val (.ref a9), .val (.ref a10), .val (.int (1 : Int32)), .val (.ref a9), .val (.ref a21), .unset, .unset, .unset]) (pc' := 112) C at_110 rfl rfl rfl ?_
        refine Wk.aload (pc' := 114) C at_112 rfl rfl rfl ?_
        refine Wk.aload (pc' := 116) C at_114 rfl rfl rfl ?_
        refine Wk.callV (pc' := 119) (rm := { frames := 0, cells := 0, slots := 0, locals := 0 }) (W0 := 0) (q := 0) (argsL := [.ref a9]) (st := []) C rfl (w90 hw) (w91 hw) (w93 hw) (w92 hw) (w3 hw) (w94 hw) (by decide) (fun h O => rm16r l Z a0 hw a21 a9 ((a21, ObjC Z "com/example/quorumgate/quorumgate/cluster/Command$PutIfAbsent" ks_2 [.ref a22, .ref a6]) :: (a22, ObjC Z "com/example/quorumgate/quorumgate/cluster/Key" ks_1 [.ref a23]) :: (a10, ArrC Z .byte 2 (upd (upd (fun _ => 0) 0 ((x1.toInt8.toInt32).toInt8.toInt32)) 1 (((x1 >>> ((8 : Int32) &&& 31)).toInt8.toInt32).toInt8.toInt32))) :: (a9, ArrC Z .byte 0 (fun _ => 0)) :: (a7, ArrC Z .byte 2 (upd (upd (fun _ => 0) 0 ((x0.toInt8.toInt32).toInt8.toInt32)) 1 (((x0 >>> ((8 : Int32) &&& 31)).toInt8.toInt32).toInt8.toInt32))) :: (a6, ArrC Z .byte 0 (fun _ => 0)) :: []) 0 a22 a6 h n0 O rfl) (by decide) (by decide) (by decide) (by decide) at_116 rfl pd_12 rfl rfl rfl rfl ?_
        rintro _ h' ⟨rfl, O'⟩
        refine ⟨_, O', ?_⟩
        change Wk p l e _ m _ below meth c _ _ n0 ((a21, ObjC Z "com/example/quorumgate/quorumgate/cluster/Command$PutIfAbsent" ks_2 [.ref a22, .ref a6]) :: (a22, ObjC Z "com/example/quorumgate/quorumgate/cluster/Key" ks_1 [.ref a23]) :: (a10, ArrC Z .byte 2 (upd (upd (fun _ => 0) 0 ((x1.toInt8.toInt32).toInt8.toInt32)) 1 (((x1 >>> ((8 : Int32) &&& 31)).toInt8.toInt32).toInt8.toInt32))) :: (a9, ArrC Z .byte 0 (fun _ => 0)) :: (a7, ArrC Z .byte 2 (upd (upd (fun _ => 0) 0 ((x0.toInt8.toInt32).toInt8.toInt32)) 1 (((x0 >>> ((8 : Int32) &&& 31)).toInt8.toInt32).toInt8.toInt32))) :: (a6, ArrC Z .byte 0 (fun _ => 0)) :: []) 12 51 119 #[.val (.int x0), .val (.int x1), .val (.ref a6), .val (.ref a7), .val (.ref a6), .val (.ref a9), .val (.ref a10), .val (.int (1 : Int32)), .val (.ref a9), .val (.ref a21), .unset, .unset, .unset] [.ref a9]
        refine Wk.astore (Ls' := #[.val (.int x0), .val (.int x1), .val (.ref a6), .val (.ref a7), .val (.ref a6), .val (.ref a9), .val (.ref a10), .val (.int (1 : Int32)), .val (.ref a9), .val (.ref a21), .val (.ref a9), .unset, .unset]) (pc' := 121) C at_119 rfl rfl rfl ?_
        refine Wk.aload (pc' := 123) C at_121 rfl rfl rfl ?_
        refine Wk.aload (pc' := 125) C at_123 rfl rfl rfl ?_
        refine Wk.callV (pc' := 128) (rm := { frames := 0, cells := 0, slots := 0, locals := 0 }) (W0 := 0) (q := 0) (argsL := [.ref a9]) (st := []) C rfl (w90 hw) (w91 hw) (w93 hw) (w92 hw) (w3 hw) (w94 hw) (by decide) (fun h O => rm16r l Z a0 hw a21 a9 ((a21, ObjC Z "com/example/quorumgate/quorumgate/cluster/Command$PutIfAbsent" ks_2 [.ref a22, .ref a6]) :: (a22, ObjC Z "com/example/quorumgate/quorumgate/cluster/Key" ks_1 [.ref a23]) :: (a10, ArrC Z .byte 2 (upd (upd (fun _ => 0) 0 ((x1.toInt8.toInt32).toInt8.toInt32)) 1 (((x1 >>> ((8 : Int32) &&& 31)).toInt8.toInt32).toInt8.toInt32))) :: (a9, ArrC Z .byte 0 (fun _ => 0)) :: (a7, ArrC Z .byte 2 (upd (upd (fun _ => 0) 0 ((x0.toInt8.toInt32).toInt8.toInt32)) 1 (((x0 >>> ((8 : Int32) &&& 31)).toInt8.toInt32).toInt8.toInt32))) :: (a6, ArrC Z .byte 0 (fun _ => 0)) :: []) 0 a22 a6 h n0 O rfl) (by decide) (by decide) (by decide) (by decide) at_125 rfl pd_12 rfl rfl rfl rfl ?_
        rintro _ h' ⟨rfl, O'⟩
        refine ⟨_, O', ?_⟩
        change Wk p l e _ m _ below meth c _ _ n0 ((a21, ObjC Z "com/example/quorumgate/quorumgate/cluster/Command$PutIfAbsent" ks_2 [.ref a22, .ref a6]) :: (a22, ObjC Z "com/example/quorumgate/quorumgate/cluster/Key" ks_1 [.ref a23]) :: (a10, ArrC Z .byte 2 (upd (upd (fun _ => 0) 0 ((x1.toInt8.toInt32).toInt8.toInt32)) 1 (((x1 >>> ((8 : Int32) &&& 31)).toInt8.toInt32).toInt8.toInt32))) :: (a9, ArrC Z .byte 0 (fun _ => 0)) :: (a7, ArrC Z .byte 2 (upd (upd (fun _ => 0) 0 ((x0.toInt8.toInt32).toInt8.toInt32)) 1 (((x0 >>> ((8 : Int32) &&& 31)).toInt8.toInt32).toInt8.toInt32))) :: (a6, ArrC Z .byte 0 (fun _ => 0)) :: []) 12 51 128 #[.val (.int x0), .val (.int x1), .val (.ref a6), .val (.ref a7), .val (.ref a6), .val (.ref a9), .val (.ref a10), .val (.int (1 : Int32)), .val (.ref a9), .val (.ref a21), .val (.ref a9), .unset, .unset] [.ref a9]
        refine Wk.astore (Ls' := #[.val (.int x0), .val (.int x1), .val (.ref a6), .val (.ref a7), .val (.ref a6), .val (.ref a9), .val (.ref a10), .val (.int (1 : Int32)), .val (.ref a9), .val (.ref a21), .val (.ref a9), .val (.ref a9), .unset]) (pc' := 130) C at_128 rfl rfl rfl ?_
        refine Wk.aload (pc' := 132) C at_130 rfl rfl rfl ?_
        refine Wk.ifnonnullYes (pc' := 152) C at_132 (by decide) (by decide) ?_
        refine Wk.aload (pc' := 154) C at_152 rfl rfl rfl ?_
        refine Wk.aload (pc' := 156) C at_154 rfl rfl rfl ?_
        refine Wk.acmp (pc' := 159) (same := true) C at_156 rfl rfl (decide_eq_true rfl) (by decide) (by decide) ?_
        refine Wk.iconst (z := (1 : Int32)) (pc' := 160) C at_159 rfl rfl ?_
        refine Wk.goto (pc' := 164) C at_160 (by decide) (by decide) ?_
        refine Wk.istore (Ls' := #[.val (.int x0), .val (.int x1), .val (.ref a6), .val (.ref a7), .val (.ref a6), .val (.ref a9), .val (.ref a10), .val (.int (1 : Int32)), .val (.ref a9), .val (.ref a21), .val (.ref a9), .val (.ref a9), .val (.int (1 : Int32))]) (pc' := 166) C at_164 rfl rfl ?_
        refine Wk.iload (pc' := 168) C at_166 rfl rfl ?_
        refine Wk.if_eq (pcT := 182) (pcF := 171) C at_168 (by decide) (by decide) rfl (fun q => absurd q (by decide)) (fun _ => ?_)
        refine Wk.aload (pc' := 173) C at_171 rfl rfl rfl ?_
        refine Wk.aload (pc' := 175) C at_173 rfl rfl rfl ?_
        refine Wk.acmp (pc' := 178) (same := true) C at_175 rfl rfl (decide_eq_true rfl) (by decide) (by decide) ?_
        refine Wk.iconst (z := (1 : Int32)) (pc' := 179) C at_178 rfl rfl ?_
        refine Wk.goto (pc' := 183) C at_179 (by decide) (by decide) ?_
        refine Wk.istore (Ls' := #[.val (.int x0), .val (.int x1), .val (.ref a6), .val (.ref a7), .val (.ref a6), .val (.ref a9), .val (.ref a10), .val (.int (1 : Int32)), .val (.ref a9), .val (.ref a21), .val (.ref a9), .val (.ref a9), .val (.int (1 : Int32))]) (pc' := 185) C at_183 rfl rfl ?_
        refine Wk.iload (pc' := 187) C at_185 rfl rfl ?_
        refine Wk.if_eq (pcT := 205) (pcF := 190) C at_187 (by decide) (by decide) rfl (fun q => absurd q (by decide)) (fun _ => ?_)
        refine Wk.aloadN (pc' := 191) C at_190 rfl rfl rfl ?_
        refine Wk.arraylength (pc' := 192) (q := 5) (z := (0 : Int32)) C at_191 rfl (fun _ A => ⟨A.1, A.2.2.1⟩) rfl rfl ?_
        refine Wk.if_ne (pcT := 205) (pcF := 195) C at_192 (by decide) (by decide) rfl (fun q => absurd q (by decide)) (fun _ => ?_)
        refine Wk.aload (pc' := 197) C at_195 rfl rfl rfl ?_
        refine Wk.arraylength (pc' := 198) (q := 3) (z := (0 : Int32)) C at_197 rfl (fun _ A => ⟨A.1, A.2.2.1⟩) rfl rfl ?_
        refine Wk.if_ne (pcT := 205) (pcF := 201) C at_198 (by decide) (by decide) rfl (fun q => absurd q (by decide)) (fun _ => ?_)
        refine Wk.iconst (z := (1 : Int32)) (pc' := 202) C at_201 rfl rfl ?_
        refine Wk.goto (pc' := 206) C at_202 (by decide) (by decide) ?_
        refine Wk.istore (Ls' := #[.val (.int x0), .val (.int x1), .val (.ref a6), .val (.ref a7), .val (.ref a6), .val (.ref a9), .val (.ref a10), .val (.int (1 : Int32)), .val (.ref a9), .val (.ref a21), .val (.ref a9), .val (.ref a9), .val (.int (1 : Int32))]) (pc' := 208) C at_206 rfl rfl ?_
        refine Wk.iload (pc' := 210) C at_208 rfl rfl ?_
        refine Wk.if_eq (pcT := 242) (pcF := 213) C at_210 (by decide) (by decide) rfl (fun q => absurd q (by decide)) (fun _ => ?_)
        refine Wk.aloadN (pc' := 214) C at_213 rfl rfl rfl ?_
        refine Wk.arraylength (pc' := 215) (q := 4) (z := (2 : Int32)) C at_214 rfl (fun _ A => ⟨A.1, A.2.2.1⟩) rfl rfl ?_
        refine Wk.iconst (z := (2 : Int32)) (pc' := 216) C at_215 rfl rfl ?_
        refine Wk.icmp_ne (pcT := 242) (pcF := 219) C at_216 (by decide) (by decide) rfl (fun q => absurd q (by decide)) (fun _ => ?_)
        refine Wk.aloadN (pc' := 220) C at_219 rfl rfl rfl ?_
        refine Wk.iconst (z := (0 : Int32)) (pc' := 221) C at_220 rfl rfl ?_
        refine Wk.baload (pc' := 222) (q := 4) (i := 0) C at_221 rfl (by decide) (by decide) rfl ?_
        change Wk p l e _ m _ below meth c _ _ n0 ((a21, ObjC Z "com/example/quorumgate/quorumgate/cluster/Command$PutIfAbsent" ks_2 [.ref a22, .ref a6]) :: (a22, ObjC Z "com/example/quorumgate/quorumgate/cluster/Key" ks_1 [.ref a23]) :: (a10, ArrC Z .byte 2 (upd (upd (fun _ => 0) 0 ((x1.toInt8.toInt32).toInt8.toInt32)) 1 (((x1 >>> ((8 : Int32) &&& 31)).toInt8.toInt32).toInt8.toInt32))) :: (a9, ArrC Z .byte 0 (fun _ => 0)) :: (a7, ArrC Z .byte 2 (upd (upd (fun _ => 0) 0 ((x0.toInt8.toInt32).toInt8.toInt32)) 1 (((x0 >>> ((8 : Int32) &&& 31)).toInt8.toInt32).toInt8.toInt32))) :: (a6, ArrC Z .byte 0 (fun _ => 0)) :: []) 12 51 222 #[.val (.int x0), .val (.int x1), .val (.ref a6), .val (.ref a7), .val (.ref a6), .val (.ref a9), .val (.ref a10), .val (.int (1 : Int32)), .val (.ref a9), .val (.ref a21), .val (.ref a9), .val (.ref a9), .val (.int (1 : Int32))] [.int ((x0.toInt8.toInt32).toInt8.toInt32)]
        refine Wk.iloadN (pc' := 223) C at_222 rfl rfl ?_
        refine Wk.i2b (pc' := 224) C at_223 rfl ?_
        refine Wk.icmp_ne (pcT := 242) (pcF := 227) C at_224 (by decide) (by decide) rfl (fun c24 => (show False from c24 (by simp)).elim) (fun c24 => ?_)
        refine Wk.aloadN (pc' := 228) C at_227 rfl rfl rfl ?_
        refine Wk.iconst (z := (1 : Int32)) (pc' := 229) C at_228 rfl rfl ?_
        refine Wk.baload (pc' := 230) (q := 4) (i := 1) C at_229 rfl (by decide) (by decide) rfl ?_
        change Wk p l e _ m _ below meth c _ _ n0 ((a21, ObjC Z "com/example/quorumgate/quorumgate/cluster/Command$PutIfAbsent" ks_2 [.ref a22, .ref a6]) :: (a22, ObjC Z "com/example/quorumgate/quorumgate/cluster/Key" ks_1 [.ref a23]) :: (a10, ArrC Z .byte 2 (upd (upd (fun _ => 0) 0 ((x1.toInt8.toInt32).toInt8.toInt32)) 1 (((x1 >>> ((8 : Int32) &&& 31)).toInt8.toInt32).toInt8.toInt32))) :: (a9, ArrC Z .byte 0 (fun _ => 0)) :: (a7, ArrC Z .byte 2 (upd (upd (fun _ => 0) 0 ((x0.toInt8.toInt32).toInt8.toInt32)) 1 (((x0 >>> ((8 : Int32) &&& 31)).toInt8.toInt32).toInt8.toInt32))) :: (a6, ArrC Z .byte 0 (fun _ => 0)) :: []) 12 51 230 #[.val (.int x0), .val (.int x1), .val (.ref a6), .val (.ref a7), .val (.ref a6), .val (.ref a9), .val (.ref a10), .val (.int (1 : Int32)), .val (.ref a9), .val (.ref a21), .val (.ref a9), .val (.ref a9), .val (.int (1 : Int32))] [.int (((x0 >>> ((8 : Int32) &&& 31)).toInt8.toInt32).toInt8.toInt32)]
        refine Wk.iloadN (pc' := 231) C at_230 rfl rfl ?_
        refine Wk.bipush (z := (8 : Int32)) (pc' := 233) C at_231 rfl rfl ?_
        refine Wk.ishr (pc' := 234) C at_233 rfl ?_
        refine Wk.i2b (pc' := 235) C at_234 rfl ?_
        refine Wk.icmp_ne (pcT := 242) (pcF := 238) C at_235 (by decide) (by decide) rfl (fun c25 => (show False from c25 (by simp)).elim) (fun c25 => ?_)
        refine Wk.iconst (z := (1 : Int32)) (pc' := 239) C at_238 rfl rfl ?_
        refine Wk.goto (pc' := 243) C at_239 (by decide) (by decide) ?_
        refine Wk.istore (Ls' := #[.val (.int x0), .val (.int x1), .val (.ref a6), .val (.ref a7), .val (.ref a6), .val (.ref a9), .val (.ref a10), .val (.int (1 : Int32)), .val (.ref a9), .val (.ref a21), .val (.ref a9), .val (.ref a9), .val (.int (1 : Int32))]) (pc' := 245) C at_243 rfl rfl ?_
        refine Wk.iload (pc' := 247) C at_245 rfl rfl ?_
        refine Wk.if_eq (pcT := 282) (pcF := 250) C at_247 (by decide) (by decide) rfl (fun q => absurd q (by decide)) (fun _ => ?_)
        refine Wk.aload (pc' := 252) C at_250 rfl rfl rfl ?_
        refine Wk.arraylength (pc' := 253) (q := 2) (z := (2 : Int32)) C at_252 rfl (fun _ A => ⟨A.1, A.2.2.1⟩) rfl rfl ?_
        refine Wk.iconst (z := (2 : Int32)) (pc' := 254) C at_253 rfl rfl ?_
        refine Wk.icmp_ne (pcT := 282) (pcF := 257) C at_254 (by decide) (by decide) rfl (fun q => absurd q (by decide)) (fun _ => ?_)
        refine Wk.aload (pc' := 259) C at_257 rfl rfl rfl ?_
        refine Wk.iconst (z := (0 : Int32)) (pc' := 260) C at_259 rfl rfl ?_
        refine Wk.baload (pc' := 261) (q := 2) (i := 0) C at_260 rfl (by decide) (by decide) rfl ?_
        change Wk p l e _ m _ below meth c _ _ n0 ((a21, ObjC Z "com/example/quorumgate/quorumgate/cluster/Command$PutIfAbsent" ks_2 [.ref a22, .ref a6]) :: (a22, ObjC Z "com/example/quorumgate/quorumgate/cluster/Key" ks_1 [.ref a23]) :: (a10, ArrC Z .byte 2 (upd (upd (fun _ => 0) 0 ((x1.toInt8.toInt32).toInt8.toInt32)) 1 (((x1 >>> ((8 : Int32) &&& 31)).toInt8.toInt32).toInt8.toInt32))) :: (a9, ArrC Z .byte 0 (fun _ => 0)) :: (a7, ArrC Z .byte 2 (upd (upd (fun _ => 0) 0 ((x0.toInt8.toInt32).toInt8.toInt32)) 1 (((x0 >>> ((8 : Int32) &&& 31)).toInt8.toInt32).toInt8.toInt32))) :: (a6, ArrC Z .byte 0 (fun _ => 0)) :: []) 12 51 261 #[.val (.int x0), .val (.int x1), .val (.ref a6), .val (.ref a7), .val (.ref a6), .val (.ref a9), .val (.ref a10), .val (.int (1 : Int32)), .val (.ref a9), .val (.ref a21), .val (.ref a9), .val (.ref a9), .val (.int (1 : Int32))] [.int ((x1.toInt8.toInt32).toInt8.toInt32)]
        refine Wk.iloadN (pc' := 262) C at_261 rfl rfl ?_
        refine Wk.i2b (pc' := 263) C at_262 rfl ?_
        refine Wk.icmp_ne (pcT := 282) (pcF := 266) C at_263 (by decide) (by decide) rfl (fun c26 => (show False from c26 (by simp)).elim) (fun c26 => ?_)
        refine Wk.aload (pc' := 268) C at_266 rfl rfl rfl ?_
        refine Wk.iconst (z := (1 : Int32)) (pc' := 269) C at_268 rfl rfl ?_
        refine Wk.baload (pc' := 270) (q := 2) (i := 1) C at_269 rfl (by decide) (by decide) rfl ?_
        change Wk p l e _ m _ below meth c _ _ n0 ((a21, ObjC Z "com/example/quorumgate/quorumgate/cluster/Command$PutIfAbsent" ks_2 [.ref a22, .ref a6]) :: (a22, ObjC Z "com/example/quorumgate/quorumgate/cluster/Key" ks_1 [.ref a23]) :: (a10, ArrC Z .byte 2 (upd (upd (fun _ => 0) 0 ((x1.toInt8.toInt32).toInt8.toInt32)) 1 (((x1 >>> ((8 : Int32) &&& 31)).toInt8.toInt32).toInt8.toInt32))) :: (a9, ArrC Z .byte 0 (fun _ => 0)) :: (a7, ArrC Z .byte 2 (upd (upd (fun _ => 0) 0 ((x0.toInt8.toInt32).toInt8.toInt32)) 1 (((x0 >>> ((8 : Int32) &&& 31)).toInt8.toInt32).toInt8.toInt32))) :: (a6, ArrC Z .byte 0 (fun _ => 0)) :: []) 12 51 270 #[.val (.int x0), .val (.int x1), .val (.ref a6), .val (.ref a7), .val (.ref a6), .val (.ref a9), .val (.ref a10), .val (.int (1 : Int32)), .val (.ref a9), .val (.ref a21), .val (.ref a9), .val (.ref a9), .val (.int (1 : Int32))] [.int (((x1 >>> ((8 : Int32) &&& 31)).toInt8.toInt32).toInt8.toInt32)]
        refine Wk.iloadN (pc' := 271) C at_270 rfl rfl ?_
        refine Wk.bipush (z := (8 : Int32)) (pc' := 273) C at_271 rfl rfl ?_
        refine Wk.ishr (pc' := 274) C at_273 rfl ?_
        refine Wk.i2b (pc' := 275) C at_274 rfl ?_
        refine Wk.icmp_ne (pcT := 282) (pcF := 278) C at_275 (by decide) (by decide) rfl (fun c27 => (show False from c27 (by simp)).elim) (fun c27 => ?_)
        refine Wk.iconst (z := (1 : Int32)) (pc' := 279) C at_278 rfl rfl ?_
        refine Wk.goto (pc' := 283) C at_279 (by decide) (by decide) ?_
        refine Wk.istore (Ls' := #[.val (.int x0), .val (.int x1), .val (.ref a6), .val (.ref a7), .val (.ref a6), .val (.ref a9), .val (.ref a10), .val (.int (1 : Int32)), .val (.ref a9), .val (.ref a21), .val (.ref a9), .val (.ref a9), .val (.int (1 : Int32))]) (pc' := 285) C at_283 rfl rfl ?_
        refine Wk.iload (pc' := 287) C at_285 rfl rfl ?_
        exact Wk.retN C J at_287 (by decide) (by decide) (by simp) rfl (fun h O => rfl)
    · skip
      subst c12
      refine Wk.aconstNull (pc' := 74) C at_73 rfl ?_
      refine Wk.goto (pc' := 90) C at_74 (by decide) (by decide) ?_
      refine Wk.astore (Ls' := #[.val (.int x0), .val (.int x1), .val (.ref a6), .val (.ref a7), .val (.ref a6), .val (.ref a9), .val (.ref a10), .val (.int (0 : Int32)), .val (.null), .unset, .unset, .unset, .unset]) (pc' := 92) C at_90 rfl rfl rfl ?_
      refine Wk.new (pc' := 95) (ks := ks_2) (vs := [.null, .null]) C (w1 hw) (w2 hw) (w3 hw) (lays_ks_2 hw) at_92 rfl (by decide) (by decide) rfl ?_
      intro a28
      change Wk p l e _ m _ below meth c _ _ n0 ((a28, ObjC Z "com/example/quorumgate/quorumgate/cluster/Command$PutIfAbsent" ks_2 [.null, .null]) :: (a10, ArrC Z .byte 2 (upd (upd (fun _ => 0) 0 ((x1.toInt8.toInt32).toInt8.toInt32)) 1 (((x1 >>> ((8 : Int32) &&& 31)).toInt8.toInt32).toInt8.toInt32))) :: (a9, ArrC Z .byte 0 (fun _ => 0)) :: (a7, ArrC Z .byte 2 (upd (upd (fun _ => 0) 0 ((x0.toInt8.toInt32).toInt8.toInt32)) 1 (((x0 >>> ((8 : Int32) &&& 31)).toInt8.toInt32).toInt8.toInt32))) :: (a6, ArrC Z .byte 0 (fun _ => 0)) :: []) 5 6 95 #[.val (.int x0), .val (.int x1), .val (.ref a6), .val (.ref a7), .val (.ref a6), .val (.ref a9), .val (.ref a10), .val (.int (0 : Int32)), .val (.null), .unset, .unset, .unset, .unset] [.ref a28]
      refine Wk.dup (pc' := 96) C at_95 rfl rfl ?_
      refine Wk.new (pc' := 99) (ks := ks_1) (vs := [.null]) C (w4 hw) (w5 hw) (w6 hw) (lays_ks_1 hw) at_96 rfl (by decide) (by decide) rfl ?_
      intro a29
      change Wk p l e _ m _ below meth c _ _ n0 ((a29, ObjC Z "com/example/quorumgate/quorumgate/cluster/Key" ks_1 [.null]) :: (a28, ObjC Z "com/example/quorumgate/quorumgate/cluster/Command$PutIfAbsent" ks_2 [.null, .null]) :: (a10, ArrC Z .byte 2 (upd (upd (fun _ => 0) 0 ((x1.toInt8.toInt32).toInt8.toInt32)) 1 (((x1 >>> ((8 : Int32) &&& 31)).toInt8.toInt32).toInt8.toInt32))) :: (a9, ArrC Z .byte 0 (fun _ => 0)) :: (a7, ArrC Z .byte 2 (upd (upd (fun _ => 0) 0 ((x0.toInt8.toInt32).toInt8.toInt32)) 1 (((x0 >>> ((8 : Int32) &&& 31)).toInt8.toInt32).toInt8.toInt32))) :: (a6, ArrC Z .byte 0 (fun _ => 0)) :: []) 6 7 99 #[.val (.int x0), .val (.int x1), .val (.ref a6), .val (.ref a7), .val (.ref a6), .val (.ref a9), .val (.ref a10), .val (.int (0 : Int32)), .val (.null), .unset, .unset, .unset, .unset] [.ref a29, .ref a28, .ref a28]
      refine Wk.dup (pc' := 100) C at_99 rfl rfl ?_
      refine Wk.ldcK (pc' := 102) (nS := 4) C (w7 hw) (wSt hw) hh hcw hn0 hst hcz hvf ⟨by decide, by decide⟩ ?_ at_100 (by decide) (by decide) (by decide) (by decide) rfl ?_
      · intro x hx
        simp only [List.mem_cons, List.not_mem_nil, or_false] at hx
        rcases hx with rfl | rfl | rfl | rfl | rfl | rfl
        · exact Away.obj (w5 hw) (by decide)
        · exact Away.obj (w2 hw) (by decide)
        · exact Away.arr (by decide)
        · exact Away.arr (by decide)
        · exact Away.arr (by decide)
        · exact Away.arr (by decide)
      clear hn0 hst
      intro a30 rb n0 K
      replace C := C1
      change Wk p l e _ m _ below meth c _ _ n0 ((a29, ObjC Z "com/example/quorumgate/quorumgate/cluster/Key" ks_1 [.null]) :: (a28, ObjC Z "com/example/quorumgate/quorumgate/cluster/Command$PutIfAbsent" ks_2 [.null, .null]) :: (a10, ArrC Z .byte 2 (upd (upd (fun _ => 0) 0 ((x1.toInt8.toInt32).toInt8.toInt32)) 1 (((x1 >>> ((8 : Int32) &&& 31)).toInt8.toInt32).toInt8.toInt32))) :: (a9, ArrC Z .byte 0 (fun _ => 0)) :: (a7, ArrC Z .byte 2 (upd (upd (fun _ => 0) 0 ((x0.toInt8.toInt32).toInt8.toInt32)) 1 (((x0 >>> ((8 : Int32) &&& 31)).toInt8.toInt32).toInt8.toInt32))) :: (a6, ArrC Z .byte 0 (fun _ => 0)) :: []) 8 15 102 #[.val (.int x0), .val (.int x1), .val (.ref a6), .val (.ref a7), .val (.ref a6), .val (.ref a9), .val (.ref a10), .val (.int (0 : Int32)), .val (.null), .unset, .unset, .unset, .unset] [.ref a30, .ref a29, .ref a29, .ref a28, .ref a28]
      refine Wk.callIW (pc' := 105) (rm := { frames := 4, cells := 2, slots := 20, locals := 53 }) (W0 := 3) (a := a29) (argsL := [.ref a30]) (st := [.ref a29, .ref a28, .ref a28]) C rfl rfl (w14 hw) (w15 hw) (w6 hw) (w16 hw) (by decide) (fun h O => rm1 l Z a0 hw a29 a30 ((a28, ObjC Z "com/example/quorumgate/quorumgate/cluster/Command$PutIfAbsent" ks_2 [.null, .null]) :: (a10, ArrC Z .byte 2 (upd (upd (fun _ => 0) 0 ((x1.toInt8.toInt32).toInt8.toInt32)) 1 (((x1 >>> ((8 : Int32) &&& 31)).toInt8.toInt32).toInt8.toInt32))) :: (a9, ArrC Z .byte 0 (fun _ => 0)) :: (a7, ArrC Z .byte 2 (upd (upd (fun _ => 0) 0 ((x0.toInt8.toInt32).toInt8.toInt32)) 1 (((x0 >>> ((8 : Int32) &&& 31)).toInt8.toInt32).toInt8.toInt32))) :: (a6, ArrC Z .byte 0 (fun _ => 0)) :: []) rb sa sb cz vf h n0 O K) (by decide) (by decide) (by decide) (by decide) at_102 rfl pd_11 rfl rfl rfl rfl ?_
      rintro _ h' ⟨rfl, O'⟩
      refine ⟨_, O', ?_⟩
      change Wk p l e _ m _ below meth c _ _ n0 ((a29, ObjC Z "com/example/quorumgate/quorumgate/cluster/Key" ks_1 [.ref a30]) :: (a28, ObjC Z "com/example/quorumgate/quorumgate/cluster/Command$PutIfAbsent" ks_2 [.null, .null]) :: (a10, ArrC Z .byte 2 (upd (upd (fun _ => 0) 0 ((x1.toInt8.toInt32).toInt8.toInt32)) 1 (((x1 >>> ((8 : Int32) &&& 31)).toInt8.toInt32).toInt8.toInt32))) :: (a9, ArrC Z .byte 0 (fun _ => 0)) :: (a7, ArrC Z .byte 2 (upd (upd (fun _ => 0) 0 ((x0.toInt8.toInt32).toInt8.toInt32)) 1 (((x0 >>> ((8 : Int32) &&& 31)).toInt8.toInt32).toInt8.toInt32))) :: (a6, ArrC Z .byte 0 (fun _ => 0)) :: []) 10 35 105 #[.val (.int x0), .val (.int x1), .val (.ref a6), .val (.ref a7), .val (.ref a6), .val (.ref a9), .val (.ref a10), .val (.int (0 : Int32)), .val (.null), .unset, .unset, .unset, .unset] [.ref a29, .ref a28, .ref a28]
      refine Wk.aload (pc' := 107) C at_105 rfl rfl rfl ?_
      refine Wk.recast (L' := ((a28, ObjC Z "com/example/quorumgate/quorumgate/cluster/Command$PutIfAbsent" ks_2 [.null, .null]) :: (a29, ObjC Z "com/example/quorumgate/quorumgate/cluster/Key" ks_1 [.ref a30]) :: (a10, ArrC Z .byte 2 (upd (upd (fun _ => 0) 0 ((x1.toInt8.toInt32).toInt8.toInt32)) 1 (((x1 >>> ((8 : Int32) &&& 31)).toInt8.toInt32).toInt8.toInt32))) :: (a9, ArrC Z .byte 0 (fun _ => 0)) :: (a7, ArrC Z .byte 2 (upd (upd (fun _ => 0) 0 ((x0.toInt8.toInt32).toInt8.toInt32)) 1 (((x0 >>> ((8 : Int32) &&& 31)).toInt8.toInt32).toInt8.toInt32))) :: (a6, ArrC Z .byte 0 (fun _ => 0)) :: [])) ?_ (fun h O => (O.front 1 rfl))
      refine Wk.callIW (pc' := 110) (rm := { frames := 2, cells := 2, slots := 16, locals := 26 }) (W0 := 1) (a := a28) (argsL := [.ref a29, .ref a6]) (st := [.ref a28]) C rfl rfl (w75 hw) (w76 hw) (w3 hw) (w77 hw) (by decide) (fun h O => rm14 l Z a0 hw a28 a29 a6 ((a29, ObjC Z "com/example/quorumgate/quorumgate/cluster/Key" ks_1 [.ref a30]) :: (a10, ArrC Z .byte 2 (upd (upd (fun _ => 0) 0 ((x1.toInt8.toInt32).toInt8.toInt32)) 1 (((x1 >>> ((8 : Int32) &&& 31)).toInt8.toInt32).toInt8.toInt32))) :: (a9, ArrC Z .byte 0 (fun _ => 0)) :: (a7, ArrC Z .byte 2 (upd (upd (fun _ => 0) 0 ((x0.toInt8.toInt32).toInt8.toInt32)) 1 (((x0 >>> ((8 : Int32) &&& 31)).toInt8.toInt32).toInt8.toInt32))) :: (a6, ArrC Z .byte 0 (fun _ => 0)) :: []) 4 0 (fun _ => 0) h n0 O rfl (by decide)) (by decide) (by decide) (by decide) (by decide) at_107 rfl pd_10 rfl rfl rfl rfl ?_
      rintro _ h' ⟨rfl, O'⟩
      refine ⟨_, O', ?_⟩
      change Wk p l e _ m _ below meth c _ _ n0 ((a28, ObjC Z "com/example/quorumgate/quorumgate/cluster/Command$PutIfAbsent" ks_2 [.ref a29, .ref a6]) :: (a29, ObjC Z "com/example/quorumgate/quorumgate/cluster/Key" ks_1 [.ref a30]) :: (a10, ArrC Z .byte 2 (upd (upd (fun _ => 0) 0 ((x1.toInt8.toInt32).toInt8.toInt32)) 1 (((x1 >>> ((8 : Int32) &&& 31)).toInt8.toInt32).toInt8.toInt32))) :: (a9, ArrC Z .byte 0 (fun _ => 0)) :: (a7, ArrC Z .byte 2 (upd (upd (fun _ => 0) 0 ((x0.toInt8.toInt32).toInt8.toInt32)) 1 (((x0 >>> ((8 : Int32) &&& 31)).toInt8.toInt32).toInt8.toInt32))) :: (a6, ArrC Z .byte 0 (fun _ => 0)) :: []) 12 51 110 #[.val (.int x0), .val (.int x1), .val (.ref a6), .val (.ref a7), .val (.ref a6), .val (.ref a9), .val (.ref a10), .val (.int (0 : Int32)), .val (.null), .unset, .unset, .unset, .unset] [.ref a28]
      refine Wk.astore (Ls' := #[.val (.int x0), .val (.int x1), .val (.ref a6), .val (.ref a7), .val (.ref a6), .val (.ref a9), .val (.ref a10), .val (.int (0 : Int32)), .val (.null), .val (.ref a28), .unset, .unset, .unset]) (pc' := 112) C at_110 rfl rfl rfl ?_
      refine Wk.aload (pc' := 114) C at_112 rfl rfl rfl ?_
      refine Wk.aload (pc' := 116) C at_114 rfl rfl rfl ?_
      refine Wk.callV (pc' := 119) (rm := { frames := 0, cells := 0, slots := 0, locals := 0 }) (W0 := 0) (q := 0) (argsL := [.null]) (st := []) C rfl (w90 hw) (w91 hw) (w93 hw) (w92 hw) (w3 hw) (w94 hw) (by decide) (fun h O => rm16n l Z a0 hw a28 ((a28, ObjC Z "com/example/quorumgate/quorumgate/cluster/Command$PutIfAbsent" ks_2 [.ref a29, .ref a6]) :: (a29, ObjC Z "com/example/quorumgate/quorumgate/cluster/Key" ks_1 [.ref a30]) :: (a10, ArrC Z .byte 2 (upd (upd (fun _ => 0) 0 ((x1.toInt8.toInt32).toInt8.toInt32)) 1 (((x1 >>> ((8 : Int32) &&& 31)).toInt8.toInt32).toInt8.toInt32))) :: (a9, ArrC Z .byte 0 (fun _ => 0)) :: (a7, ArrC Z .byte 2 (upd (upd (fun _ => 0) 0 ((x0.toInt8.toInt32).toInt8.toInt32)) 1 (((x0 >>> ((8 : Int32) &&& 31)).toInt8.toInt32).toInt8.toInt32))) :: (a6, ArrC Z .byte 0 (fun _ => 0)) :: []) 0 a29 a6 h n0 O rfl) (by decide) (by decide) (by decide) (by decide) at_116 rfl pd_12 rfl rfl rfl rfl ?_
      rintro _ h' ⟨rfl, O'⟩
      refine ⟨_, O', ?_⟩
      change Wk p l e _ m _ below meth c _ _ n0 ((a28, ObjC Z "com/example/quorumgate/quorumgate/cluster/Command$PutIfAbsent" ks_2 [.ref a29, .ref a6]) :: (a29, ObjC Z "com/example/quorumgate/quorumgate/cluster/Key" ks_1 [.ref a30]) :: (a10, ArrC Z .byte 2 (upd (upd (fun _ => 0) 0 ((x1.toInt8.toInt32).toInt8.toInt32)) 1 (((x1 >>> ((8 : Int32) &&& 31)).toInt8.toInt32).toInt8.toInt32))) :: (a9, ArrC Z .byte 0 (fun _ => 0)) :: (a7, ArrC Z .byte 2 (upd (upd (fun _ => 0) 0 ((x0.toInt8.toInt32).toInt8.toInt32)) 1 (((x0 >>> ((8 : Int32) &&& 31)).toInt8.toInt32).toInt8.toInt32))) :: (a6, ArrC Z .byte 0 (fun _ => 0)) :: []) 12 51 119 #[.val (.int x0), .val (.int x1), .val (.ref a6), .val (.ref a7), .val (.ref a6), .val (.ref a9), .val (.ref a10), .val (.int (0 : Int32)), .val (.null), .val (.ref a28), .unset, .unset, .unset] [.ref a6]
      refine Wk.astore (Ls' := #[.val (.int x0), .val (.int x1), .val (.ref a6), .val (.ref a7), .val (.ref a6), .val (.ref a9), .val (.ref a10), .val (.int (0 : Int32)), .val (.null), .val (.ref a28), .val (.ref a6), .unset, .unset]) (pc' := 121) C at_119 rfl rfl rfl ?_
      refine Wk.aload (pc' := 123) C at_121 rfl rfl rfl ?_
      refine Wk.aload (pc' := 125) C at_123 rfl rfl rfl ?_
      refine Wk.callV (pc' := 128) (rm := { frames := 0, cells := 0, slots := 0, locals := 0 }) (W0 := 0) (q := 0) (argsL := [.ref a6]) (st := []) C rfl (w90 hw) (w91 hw) (w93 hw) (w92 hw) (w3 hw) (w94 hw) (by decide) (fun h O => rm16r l Z a0 hw a28 a6 ((a28, ObjC Z "com/example/quorumgate/quorumgate/cluster/Command$PutIfAbsent" ks_2 [.ref a29, .ref a6]) :: (a29, ObjC Z "com/example/quorumgate/quorumgate/cluster/Key" ks_1 [.ref a30]) :: (a10, ArrC Z .byte 2 (upd (upd (fun _ => 0) 0 ((x1.toInt8.toInt32).toInt8.toInt32)) 1 (((x1 >>> ((8 : Int32) &&& 31)).toInt8.toInt32).toInt8.toInt32))) :: (a9, ArrC Z .byte 0 (fun _ => 0)) :: (a7, ArrC Z .byte 2 (upd (upd (fun _ => 0) 0 ((x0.toInt8.toInt32).toInt8.toInt32)) 1 (((x0 >>> ((8 : Int32) &&& 31)).toInt8.toInt32).toInt8.toInt32))) :: (a6, ArrC Z .byte 0 (fun _ => 0)) :: []) 0 a29 a6 h n0 O rfl) (by decide) (by decide) (by decide) (by decide) at_125 rfl pd_12 rfl rfl rfl rfl ?_
      rintro _ h' ⟨rfl, O'⟩
      refine ⟨_, O', ?_⟩
      change Wk p l e _ m _ below meth c _ _ n0 ((a28, ObjC Z "com/example/quorumgate/quorumgate/cluster/Command$PutIfAbsent" ks_2 [.ref a29, .ref a6]) :: (a29, ObjC Z "com/example/quorumgate/quorumgate/cluster/Key" ks_1 [.ref a30]) :: (a10, ArrC Z .byte 2 (upd (upd (fun _ => 0) 0 ((x1.toInt8.toInt32).toInt8.toInt32)) 1 (((x1 >>> ((8 : Int32) &&& 31)).toInt8.toInt32).toInt8.toInt32))) :: (a9, ArrC Z .byte 0 (fun _ => 0)) :: (a7, ArrC Z .byte 2 (upd (upd (fun _ => 0) 0 ((x0.toInt8.toInt32).toInt8.toInt32)) 1 (((x0 >>> ((8 : Int32) &&& 31)).toInt8.toInt32).toInt8.toInt32))) :: (a6, ArrC Z .byte 0 (fun _ => 0)) :: []) 12 51 128 #[.val (.int x0), .val (.int x1), .val (.ref a6), .val (.ref a7), .val (.ref a6), .val (.ref a9), .val (.ref a10), .val (.int (0 : Int32)), .val (.null), .val (.ref a28), .val (.ref a6), .unset, .unset] [.ref a6]
      refine Wk.astore (Ls' := #[.val (.int x0), .val (.int x1), .val (.ref a6), .val (.ref a7), .val (.ref a6), .val (.ref a9), .val (.ref a10), .val (.int (0 : Int32)), .val (.null), .val (.ref a28), .val (.ref a6), .val (.ref a6), .unset]) (pc' := 130) C at_128 rfl rfl rfl ?_
      refine Wk.aload (pc' := 132) C at_130 rfl rfl rfl ?_
      refine Wk.ifnonnullNo (pc' := 135) C at_132 rfl ?_
      refine Wk.aload (pc' := 137) C at_135 rfl rfl rfl ?_
      refine Wk.aload (pc' := 139) C at_137 rfl rfl rfl ?_
      refine Wk.acmp (pc' := 142) (same := true) C at_139 rfl rfl (decide_eq_true rfl) (by decide) (by decide) ?_
      refine Wk.iconst (z := (1 : Int32)) (pc' := 143) C at_142 rfl rfl ?_
      refine Wk.goto (pc' := 147) C at_143 (by decide) (by decide) ?_
      refine Wk.istore (Ls' := #[.val (.int x0), .val (.int x1), .val (.ref a6), .val (.ref a7), .val (.ref a6), .val (.ref a9), .val (.ref a10), .val (.int (0 : Int32)), .val (.null), .val (.ref a28), .val (.ref a6), .val (.ref a6), .val (.int (1 : Int32))]) (pc' := 149) C at_147 rfl rfl ?_
      refine Wk.goto (pc' := 166) C at_149 (by decide) (by decide) ?_
      refine Wk.iload (pc' := 168) C at_166 rfl rfl ?_
      refine Wk.if_eq (pcT := 182) (pcF := 171) C at_168 (by decide) (by decide) rfl (fun q => absurd q (by decide)) (fun _ => ?_)
      refine Wk.aload (pc' := 173) C at_171 rfl rfl rfl ?_
      refine Wk.aload (pc' := 175) C at_173 rfl rfl rfl ?_
      refine Wk.acmp (pc' := 178) (same := true) C at_175 rfl rfl (decide_eq_true rfl) (by decide) (by decide) ?_
      refine Wk.iconst (z := (1 : Int32)) (pc' := 179) C at_178 rfl rfl ?_
      refine Wk.goto (pc' := 183) C at_179 (by decide) (by decide) ?_
      refine Wk.istore (Ls' := #[.val (.int x0), .val (.int x1), .val (.ref a6), .val (.ref a7), .val (.ref a6), .val (.ref a9), .val (.ref a10), .val (.int (0 : Int32)), .val (.null), .val (.ref a28), .val (.ref a6), .val (.ref a6), .val (.int (1 : Int32))]) (pc' := 185) C at_183 rfl rfl ?_
      refine Wk.iload (pc' := 187) C at_185 rfl rfl ?_
      refine Wk.if_eq (pcT := 205) (pcF := 190) C at_187 (by decide) (by decide) rfl (fun q => absurd q (by decide)) (fun _ => ?_)
      refine Wk.aloadN (pc' := 191) C at_190 rfl rfl rfl ?_
      refine Wk.arraylength (pc' := 192) (q := 5) (z := (0 : Int32)) C at_191 rfl (fun _ A => ⟨A.1, A.2.2.1⟩) rfl rfl ?_
      refine Wk.if_ne (pcT := 205) (pcF := 195) C at_192 (by decide) (by decide) rfl (fun q => absurd q (by decide)) (fun _ => ?_)
      refine Wk.aload (pc' := 197) C at_195 rfl rfl rfl ?_
      refine Wk.arraylength (pc' := 198) (q := 3) (z := (0 : Int32)) C at_197 rfl (fun _ A => ⟨A.1, A.2.2.1⟩) rfl rfl ?_
      refine Wk.if_ne (pcT := 205) (pcF := 201) C at_198 (by decide) (by decide) rfl (fun q => absurd q (by decide)) (fun _ => ?_)
      refine Wk.iconst (z := (1 : Int32)) (pc' := 202) C at_201 rfl rfl ?_
      refine Wk.goto (pc' := 206) C at_202 (by decide) (by decide) ?_
      refine Wk.istore (Ls' := #[.val (.int x0), .val (.int x1), .val (.ref a6), .val (.ref a7), .val (.ref a6), .val (.ref a9), .val (.ref a10), .val (.int (0 : Int32)), .val (.null), .val (.ref a28), .val (.ref a6), .val (.ref a6), .val (.int (1 : Int32))]) (pc' := 208) C at_206 rfl rfl ?_
      refine Wk.iload (pc' := 210) C at_208 rfl rfl ?_
      refine Wk.if_eq (pcT := 242) (pcF := 213) C at_210 (by decide) (by decide) rfl (fun q => absurd q (by decide)) (fun _ => ?_)
      refine Wk.aloadN (pc' := 214) C at_213 rfl rfl rfl ?_
      refine Wk.arraylength (pc' := 215) (q := 4) (z := (2 : Int32)) C at_214 rfl (fun _ A => ⟨A.1, A.2.2.1⟩) rfl rfl ?_
      refine Wk.iconst (z := (2 : Int32)) (pc' := 216) C at_215 rfl rfl ?_
      refine Wk.icmp_ne (pcT := 242) (pcF := 219) C at_216 (by decide) (by decide) rfl (fun q => absurd q (by decide)) (fun _ => ?_)
      refine Wk.aloadN (pc' := 220) C at_219 rfl rfl rfl ?_
      refine Wk.iconst (z := (0 : Int32)) (pc' := 221) C at_220 rfl rfl ?_
      refine Wk.baload (pc' := 222) (q := 4) (i := 0) C at_221 rfl (by decide) (by decide) rfl ?_
      change Wk p l e _ m _ below meth c _ _ n0 ((a28, ObjC Z "com/example/quorumgate/quorumgate/cluster/Command$PutIfAbsent" ks_2 [.ref a29, .ref a6]) :: (a29, ObjC Z "com/example/quorumgate/quorumgate/cluster/Key" ks_1 [.ref a30]) :: (a10, ArrC Z .byte 2 (upd (upd (fun _ => 0) 0 ((x1.toInt8.toInt32).toInt8.toInt32)) 1 (((x1 >>> ((8 : Int32) &&& 31)).toInt8.toInt32).toInt8.toInt32))) :: (a9, ArrC Z .byte 0 (fun _ => 0)) :: (a7, ArrC Z .byte 2 (upd (upd (fun _ => 0) 0 ((x0.toInt8.toInt32).toInt8.toInt32)) 1 (((x0 >>> ((8 : Int32) &&& 31)).toInt8.toInt32).toInt8.toInt32))) :: (a6, ArrC Z .byte 0 (fun _ => 0)) :: []) 12 51 222 #[.val (.int x0), .val (.int x1), .val (.ref a6), .val (.ref a7), .val (.ref a6), .val (.ref a9), .val (.ref a10), .val (.int (0 : Int32)), .val (.null), .val (.ref a28), .val (.ref a6), .val (.ref a6), .val (.int (1 : Int32))] [.int ((x0.toInt8.toInt32).toInt8.toInt32)]
      refine Wk.iloadN (pc' := 223) C at_222 rfl rfl ?_
      refine Wk.i2b (pc' := 224) C at_223 rfl ?_
      refine Wk.icmp_ne (pcT := 242) (pcF := 227) C at_224 (by decide) (by decide) rfl (fun c31 => (show False from c31 (by simp)).elim) (fun c31 => ?_)
      refine Wk.aloadN (pc' := 228) C at_227 rfl rfl rfl ?_
      refine Wk.iconst (z := (1 : Int32)) (pc' := 229) C at_228 rfl rfl ?_
      refine Wk.baload (pc' := 230) (q := 4) (i := 1) C at_229 rfl (by decide) (by decide) rfl ?_
      change Wk p l e _ m _ below meth c _ _ n0 ((a28, ObjC Z "com/example/quorumgate/quorumgate/cluster/Command$PutIfAbsent" ks_2 [.ref a29, .ref a6]) :: (a29, ObjC Z "com/example/quorumgate/quorumgate/cluster/Key" ks_1 [.ref a30]) :: (a10, ArrC Z .byte 2 (upd (upd (fun _ => 0) 0 ((x1.toInt8.toInt32).toInt8.toInt32)) 1 (((x1 >>> ((8 : Int32) &&& 31)).toInt8.toInt32).toInt8.toInt32))) :: (a9, ArrC Z .byte 0 (fun _ => 0)) :: (a7, ArrC Z .byte 2 (upd (upd (fun _ => 0) 0 ((x0.toInt8.toInt32).toInt8.toInt32)) 1 (((x0 >>> ((8 : Int32) &&& 31)).toInt8.toInt32).toInt8.toInt32))) :: (a6, ArrC Z .byte 0 (fun _ => 0)) :: []) 12 51 230 #[.val (.int x0), .val (.int x1), .val (.ref a6), .val (.ref a7), .val (.ref a6), .val (.ref a9), .val (.ref a10), .val (.int (0 : Int32)), .val (.null), .val (.ref a28), .val (.ref a6), .val (.ref a6), .val (.int (1 : Int32))] [.int (((x0 >>> ((8 : Int32) &&& 31)).toInt8.toInt32).toInt8.toInt32)]
      refine Wk.iloadN (pc' := 231) C at_230 rfl rfl ?_
      refine Wk.bipush (z := (8 : Int32)) (pc' := 233) C at_231 rfl rfl ?_
      refine Wk.ishr (pc' := 234) C at_233 rfl ?_
      refine Wk.i2b (pc' := 235) C at_234 rfl ?_
      refine Wk.icmp_ne (pcT := 242) (pcF := 238) C at_235 (by decide) (by decide) rfl (fun c32 => (show False from c32 (by simp)).elim) (fun c32 => ?_)
      refine Wk.iconst (z := (1 : Int32)) (pc' := 239) C at_238 rfl rfl ?_
      refine Wk.goto (pc' := 243) C at_239 (by decide) (by decide) ?_
      refine Wk.istore (Ls' := #[.val (.int x0), .val (.int x1), .val (.ref a6), .val (.ref a7), .val (.ref a6), .val (.ref a9), .val (.ref a10), .val (.int (0 : Int32)), .val (.null), .val (.ref a28), .val (.ref a6), .val (.ref a6), .val (.int (1 : Int32))]) (pc' := 245) C at_243 rfl rfl ?_
      refine Wk.iload (pc' := 247) C at_245 rfl rfl ?_
      refine Wk.if_eq (pcT := 282) (pcF := 250) C at_247 (by decide) (by decide) rfl (fun q => absurd q (by decide)) (fun _ => ?_)
      refine Wk.aload (pc' := 252) C at_250 rfl rfl rfl ?_
      refine Wk.arraylength (pc' := 253) (q := 2) (z := (2 : Int32)) C at_252 rfl (fun _ A => ⟨A.1, A.2.2.1⟩) rfl rfl ?_
      refine Wk.iconst (z := (2 : Int32)) (pc' := 254) C at_253 rfl rfl ?_
      refine Wk.icmp_ne (pcT := 282) (pcF := 257) C at_254 (by decide) (by decide) rfl (fun q => absurd q (by decide)) (fun _ => ?_)
      refine Wk.aload (pc' := 259) C at_257 rfl rfl rfl ?_
      refine Wk.iconst (z := (0 : Int32)) (pc' := 260) C at_259 rfl rfl ?_
      refine Wk.baload (pc' := 261) (q := 2) (i := 0) C at_260 rfl (by decide) (by decide) rfl ?_
      change Wk p l e _ m _ below meth c _ _ n0 ((a28, ObjC Z "com/example/quorumgate/quorumgate/cluster/Command$PutIfAbsent" ks_2 [.ref a29, .ref a6]) :: (a29, ObjC Z "com/example/quorumgate/quorumgate/cluster/Key" ks_1 [.ref a30]) :: (a10, ArrC Z .byte 2 (upd (upd (fun _ => 0) 0 ((x1.toInt8.toInt32).toInt8.toInt32)) 1 (((x1 >>> ((8 : Int32) &&& 31)).toInt8.toInt32).toInt8.toInt32))) :: (a9, ArrC Z .byte 0 (fun _ => 0)) :: (a7, ArrC Z .byte 2 (upd (upd (fun _ => 0) 0 ((x0.toInt8.toInt32).toInt8.toInt32)) 1 (((x0 >>> ((8 : Int32) &&& 31)).toInt8.toInt32).toInt8.toInt32))) :: (a6, ArrC Z .byte 0 (fun _ => 0)) :: []) 12 51 261 #[.val (.int x0), .val (.int x1), .val (.ref a6), .val (.ref a7), .val (.ref a6), .val (.ref a9), .val (.ref a10), .val (.int (0 : Int32)), .val (.null), .val (.ref a28), .val (.ref a6), .val (.ref a6), .val (.int (1 : Int32))] [.int ((x1.toInt8.toInt32).toInt8.toInt32)]
      refine Wk.iloadN (pc' := 262) C at_261 rfl rfl ?_
      refine Wk.i2b (pc' := 263) C at_262 rfl ?_
      refine Wk.icmp_ne (pcT := 282) (pcF := 266) C at_263 (by decide) (by decide) rfl (fun c33 => (show False from c33 (by simp)).elim) (fun c33 => ?_)
      refine Wk.aload (pc' := 268) C at_266 rfl rfl rfl ?_
      refine Wk.iconst (z := (1 : Int32)) (pc' := 269) C at_268 rfl rfl ?_
      refine Wk.baload (pc' := 270) (q := 2) (i := 1) C at_269 rfl (by decide) (by decide) rfl ?_
      change Wk p l e _ m _ below meth c _ _ n0 ((a28, ObjC Z "com/example/quorumgate/quorumgate/cluster/Command$PutIfAbsent" ks_2 [.ref a29, .ref a6]) :: (a29, ObjC Z "com/example/quorumgate/quorumgate/cluster/Key" ks_1 [.ref a30]) :: (a10, ArrC Z .byte 2 (upd (upd (fun _ => 0) 0 ((x1.toInt8.toInt32).toInt8.toInt32)) 1 (((x1 >>> ((8 : Int32) &&& 31)).toInt8.toInt32).toInt8.toInt32))) :: (a9, ArrC Z .byte 0 (fun _ => 0)) :: (a7, ArrC Z .byte 2 (upd (upd (fun _ => 0) 0 ((x0.toInt8.toInt32).toInt8.toInt32)) 1 (((x0 >>> ((8 : Int32) &&& 31)).toInt8.toInt32).toInt8.toInt32))) :: (a6, ArrC Z .byte 0 (fun _ => 0)) :: []) 12 51 270 #[.val (.int x0), .val (.int x1), .val (.ref a6), .val (.ref a7), .val (.ref a6), .val (.ref a9), .val (.ref a10), .val (.int (0 : Int32)), .val (.null), .val (.ref a28), .val (.ref a6), .val (.ref a6), .val (.int (1 : Int32))] [.int (((x1 >>> ((8 : Int32) &&& 31)).toInt8.toInt32).toInt8.toInt32)]
      refine Wk.iloadN (pc' := 271) C at_270 rfl rfl ?_
      refine Wk.bipush (z := (8 : Int32)) (pc' := 273) C at_271 rfl rfl ?_
      refine Wk.ishr (pc' := 274) C at_273 rfl ?_
      refine Wk.i2b (pc' := 275) C at_274 rfl ?_
      refine Wk.icmp_ne (pcT := 282) (pcF := 278) C at_275 (by decide) (by decide) rfl (fun c34 => (show False from c34 (by simp)).elim) (fun c34 => ?_)
      refine Wk.iconst (z := (1 : Int32)) (pc' := 279) C at_278 rfl rfl ?_
      refine Wk.goto (pc' := 283) C at_279 (by decide) (by decide) ?_
      refine Wk.istore (Ls' := #[.val (.int x0), .val (.int x1), .val (.ref a6), .val (.ref a7), .val (.ref a6), .val (.ref a9), .val (.ref a10), .val (.int (0 : Int32)), .val (.null), .val (.ref a28), .val (.ref a6), .val (.ref a6), .val (.int (1 : Int32))]) (pc' := 285) C at_283 rfl rfl ?_
      refine Wk.iload (pc' := 287) C at_285 rfl rfl ?_
      exact Wk.retN C J at_287 (by decide) (by decide) (by simp) rfl (fun h O => rfl)
  · skip
    refine Wk.aloadN (pc' := 31) C at_30 rfl rfl rfl ?_
    refine Wk.goto (pc' := 35) C at_31 (by decide) (by decide) ?_
    refine Wk.astore (Ls' := #[.val (.int x0), .val (.int x1), .val (.ref a6), .val (.ref a7), .val (.ref a7), .unset, .unset, .unset, .unset, .unset, .unset, .unset, .unset]) (pc' := 37) C at_35 rfl rfl rfl ?_
    refine Wk.iconst (z := (0 : Int32)) (pc' := 38) C at_37 rfl rfl ?_
    refine Wk.newarray (pc' := 40) (aty := .byte) (nn := 0) (cap := 0) (d := 0) C (w0 hw) at_38 rfl rfl (by decide) (by decide) (by decide) (by decide) (by decide) rfl ?_
    intro a35
    change Wk p l e _ m _ below meth c _ _ n0 ((a35, ArrC Z .byte 0 (fun _ => 0)) :: (a7, ArrC Z .byte 2 (upd (upd (fun _ => 0) 0 ((x0.toInt8.toInt32).toInt8.toInt32)) 1 (((x0 >>> ((8 : Int32) &&& 31)).toInt8.toInt32).toInt8.toInt32))) :: (a6, ArrC Z .byte 0 (fun _ => 0)) :: []) 3 2 40 #[.val (.int x0), .val (.int x1), .val (.ref a6), .val (.ref a7), .val (.ref a7), .unset, .unset, .unset, .unset, .unset, .unset, .unset, .unset] [.ref a35]
    refine Wk.astore (Ls' := #[.val (.int x0), .val (.int x1), .val (.ref a6), .val (.ref a7), .val (.ref a7), .val (.ref a35), .unset, .unset, .unset, .unset, .unset, .unset, .unset]) (pc' := 42) C at_40 rfl rfl rfl ?_
    refine Wk.iconst (z := (2 : Int32)) (pc' := 43) C at_42 rfl rfl ?_
    refine Wk.newarray (pc' := 45) (aty := .byte) (nn := 2) (cap := 2) (d := 0) C (w0 hw) at_43 rfl rfl (by decide) (by decide) (by decide) (by decide) (by decide) rfl ?_
    intro a36
    change Wk p l e _ m _ below meth c _ _ n0 ((a36, ArrC Z .byte 2 (fun _ => 0)) :: (a35, ArrC Z .byte 0 (fun _ => 0)) :: (a7, ArrC Z .byte 2 (upd (upd (fun _ => 0) 0 ((x0.toInt8.toInt32).toInt8.toInt32)) 1 (((x0 >>> ((8 : Int32) &&& 31)).toInt8.toInt32).toInt8.toInt32))) :: (a6, ArrC Z .byte 0 (fun _ => 0)) :: []) 4 4 45 #[.val (.int x0), .val (.int x1), .val (.ref a6), .val (.ref a7), .val (.ref a7), .val (.ref a35), .unset, .unset, .unset, .unset, .unset, .unset, .unset] [.ref a36]
    refine Wk.dup (pc' := 46) C at_45 rfl rfl ?_
    refine Wk.iconst (z := (0 : Int32)) (pc' := 47) C at_46 rfl rfl ?_
    refine Wk.iloadN (pc' := 48) C at_47 rfl rfl ?_
    refine Wk.i2b (pc' := 49) C at_48 rfl ?_
    refine Wk.bastore (pc' := 50) (q := 0) (i := 0) C at_49 rfl (by decide) (by decide) rfl ?_
    change Wk p l e _ m _ below meth c _ _ n0 ((a36, ArrC Z .byte 2 (upd (fun _ => 0) 0 ((x1.toInt8.toInt32).toInt8.toInt32))) :: (a35, ArrC Z .byte 0 (fun _ => 0)) :: (a7, ArrC Z .byte 2 (upd (upd (fun _ => 0) 0 ((x0.toInt8.toInt32).toInt8.toInt32)) 1 (((x0 >>> ((8 : Int32) &&& 31)).toInt8.toInt32).toInt8.toInt32))) :: (a6, ArrC Z .byte 0 (fun _ => 0)) :: []) 4 4 50 #[.val (.int x0), .val (.int x1), .val (.ref a6), .val (.ref a7), .val (.ref a7), .val (.ref a35), .unset, .unset, .unset, .unset, .unset, .unset, .unset] [.ref a36]
    refine Wk.dup (pc' := 51) C at_50 rfl rfl ?_
    refine Wk.iconst (z := (1 : Int32)) (pc' := 52) C at_51 rfl rfl ?_
    refine Wk.iloadN (pc' := 53) C at_52 rfl rfl ?_
    refine Wk.bipush (z := (8 : Int32)) (pc' := 55) C at_53 rfl rfl ?_
    refine Wk.ishr (pc' := 56) C at_55 rfl ?_
    refine Wk.i2b (pc' := 57) C at_56 rfl ?_
    refine Wk.bastore (pc' := 58) (q := 0) (i := 1) C at_57 rfl (by decide) (by decide) rfl ?_
    change Wk p l e _ m _ below meth c _ _ n0 ((a36, ArrC Z .byte 2 (upd (upd (fun _ => 0) 0 ((x1.toInt8.toInt32).toInt8.toInt32)) 1 (((x1 >>> ((8 : Int32) &&& 31)).toInt8.toInt32).toInt8.toInt32))) :: (a35, ArrC Z .byte 0 (fun _ => 0)) :: (a7, ArrC Z .byte 2 (upd (upd (fun _ => 0) 0 ((x0.toInt8.toInt32).toInt8.toInt32)) 1 (((x0 >>> ((8 : Int32) &&& 31)).toInt8.toInt32).toInt8.toInt32))) :: (a6, ArrC Z .byte 0 (fun _ => 0)) :: []) 4 4 58 #[.val (.int x0), .val (.int x1), .val (.ref a6), .val (.ref a7), .val (.ref a7), .val (.ref a35), .unset, .unset, .unset, .unset, .unset, .unset, .unset] [.ref a36]
    refine Wk.astore (Ls' := #[.val (.int x0), .val (.int x1), .val (.ref a6), .val (.ref a7), .val (.ref a7), .val (.ref a35), .val (.ref a36), .unset, .unset, .unset, .unset, .unset, .unset]) (pc' := 60) C at_58 rfl rfl rfl ?_
    refine Wk.iloadN (pc' := 61) C at_60 rfl rfl ?_
    refine Wk.bipush (z := (16 : Int32)) (pc' := 63) C at_61 rfl rfl ?_
    refine Wk.iushr (pc' := 64) C at_63 rfl ?_
    refine Wk.iconst (z := (3 : Int32)) (pc' := 65) C at_64 rfl rfl ?_
    refine Wk.iand (pc' := 66) C at_65 rfl ?_
    refine Wk.istoreV (fun v37 => #[.val (.int x0), .val (.int x1), .val (.ref a6), .val (.ref a7), .val (.ref a7), .val (.ref a35), .val (.ref a36), .val (.int v37), .unset, .unset, .unset, .unset, .unset]) (pc' := 68) C at_66 rfl rfl ?_
    intro v37 hv37
    refine Wk.iload (pc' := 70) C at_68 rfl rfl ?_
    refine Wk.if_ne (pcT := 77) (pcF := 73) C at_70 (by decide) (by decide) rfl (fun c38 => ?_) (fun c38 => ?_)
    · skip
      refine Wk.iload (pc' := 79) C at_77 rfl rfl ?_
      refine Wk.iconst (z := (1 : Int32)) (pc' := 80) C at_79 rfl rfl ?_
      refine Wk.icmp_ne (pcT := 88) (pcF := 83) C at_80 (by decide) (by decide) rfl (fun c39 => ?_) (fun c39 => ?_)
      · skip
        refine Wk.aload (pc' := 90) C at_88 rfl rfl rfl ?_
        refine Wk.astore (Ls' := #[.val (.int x0), .val (.int x1), .val (.ref a6), .val (.ref a7), .val (.ref a7), .val (.ref a35), .val (.ref a36), .val (.int v37), .val (.ref a36), .unset, .unset, .unset, .unset]) (pc' := 92) C at_90 rfl rfl rfl ?_
        refine Wk.new (pc' := 95) (ks := ks_2) (vs := [.null, .null]) C (w1 hw) (w2 hw) (w3 hw) (lays_ks_2 hw) at_92 rfl (by decide) (by decide) rfl ?_
        intro a40
        change Wk p l e _ m _ below meth c _ _ n0 ((a40, ObjC Z "com/example/quorumgate/quorumgate/cluster/Command$PutIfAbsent" ks_2 [.null, .null]) :: (a36, ArrC Z .byte 2 (upd (upd (fun _ => 0) 0 ((x1.toInt8.toInt32).toInt8.toInt32)) 1 (((x1 >>> ((8 : Int32) &&& 31)).toInt8.toInt32).toInt8.toInt32))) :: (a35, ArrC Z .byte 0 (fun _ => 0)) :: (a7, ArrC Z .byte 2 (upd (upd (fun _ => 0) 0 ((x0.toInt8.toInt32).toInt8.toInt32)) 1 (((x0 >>> ((8 : Int32) &&& 31)).toInt8.toInt32).toInt8.toInt32))) :: (a6, ArrC Z .byte 0 (fun _ => 0)) :: []) 5 6 95 #[.val (.int x0), .val (.int x1), .val (.ref a6), .val (.ref a7), .val (.ref a7), .val (.ref a35), .val (.ref a36), .val (.int v37), .val (.ref a36), .unset, .unset, .unset, .unset] [.ref a40]
        refine Wk.dup (pc' := 96) C at_95 rfl rfl ?_
        refine Wk.new (pc' := 99) (ks := ks_1) (vs := [.null]) C (w4 hw) (w5 hw) (w6 hw) (lays_ks_1 hw) at_96 rfl (by decide) (by decide) rfl ?_
        intro a41
        change Wk p l e _ m _ below meth c _ _ n0 ((a41, ObjC Z "com/example/quorumgate/quorumgate/cluster/Key" ks_1 [.null]) :: (a40, ObjC Z "com/example/quorumgate/quorumgate/cluster/Command$PutIfAbsent" ks_2 [.null, .null]) :: (a36, ArrC Z .byte 2 (upd (upd (fun _ => 0) 0 ((x1.toInt8.toInt32).toInt8.toInt32)) 1 (((x1 >>> ((8 : Int32) &&& 31)).toInt8.toInt32).toInt8.toInt32))) :: (a35, ArrC Z .byte 0 (fun _ => 0)) :: (a7, ArrC Z .byte 2 (upd (upd (fun _ => 0) 0 ((x0.toInt8.toInt32).toInt8.toInt32)) 1 (((x0 >>> ((8 : Int32) &&& 31)).toInt8.toInt32).toInt8.toInt32))) :: (a6, ArrC Z .byte 0 (fun _ => 0)) :: []) 6 7 99 #[.val (.int x0), .val (.int x1), .val (.ref a6), .val (.ref a7), .val (.ref a7), .val (.ref a35), .val (.ref a36), .val (.int v37), .val (.ref a36), .unset, .unset, .unset, .unset] [.ref a41, .ref a40, .ref a40]
        refine Wk.dup (pc' := 100) C at_99 rfl rfl ?_
        refine Wk.ldcK (pc' := 102) (nS := 4) C (w7 hw) (wSt hw) hh hcw hn0 hst hcz hvf ⟨by decide, by decide⟩ ?_ at_100 (by decide) (by decide) (by decide) (by decide) rfl ?_
        · intro x hx
          simp only [List.mem_cons, List.not_mem_nil, or_false] at hx
          rcases hx with rfl | rfl | rfl | rfl | rfl | rfl
          · exact Away.obj (w5 hw) (by decide)
          · exact Away.obj (w2 hw) (by decide)
          · exact Away.arr (by decide)
          · exact Away.arr (by decide)
          · exact Away.arr (by decide)
          · exact Away.arr (by decide)
        clear hn0 hst
        intro a42 rb n0 K
        replace C := C1
        change Wk p l e _ m _ below meth c _ _ n0 ((a41, ObjC Z "com/example/quorumgate/quorumgate/cluster/Key" ks_1 [.null]) :: (a40, ObjC Z "com/example/quorumgate/quorumgate/cluster/Command$PutIfAbsent" ks_2 [.null, .null]) :: (a36, ArrC Z .byte 2 (upd (upd (fun _ => 0) 0 ((x1.toInt8.toInt32).toInt8.toInt32)) 1 (((x1 >>> ((8 : Int32) &&& 31)).toInt8.toInt32).toInt8.toInt32))) :: (a35, ArrC Z .byte 0 (fun _ => 0)) :: (a7, ArrC Z .byte 2 (upd (upd (fun _ => 0) 0 ((x0.toInt8.toInt32).toInt8.toInt32)) 1 (((x0 >>> ((8 : Int32) &&& 31)).toInt8.toInt32).toInt8.toInt32))) :: (a6, ArrC Z .byte 0 (fun _ => 0)) :: []) 8 15 102 #[.val (.int x0), .val (.int x1), .val (.ref a6), .val (.ref a7), .val (.ref a7), .val (.ref a35), .val (.ref a36), .val (.int v37), .val (.ref a36), .unset, .unset, .unset, .unset] [.ref a42, .ref a41, .ref a41, .ref a40, .ref a40]
        refine Wk.callIW (pc' := 105) (rm := { frames := 4, cells := 2, slots := 20, locals := 53 }) (W0 := 3) (a := a41) (argsL := [.ref a42]) (st := [.ref a41, .ref a40, .ref a40]) C rfl rfl (w14 hw) (w15 hw) (w6 hw) (w16 hw) (by decide) (fun h O => rm1 l Z a0 hw a41 a42 ((a40, ObjC Z "com/example/quorumgate/quorumgate/cluster/Command$PutIfAbsent" ks_2 [.null, .null]) :: (a36, ArrC Z .byte 2 (upd (upd (fun _ => 0) 0 ((x1.toInt8.toInt32).toInt8.toInt32)) 1 (((x1 >>> ((8 : Int32) &&& 31)).toInt8.toInt32).toInt8.toInt32))) :: (a35, ArrC Z .byte 0 (fun _ => 0)) :: (a7, ArrC Z .byte 2 (upd (upd (fun _ => 0) 0 ((x0.toInt8.toInt32).toInt8.toInt32)) 1 (((x0 >>> ((8 : Int32) &&& 31)).toInt8.toInt32).toInt8.toInt32))) :: (a6, ArrC Z .byte 0 (fun _ => 0)) :: []) rb sa sb cz vf h n0 O K) (by decide) (by decide) (by decide) (by decide) at_102 rfl pd_11 rfl rfl rfl rfl ?_
        rintro _ h' ⟨rfl, O'⟩
        refine ⟨_, O', ?_⟩
        change Wk p l e _ m _ below meth c _ _ n0 ((a41, ObjC Z "com/example/quorumgate/quorumgate/cluster/Key" ks_1 [.ref a42]) :: (a40, ObjC Z "com/example/quorumgate/quorumgate/cluster/Command$PutIfAbsent" ks_2 [.null, .null]) :: (a36, ArrC Z .byte 2 (upd (upd (fun _ => 0) 0 ((x1.toInt8.toInt32).toInt8.toInt32)) 1 (((x1 >>> ((8 : Int32) &&& 31)).toInt8.toInt32).toInt8.toInt32))) :: (a35, ArrC Z .byte 0 (fun _ => 0)) :: (a7, ArrC Z .byte 2 (upd (upd (fun _ => 0) 0 ((x0.toInt8.toInt32).toInt8.toInt32)) 1 (((x0 >>> ((8 : Int32) &&& 31)).toInt8.toInt32).toInt8.toInt32))) :: (a6, ArrC Z .byte 0 (fun _ => 0)) :: []) 10 35 105 #[.val (.int x0), .val (.int x1), .val (.ref a6), .val (.ref a7), .val (.ref a7), .val (.ref a35), .val (.ref a36), .val (.int v37), .val (.ref a36), .unset, .unset, .unset, .unset] [.ref a41, .ref a40, .ref a40]
        refine Wk.aload (pc' := 107) C at_105 rfl rfl rfl ?_
        refine Wk.recast (L' := ((a40, ObjC Z "com/example/quorumgate/quorumgate/cluster/Command$PutIfAbsent" ks_2 [.null, .null]) :: (a41, ObjC Z "com/example/quorumgate/quorumgate/cluster/Key" ks_1 [.ref a42]) :: (a36, ArrC Z .byte 2 (upd (upd (fun _ => 0) 0 ((x1.toInt8.toInt32).toInt8.toInt32)) 1 (((x1 >>> ((8 : Int32) &&& 31)).toInt8.toInt32).toInt8.toInt32))) :: (a35, ArrC Z .byte 0 (fun _ => 0)) :: (a7, ArrC Z .byte 2 (upd (upd (fun _ => 0) 0 ((x0.toInt8.toInt32).toInt8.toInt32)) 1 (((x0 >>> ((8 : Int32) &&& 31)).toInt8.toInt32).toInt8.toInt32))) :: (a6, ArrC Z .byte 0 (fun _ => 0)) :: [])) ?_ (fun h O => (O.front 1 rfl))
        refine Wk.callIW (pc' := 110) (rm := { frames := 2, cells := 2, slots := 16, locals := 26 }) (W0 := 1) (a := a40) (argsL := [.ref a41, .ref a7]) (st := [.ref a40]) C rfl rfl (w75 hw) (w76 hw) (w3 hw) (w77 hw) (by decide) (fun h O => rm14 l Z a0 hw a40 a41 a7 ((a41, ObjC Z "com/example/quorumgate/quorumgate/cluster/Key" ks_1 [.ref a42]) :: (a36, ArrC Z .byte 2 (upd (upd (fun _ => 0) 0 ((x1.toInt8.toInt32).toInt8.toInt32)) 1 (((x1 >>> ((8 : Int32) &&& 31)).toInt8.toInt32).toInt8.toInt32))) :: (a35, ArrC Z .byte 0 (fun _ => 0)) :: (a7, ArrC Z .byte 2 (upd (upd (fun _ => 0) 0 ((x0.toInt8.toInt32).toInt8.toInt32)) 1 (((x0 >>> ((8 : Int32) &&& 31)).toInt8.toInt32).toInt8.toInt32))) :: (a6, ArrC Z .byte 0 (fun _ => 0)) :: []) 3 2 (upd (upd (fun _ => 0) 0 ((x0.toInt8.toInt32).toInt8.toInt32)) 1 (((x0 >>> ((8 : Int32) &&& 31)).toInt8.toInt32).toInt8.toInt32)) h n0 O rfl (by decide)) (by decide) (by decide) (by decide) (by decide) at_107 rfl pd_10 rfl rfl rfl rfl ?_
        rintro _ h' ⟨rfl, O'⟩
        refine ⟨_, O', ?_⟩
        change Wk p l e _ m _ below meth c _ _ n0 ((a40, ObjC Z "com/example/quorumgate/quorumgate/cluster/Command$PutIfAbsent" ks_2 [.ref a41, .ref a7]) :: (a41, ObjC Z "com/example/quorumgate/quorumgate/cluster/Key" ks_1 [.ref a42]) :: (a36, ArrC Z .byte 2 (upd (upd (fun _ => 0) 0 ((x1.toInt8.toInt32).toInt8.toInt32)) 1 (((x1 >>> ((8 : Int32) &&& 31)).toInt8.toInt32).toInt8.toInt32))) :: (a35, ArrC Z .byte 0 (fun _ => 0)) :: (a7, ArrC Z .byte 2 (upd (upd (fun _ => 0) 0 ((x0.toInt8.toInt32).toInt8.toInt32)) 1 (((x0 >>> ((8 : Int32) &&& 31)).toInt8.toInt32).toInt8.toInt32))) :: (a6, ArrC Z .byte 0 (fun _ => 0)) :: []) 12 51 110 #[.val (.int x0), .val (.int x1), .val (.ref a6), .val (.ref a7), .val (.ref a7), .val (.ref a35), .val (.ref a36), .val (.int v37), .val (.ref a36), .unset, .unset, .unset, .unset] [.ref a40]
        refine Wk.astore (Ls' := #[.val (.int x0), .val (.int x1), .val (.ref a6), .val (.ref a7), .val (.ref a7), .val (.ref a35), .val (.ref a36), .val (.int v37), .val (.ref a36), .val (.ref a40), .unset, .unset, .unset]) (pc' := 112) C at_110 rfl rfl rfl ?_
        refine Wk.aload (pc' := 114) C at_112 rfl rfl rfl ?_
        refine Wk.aload (pc' := 116) C at_114 rfl rfl rfl ?_
        refine Wk.callV (pc' := 119) (rm := { frames := 0, cells := 0, slots := 0, locals := 0 }) (W0 := 0) (q := 0) (argsL := [.ref a36]) (st := []) C rfl (w90 hw) (w91 hw) (w93 hw) (w92 hw) (w3 hw) (w94 hw) (by decide) (fun h O => rm16r l Z a0 hw a40 a36 ((a40, ObjC Z "com/example/quorumgate/quorumgate/cluster/Command$PutIfAbsent" ks_2 [.ref a41, .ref a7]) :: (a41, ObjC Z "com/example/quorumgate/quorumgate/cluster/Key" ks_1 [.ref a42]) :: (a36, ArrC Z .byte 2 (upd (upd (fun _ => 0) 0 ((x1.toInt8.toInt32).toInt8.toInt32)) 1 (((x1 >>> ((8 : Int32) &&& 31)).toInt8.toInt32).toInt8.toInt32))) :: (a35, ArrC Z .byte 0 (fun _ => 0)) :: (a7, ArrC Z .byte 2 (upd (upd (fun _ => 0) 0 ((x0.toInt8.toInt32).toInt8.toInt32)) 1 (((x0 >>> ((8 : Int32) &&& 31)).toInt8.toInt32).toInt8.toInt32))) :: (a6, ArrC Z .byte 0 (fun _ => 0)) :: []) 0 a41 a7 h n0 O rfl) (by decide) (by decide) (by decide) (by decide) at_116 rfl pd_12 rfl rfl rfl rfl ?_
        rintro _ h' ⟨rfl, O'⟩
        refine ⟨_, O', ?_⟩
        change Wk p l e _ m _ below meth c _ _ n0 ((a40, ObjC Z "com/example/quorumgate/quorumgate/cluster/Command$PutIfAbsent" ks_2 [.ref a41, .ref a7]) :: (a41, ObjC Z "com/example/quorumgate/quorumgate/cluster/Key" ks_1 [.ref a42]) :: (a36, ArrC Z .byte 2 (upd (upd (fun _ => 0) 0 ((x1.toInt8.toInt32).toInt8.toInt32)) 1 (((x1 >>> ((8 : Int32) &&& 31)).toInt8.toInt32).toInt8.toInt32))) :: (a35, ArrC Z .byte 0 (fun _ => 0)) :: (a7, ArrC Z .byte 2 (upd (upd (fun _ => 0) 0 ((x0.toInt8.toInt32).toInt8.toInt32)) 1 (((x0 >>> ((8 : Int32) &&& 31)).toInt8.toInt32).toInt8.toInt32))) :: (a6, ArrC Z .byte 0 (fun _ => 0)) :: []) 12 51 119 #[.val (.int x0), .val (.int x1), .val (.ref a6), .val (.ref a7), .val (.ref a7), .val (.ref a35), .val (.ref a36), .val (.int v37), .val (.ref a36), .val (.ref a40), .unset, .unset, .unset] [.ref a36]
        refine Wk.astore (Ls' := #[.val (.int x0), .val (.int x1), .val (.ref a6), .val (.ref a7), .val (.ref a7), .val (.ref a35), .val (.ref a36), .val (.int v37), .val (.ref a36), .val (.ref a40), .val (.ref a36), .unset, .unset]) (pc' := 121) C at_119 rfl rfl rfl ?_
        refine Wk.aload (pc' := 123) C at_121 rfl rfl rfl ?_
        refine Wk.aload (pc' := 125) C at_123 rfl rfl rfl ?_
        refine Wk.callV (pc' := 128) (rm := { frames := 0, cells := 0, slots := 0, locals := 0 }) (W0 := 0) (q := 0) (argsL := [.ref a36]) (st := []) C rfl (w90 hw) (w91 hw) (w93 hw) (w92 hw) (w3 hw) (w94 hw) (by decide) (fun h O => rm16r l Z a0 hw a40 a36 ((a40, ObjC Z "com/example/quorumgate/quorumgate/cluster/Command$PutIfAbsent" ks_2 [.ref a41, .ref a7]) :: (a41, ObjC Z "com/example/quorumgate/quorumgate/cluster/Key" ks_1 [.ref a42]) :: (a36, ArrC Z .byte 2 (upd (upd (fun _ => 0) 0 ((x1.toInt8.toInt32).toInt8.toInt32)) 1 (((x1 >>> ((8 : Int32) &&& 31)).toInt8.toInt32).toInt8.toInt32))) :: (a35, ArrC Z .byte 0 (fun _ => 0)) :: (a7, ArrC Z .byte 2 (upd (upd (fun _ => 0) 0 ((x0.toInt8.toInt32).toInt8.toInt32)) 1 (((x0 >>> ((8 : Int32) &&& 31)).toInt8.toInt32).toInt8.toInt32))) :: (a6, ArrC Z .byte 0 (fun _ => 0)) :: []) 0 a41 a7 h n0 O rfl) (by decide) (by decide) (by decide) (by decide) at_125 rfl pd_12 rfl rfl rfl rfl ?_
        rintro _ h' ⟨rfl, O'⟩
        refine ⟨_, O', ?_⟩
        change Wk p l e _ m _ below meth c _ _ n0 ((a40, ObjC Z "com/example/quorumgate/quorumgate/cluster/Command$PutIfAbsent" ks_2 [.ref a41, .ref a7]) :: (a41, ObjC Z "com/example/quorumgate/quorumgate/cluster/Key" ks_1 [.ref a42]) :: (a36, ArrC Z .byte 2 (upd (upd (fun _ => 0) 0 ((x1.toInt8.toInt32).toInt8.toInt32)) 1 (((x1 >>> ((8 : Int32) &&& 31)).toInt8.toInt32).toInt8.toInt32))) :: (a35, ArrC Z .byte 0 (fun _ => 0)) :: (a7, ArrC Z .byte 2 (upd (upd (fun _ => 0) 0 ((x0.toInt8.toInt32).toInt8.toInt32)) 1 (((x0 >>> ((8 : Int32) &&& 31)).toInt8.toInt32).toInt8.toInt32))) :: (a6, ArrC Z .byte 0 (fun _ => 0)) :: []) 12 51 128 #[.val (.int x0), .val (.int x1), .val (.ref a6), .val (.ref a7), .val (.ref a7), .val (.ref a35), .val (.ref a36), .val (.int v37), .val (.ref a36), .val (.ref a40), .val (.ref a36), .unset, .unset] [.ref a36]
        refine Wk.astore (Ls' := #[.val (.int x0), .val (.int x1), .val (.ref a6), .val (.ref a7), .val (.ref a7), .val (.ref a35), .val (.ref a36), .val (.int v37), .val (.ref a36), .val (.ref a40), .val (.ref a36), .val (.ref a36), .unset]) (pc' := 130) C at_128 rfl rfl rfl ?_
        refine Wk.aload (pc' := 132) C at_130 rfl rfl rfl ?_
        refine Wk.ifnonnullYes (pc' := 152) C at_132 (by decide) (by decide) ?_
        refine Wk.aload (pc' := 154) C at_152 rfl rfl rfl ?_
        refine Wk.aload (pc' := 156) C at_154 rfl rfl rfl ?_
        refine Wk.acmp (pc' := 159) (same := true) C at_156 rfl rfl (decide_eq_true rfl) (by decide) (by decide) ?_
        refine Wk.iconst (z := (1 : Int32)) (pc' := 160) C at_159 rfl rfl ?_
        refine Wk.goto (pc' := 164) C at_160 (by decide) (by decide) ?_
        refine Wk.istore (Ls' := #[.val (.int x0), .val (.int x1), .val (.ref a6), .val (.ref a7), .val (.ref a7), .val (.ref a35), .val (.ref a36), .val (.int v37), .val (.ref a36), .val (.ref a40), .val (.ref a36), .val (.ref a36), .val (.int (1 : Int32))]) (pc' := 166) C at_164 rfl rfl ?_
        refine Wk.iload (pc' := 168) C at_166 rfl rfl ?_
        refine Wk.if_eq (pcT := 182) (pcF := 171) C at_168 (by decide) (by decide) rfl (fun q => absurd q (by decide)) (fun _ => ?_)
        refine Wk.aload (pc' := 173) C at_171 rfl rfl rfl ?_
        refine Wk.aload (pc' := 175) C at_173 rfl rfl rfl ?_
        refine Wk.acmp (pc' := 178) (same := true) C at_175 rfl rfl (decide_eq_true rfl) (by decide) (by decide) ?_
        refine Wk.iconst (z := (1 : Int32)) (pc' := 179) C at_178 rfl rfl ?_
        refine Wk.goto (pc' := 183) C at_179 (by decide) (by decide) ?_
        refine Wk.istore (Ls' := #[.val (.int x0), .val (.int x1), .val (.ref a6), .val (.ref a7), .val (.ref a7), .val (.ref a35), .val (.ref a36), .val (.int v37), .val (.ref a36), .val (.ref a40), .val (.ref a36), .val (.ref a36), .val (.int (1 : Int32))]) (pc' := 185) C at_183 rfl rfl ?_
        refine Wk.iload (pc' := 187) C at_185 rfl rfl ?_
        refine Wk.if_eq (pcT := 205) (pcF := 190) C at_187 (by decide) (by decide) rfl (fun q => absurd q (by decide)) (fun _ => ?_)
        refine Wk.aloadN (pc' := 191) C at_190 rfl rfl rfl ?_
        refine Wk.arraylength (pc' := 192) (q := 5) (z := (0 : Int32)) C at_191 rfl (fun _ A => ⟨A.1, A.2.2.1⟩) rfl rfl ?_
        refine Wk.if_ne (pcT := 205) (pcF := 195) C at_192 (by decide) (by decide) rfl (fun q => absurd q (by decide)) (fun _ => ?_)
        refine Wk.aload (pc' := 197) C at_195 rfl rfl rfl ?_
        refine Wk.arraylength (pc' := 198) (q := 3) (z := (0 : Int32)) C at_197 rfl (fun _ A => ⟨A.1, A.2.2.1⟩) rfl rfl ?_
        refine Wk.if_ne (pcT := 205) (pcF := 201) C at_198 (by decide) (by decide) rfl (fun q => absurd q (by decide)) (fun _ => ?_)
        refine Wk.iconst (z := (1 : Int32)) (pc' := 202) C at_201 rfl rfl ?_
        refine Wk.goto (pc' := 206) C at_202 (by decide) (by decide) ?_
        refine Wk.istore (Ls' := #[.val (.int x0), .val (.int x1), .val (.ref a6), .val (.ref a7), .val (.ref a7), .val (.ref a35), .val (.ref a36), .val (.int v37), .val (.ref a36), .val (.ref a40), .val (.ref a36), .val (.ref a36), .val (.int (1 : Int32))]) (pc' := 208) C at_206 rfl rfl ?_
        refine Wk.iload (pc' := 210) C at_208 rfl rfl ?_
        refine Wk.if_eq (pcT := 242) (pcF := 213) C at_210 (by decide) (by decide) rfl (fun q => absurd q (by decide)) (fun _ => ?_)
        refine Wk.aloadN (pc' := 214) C at_213 rfl rfl rfl ?_
        refine Wk.arraylength (pc' := 215) (q := 4) (z := (2 : Int32)) C at_214 rfl (fun _ A => ⟨A.1, A.2.2.1⟩) rfl rfl ?_
        refine Wk.iconst (z := (2 : Int32)) (pc' := 216) C at_215 rfl rfl ?_
        refine Wk.icmp_ne (pcT := 242) (pcF := 219) C at_216 (by decide) (by decide) rfl (fun q => absurd q (by decide)) (fun _ => ?_)
        refine Wk.aloadN (pc' := 220) C at_219 rfl rfl rfl ?_
        refine Wk.iconst (z := (0 : Int32)) (pc' := 221) C at_220 rfl rfl ?_
        refine Wk.baload (pc' := 222) (q := 4) (i := 0) C at_221 rfl (by decide) (by decide) rfl ?_
        change Wk p l e _ m _ below meth c _ _ n0 ((a40, ObjC Z "com/example/quorumgate/quorumgate/cluster/Command$PutIfAbsent" ks_2 [.ref a41, .ref a7]) :: (a41, ObjC Z "com/example/quorumgate/quorumgate/cluster/Key" ks_1 [.ref a42]) :: (a36, ArrC Z .byte 2 (upd (upd (fun _ => 0) 0 ((x1.toInt8.toInt32).toInt8.toInt32)) 1 (((x1 >>> ((8 : Int32) &&& 31)).toInt8.toInt32).toInt8.toInt32))) :: (a35, ArrC Z .byte 0 (fun _ => 0)) :: (a7, ArrC Z .byte 2 (upd (upd (fun _ => 0) 0 ((x0.toInt8.toInt32).toInt8.toInt32)) 1 (((x0 >>> ((8 : Int32) &&& 31)).toInt8.toInt32).toInt8.toInt32))) :: (a6, ArrC Z .byte 0 (fun _ => 0)) :: []) 12 51 222 #[.val (.int x0), .val (.int x1), .val (.ref a6), .val (.ref a7), .val (.ref a7), .val (.ref a35), .val (.ref a36), .val (.int v37), .val (.ref a36), .val (.ref a40), .val (.ref a36), .val (.ref a36), .val (.int (1 : Int32))] [.int ((x0.toInt8.toInt32).toInt8.toInt32)]
        refine Wk.iloadN (pc' := 223) C at_222 rfl rfl ?_
        refine Wk.i2b (pc' := 224) C at_223 rfl ?_
        refine Wk.icmp_ne (pcT := 242) (pcF := 227) C at_224 (by decide) (by decide) rfl (fun c43 => (show False from c43 (by simp)).elim) (fun c43 => ?_)
        refine Wk.aloadN (pc' := 228) C at_227 rfl rfl rfl ?_
        refine Wk.iconst (z := (1 : Int32)) (pc' := 229) C at_228 rfl rfl ?_
        refine Wk.baload (pc' := 230) (q := 4) (i := 1) C at_229 rfl (by decide) (by decide) rfl ?_
        change Wk p l e _ m _ below meth c _ _ n0 ((a40, ObjC Z "com/example/quorumgate/quorumgate/cluster/Command$PutIfAbsent" ks_2 [.ref a41, .ref a7]) :: (a41, ObjC Z "com/example/quorumgate/quorumgate/cluster/Key" ks_1 [.ref a42]) :: (a36, ArrC Z .byte 2 (upd (upd (fun _ => 0) 0 ((x1.toInt8.toInt32).toInt8.toInt32)) 1 (((x1 >>> ((8 : Int32) &&& 31)).toInt8.toInt32).toInt8.toInt32))) :: (a35, ArrC Z .byte 0 (fun _ => 0)) :: (a7, ArrC Z .byte 2 (upd (upd (fun _ => 0) 0 ((x0.toInt8.toInt32).toInt8.toInt32)) 1 (((x0 >>> ((8 : Int32) &&& 31)).toInt8.toInt32).toInt8.toInt32))) :: (a6, ArrC Z .byte 0 (fun _ => 0)) :: []) 12 51 230 #[.val (.int x0), .val (.int x1), .val (.ref a6), .val (.ref a7), .val (.ref a7), .val (.ref a35), .val (.ref a36), .val (.int v37), .val (.ref a36), .val (.ref a40), .val (.ref a36), .val (.ref a36), .val (.int (1 : Int32))] [.int (((x0 >>> ((8 : Int32) &&& 31)).toInt8.toInt32).toInt8.toInt32)]
        refine Wk.iloadN (pc' := 231) C at_230 rfl rfl ?_
        refine Wk.bipush (z := (8 : Int32)) (pc' := 233) C at_231 rfl rfl ?_
        refine Wk.ishr (pc' := 234) C at_233 rfl ?_
        refine Wk.i2b (pc' := 235) C at_234 rfl ?_
        refine Wk.icmp_ne (pcT := 242) (pcF := 238) C at_235 (by decide) (by decide) rfl (fun c44 => (show False from c44 (by simp)).elim) (fun c44 => ?_)
        refine Wk.iconst (z := (1 : Int32)) (pc' := 239) C at_238 rfl rfl ?_
        refine Wk.goto (pc' := 243) C at_239 (by decide) (by decide) ?_
        refine Wk.istore (Ls' := #[.val (.int x0), .val (.int x1), .val (.ref a6), .val (.ref a7), .val (.ref a7), .val (.ref a35), .val (.ref a36), .val (.int v37), .val (.ref a36), .val (.ref a40), .val (.ref a36), .val (.ref a36), .val (.int (1 : Int32))]) (pc' := 245) C at_243 rfl rfl ?_
        refine Wk.iload (pc' := 247) C at_245 rfl rfl ?_
        refine Wk.if_eq (pcT := 282) (pcF := 250) C at_247 (by decide) (by decide) rfl (fun q => absurd q (by decide)) (fun _ => ?_)
        refine Wk.aload (pc' := 252) C at_250 rfl rfl rfl ?_
        refine Wk.arraylength (pc' := 253) (q := 2) (z := (2 : Int32)) C at_252 rfl (fun _ A => ⟨A.1, A.2.2.1⟩) rfl rfl ?_
        refine Wk.iconst (z := (2 : Int32)) (pc' := 254) C at_253 rfl rfl ?_
        refine Wk.icmp_ne (pcT := 282) (pcF := 257) C at_254 (by decide) (by decide) rfl (fun q => absurd q (by decide)) (fun _ => ?_)
        refine Wk.aload (pc' := 259) C at_257 rfl rfl rfl ?_
        refine Wk.iconst (z := (0 : Int32)) (pc' := 260) C at_259 rfl rfl ?_
        refine Wk.baload (pc' := 261) (q := 2) (i := 0) C at_260 rfl (by decide) (by decide) rfl ?_
        change Wk p l e _ m _ below meth c _ _ n0 ((a40, ObjC Z "com/example/quorumgate/quorumgate/cluster/Command$PutIfAbsent" ks_2 [.ref a41, .ref a7]) :: (a41, ObjC Z "com/example/quorumgate/quorumgate/cluster/Key" ks_1 [.ref a42]) :: (a36, ArrC Z .byte 2 (upd (upd (fun _ => 0) 0 ((x1.toInt8.toInt32).toInt8.toInt32)) 1 (((x1 >>> ((8 : Int32) &&& 31)).toInt8.toInt32).toInt8.toInt32))) :: (a35, ArrC Z .byte 0 (fun _ => 0)) :: (a7, ArrC Z .byte 2 (upd (upd (fun _ => 0) 0 ((x0.toInt8.toInt32).toInt8.toInt32)) 1 (((x0 >>> ((8 : Int32) &&& 31)).toInt8.toInt32).toInt8.toInt32))) :: (a6, ArrC Z .byte 0 (fun _ => 0)) :: []) 12 51 261 #[.val (.int x0), .val (.int x1), .val (.ref a6), .val (.ref a7), .val (.ref a7), .val (.ref a35), .val (.ref a36), .val (.int v37), .val (.ref a36), .val (.ref a40), .val (.ref a36), .val (.ref a36), .val (.int (1 : Int32))] [.int ((x1.toInt8.toInt32).toInt8.toInt32)]
        refine Wk.iloadN (pc' := 262) C at_261 rfl rfl ?_
        refine Wk.i2b (pc' := 263) C at_262 rfl ?_
        refine Wk.icmp_ne (pcT := 282) (pcF := 266) C at_263 (by decide) (by decide) rfl (fun c45 => (show False from c45 (by simp)).elim) (fun c45 => ?_)
        refine Wk.aload (pc' := 268) C at_266 rfl rfl rfl ?_
        refine Wk.iconst (z := (1 : Int32)) (pc' := 269) C at_268 rfl rfl ?_
        refine Wk.baload (pc' := 270) (q := 2) (i := 1) C at_269 rfl (by decide) (by decide) rfl ?_
        change Wk p l e _ m _ below meth c _ _ n0 ((a40, ObjC Z "com/example/quorumgate/quorumgate/cluster/Command$PutIfAbsent" ks_2 [.ref a41, .ref a7]) :: (a41, ObjC Z "com/example/quorumgate/quorumgate/cluster/Key" ks_1 [.ref a42]) :: (a36, ArrC Z .byte 2 (upd (upd (fun _ => 0) 0 ((x1.toInt8.toInt32).toInt8.toInt32)) 1 (((x1 >>> ((8 : Int32) &&& 31)).toInt8.toInt32).toInt8.toInt32))) :: (a35, ArrC Z .byte 0 (fun _ => 0)) :: (a7, ArrC Z .byte 2 (upd (upd (fun _ => 0) 0 ((x0.toInt8.toInt32).toInt8.toInt32)) 1 (((x0 >>> ((8 : Int32) &&& 31)).toInt8.toInt32).toInt8.toInt32))) :: (a6, ArrC Z .byte 0 (fun _ => 0)) :: []) 12 51 270 #[.val (.int x0), .val (.int x1), .val (.ref a6), .val (.ref a7), .val (.ref a7), .val (.ref a35), .val (.ref a36), .val (.int v37), .val (.ref a36), .val (.ref a40), .val (.ref a36), .val (.ref a36), .val (.int (1 : Int32))] [.int (((x1 >>> ((8 : Int32) &&& 31)).toInt8.toInt32).toInt8.toInt32)]
        refine Wk.iloadN (pc' := 271) C at_270 rfl rfl ?_
        refine Wk.bipush (z := (8 : Int32)) (pc' := 273) C at_271 rfl rfl ?_
        refine Wk.ishr (pc' := 274) C at_273 rfl ?_
        refine Wk.i2b (pc' := 275) C at_274 rfl ?_
        refine Wk.icmp_ne (pcT := 282) (pcF := 278) C at_275 (by decide) (by decide) rfl (fun c46 => (show False from c46 (by simp)).elim) (fun c46 => ?_)
        refine Wk.iconst (z := (1 : Int32)) (pc' := 279) C at_278 rfl rfl ?_
        refine Wk.goto (pc' := 283) C at_279 (by decide) (by decide) ?_
        refine Wk.istore (Ls' := #[.val (.int x0), .val (.int x1), .val (.ref a6), .val (.ref a7), .val (.ref a7), .val (.ref a35), .val (.ref a36), .val (.int v37), .val (.ref a36), .val (.ref a40), .val (.ref a36), .val (.ref a36), .val (.int (1 : Int32))]) (pc' := 285) C at_283 rfl rfl ?_
        refine Wk.iload (pc' := 287) C at_285 rfl rfl ?_
        exact Wk.retN C J at_287 (by decide) (by decide) (by simp) rfl (fun h O => rfl)
      · skip
        subst c39
        refine Wk.aload (pc' := 85) C at_83 rfl rfl rfl ?_
        refine Wk.goto (pc' := 90) C at_85 (by decide) (by decide) ?_
        refine Wk.astore (Ls' := #[.val (.int x0), .val (.int x1), .val (.ref a6), .val (.ref a7), .val (.ref a7), .val (.ref a35), .val (.ref a36), .val (.int (1 : Int32)), .val (.ref a35), .unset, .unset, .unset, .unset]) (pc' := 92) C at_90 rfl rfl rfl ?_
        refine Wk.new (pc' := 95) (ks := ks_2) (vs := [.null, .null]) C (w1 hw) (w2 hw) (w3 hw) (lays_ks_2 hw) at_92 rfl (by decide) (by decide) rfl ?_
        intro a47
        change Wk p l e _ m _ below meth c _ _ n0 ((a47, ObjC Z "com/example/quorumgate/quorumgate/cluster/Command$PutIfAbsent" ks_2 [.null, .null]) :: (a36, ArrC Z .byte 2 (upd (upd (fun _ => 0) 0 ((x1.toInt8.toInt32).toInt8.toInt32)) 1 (((x1 >>> ((8 : Int32) &&& 31)).toInt8.toInt32).toInt8.toInt32))) :: (a35, ArrC Z .byte 0 (fun _ => 0)) :: (a7, ArrC Z .byte 2 (upd (upd (fun _ => 0) 0 ((x0.toInt8.toInt32).toInt8.toInt32)) 1 (((x0 >>> ((8 : Int32) &&& 31)).toInt8.toInt32).toInt8.toInt32))) :: (a6, ArrC Z .byte 0 (fun _ => 0)) :: []) 5 6 95 #[.val (.int x0), .val (.int x1), .val (.ref a6), .val (.ref a7), .val (.ref a7), .val (.ref a35), .val (.ref a36), .val (.int (1 : Int32)), .val (.ref a35), .unset, .unset, .unset, .unset] [.ref a47]
        refine Wk.dup (pc' := 96) C at_95 rfl rfl ?_
        refine Wk.new (pc' := 99) (ks := ks_1) (vs := [.null]) C (w4 hw) (w5 hw) (w6 hw) (lays_ks_1 hw) at_96 rfl (by decide) (by decide) rfl ?_
        intro a48
        change Wk p l e _ m _ below meth c _ _ n0 ((a48, ObjC Z "com/example/quorumgate/quorumgate/cluster/Key" ks_1 [.null]) :: (a47, ObjC Z "com/example/quorumgate/quorumgate/cluster/Command$PutIfAbsent" ks_2 [.null, .null]) :: (a36, ArrC Z .byte 2 (upd (upd (fun _ => 0) 0 ((x1.toInt8.toInt32).toInt8.toInt32)) 1 (((x1 >>> ((8 : Int32) &&& 31)).toInt8.toInt32).toInt8.toInt32))) :: (a35, ArrC Z .byte 0 (fun _ => 0)) :: (a7, ArrC Z .byte 2 (upd (upd (fun _ => 0) 0 ((x0.toInt8.toInt32).toInt8.toInt32)) 1 (((x0 >>> ((8 : Int32) &&& 31)).toInt8.toInt32).toInt8.toInt32))) :: (a6, ArrC Z .byte 0 (fun _ => 0)) :: []) 6 7 99 #[.val (.int x0), .val (.int x1), .val (.ref a6), .val (.ref a7), .val (.ref a7), .val (.ref a35), .val (.ref a36), .val (.int (1 : Int32)), .val (.ref a35), .unset, .unset, .unset, .unset] [.ref a48, .ref a47, .ref a47]
        refine Wk.dup (pc' := 100) C at_99 rfl rfl ?_
        refine Wk.ldcK (pc' := 102) (nS := 4) C (w7 hw) (wSt hw) hh hcw hn0 hst hcz hvf ⟨by decide, by decide⟩ ?_ at_100 (by decide) (by decide) (by decide) (by decide) rfl ?_
        · intro x hx
          simp only [List.mem_cons, List.not_mem_nil, or_false] at hx
          rcases hx with rfl | rfl | rfl | rfl | rfl | rfl
          · exact Away.obj (w5 hw) (by decide)
          · exact Away.obj (w2 hw) (by decide)
          · exact Away.arr (by decide)
          · exact Away.arr (by decide)
          · exact Away.arr (by decide)
          · exact Away.arr (by decide)
        clear hn0 hst
        intro a49 rb n0 K
        replace C := C1
        change Wk p l e _ m _ below meth c _ _ n0 ((a48, ObjC Z "com/example/quorumgate/quorumgate/cluster/Key" ks_1 [.null]) :: (a47, ObjC Z "com/example/quorumgate/quorumgate/cluster/Command$PutIfAbsent" ks_2 [.null, .null]) :: (a36, ArrC Z .byte 2 (upd (upd (fun _ => 0) 0 ((x1.toInt8.toInt32).toInt8.toInt32)) 1 (((x1 >>> ((8 : Int32) &&& 31)).toInt8.toInt32).toInt8.toInt32))) :: (a35, ArrC Z .byte 0 (fun _ => 0)) :: (a7, ArrC Z .byte 2 (upd (upd (fun _ => 0) 0 ((x0.toInt8.toInt32).toInt8.toInt32)) 1 (((x0 >>> ((8 : Int32) &&& 31)).toInt8.toInt32).toInt8.toInt32))) :: (a6, ArrC Z .byte 0 (fun _ => 0)) :: []) 8 15 102 #[.val (.int x0), .val (.int x1), .val (.ref a6), .val (.ref a7), .val (.ref a7), .val (.ref a35), .val (.ref a36), .val (.int (1 : Int32)), .val (.ref a35), .unset, .unset, .unset, .unset] [.ref a49, .ref a48, .ref a48, .ref a47, .ref a47]
        refine Wk.callIW (pc' := 105) (rm := { frames := 4, cells := 2, slots := 20, locals := 53 }) (W0 := 3) (a := a48) (argsL := [.ref a49]) (st := [.ref a48, .ref a47, .ref a47]) C rfl rfl (w14 hw) (w15 hw) (w6 hw) (w16 hw) (by decide) (fun h O => rm1 l Z a0 hw a48 a49 ((a47, ObjC Z "com/example/quorumgate/quorumgate/cluster/Command$PutIfAbsent" ks_2 [.null, .null]) :: (a36, ArrC Z .byte 2 (upd (upd (fun _ => 0) 0 ((x1.toInt8.toInt32).toInt8.toInt32)) 1 (((x1 >>> ((8 : Int32) &&& 31)).toInt8.toInt32).toInt8.toInt32))) :: (a35, ArrC Z .byte 0 (fun _ => 0)) :: (a7, ArrC Z .byte 2 (upd (upd (fun _ => 0) 0 ((x0.toInt8.toInt32).toInt8.toInt32)) 1 (((x0 >>> ((8 : Int32) &&& 31)).toInt8.toInt32).toInt8.toInt32))) :: (a6, ArrC Z .byte 0 (fun _ => 0)) :: []) rb sa sb cz vf h n0 O K) (by decide) (by decide) (by decide) (by decide) at_102 rfl pd_11 rfl rfl rfl rfl ?_
        rintro _ h' ⟨rfl, O'⟩
        refine ⟨_, O', ?_⟩
        change Wk p l e _ m _ below meth c _ _ n0 ((a48, ObjC Z "com/example/quorumgate/quorumgate/cluster/Key" ks_1 [.ref a49]) :: (a47, ObjC Z "com/example/quorumgate/quorumgate/cluster/Command$PutIfAbsent" ks_2 [.null, .null]) :: (a36, ArrC Z .byte 2 (upd (upd (fun _ => 0) 0 ((x1.toInt8.toInt32).toInt8.toInt32)) 1 (((x1 >>> ((8 : Int32) &&& 31)).toInt8.toInt32).toInt8.toInt32))) :: (a35, ArrC Z .byte 0 (fun _ => 0)) :: (a7, ArrC Z .byte 2 (upd (upd (fun _ => 0) 0 ((x0.toInt8.toInt32).toInt8.toInt32)) 1 (((x0 >>> ((8 : Int32) &&& 31)).toInt8.toInt32).toInt8.toInt32))) :: (a6, ArrC Z .byte 0 (fun _ => 0)) :: []) 10 35 105 #[.val (.int x0), .val (.int x1), .val (.ref a6), .val (.ref a7), .val (.ref a7), .val (.ref a35), .val (.ref a36), .val (.int (1 : Int32)), .val (.ref a35), .unset, .unset, .unset, .unset] [.ref a48, .ref a47, .ref a47]
        refine Wk.aload (pc' := 107) C at_105 rfl rfl rfl ?_
        refine Wk.recast (L' := ((a47, ObjC Z "com/example/quorumgate/quorumgate/cluster/Command$PutIfAbsent" ks_2 [.null, .null]) :: (a48, ObjC Z "com/example/quorumgate/quorumgate/cluster/Key" ks_1 [.ref a49]) :: (a36, ArrC Z .byte 2 (upd (upd (fun _ => 0) 0 ((x1.toInt8.toInt32).toInt8.toInt32)) 1 (((x1 >>> ((8 : Int32) &&& 31)).toInt8.toInt32).toInt8.toInt32))) :: (a35, ArrC Z .byte 0 (fun _ => 0)) :: (a7, ArrC Z .byte 2 (upd (upd (fun _ => 0) 0 ((x0.toInt8.toInt32).toInt8.toInt32)) 1 (((x0 >>> ((8 : Int32) &&& 31)).toInt8.toInt32).toInt8.toInt32))) :: (a6, ArrC Z .byte 0 (fun _ => 0)) :: [])) ?_ (fun h O => (O.front 1 rfl))
        refine Wk.callIW (pc' := 110) (rm := { frames := 2, cells := 2, slots := 16, locals := 26 }) (W0 := 1) (a := a47) (argsL := [.ref a48, .ref a7]) (st := [.ref a47]) C rfl rfl (w75 hw) (w76 hw) (w3 hw) (w77 hw) (by decide) (fun h O => rm14 l Z a0 hw a47 a48 a7 ((a48, ObjC Z "com/example/quorumgate/quorumgate/cluster/Key" ks_1 [.ref a49]) :: (a36, ArrC Z .byte 2 (upd (upd (fun _ => 0) 0 ((x1.toInt8.toInt32).toInt8.toInt32)) 1 (((x1 >>> ((8 : Int32) &&& 31)).toInt8.toInt32).toInt8.toInt32))) :: (a35, ArrC Z .byte 0 (fun _ => 0)) :: (a7, ArrC Z .byte 2 (upd (upd (fun _ => 0) 0 ((x0.toInt8.toInt32).toInt8.toInt32)) 1 (((x0 >>> ((8 : Int32) &&& 31)).toInt8.toInt32).toInt8.toInt32))) :: (a6, ArrC Z .byte 0 (fun _ => 0)) :: []) 3 2 (upd (upd (fun _ => 0) 0 ((x0.toInt8.toInt32).toInt8.toInt32)) 1 (((x0 >>> ((8 : Int32) &&& 31)).toInt8.toInt32).toInt8.toInt32)) h n0 O rfl (by decide)) (by decide) (by decide) (by decide) (by decide) at_107 rfl pd_10 rfl rfl rfl rfl ?_
        rintro _ h' ⟨rfl, O'⟩
        refine ⟨_, O', ?_⟩
        change Wk p l e _ m _ below meth c _ _ n0 ((a47, ObjC Z "com/example/quorumgate/quorumgate/cluster/Command$PutIfAbsent" ks_2 [.ref a48, .ref a7]) :: (a48, ObjC Z "com/example/quorumgate/quorumgate/cluster/Key" ks_1 [.ref a49]) :: (a36, ArrC Z .byte 2 (upd (upd (fun _ => 0) 0 ((x1.toInt8.toInt32).toInt8.toInt32)) 1 (((x1 >>> ((8 : Int32) &&& 31)).toInt8.toInt32).toInt8.toInt32))) :: (a35, ArrC Z .byte 0 (fun _ => 0)) :: (a7, ArrC Z .byte 2 (upd (upd (fun _ => 0) 0 ((x0.toInt8.toInt32).toInt8.toInt32)) 1 (((x0 >>> ((8 : Int32) &&& 31)).toInt8.toInt32).toInt8.toInt32))) :: (a6, ArrC Z .byte 0 (fun _ => 0)) :: []) 12 51 110 #[.val (.int x0), .val (.int x1), .val (.ref a6), .val (.ref a7), .val (.ref a7), .val (.ref a35), .val (.ref a36), .val (.int (1 : Int32)), .val (.ref a35), .unset, .unset, .unset, .unset] [.ref a47]
        refine Wk.astore (Ls' := #[.val (.int x0), .val (.int x1), .val (.ref a6), .val (.ref a7), .val (.ref a7), .val (.ref a35), .val (.ref a36), .val (.int (1 : Int32)), .val (.ref a35), .val (.ref a47), .unset, .unset, .unset]) (pc' := 112) C at_110 rfl rfl rfl ?_
        refine Wk.aload (pc' := 114) C at_112 rfl rfl rfl ?_
        refine Wk.aload (pc' := 116) C at_114 rfl rfl rfl ?_
        refine Wk.callV (pc' := 119) (rm := { frames := 0, cells := 0, slots := 0, locals := 0 }) (W0 := 0) (q := 0) (argsL := [.ref a35]) (st := []) C rfl (w90 hw) (w91 hw) (w93 hw) (w92 hw) (w3 hw) (w94 hw) (by decide) (fun h O => rm16r l Z a0 hw a47 a35 ((a47, ObjC Z "com/example/quorumgate/quorumgate/cluster/Command$PutIfAbsent" ks_2 [.ref a48, .ref a7]) :: (a48, ObjC Z "com/example/quorumgate/quorumgate/cluster/Key" ks_1 [.ref a49]) :: (a36, ArrC Z .byte 2 (upd (upd (fun _ => 0) 0 ((x1.toInt8.toInt32).toInt8.toInt32)) 1 (((x1 >>> ((8 : Int32) &&& 31)).toInt8.toInt32).toInt8.toInt32))) :: (a35, ArrC Z .byte 0 (fun _ => 0)) :: (a7, ArrC Z .byte 2 (upd (upd (fun _ => 0) 0 ((x0.toInt8.toInt32).toInt8.toInt32)) 1 (((x0 >>> ((8 : Int32) &&& 31)).toInt8.toInt32).toInt8.toInt32))) :: (a6, ArrC Z .byte 0 (fun _ => 0)) :: []) 0 a48 a7 h n0 O rfl) (by decide) (by decide) (by decide) (by decide) at_116 rfl pd_12 rfl rfl rfl rfl ?_
        rintro _ h' ⟨rfl, O'⟩
        refine ⟨_, O', ?_⟩
        change Wk p l e _ m _ below meth c _ _ n0 ((a47, ObjC Z "com/example/quorumgate/quorumgate/cluster/Command$PutIfAbsent" ks_2 [.ref a48, .ref a7]) :: (a48, ObjC Z "com/example/quorumgate/quorumgate/cluster/Key" ks_1 [.ref a49]) :: (a36, ArrC Z .byte 2 (upd (upd (fun _ => 0) 0 ((x1.toInt8.toInt32).toInt8.toInt32)) 1 (((x1 >>> ((8 : Int32) &&& 31)).toInt8.toInt32).toInt8.toInt32))) :: (a35, ArrC Z .byte 0 (fun _ => 0)) :: (a7, ArrC Z .byte 2 (upd (upd (fun _ => 0) 0 ((x0.toInt8.toInt32).toInt8.toInt32)) 1 (((x0 >>> ((8 : Int32) &&& 31)).toInt8.toInt32).toInt8.toInt32))) :: (a6, ArrC Z .byte 0 (fun _ => 0)) :: []) 12 51 119 #[.val (.int x0), .val (.int x1), .val (.ref a6), .val (.ref a7), .val (.ref a7), .val (.ref a35), .val (.ref a36), .val (.int (1 : Int32)), .val (.ref a35), .val (.ref a47), .unset, .unset, .unset] [.ref a35]
        refine Wk.astore (Ls' := #[.val (.int x0), .val (.int x1), .val (.ref a6), .val (.ref a7), .val (.ref a7), .val (.ref a35), .val (.ref a36), .val (.int (1 : Int32)), .val (.ref a35), .val (.ref a47), .val (.ref a35), .unset, .unset]) (pc' := 121) C at_119 rfl rfl rfl ?_
        refine Wk.aload (pc' := 123) C at_121 rfl rfl rfl ?_
        refine Wk.aload (pc' := 125) C at_123 rfl rfl rfl ?_
        refine Wk.callV (pc' := 128) (rm := { frames := 0, cells := 0, slots := 0, locals := 0 }) (W0 := 0) (q := 0) (argsL := [.ref a35]) (st := []) C rfl (w90 hw) (w91 hw) (w93 hw) (w92 hw) (w3 hw) (w94 hw) (by decide) (fun h O => rm16r l Z a0 hw a47 a35 ((a47, ObjC Z "com/example/quorumgate/quorumgate/cluster/Command$PutIfAbsent" ks_2 [.ref a48, .ref a7]) :: (a48, ObjC Z "com/example/quorumgate/quorumgate/cluster/Key" ks_1 [.ref a49]) :: (a36, ArrC Z .byte 2 (upd (upd (fun _ => 0) 0 ((x1.toInt8.toInt32).toInt8.toInt32)) 1 (((x1 >>> ((8 : Int32) &&& 31)).toInt8.toInt32).toInt8.toInt32))) :: (a35, ArrC Z .byte 0 (fun _ => 0)) :: (a7, ArrC Z .byte 2 (upd (upd (fun _ => 0) 0 ((x0.toInt8.toInt32).toInt8.toInt32)) 1 (((x0 >>> ((8 : Int32) &&& 31)).toInt8.toInt32).toInt8.toInt32))) :: (a6, ArrC Z .byte 0 (fun _ => 0)) :: []) 0 a48 a7 h n0 O rfl) (by decide) (by decide) (by decide) (by decide) at_125 rfl pd_12 rfl rfl rfl rfl ?_
        rintro _ h' ⟨rfl, O'⟩
        refine ⟨_, O', ?_⟩
        change Wk p l e _ m _ below meth c _ _ n0 ((a47, ObjC Z "com/example/quorumgate/quorumgate/cluster/Command$PutIfAbsent" ks_2 [.ref a48, .ref a7]) :: (a48, ObjC Z "com/example/quorumgate/quorumgate/cluster/Key" ks_1 [.ref a49]) :: (a36, ArrC Z .byte 2 (upd (upd (fun _ => 0) 0 ((x1.toInt8.toInt32).toInt8.toInt32)) 1 (((x1 >>> ((8 : Int32) &&& 31)).toInt8.toInt32).toInt8.toInt32))) :: (a35, ArrC Z .byte 0 (fun _ => 0)) :: (a7, ArrC Z .byte 2 (upd (upd (fun _ => 0) 0 ((x0.toInt8.toInt32).toInt8.toInt32)) 1 (((x0 >>> ((8 : Int32) &&& 31)).toInt8.toInt32).toInt8.toInt32))) :: (a6, ArrC Z .byte 0 (fun _ => 0)) :: []) 12 51 128 #[.val (.int x0), .val (.int x1), .val (.ref a6), .val (.ref a7), .val (.ref a7), .val (.ref a35), .val (.ref a36), .val (.int (1 : Int32)), .val (.ref a35), .val (.ref a47), .val (.ref a35), .unset, .unset] [.ref a35]
        refine Wk.astore (Ls' := #[.val (.int x0), .val (.int x1), .val (.ref a6), .val (.ref a7), .val (.ref a7), .val (.ref a35), .val (.ref a36), .val (.int (1 : Int32)), .val (.ref a35), .val (.ref a47), .val (.ref a35), .val (.ref a35), .unset]) (pc' := 130) C at_128 rfl rfl rfl ?_
        refine Wk.aload (pc' := 132) C at_130 rfl rfl rfl ?_
        refine Wk.ifnonnullYes (pc' := 152) C at_132 (by decide) (by decide) ?_
        refine Wk.aload (pc' := 154) C at_152 rfl rfl rfl ?_
        refine Wk.aload (pc' := 156) C at_154 rfl rfl rfl ?_
        refine Wk.acmp (pc' := 159) (same := true) C at_156 rfl rfl (decide_eq_true rfl) (by decide) (by decide) ?_
        refine Wk.iconst (z := (1 : Int32)) (pc' := 160) C at_159 rfl rfl ?_
        refine Wk.goto (pc' := 164) C at_160 (by decide) (by decide) ?_
        refine Wk.istore (Ls' := #[.val (.int x0), .val (.int x1), .val (.ref a6), .val (.ref a7), .val (.ref a7), .val (.ref a35), .val (.ref a36), .val (.int (1 : Int32)), .val (.ref a35), .val (.ref a47), .val (.ref a35), .val (.ref a35), .val (.int (1 : Int32))]) (pc' := 166) C at_164 rfl rfl ?_
        refine Wk.iload (pc' := 168) C at_166 rfl rfl ?_
        refine Wk.if_eq (pcT := 182) (pcF := 171) C at_168 (by decide) (by decide) rfl (fun q => absurd q (by decide)) (fun _ => ?_)
        refine Wk.aload (pc' := 173) C at_171 rfl rfl rfl ?_
        refine Wk.aload (pc' := 175) C at_173 rfl rfl rfl ?_
        refine Wk.acmp (pc' := 178) (same := true) C at_175 rfl rfl (decide_eq_true rfl) (by decide) (by decide) ?_
        refine Wk.iconst (z := (1 : Int32)) (pc' := 179) C at_178 rfl rfl ?_
        refine Wk.goto (pc' := 183) C at_179 (by decide) (by decide) ?_
        refine Wk.istore (Ls' := #[.val (.int x0), .val (.int x1), .val (.ref a6), .val (.ref a7), .val (.ref a7), .val (.ref a35), .val (.ref a36), .val (.int (1 : Int32)), .val (.ref a35), .val (.ref a47), .val (.ref a35), .val (.ref a35), .val (.int (1 : Int32))]) (pc' := 185) C at_183 rfl rfl ?_
        refine Wk.iload (pc' := 187) C at_185 rfl rfl ?_
        refine Wk.if_eq (pcT := 205) (pcF := 190) C at_187 (by decide) (by decide) rfl (fun q => absurd q (by decide)) (fun _ => ?_)
        refine Wk.aloadN (pc' := 191) C at_190 rfl rfl rfl ?_
        refine Wk.arraylength (pc' := 192) (q := 5) (z := (0 : Int32)) C at_191 rfl (fun _ A => ⟨A.1, A.2.2.1⟩) rfl rfl ?_
        refine Wk.if_ne (pcT := 205) (pcF := 195) C at_192 (by decide) (by decide) rfl (fun q => absurd q (by decide)) (fun _ => ?_)
        refine Wk.aload (pc' := 197) C at_195 rfl rfl rfl ?_
        refine Wk.arraylength (pc' := 198) (q := 3) (z := (0 : Int32)) C at_197 rfl (fun _ A => ⟨A.1, A.2.2.1⟩) rfl rfl ?_
        refine Wk.if_ne (pcT := 205) (pcF := 201) C at_198 (by decide) (by decide) rfl (fun q => absurd q (by decide)) (fun _ => ?_)
        refine Wk.iconst (z := (1 : Int32)) (pc' := 202) C at_201 rfl rfl ?_
        refine Wk.goto (pc' := 206) C at_202 (by decide) (by decide) ?_
        refine Wk.istore (Ls' := #[.val (.int x0), .val (.int x1), .val (.ref a6), .val (.ref a7), .val (.ref a7), .val (.ref a35), .val (.ref a36), .val (.int (1 : Int32)), .val (.ref a35), .val (.ref a47), .val (.ref a35), .val (.ref a35), .val (.int (1 : Int32))]) (pc' := 208) C at_206 rfl rfl ?_
        refine Wk.iload (pc' := 210) C at_208 rfl rfl ?_
        refine Wk.if_eq (pcT := 242) (pcF := 213) C at_210 (by decide) (by decide) rfl (fun q => absurd q (by decide)) (fun _ => ?_)
        refine Wk.aloadN (pc' := 214) C at_213 rfl rfl rfl ?_
        refine Wk.arraylength (pc' := 215) (q := 4) (z := (2 : Int32)) C at_214 rfl (fun _ A => ⟨A.1, A.2.2.1⟩) rfl rfl ?_
        refine Wk.iconst (z := (2 : Int32)) (pc' := 216) C at_215 rfl rfl ?_
        refine Wk.icmp_ne (pcT := 242) (pcF := 219) C at_216 (by decide) (by decide) rfl (fun q => absurd q (by decide)) (fun _ => ?_)
        refine Wk.aloadN (pc' := 220) C at_219 rfl rfl rfl ?_
        refine Wk.iconst (z := (0 : Int32)) (pc' := 221) C at_220 rfl rfl ?_
        refine Wk.baload (pc' := 222) (q := 4) (i := 0) C at_221 rfl (by decide) (by decide) rfl ?_
        change Wk p l e _ m _ below meth c _ _ n0 ((a47, ObjC Z "com/example/quorumgate/quorumgate/cluster/Command$PutIfAbsent" ks_2 [.ref a48, .ref a7]) :: (a48, ObjC Z "com/example/quorumgate/quorumgate/cluster/Key" ks_1 [.ref a49]) :: (a36, ArrC Z .byte 2 (upd (upd (fun _ => 0) 0 ((x1.toInt8.toInt32).toInt8.toInt32)) 1 (((x1 >>> ((8 : Int32) &&& 31)).toInt8.toInt32).toInt8.toInt32))) :: (a35, ArrC Z .byte 0 (fun _ => 0)) :: (a7, ArrC Z .byte 2 (upd (upd (fun _ => 0) 0 ((x0.toInt8.toInt32).toInt8.toInt32)) 1 (((x0 >>> ((8 : Int32) &&& 31)).toInt8.toInt32).toInt8.toInt32))) :: (a6, ArrC Z .byte 0 (fun _ => 0)) :: []) 12 51 222 #[.val (.int x0), .val (.int x1), .val (.ref a6), .val (.ref a7), .val (.ref a7), .val (.ref a35), .val (.ref a36), .val (.int (1 : Int32)), .val (.ref a35), .val (.ref a47), .val (.ref a35), .val (.ref a35), .val (.int (1 : Int32))] [.int ((x0.toInt8.toInt32).toInt8.toInt32)]
        refine Wk.iloadN (pc' := 223) C at_222 rfl rfl ?_
        refine Wk.i2b (pc' := 224) C at_223 rfl ?_
        refine Wk.icmp_ne (pcT := 242) (pcF := 227) C at_224 (by decide) (by decide) rfl (fun c50 => (show False from c50 (by simp)).elim) (fun c50 => ?_)
        refine Wk.aloadN (pc' := 228) C at_227 rfl rfl rfl ?_
        refine Wk.iconst (z := (1 : Int32)) (pc' := 229) C at_228 rfl rfl ?_
        refine Wk.baload (pc' := 230) (q := 4) (i := 1) C at_229 rfl (by decide) (by decide) rfl ?_
        change Wk p l e _ m _ below meth c _ _ n0 ((a47, ObjC Z "com/example/quorumgate/quorumgate/cluster/Command$PutIfAbsent" ks_2 [.ref a48, .ref a7]) :: (a48, ObjC Z "com/example/quorumgate/quorumgate/cluster/Key" ks_1 [.ref a49]) :: (a36, ArrC Z .byte 2 (upd (upd (fun _ => 0) 0 ((x1.toInt8.toInt32).toInt8.toInt32)) 1 (((x1 >>> ((8 : Int32) &&& 31)).toInt8.toInt32).toInt8.toInt32))) :: (a35, ArrC Z .byte 0 (fun _ => 0)) :: (a7, ArrC Z .byte 2 (upd (upd (fun _ => 0) 0 ((x0.toInt8.toInt32).toInt8.toInt32)) 1 (((x0 >>> ((8 : Int32) &&& 31)).toInt8.toInt32).toInt8.toInt32))) :: (a6, ArrC Z .byte 0 (fun _ => 0)) :: []) 12 51 230 #[.val (.int x0), .val (.int x1), .val (.ref a6), .val (.ref a7), .val (.ref a7), .val (.ref a35), .val (.ref a36), .val (.int (1 : Int32)), .val (.ref a35), .val (.ref a47), .val (.ref a35), .val (.ref a35), .val (.int (1 : Int32))] [.int (((x0 >>> ((8 : Int32) &&& 31)).toInt8.toInt32).toInt8.toInt32)]
        refine Wk.iloadN (pc' := 231) C at_230 rfl rfl ?_
        refine Wk.bipush (z := (8 : Int32)) (pc' := 233) C at_231 rfl rfl ?_
        refine Wk.ishr (pc' := 234) C at_233 rfl ?_
        refine Wk.i2b (pc' := 235) C at_234 rfl ?_
        refine Wk.icmp_ne (pcT := 242) (pcF := 238) C at_235 (by decide) (by decide) rfl (fun c51 => (show False from c51 (by simp)).elim) (fun c51 => ?_)
        refine Wk.iconst (z := (1 : Int32)) (pc' := 239) C at_238 rfl rfl ?_
        refine Wk.goto (pc' := 243) C at_239 (by decide) (by decide) ?_
        refine Wk.istore (Ls' := #[.val (.int x0), .val (.int x1), .val (.ref a6), .val (.ref a7), .val (.ref a7), .val (.ref a35), .val (.ref a36), .val (.int (1 : Int32)), .val (.ref a35), .val (.ref a47), .val (.ref a35), .val (.ref a35), .val (.int (1 : Int32))]) (pc' := 245) C at_243 rfl rfl ?_
        refine Wk.iload (pc' := 247) C at_245 rfl rfl ?_
        refine Wk.if_eq (pcT := 282) (pcF := 250) C at_247 (by decide) (by decide) rfl (fun q => absurd q (by decide)) (fun _ => ?_)
        refine Wk.aload (pc' := 252) C at_250 rfl rfl rfl ?_
        refine Wk.arraylength (pc' := 253) (q := 2) (z := (2 : Int32)) C at_252 rfl (fun _ A => ⟨A.1, A.2.2.1⟩) rfl rfl ?_
        refine Wk.iconst (z := (2 : Int32)) (pc' := 254) C at_253 rfl rfl ?_
        refine Wk.icmp_ne (pcT := 282) (pcF := 257) C at_254 (by decide) (by decide) rfl (fun q => absurd q (by decide)) (fun _ => ?_)
        refine Wk.aload (pc' := 259) C at_257 rfl rfl rfl ?_
        refine Wk.iconst (z := (0 : Int32)) (pc' := 260) C at_259 rfl rfl ?_
        refine Wk.baload (pc' := 261) (q := 2) (i := 0) C at_260 rfl (by decide) (by decide) rfl ?_
        change Wk p l e _ m _ below meth c _ _ n0 ((a47, ObjC Z "com/example/quorumgate/quorumgate/cluster/Command$PutIfAbsent" ks_2 [.ref a48, .ref a7]) :: (a48, ObjC Z "com/example/quorumgate/quorumgate/cluster/Key" ks_1 [.ref a49]) :: (a36, ArrC Z .byte 2 (upd (upd (fun _ => 0) 0 ((x1.toInt8.toInt32).toInt8.toInt32)) 1 (((x1 >>> ((8 : Int32) &&& 31)).toInt8.toInt32).toInt8.toInt32))) :: (a35, ArrC Z .byte 0 (fun _ => 0)) :: (a7, ArrC Z .byte 2 (upd (upd (fun _ => 0) 0 ((x0.toInt8.toInt32).toInt8.toInt32)) 1 (((x0 >>> ((8 : Int32) &&& 31)).toInt8.toInt32).toInt8.toInt32))) :: (a6, ArrC Z .byte 0 (fun _ => 0)) :: []) 12 51 261 #[.val (.int x0), .val (.int x1), .val (.ref a6), .val (.ref a7), .val (.ref a7), .val (.ref a35), .val (.ref a36), .val (.int (1 : Int32)), .val (.ref a35), .val (.ref a47), .val (.ref a35), .val (.ref a35), .val (.int (1 : Int32))] [.int ((x1.toInt8.toInt32).toInt8.toInt32)]
        refine Wk.iloadN (pc' := 262) C at_261 rfl rfl ?_
        refine Wk.i2b (pc' := 263) C at_262 rfl ?_
        refine Wk.icmp_ne (pcT := 282) (pcF := 266) C at_263 (by decide) (by decide) rfl (fun c52 => (show False from c52 (by simp)).elim) (fun c52 => ?_)
        refine Wk.aload (pc' := 268) C at_266 rfl rfl rfl ?_
        refine Wk.iconst (z := (1 : Int32)) (pc' := 269) C at_268 rfl rfl ?_
        refine Wk.baload (pc' := 270) (q := 2) (i := 1) C at_269 rfl (by decide) (by decide) rfl ?_
        change Wk p l e _ m _ below meth c _ _ n0 ((a47, ObjC Z "com/example/quorumgate/quorumgate/cluster/Command$PutIfAbsent" ks_2 [.ref a48, .ref a7]) :: (a48, ObjC Z "com/example/quorumgate/quorumgate/cluster/Key" ks_1 [.ref a49]) :: (a36, ArrC Z .byte 2 (upd (upd (fun _ => 0) 0 ((x1.toInt8.toInt32).toInt8.toInt32)) 1 (((x1 >>> ((8 : Int32) &&& 31)).toInt8.toInt32).toInt8.toInt32))) :: (a35, ArrC Z .byte 0 (fun _ => 0)) :: (a7, ArrC Z .byte 2 (upd (upd (fun _ => 0) 0 ((x0.toInt8.toInt32).toInt8.toInt32)) 1 (((x0 >>> ((8 : Int32) &&& 31)).toInt8.toInt32).toInt8.toInt32))) :: (a6, ArrC Z .byte 0 (fun _ => 0)) :: []) 12 51 270 #[.val (.int x0), .val (.int x1), .val (.ref a6), .val (.ref a7), .val (.ref a7), .val (.ref a35), .val (.ref a36), .val (.int (1 : Int32)), .val (.ref a35), .val (.ref a47), .val (.ref a35), .val (.ref a35), .val (.int (1 : Int32))] [.int (((x1 >>> ((8 : Int32) &&& 31)).toInt8.toInt32).toInt8.toInt32)]
        refine Wk.iloadN (pc' := 271) C at_270 rfl rfl ?_
        refine Wk.bipush (z := (8 : Int32)) (pc' := 273) C at_271 rfl rfl ?_
        refine Wk.ishr (pc' := 274) C at_273 rfl ?_
        refine Wk.i2b (pc' := 275) C at_274 rfl ?_
        refine Wk.icmp_ne (pcT := 282) (pcF := 278) C at_275 (by decide) (by decide) rfl (fun c53 => (show False from c53 (by simp)).elim) (fun c53 => ?_)
        refine Wk.iconst (z := (1 : Int32)) (pc' := 279) C at_278 rfl rfl ?_
        refine Wk.goto (pc' := 283) C at_279 (by decide) (by decide) ?_
        refine Wk.istore (Ls' := #[.val (.int x0), .val (.int x1), .val (.ref a6), .val (.ref a7), .val (.ref a7), .val (.ref a35), .val (.ref a36), .val (.int (1 : Int32)), .val (.ref a35), .val (.ref a47), .val (.ref a35), .val (.ref a35), .val (.int (1 : Int32))]) (pc' := 285) C at_283 rfl rfl ?_
        refine Wk.iload (pc' := 287) C at_285 rfl rfl ?_
        exact Wk.retN C J at_287 (by decide) (by decide) (by simp) rfl (fun h O => rfl)
    · skip
      subst c38
      refine Wk.aconstNull (pc' := 74) C at_73 rfl ?_
      refine Wk.goto (pc' := 90) C at_74 (by decide) (by decide) ?_
      refine Wk.astore (Ls' := #[.val (.int x0), .val (.int x1), .val (.ref a6), .val (.ref a7), .val (.ref a7), .val (.ref a35), .val (.ref a36), .val (.int (0 : Int32)), .val (.null), .unset, .unset, .unset, .unset]) (pc' := 92) C at_90 rfl rfl rfl ?_
      refine Wk.new (pc' := 95) (ks := ks_2) (vs := [.null, .null]) C (w1 hw) (w2 hw) (w3 hw) (lays_ks_2 hw) at_92 rfl (by decide) (by decide) rfl ?_
      intro a54
      change Wk p l e _ m _ below meth c _ _ n0 ((a54, ObjC Z "com/example/quorumgate/quorumgate/cluster/Command$PutIfAbsent" ks_2 [.null, .null]) :: (a36, ArrC Z .byte 2 (upd (upd (fun _ => 0) 0 ((x1.toInt8.toInt32).toInt8.toInt32)) 1 (((x1 >>> ((8 : Int32) &&& 31)).toInt8.toInt32).toInt8.toInt32))) :: (a35, ArrC Z .byte 0 (fun _ => 0)) :: (a7, ArrC Z .byte 2 (upd (upd (fun _ => 0) 0 ((x0.toInt8.toInt32).toInt8.toInt32)) 1 (((x0 >>> ((8 : Int32) &&& 31)).toInt8.toInt32).toInt8.toInt32))) :: (a6, ArrC Z .byte 0 (fun _ => 0)) :: []) 5 6 95 #[.val (.int x0), .val (.int x1), .val (.ref a6), .val (.ref a7), .val (.ref a7), .val (.ref a35), .val (.ref a36), .val (.int (0 : Int32)), .val (.null), .unset, .unset, .unset, .unset] [.ref a54]
      refine Wk.dup (pc' := 96) C at_95 rfl rfl ?_
      refine Wk.new (pc' := 99) (ks := ks_1) (vs := [.null]) C (w4 hw) (w5 hw) (w6 hw) (lays_ks_1 hw) at_96 rfl (by decide) (by decide) rfl ?_
      intro a55
      change Wk p l e _ m _ below meth c _ _ n0 ((a55, ObjC Z "com/example/quorumgate/quorumgate/cluster/Key" ks_1 [.null]) :: (a54, ObjC Z "com/example/quorumgate/quorumgate/cluster/Command$PutIfAbsent" ks_2 [.null, .null]) :: (a36, ArrC Z .byte 2 (upd (upd (fun _ => 0) 0 ((x1.toInt8.toInt32).toInt8.toInt32)) 1 (((x1 >>> ((8 : Int32) &&& 31)).toInt8.toInt32).toInt8.toInt32))) :: (a35, ArrC Z .byte 0 (fun _ => 0)) :: (a7, ArrC Z .byte 2 (upd (upd (fun _ => 0) 0 ((x0.toInt8.toInt32).toInt8.toInt32)) 1 (((x0 >>> ((8 : Int32) &&& 31)).toInt8.toInt32).toInt8.toInt32))) :: (a6, ArrC Z .byte 0 (fun _ => 0)) :: []) 6 7 99 #[.val (.int x0), .val (.int x1), .val (.ref a6), .val (.ref a7), .val (.ref a7), .val (.ref a35), .val (.ref a36), .val (.int (0 : Int32)), .val (.null), .unset, .unset, .unset, .unset] [.ref a55, .ref a54, .ref a54]
      refine Wk.dup (pc' := 100) C at_99 rfl rfl ?_
      refine Wk.ldcK (pc' := 102) (nS := 4) C (w7 hw) (wSt hw) hh hcw hn0 hst hcz hvf ⟨by decide, by decide⟩ ?_ at_100 (by decide) (by decide) (by decide) (by decide) rfl ?_
      · intro x hx
        simp only [List.mem_cons, List.not_mem_nil, or_false] at hx
        rcases hx with rfl | rfl | rfl | rfl | rfl | rfl
        · exact Away.obj (w5 hw) (by decide)
        · exact Away.obj (w2 hw) (by decide)
        · exact Away.arr (by decide)
        · exact Away.arr (by decide)
        · exact Away.arr (by decide)
        · exact Away.arr (by decide)
      clear hn0 hst
      intro a56 rb n0 K
      replace C := C1
      change Wk p l e _ m _ below meth c _ _ n0 ((a55, ObjC Z "com/example/quorumgate/quorumgate/cluster/Key" ks_1 [.null]) :: (a54, ObjC Z "com/example/quorumgate/quorumgate/cluster/Command$PutIfAbsent" ks_2 [.null, .null]) :: (a36, ArrC Z .byte 2 (upd (upd (fun _ => 0) 0 ((x1.toInt8.toInt32).toInt8.toInt32)) 1 (((x1 >>> ((8 : Int32) &&& 31)).toInt8.toInt32).toInt8.toInt32))) :: (a35, ArrC Z .byte 0 (fun _ => 0)) :: (a7, ArrC Z .byte 2 (upd (upd (fun _ => 0) 0 ((x0.toInt8.toInt32).toInt8.toInt32)) 1 (((x0 >>> ((8 : Int32) &&& 31)).toInt8.toInt32).toInt8.toInt32))) :: (a6, ArrC Z .byte 0 (fun _ => 0)) :: []) 8 15 102 #[.val (.int x0), .val (.int x1), .val (.ref a6), .val (.ref a7), .val (.ref a7), .val (.ref a35), .val (.ref a36), .val (.int (0 : Int32)), .val (.null), .unset, .unset, .unset, .unset] [.ref a56, .ref a55, .ref a55, .ref a54, .ref a54]
      refine Wk.callIW (pc' := 105) (rm := { frames := 4, cells := 2, slots := 20, locals := 53 }) (W0 := 3) (a := a55) (argsL := [.ref a56]) (st := [.ref a55, .ref a54, .ref a54]) C rfl rfl (w14 hw) (w15 hw) (w6 hw) (w16 hw) (by decide) (fun h O => rm1 l Z a0 hw a55 a56 ((a54, ObjC Z "com/example/quorumgate/quorumgate/cluster/Command$PutIfAbsent" ks_2 [.null, .null]) :: (a36, ArrC Z .byte 2 (upd (upd (fun _ => 0) 0 ((x1.toInt8.toInt32).toInt8.toInt32)) 1 (((x1 >>> ((8 : Int32) &&& 31)).toInt8.toInt32).toInt8.toInt32))) :: (a35, ArrC Z .byte 0 (fun _ => 0)) :: (a7, ArrC Z .byte 2 (upd (upd (fun _ => 0) 0 ((x0.toInt8.toInt32).toInt8.toInt32)) 1 (((x0 >>> ((8 : Int32) &&& 31)).toInt8.toInt32).toInt8.toInt32))) :: (a6, ArrC Z .byte 0 (fun _ => 0)) :: []) rb sa sb cz vf h n0 O K) (by decide) (by decide) (by decide) (by decide) at_102 rfl pd_11 rfl rfl rfl rfl ?_
      rintro _ h' ⟨rfl, O'⟩
      refine ⟨_, O', ?_⟩
      change Wk p l e _ m _ below meth c _ _ n0 ((a55, ObjC Z "com/example/quorumgate/quorumgate/cluster/Key" ks_1 [.ref a56]) :: (a54, ObjC Z "com/example/quorumgate/quorumgate/cluster/Command$PutIfAbsent" ks_2 [.null, .null]) :: (a36, ArrC Z .byte 2 (upd (upd (fun _ => 0) 0 ((x1.toInt8.toInt32).toInt8.toInt32)) 1 (((x1 >>> ((8 : Int32) &&& 31)).toInt8.toInt32).toInt8.toInt32))) :: (a35, ArrC Z .byte 0 (fun _ => 0)) :: (a7, ArrC Z .byte 2 (upd (upd (fun _ => 0) 0 ((x0.toInt8.toInt32).toInt8.toInt32)) 1 (((x0 >>> ((8 : Int32) &&& 31)).toInt8.toInt32).toInt8.toInt32))) :: (a6, ArrC Z .byte 0 (fun _ => 0)) :: []) 10 35 105 #[.val (.int x0), .val (.int x1), .val (.ref a6), .val (.ref a7), .val (.ref a7), .val (.ref a35), .val (.ref a36), .val (.int (0 : Int32)), .val (.null), .unset, .unset, .unset, .unset] [.ref a55, .ref a54, .ref a54]
      refine Wk.aload (pc' := 107) C at_105 rfl rfl rfl ?_
      refine Wk.recast (L' := ((a54, ObjC Z "com/example/quorumgate/quorumgate/cluster/Command$PutIfAbsent" ks_2 [.null, .null]) :: (a55, ObjC Z "com/example/quorumgate/quorumgate/cluster/Key" ks_1 [.ref a56]) :: (a36, ArrC Z .byte 2 (upd (upd (fun _ => 0) 0 ((x1.toInt8.toInt32).toInt8.toInt32)) 1 (((x1 >>> ((8 : Int32) &&& 31)).toInt8.toInt32).toInt8.toInt32))) :: (a35, ArrC Z .byte 0 (fun _ => 0)) :: (a7, ArrC Z .byte 2 (upd (upd (fun _ => 0) 0 ((x0.toInt8.toInt32).toInt8.toInt32)) 1 (((x0 >>> ((8 : Int32) &&& 31)).toInt8.toInt32).toInt8.toInt32))) :: (a6, ArrC Z .byte 0 (fun _ => 0)) :: [])) ?_ (fun h O => (O.front 1 rfl))
      refine Wk.callIW (pc' := 110) (rm := { frames := 2, cells := 2, slots := 16, locals := 26 }) (W0 := 1) (a := a54) (argsL := [.ref a55, .ref a7]) (st := [.ref a54]) C rfl rfl (w75 hw) (w76 hw) (w3 hw) (w77 hw) (by decide) (fun h O => rm14 l Z a0 hw a54 a55 a7 ((a55, ObjC Z "com/example/quorumgate/quorumgate/cluster/Key" ks_1 [.ref a56]) :: (a36, ArrC Z .byte 2 (upd (upd (fun _ => 0) 0 ((x1.toInt8.toInt32).toInt8.toInt32)) 1 (((x1 >>> ((8 : Int32) &&& 31)).toInt8.toInt32).toInt8.toInt32))) :: (a35, ArrC Z .byte 0 (fun _ => 0)) :: (a7, ArrC Z .byte 2 (upd (upd (fun _ => 0) 0 ((x0.toInt8.toInt32).toInt8.toInt32)) 1 (((x0 >>> ((8 : Int32) &&& 31)).toInt8.toInt32).toInt8.toInt32))) :: (a6, ArrC Z .byte 0 (fun _ => 0)) :: []) 3 2 (upd (upd (fun _ => 0) 0 ((x0.toInt8.toInt32).toInt8.toInt32)) 1 (((x0 >>> ((8 : Int32) &&& 31)).toInt8.toInt32).toInt8.toInt32)) h n0 O rfl (by decide)) (by decide) (by decide) (by decide) (by decide) at_107 rfl pd_10 rfl rfl rfl rfl ?_
      rintro _ h' ⟨rfl, O'⟩
      refine ⟨_, O', ?_⟩
      change Wk p l e _ m _ below meth c _ _ n0 ((a54, ObjC Z "com/example/quorumgate/quorumgate/cluster/Command$PutIfAbsent" ks_2 [.ref a55, .ref a7]) :: (a55, ObjC Z "com/example/quorumgate/quorumgate/cluster/Key" ks_1 [.ref a56]) :: (a36, ArrC Z .byte 2 (upd (upd (fun _ => 0) 0 ((x1.toInt8.toInt32).toInt8.toInt32)) 1 (((x1 >>> ((8 : Int32) &&& 31)).toInt8.toInt32).toInt8.toInt32))) :: (a35, ArrC Z .byte 0 (fun _ => 0)) :: (a7, ArrC Z .byte 2 (upd (upd (fun _ => 0) 0 ((x0.toInt8.toInt32).toInt8.toInt32)) 1 (((x0 >>> ((8 : Int32) &&& 31)).toInt8.toInt32).toInt8.toInt32))) :: (a6, ArrC Z .byte 0 (fun _ => 0)) :: []) 12 51 110 #[.val (.int x0), .val (.int x1), .val (.ref a6), .val (.ref a7), .val (.ref a7), .val (.ref a35), .val (.ref a36), .val (.int (0 : Int32)), .val (.null), .unset, .unset, .unset, .unset] [.ref a54]
      refine Wk.astore (Ls' := #[.val (.int x0), .val (.int x1), .val (.ref a6), .val (.ref a7), .val (.ref a7), .val (.ref a35), .val (.ref a36), .val (.int (0 : Int32)), .val (.null), .val (.ref a54), .unset, .unset, .unset]) (pc' := 112) C at_110 rfl rfl rfl ?_
      refine Wk.aload (pc' := 114) C at_112 rfl rfl rfl ?_
      refine Wk.aload (pc' := 116) C at_114 rfl rfl rfl ?_
      refine Wk.callV (pc' := 119) (rm := { frames := 0, cells := 0, slots := 0, locals := 0 }) (W0 := 0) (q := 0) (argsL := [.null]) (st := []) C rfl (w90 hw) (w91 hw) (w93 hw) (w92 hw) (w3 hw) (w94 hw) (by decide) (fun h O => rm16n l Z a0 hw a54 ((a54, ObjC Z "com/example/quorumgate/quorumgate/cluster/Command$PutIfAbsent" ks_2 [.ref a55, .ref a7]) :: (a55, ObjC Z "com/example/quorumgate/quorumgate/cluster/Key" ks_1 [.ref a56]) :: (a36, ArrC Z .byte 2 (upd (upd (fun _ => 0) 0 ((x1.toInt8.toInt32).toInt8.toInt32)) 1 (((x1 >>> ((8 : Int32) &&& 31)).toInt8.toInt32).toInt8.toInt32))) :: (a35, ArrC Z .byte 0 (fun _ => 0)) :: (a7, ArrC Z .byte 2 (upd (upd (fun _ => 0) 0 ((x0.toInt8.toInt32).toInt8.toInt32)) 1 (((x0 >>> ((8 : Int32) &&& 31)).toInt8.toInt32).toInt8.toInt32))) :: (a6, ArrC Z .byte 0 (fun _ => 0)) :: []) 0 a55 a7 h n0 O rfl) (by decide) (by decide) (by decide) (by decide) at_116 rfl pd_12 rfl rfl rfl rfl ?_
      rintro _ h' ⟨rfl, O'⟩
      refine ⟨_, O', ?_⟩
      change Wk p l e _ m _ below meth c _ _ n0 ((a54, ObjC Z "com/example/quorumgate/quorumgate/cluster/Command$PutIfAbsent" ks_2 [.ref a55, .ref a7]) :: (a55, ObjC Z "com/example/quorumgate/quorumgate/cluster/Key" ks_1 [.ref a56]) :: (a36, ArrC Z .byte 2 (upd (upd (fun _ => 0) 0 ((x1.toInt8.toInt32).toInt8.toInt32)) 1 (((x1 >>> ((8 : Int32) &&& 31)).toInt8.toInt32).toInt8.toInt32))) :: (a35, ArrC Z .byte 0 (fun _ => 0)) :: (a7, ArrC Z .byte 2 (upd (upd (fun _ => 0) 0 ((x0.toInt8.toInt32).toInt8.toInt32)) 1 (((x0 >>> ((8 : Int32) &&& 31)).toInt8.toInt32).toInt8.toInt32))) :: (a6, ArrC Z .byte 0 (fun _ => 0)) :: []) 12 51 119 #[.val (.int x0), .val (.int x1), .val (.ref a6), .val (.ref a7), .val (.ref a7), .val (.ref a35), .val (.ref a36), .val (.int (0 : Int32)), .val (.null), .val (.ref a54), .unset, .unset, .unset] [.ref a7]
      refine Wk.astore (Ls' := #[.val (.int x0), .val (.int x1), .val (.ref a6), .val (.ref a7), .val (.ref a7), .val (.ref a35), .val (.ref a36), .val (.int (0 : Int32)), .val (.null), .val (.ref a54), .val (.ref a7), .unset, .unset]) (pc' := 121) C at_119 rfl rfl rfl ?_
      refine Wk.aload (pc' := 123) C at_121 rfl rfl rfl ?_
      refine Wk.aload (pc' := 125) C at_123 rfl rfl rfl ?_
      refine Wk.callV (pc' := 128) (rm := { frames := 0, cells := 0, slots := 0, locals := 0 }) (W0 := 0) (q := 0) (argsL := [.ref a7]) (st := []) C rfl (w90 hw) (w91 hw) (w93 hw) (w92 hw) (w3 hw) (w94 hw) (by decide) (fun h O => rm16r l Z a0 hw a54 a7 ((a54, ObjC Z "com/example/quorumgate/quorumgate/cluster/Command$PutIfAbsent" ks_2 [.ref a55, .ref a7]) :: (a55, ObjC Z "com/example/quorumgate/quorumgate/cluster/Key" ks_1 [.ref a56]) :: (a36, ArrC Z .byte 2 (upd (upd (fun _ => 0) 0 ((x1.toInt8.toInt32).toInt8.toInt32)) 1 (((x1 >>> ((8 : Int32) &&& 31)).toInt8.toInt32).toInt8.toInt32))) :: (a35, ArrC Z .byte 0 (fun _ => 0)) :: (a7, ArrC Z .byte 2 (upd (upd (fun _ => 0) 0 ((x0.toInt8.toInt32).toInt8.toInt32)) 1 (((x0 >>> ((8 : Int32) &&& 31)).toInt8.toInt32).toInt8.toInt32))) :: (a6, ArrC Z .byte 0 (fun _ => 0)) :: []) 0 a55 a7 h n0 O rfl) (by decide) (by decide) (by decide) (by decide) at_125 rfl pd_12 rfl rfl rfl rfl ?_
      rintro _ h' ⟨rfl, O'⟩
      refine ⟨_, O', ?_⟩
      change Wk p l e _ m _ below meth c _ _ n0 ((a54, ObjC Z "com/example/quorumgate/quorumgate/cluster/Command$PutIfAbsent" ks_2 [.ref a55, .ref a7]) :: (a55, ObjC Z "com/example/quorumgate/quorumgate/cluster/Key" ks_1 [.ref a56]) :: (a36, ArrC Z .byte 2 (upd (upd (fun _ => 0) 0 ((x1.toInt8.toInt32).toInt8.toInt32)) 1 (((x1 >>> ((8 : Int32) &&& 31)).toInt8.toInt32).toInt8.toInt32))) :: (a35, ArrC Z .byte 0 (fun _ => 0)) :: (a7, ArrC Z .byte 2 (upd (upd (fun _ => 0) 0 ((x0.toInt8.toInt32).toInt8.toInt32)) 1 (((x0 >>> ((8 : Int32) &&& 31)).toInt8.toInt32).toInt8.toInt32))) :: (a6, ArrC Z .byte 0 (fun _ => 0)) :: []) 12 51 128 #[.val (.int x0), .val (.int x1), .val (.ref a6), .val (.ref a7), .val (.ref a7), .val (.ref a35), .val (.ref a36), .val (.int (0 : Int32)), .val (.null), .val (.ref a54), .val (.ref a7), .unset, .unset] [.ref a7]
      refine Wk.astore (Ls' := #[.val (.int x0), .val (.int x1), .val (.ref a6), .val (.ref a7), .val (.ref a7), .val (.ref a35), .val (.ref a36), .val (.int (0 : Int32)), .val (.null), .val (.ref a54), .val (.ref a7), .val (.ref a7), .unset]) (pc' := 130) C at_128 rfl rfl rfl ?_
      refine Wk.aload (pc' := 132) C at_130 rfl rfl rfl ?_
      refine Wk.ifnonnullNo (pc' := 135) C at_132 rfl ?_
      refine Wk.aload (pc' := 137) C at_135 rfl rfl rfl ?_
      refine Wk.aload (pc' := 139) C at_137 rfl rfl rfl ?_
      refine Wk.acmp (pc' := 142) (same := true) C at_139 rfl rfl (decide_eq_true rfl) (by decide) (by decide) ?_
      refine Wk.iconst (z := (1 : Int32)) (pc' := 143) C at_142 rfl rfl ?_
      refine Wk.goto (pc' := 147) C at_143 (by decide) (by decide) ?_
      refine Wk.istore (Ls' := #[.val (.int x0), .val (.int x1), .val (.ref a6), .val (.ref a7), .val (.ref a7), .val (.ref a35), .val (.ref a36), .val (.int (0 : Int32)), .val (.null), .val (.ref a54), .val (.ref a7), .val (.ref a7), .val (.int (1 : Int32))]) (pc' := 149) C at_147 rfl rfl ?_
      refine Wk.goto (pc' := 166) C at_149 (by decide) (by decide) ?_
      refine Wk.iload (pc' := 168) C at_166 rfl rfl ?_
      refine Wk.if_eq (pcT := 182) (pcF := 171) C at_168 (by decide) (by decide) rfl (fun q => absurd q (by decide)) (fun _ => ?_)
      refine Wk.aload (pc' := 173) C at_171 rfl rfl rfl ?_
      refine Wk.aload (pc' := 175) C at_173 rfl rfl rfl ?_
      refine Wk.acmp (pc' := 178) (same := true) C at_175 rfl rfl (decide_eq_true rfl) (by decide) (by decide) ?_
      refine Wk.iconst (z := (1 : Int32)) (pc' := 179) C at_178 rfl rfl ?_
      refine Wk.goto (pc' := 183) C at_179 (by decide) (by decide) ?_
      refine Wk.istore (Ls' := #[.val (.int x0), .val (.int x1), .val (.ref a6), .val (.ref a7), .val (.ref a7), .val (.ref a35), .val (.ref a36), .val (.int (0 : Int32)), .val (.null), .val (.ref a54), .val (.ref a7), .val (.ref a7), .val (.int (1 : Int32))]) (pc' := 185) C at_183 rfl rfl ?_
      refine Wk.iload (pc' := 187) C at_185 rfl rfl ?_
      refine Wk.if_eq (pcT := 205) (pcF := 190) C at_187 (by decide) (by decide) rfl (fun q => absurd q (by decide)) (fun _ => ?_)
      refine Wk.aloadN (pc' := 191) C at_190 rfl rfl rfl ?_
      refine Wk.arraylength (pc' := 192) (q := 5) (z := (0 : Int32)) C at_191 rfl (fun _ A => ⟨A.1, A.2.2.1⟩) rfl rfl ?_
      refine Wk.if_ne (pcT := 205) (pcF := 195) C at_192 (by decide) (by decide) rfl (fun q => absurd q (by decide)) (fun _ => ?_)
      refine Wk.aload (pc' := 197) C at_195 rfl rfl rfl ?_
      refine Wk.arraylength (pc' := 198) (q := 3) (z := (0 : Int32)) C at_197 rfl (fun _ A => ⟨A.1, A.2.2.1⟩) rfl rfl ?_
      refine Wk.if_ne (pcT := 205) (pcF := 201) C at_198 (by decide) (by decide) rfl (fun q => absurd q (by decide)) (fun _ => ?_)
      refine Wk.iconst (z := (1 : Int32)) (pc' := 202) C at_201 rfl rfl ?_
      refine Wk.goto (pc' := 206) C at_202 (by decide) (by decide) ?_
      refine Wk.istore (Ls' := #[.val (.int x0), .val (.int x1), .val (.ref a6), .val (.ref a7), .val (.ref a7), .val (.ref a35), .val (.ref a36), .val (.int (0 : Int32)), .val (.null), .val (.ref a54), .val (.ref a7), .val (.ref a7), .val (.int (1 : Int32))]) (pc' := 208) C at_206 rfl rfl ?_
      refine Wk.iload (pc' := 210) C at_208 rfl rfl ?_
      refine Wk.if_eq (pcT := 242) (pcF := 213) C at_210 (by decide) (by decide) rfl (fun q => absurd q (by decide)) (fun _ => ?_)
      refine Wk.aloadN (pc' := 214) C at_213 rfl rfl rfl ?_
      refine Wk.arraylength (pc' := 215) (q := 4) (z := (2 : Int32)) C at_214 rfl (fun _ A => ⟨A.1, A.2.2.1⟩) rfl rfl ?_
      refine Wk.iconst (z := (2 : Int32)) (pc' := 216) C at_215 rfl rfl ?_
      refine Wk.icmp_ne (pcT := 242) (pcF := 219) C at_216 (by decide) (by decide) rfl (fun q => absurd q (by decide)) (fun _ => ?_)
      refine Wk.aloadN (pc' := 220) C at_219 rfl rfl rfl ?_
      refine Wk.iconst (z := (0 : Int32)) (pc' := 221) C at_220 rfl rfl ?_
      refine Wk.baload (pc' := 222) (q := 4) (i := 0) C at_221 rfl (by decide) (by decide) rfl ?_
      change Wk p l e _ m _ below meth c _ _ n0 ((a54, ObjC Z "com/example/quorumgate/quorumgate/cluster/Command$PutIfAbsent" ks_2 [.ref a55, .ref a7]) :: (a55, ObjC Z "com/example/quorumgate/quorumgate/cluster/Key" ks_1 [.ref a56]) :: (a36, ArrC Z .byte 2 (upd (upd (fun _ => 0) 0 ((x1.toInt8.toInt32).toInt8.toInt32)) 1 (((x1 >>> ((8 : Int32) &&& 31)).toInt8.toInt32).toInt8.toInt32))) :: (a35, ArrC Z .byte 0 (fun _ => 0)) :: (a7, ArrC Z .byte 2 (upd (upd (fun _ => 0) 0 ((x0.toInt8.toInt32).toInt8.toInt32)) 1 (((x0 >>> ((8 : Int32) &&& 31)).toInt8.toInt32).toInt8.toInt32))) :: (a6, ArrC Z .byte 0 (fun _ => 0)) :: []) 12 51 222 #[.val (.int x0), .val (.int x1), .val (.ref a6), .val (.ref a7), .val (.ref a7), .val (.ref a35), .val (.ref a36), .val (.int (0 : Int32)), .val (.null), .val (.ref a54), .val (.ref a7), .val (.ref a7), .val (.int (1 : Int32))] [.int ((x0.toInt8.toInt32).toInt8.toInt32)]
      refine Wk.iloadN (pc' := 223) C at_222 rfl rfl ?_
      refine Wk.i2b (pc' := 224) C at_223 rfl ?_
      refine Wk.icmp_ne (pcT := 242) (pcF := 227) C at_224 (by decide) (by decide) rfl (fun c57 => (show False from c57 (by simp)).elim) (fun c57 => ?_)
      refine Wk.aloadN (pc' := 228) C at_227 rfl rfl rfl ?_
      refine Wk.iconst (z := (1 : Int32)) (pc' := 229) C at_228 rfl rfl ?_
      refine Wk.baload (pc' := 230) (q := 4) (i := 1) C at_229 rfl (by decide) (by decide) rfl ?_
      change Wk p l e _ m _ below meth c _ _ n0 ((a54, ObjC Z "com/example/quorumgate/quorumgate/cluster/Command$PutIfAbsent" ks_2 [.ref a55, .ref a7]) :: (a55, ObjC Z "com/example/quorumgate/quorumgate/cluster/Key" ks_1 [.ref a56]) :: (a36, ArrC Z .byte 2 (upd (upd (fun _ => 0) 0 ((x1.toInt8.toInt32).toInt8.toInt32)) 1 (((x1 >>> ((8 : Int32) &&& 31)).toInt8.toInt32).toInt8.toInt32))) :: (a35, ArrC Z .byte 0 (fun _ => 0)) :: (a7, ArrC Z .byte 2 (upd (upd (fun _ => 0) 0 ((x0.toInt8.toInt32).toInt8.toInt32)) 1 (((x0 >>> ((8 : Int32) &&& 31)).toInt8.toInt32).toInt8.toInt32))) :: (a6, ArrC Z .byte 0 (fun _ => 0)) :: []) 12 51 230 #[.val (.int x0), .val (.int x1), .val (.ref a6), .val (.ref a7), .val (.ref a7), .val (.ref a35), .val (.ref a36), .val (.int (0 : Int32)), .val (.null), .val (.ref a54), .val (.ref a7), .val (.ref a7), .val (.int (1 : Int32))] [.int (((x0 >>> ((8 : Int32) &&& 31)).toInt8.toInt32).toInt8.toInt32)]
      refine Wk.iloadN (pc' := 231) C at_230 rfl rfl ?_
      refine Wk.bipush (z := (8 : Int32)) (pc' := 233) C at_231 rfl rfl ?_
      refine Wk.ishr (pc' := 234) C at_233 rfl ?_
      refine Wk.i2b (pc' := 235) C at_234 rfl ?_
      refine Wk.icmp_ne (pcT := 242) (pcF := 238) C at_235 (by decide) (by decide) rfl (fun c58 => (show False from c58 (by simp)).elim) (fun c58 => ?_)
      refine Wk.iconst (z := (1 : Int32)) (pc' := 239) C at_238 rfl rfl ?_
      refine Wk.goto (pc' := 243) C at_239 (by decide) (by decide) ?_
      refine Wk.istore (Ls' := #[.val (.int x0), .val (.int x1), .val (.ref a6), .val (.ref a7), .val (.ref a7), .val (.ref a35), .val (.ref a36), .val (.int (0 : Int32)), .val (.null), .val (.ref a54), .val (.ref a7), .val (.ref a7), .val (.int (1 : Int32))]) (pc' := 245) C at_243 rfl rfl ?_
      refine Wk.iload (pc' := 247) C at_245 rfl rfl ?_
      refine Wk.if_eq (pcT := 282) (pcF := 250) C at_247 (by decide) (by decide) rfl (fun q => absurd q (by decide)) (fun _ => ?_)
      refine Wk.aload (pc' := 252) C at_250 rfl rfl rfl ?_
      refine Wk.arraylength (pc' := 253) (q := 2) (z := (2 : Int32)) C at_252 rfl (fun _ A => ⟨A.1, A.2.2.1⟩) rfl rfl ?_
      refine Wk.iconst (z := (2 : Int32)) (pc' := 254) C at_253 rfl rfl ?_
      refine Wk.icmp_ne (pcT := 282) (pcF := 257) C at_254 (by decide) (by decide) rfl (fun q => absurd q (by decide)) (fun _ => ?_)
      refine Wk.aload (pc' := 259) C at_257 rfl rfl rfl ?_
      refine Wk.iconst (z := (0 : Int32)) (pc' := 260) C at_259 rfl rfl ?_
      refine Wk.baload (pc' := 261) (q := 2) (i := 0) C at_260 rfl (by decide) (by decide) rfl ?_
      change Wk p l e _ m _ below meth c _ _ n0 ((a54, ObjC Z "com/example/quorumgate/quorumgate/cluster/Command$PutIfAbsent" ks_2 [.ref a55, .ref a7]) :: (a55, ObjC Z "com/example/quorumgate/quorumgate/cluster/Key" ks_1 [.ref a56]) :: (a36, ArrC Z .byte 2 (upd (upd (fun _ => 0) 0 ((x1.toInt8.toInt32).toInt8.toInt32)) 1 (((x1 >>> ((8 : Int32) &&& 31)).toInt8.toInt32).toInt8.toInt32))) :: (a35, ArrC Z .byte 0 (fun _ => 0)) :: (a7, ArrC Z .byte 2 (upd (upd (fun _ => 0) 0 ((x0.toInt8.toInt32).toInt8.toInt32)) 1 (((x0 >>> ((8 : Int32) &&& 31)).toInt8.toInt32).toInt8.toInt32))) :: (a6, ArrC Z .byte 0 (fun _ => 0)) :: []) 12 51 261 #[.val (.int x0), .val (.int x1), .val (.ref a6), .val (.ref a7), .val (.ref a7), .val (.ref a35), .val (.ref a36), .val (.int (0 : Int32)), .val (.null), .val (.ref a54), .val (.ref a7), .val (.ref a7), .val (.int (1 : Int32))] [.int ((x1.toInt8.toInt32).toInt8.toInt32)]
      refine Wk.iloadN (pc' := 262) C at_261 rfl rfl ?_
      refine Wk.i2b (pc' := 263) C at_262 rfl ?_
      refine Wk.icmp_ne (pcT := 282) (pcF := 266) C at_263 (by decide) (by decide) rfl (fun c59 => (show False from c59 (by simp)).elim) (fun c59 => ?_)
      refine Wk.aload (pc' := 268) C at_266 rfl rfl rfl ?_
      refine Wk.iconst (z := (1 : Int32)) (pc' := 269) C at_268 rfl rfl ?_
      refine Wk.baload (pc' := 270) (q := 2) (i := 1) C at_269 rfl (by decide) (by decide) rfl ?_
      change Wk p l e _ m _ below meth c _ _ n0 ((a54, ObjC Z "com/example/quorumgate/quorumgate/cluster/Command$PutIfAbsent" ks_2 [.ref a55, .ref a7]) :: (a55, ObjC Z "com/example/quorumgate/quorumgate/cluster/Key" ks_1 [.ref a56]) :: (a36, ArrC Z .byte 2 (upd (upd (fun _ => 0) 0 ((x1.toInt8.toInt32).toInt8.toInt32)) 1 (((x1 >>> ((8 : Int32) &&& 31)).toInt8.toInt32).toInt8.toInt32))) :: (a35, ArrC Z .byte 0 (fun _ => 0)) :: (a7, ArrC Z .byte 2 (upd (upd (fun _ => 0) 0 ((x0.toInt8.toInt32).toInt8.toInt32)) 1 (((x0 >>> ((8 : Int32) &&& 31)).toInt8.toInt32).toInt8.toInt32))) :: (a6, ArrC Z .byte 0 (fun _ => 0)) :: []) 12 51 270 #[.val (.int x0), .val (.int x1), .val (.ref a6), .val (.ref a7), .val (.ref a7), .val (.ref a35), .val (.ref a36), .val (.int (0 : Int32)), .val (.null), .val (.ref a54), .val (.ref a7), .val (.ref a7), .val (.int (1 : Int32))] [.int (((x1 >>> ((8 : Int32) &&& 31)).toInt8.toInt32).toInt8.toInt32)]
      refine Wk.iloadN (pc' := 271) C at_270 rfl rfl ?_
      refine Wk.bipush (z := (8 : Int32)) (pc' := 273) C at_271 rfl rfl ?_
      refine Wk.ishr (pc' := 274) C at_273 rfl ?_
      refine Wk.i2b (pc' := 275) C at_274 rfl ?_
      refine Wk.icmp_ne (pcT := 282) (pcF := 278) C at_275 (by decide) (by decide) rfl (fun c60 => (show False from c60 (by simp)).elim) (fun c60 => ?_)
      refine Wk.iconst (z := (1 : Int32)) (pc' := 279) C at_278 rfl rfl ?_
      refine Wk.goto (pc' := 283) C at_279 (by decide) (by decide) ?_
      refine Wk.istore (Ls' := #[.val (.int x0), .val (.int x1), .val (.ref a6), .val (.ref a7), .val (.ref a7), .val (.ref a35), .val (.ref a36), .val (.int (0 : Int32)), .val (.null), .val (.ref a54), .val (.ref a7), .val (.ref a7), .val (.int (1 : Int32))]) (pc' := 285) C at_283 rfl rfl ?_
      refine Wk.iload (pc' := 287) C at_285 rfl rfl ?_
      exact Wk.retN C J at_287 (by decide) (by decide) (by simp) rfl (fun h O => rfl)
set_option maxRecDepth 65536 in
set_option maxHeartbeats 40000000 in
theorem comes_1 {Post : Tables → Env → Array Value → State → Outcome → State → Prop} (hpost : ∀ tb e args s v u, (limb_1_1.after args s (.returned v) u = true ∧ limb_1_2.after args s (.returned v) u = true ∧ True) → ReturnedEndW s (.returned v) u (Jvm.fieldLocs frame_1_writes args s ++ Jvm.arrayLocs frame_1_arrays args s ++ Jvm.staticLocs frame_1_statics s) 32 3200 → Post tb e args s (.returned v) u) :
    ArmFor flags0 classFile x code maxLocals ret World_1 tables_1 room_1 Calls_1 rest_1 Pre_1 Post := by
  intro l hfl _ _ p e ha hc hk s m args below hf hA hF happ hP
  obtain ⟨hcalls, hrest, hpre⟩ := hP
  obtain ⟨-, -, -, hnamed, -, -, -, hat⟩ := (Spec.applies_iff hf).mp happ
  obtain ⟨hg, hn⟩ := and_e (Cond.before_iff.mp (show (Jvm.Cond.and given_1 narrow_1).before args s = true from hpre))
  obtain ⟨hcount, hr0⟩ := and_e hg
  obtain ⟨hi0, hi1⟩ := and_e hr0
  obtain ⟨w0, w1, rfl⟩ : ∃ w0 w1 : Value, args = #[w0, w1] := by
    have hs : args.size = 2 := by simpa [Cond.value, given_1] using hcount
    obtain ⟨L⟩ := args
    match L, hs with
    | [w0, w1], _ => exact ⟨w0, w1, rfl⟩
  have hw : HW s _ := fun d (hd : d ∈ tables_1) => atoms_spec (ws := Jvm.Cond.code x code maxLocals ret :: tables_1) hat d (List.mem_cons_of_mem _ hd)
  obtain ⟨hsets, -⟩ := atoms_of _ (rest_1_c_eq ▸ (show rest_1_c.before _ s = true from hrest))
  obtain ⟨i0, e0⟩ := is_v hi0
  obtain rfl : w0 = (.int i0) := Option.some.inj e0
  obtain ⟨i1, e1⟩ := is_v hi1
  obtain rfl : w1 = (.int i1) := Option.some.inj e1
  obtain ⟨cz, ecz⟩ := is_v (Cond.before_iff.mp (hsets _ (List.mem_of_getElem? (i := 1) rfl)))
  have S1 : Sta s s.heap "java/lang/String" "COMPACT_STRINGS" "Z" (.int cz) := Sta.start ecz (Or.inl (hsets _ (List.mem_of_getElem? (i := 0) rfl)))
  obtain ⟨vf, evf, hvf⟩ := isR_v (Cond.before_iff.mp (hsets _ (List.mem_of_getElem? (i := 8) rfl)))
  have S2 : Sta s s.heap "jdk/internal/util/Preconditions" "SIOOBE_FORMATTER" "Ljava/util/function/BiFunction;" vf := Sta.start evf (Or.inl (hsets _ (List.mem_of_getElem? (i := 7) rfl)))
  have hcz : ¬ (cz = (0 : Int32)) := gotF (Cond.eq_ints ecz (Term.int_eval (0))) (not_v (Cond.before_iff.mp (hsets _ (List.mem_of_getElem? (i := 2) rfl))))
  obtain ⟨sa, H1⟩ := staC_of S1
  obtain ⟨sb, H2⟩ := staC_of S2
  have hh : Jvm.Lit.constHeld s "com/example/quorumgate/quorumgate/cluster/PutIfAbsentApplyToPinLaw" 11 := hcalls.1 ("com/example/quorumgate/quorumgate/cluster/PutIfAbsentApplyToPinLaw", 11) (List.mem_of_getElem? (i := 2) rfl)
  have hcw : Jvm.Lit.compactW.before #[.int i0, .int i1] s = true := hsets _ (List.mem_of_getElem? (i := 2) rfl)
  have O0 : Own ((s.heap.size, [(sa, StaC s "java/lang/String" "COMPACT_STRINGS" "Z" (.int cz) sa), (sb, StaC s "jdk/internal/util/Preconditions" "SIOOBE_FORMATTER" "Ljava/util/function/BiFunction;" vf sb)]) : Base) s.heap [] := Own.nil (Nat.le_refl _) (fun y hy => by
    simp only [List.mem_cons, List.not_mem_nil, or_false] at hy
    rcases hy with rfl | rfl
    · exact H1
    · exact H2)
  obtain ⟨n, o, h1, h2, h3, _, L, rfl, ⟨rfl, N⟩, hq⟩ := rmLaw l s _ hw i0 i1 sa sb cz vf _ O0 hh hcw rfl rfl hcz hvf p e ha hc hk s m _ below hf ((Spec.applies_iff_loose hf).mp happ).1 ⟨rfl, rfl⟩ trivial
  refine ⟨n, _, h1, h2, h3, hpost _ _ _ _ _ _ ⟨Cond.after_iff.mpr rfl, Cond.after_iff.mpr (eq_i res_at (Term.int_eval (1)) rfl), trivial⟩ ⟨hq.1, hq.2.1, hq.2.2.1, (hq.2.2.2.sift fun y hy => Or.inr (N y hy)).mono (by decide) (by decide)⟩⟩
theorem main_1_1 : Claimed_1_1 := comes_1 fun _ _ _ _ _ _ h hF => ⟨h.1, hF⟩
theorem main_1_2 : Claimed_1_2 := comes_1 fun _ _ _ _ _ _ h hF => ⟨h.2.1, hF⟩
end Jvm.Pilot.@@N@@
namespace Jvm.Pilot.@@N@@
open Jvm Jvm.ClassFile Sem Op Lib Jvm.Free Jvm.Stand Jvm.Pilot.@@N@@.Jvm.D
/-! MADE BY PROGRAM (witnessworld.py) out of the Statement's table words and the real class files: 21 classes; the members and pool entries that the words name. The judged class is class 1, her method 1. -/
namespace start1
open Jvm.ClassFile
def u (s : String) : CpInfo := .utf8 (stringToUtf16 s)
/-- a pool by its gaps: so many unusable entries, then the entry; so many at the end -/
def gap : Nat → List CpInfo → List CpInfo
  | 0, r => r
  | n + 1, r => .unusable :: gap n r
def poolList (es : List (Nat × CpInfo)) (last : Nat) : List CpInfo := es.foldr (fun e r => gap e.1 (e.2 :: r)) (gap last [])
def pool (es : List (Nat × CpInfo)) (last : Nat) : Array CpInfo := ⟨poolList es last⟩
def fileOf (pool : Array CpInfo) (this : Nat) (attrs : Array Attribute := #[]) (ms : Array MethodInfo := #[]) (fl : Nat := 33) (sup : Nat := 0) (ifs : Array Nat := #[]) (fds : Array FieldInfo := #[]) : ClassFile where
  minorVersion := 0
  majorVersion := 65
  constantPool := pool
  accessFlags := fl
  thisClass := this
  superClass := sup
  interfaces := ifs
  fields := fds
  methods := ms
  attributes := attrs
def plain (name : String) (sup : Option ClassId) : Class where
  name := name
  kind := .ordinary
  loader := none
  accessFlags := 33
  super := sup
  interfaces := #[]
  cf := none
  fields := #[]
  methods := #[]
  instanceTypes := #[]
  staticTypes := #[]
  resolved := #[]
  callSites := []
  init := .initialized
  statics := none
  mirror := none

def pool0 : Array CpInfo := pool [(5, u "<init>"), (0, u "()V"), (1, .class_ 10), (1, u "java/lang/Object")] 113

def k0c0 : Code := { maxStack := 0, maxLocals := 1, code := object_method_1_code, exceptionTable := #[], attributes := #[] }
def k0m0 : Method := { name := "<init>", desc := "()V", sig := { parameters := [], returnType := none }, accessFlags := 1, code := some k0c0 }
/-- java/lang/Object -/
def k0 : Class := { plain "java/lang/Object" none with
  accessFlags := 33
  interfaces := #[]
  cf := some (fileOf pool0 8 #[] #[{ accessFlags := 1, nameIndex := 5, descriptorIndex := 6, attributes := #[] }] 33 0 #[] #[])
  fields := #[]
  methods := #[k0m0]
  instanceTypes := #[]
  staticTypes := #[]
  resolved := Array.replicate 124 none
  statics := none }

def pool1 : Array CpInfo := pool [(2, .class_ 4), (1, u "java/lang/Object"), (0, u "<init>"), (0, u "()V"), (0, .class_ 8), (0, u "com/example/quorumgate/quorumgate/cluster/Command$PutIfAbsent"), (0, .class_ 10), (0, u "com/example/quorumgate/quorumgate/cluster/Key"), (0, .string 12), (0, u "k"), (0, .methodref 9 14), (0, .nameAndType 5 15), (0, u "(Ljava/lang/String;)V"), (0, .methodref 7 17), (0, .nameAndType 5 18), (0, u "(Lcom/example/quorumgate/quorumgate/cluster/Key;[B)V"), (0, .methodref 7 20), (0, .nameAndType 21 22), (0, u "applyTo"), (0, u "([B)[B"), (0, .class_ 24), (0, u "com/example/quorumgate/quorumgate/cluster/PutIfAbsentApplyToPinLaw"), (2, u "law"), (0, u "(II)Z")] 9

def k1m0 : Method := { name := "<init>", desc := "()V", sig := { parameters := [], returnType := none }, accessFlags := 1, code := none }
def k1c1 : Code := { maxStack := 5, maxLocals := 13, code := code, exceptionTable := #[], attributes := #[] }
def k1m1 : Method := { name := "law", desc := "(II)Z", sig := { parameters := [.int, .int], returnType := some .boolean }, accessFlags := 9, code := some k1c1 }
/-- com/example/quorumgate/quorumgate/cluster/PutIfAbsentApplyToPinLaw -/
def k1 : Class := { plain "com/example/quorumgate/quorumgate/cluster/PutIfAbsentApplyToPinLaw" (some 0) with
  accessFlags := 49
  interfaces := #[]
  cf := some (fileOf pool1 23 #[] #[{ accessFlags := 1, nameIndex := 5, descriptorIndex := 6, attributes := #[] }, { accessFlags := 9, nameIndex := 27, descriptorIndex := 28, attributes := #[] }] 49 2 #[] #[])
  fields := #[]
  methods := #[k1m0, k1m1]
  instanceTypes := #[]
  staticTypes := #[]
  resolved := Array.replicate 38 none
  statics := none }

def pool2 : Array CpInfo := pool [(1, .methodref 2 3), (0, .class_ 4), (0, .nameAndType 5 6), (0, u "java/lang/Object"), (0, u "<init>"), (0, u "()V"), (0, .class_ 8), (0, u "java/lang/Record")] 13

def k2c0 : Code := { maxStack := 1, maxLocals := 1, code := jdk_30_method_1_code, exceptionTable := #[], attributes := #[] }
def k2m0 : Method := { name := "<init>", desc := "()V", sig := { parameters := [], returnType := none }, accessFlags := 4, code := some k2c0 }
/-- java/lang/Record -/
def k2 : Class := { plain "java/lang/Record" (some 0) with
  accessFlags := 1057
  interfaces := #[]
  cf := some (fileOf pool2 7 #[] #[{ accessFlags := 4, nameIndex := 5, descriptorIndex := 6, attributes := #[] }] 1057 2 #[] #[])
  fields := #[]
  methods := #[k2m0]
  instanceTypes := #[]
  staticTypes := #[]
  resolved := Array.replicate 22 none
  statics := none }

def pool3 : Array CpInfo := pool [(1, .string 2), (0, u "key"), (0, .methodref 4 5), (0, .class_ 6), (0, .nameAndType 7 8), (0, u "java/util/Objects"), (0, u "requireNonNull"), (0, u "(Ljava/lang/Object;Ljava/lang/String;)Ljava/lang/Object;"), (0, .class_ 10), (0, u "com/example/quorumgate/quorumgate/cluster/Command"), (0, .integer 1048576), (10, .class_ 23), (0, u "java/lang/Object"), (0, u "MAX_VALUE_BYTES"), (0, u "I"), (4, u "checkPut"), (0, u "(Lcom/example/quorumgate/quorumgate/cluster/Key;[B)V"), (6, .class_ 39), (0, u "com/example/quorumgate/quorumgate/cluster/Command$Delete"), (0, .class_ 41), (0, u "com/example/quorumgate/quorumgate/cluster/Command$PutIfAbsent"), (0, .class_ 43), (0, u "com/example/quorumgate/quorumgate/cluster/Command$Put")] 19

def k3c0 : Code := { maxStack := 3, maxLocals := 2, code := prog_10_method_3_code, exceptionTable := #[], attributes := #[] }
def k3m0 : Method := { name := "checkPut", desc := "(Lcom/example/quorumgate/quorumgate/cluster/Key;[B)V", sig := { parameters := [(.object "com/example/quorumgate/quorumgate/cluster/Key"), (.array .byte)], returnType := none }, accessFlags := 10, code := some k3c0 }
/-- com/example/quorumgate/quorumgate/cluster/Command -/
def k3 : Class := { plain "com/example/quorumgate/quorumgate/cluster/Command" (some 0) with
  accessFlags := 1537
  interfaces := #[]
  cf := some (fileOf pool3 9 #[.nestMembers #[38, 40, 42]] #[{ accessFlags := 10, nameIndex := 30, descriptorIndex := 31, attributes := #[] }] 1537 22 #[] #[{ accessFlags := 25, nameIndex := 24, descriptorIndex := 25, attributes := #[] }])
  fields := #[{ name := "MAX_VALUE_BYTES", type := .int, accessFlags := 25, slot := 0, constantValue := 0 }]
  methods := #[k3m0]
  instanceTypes := #[]
  staticTypes := #[.int]
  resolved := Array.replicate 63 none
  statics := none }

def pool4 : Array CpInfo := pool [(1, .methodref 2 3), (0, .class_ 4), (0, .nameAndType 5 6), (0, u "java/lang/Record"), (0, u "<init>"), (0, u "()V"), (0, .interfaceMethodref 8 9), (0, .class_ 10), (0, .nameAndType 11 12), (0, u "com/example/quorumgate/quorumgate/cluster/Command"), (0, u "checkPut"), (0, u "(Lcom/example/quorumgate/quorumgate/cluster/Key;[B)V"), (0, .fieldref 14 15), (0, .class_ 16), (0, .nameAndType 17 18), (0, u "com/example/quorumgate/quorumgate/cluster/Command$PutIfAbsent"), (0, u "key"), (0, u "Lcom/example/quorumgate/quorumgate/cluster/Key;"), (0, .fieldref 14 20), (0, .nameAndType 21 22), (0, u "value"), (0, u "[B"), (15, u "applyTo"), (0, u "([B)[B")] 30

def k4c0 : Code := { maxStack := 2, maxLocals := 3, code := prog_13_method_1_code, exceptionTable := #[], attributes := #[] }
def k4m0 : Method := { name := "<init>", desc := "(Lcom/example/quorumgate/quorumgate/cluster/Key;[B)V", sig := { parameters := [(.object "com/example/quorumgate/quorumgate/cluster/Key"), (.array .byte)], returnType := none }, accessFlags := 1, code := some k4c0 }
def k4c1 : Code := { maxStack := 1, maxLocals := 2, code := prog_13_method_2_code, exceptionTable := #[], attributes := #[] }
def k4m1 : Method := { name := "applyTo", desc := "([B)[B", sig := { parameters := [(.array .byte)], returnType := some (.array .byte) }, accessFlags := 1, code := some k4c1 }
/-- com/example/quorumgate/quorumgate/cluster/Command$PutIfAbsent -/
def k4 : Class := { plain "com/example/quorumgate/quorumgate/cluster/Command$PutIfAbsent" (some 2) with
  accessFlags := 49
  interfaces := #[3]
  cf := some (fileOf pool4 14 #[.nestHost 8] #[{ accessFlags := 1, nameIndex := 5, descriptorIndex := 12, attributes := #[] }, { accessFlags := 1, nameIndex := 38, descriptorIndex := 39, attributes := #[] }] 49 2 #[8] #[{ accessFlags := 18, nameIndex := 17, descriptorIndex := 18, attributes := #[] }, { accessFlags := 18, nameIndex := 21, descriptorIndex := 22, attributes := #[] }])
  fields := #[{ name := "key", type := (.object "com/example/quorumgate/quorumgate/cluster/Key"), accessFlags := 18, slot := 0, constantValue := 0 }, { name := "value", type := (.array .byte), accessFlags := 18, slot := 1, constantValue := 0 }]
  methods := #[k4m0, k4m1]
  instanceTypes := #[(.object "com/example/quorumgate/quorumgate/cluster/Key"), (.array .byte)]
  staticTypes := #[]
  resolved := Array.replicate 70 none
  statics := none }

def pool5 : Array CpInfo := pool [(1, .methodref 2 3), (0, .class_ 4), (0, .nameAndType 5 6), (0, u "java/lang/Record"), (0, u "<init>"), (0, u "()V"), (0, .string 8), (0, u "name"), (0, .methodref 10 11), (0, .class_ 12), (0, .nameAndType 13 14), (0, u "java/util/Objects"), (0, u "requireNonNull"), (0, u "(Ljava/lang/Object;Ljava/lang/String;)Ljava/lang/Object;"), (0, .methodref 16 17), (0, .class_ 18), (0, .nameAndType 19 20), (0, u "java/lang/String"), (0, u "isEmpty"), (0, u "()Z"), (2, .class_ 24), (0, u "com/example/quorumgate/quorumgate/cluster/Key"), (4, u "(Ljava/lang/String;)V"), (0, .methodref 16 31), (0, .nameAndType 32 33), (0, u "length"), (0, u "()I"), (0, .methodref 16 35), (0, .nameAndType 36 37), (0, u "charAt"), (0, u "(I)C"), (0, .methodref 23 39), (0, .nameAndType 40 41), (0, u "isAllowed"), (0, u "(C)Z"), (18, .fieldref 23 61), (0, .nameAndType 8 62), (0, u "Ljava/lang/String;"), (12, u "MAX_LENGTH"), (0, u "I")] 34

def k5c0 : Code := { maxStack := 7, maxLocals := 4, code := prog_19_method_1_code, exceptionTable := #[], attributes := #[] }
def k5m0 : Method := { name := "<init>", desc := "(Ljava/lang/String;)V", sig := { parameters := [(.object "java/lang/String")], returnType := none }, accessFlags := 1, code := some k5c0 }
def k5c1 : Code := { maxStack := 2, maxLocals := 1, code := prog_19_method_2_code, exceptionTable := #[], attributes := #[] }
def k5m1 : Method := { name := "isAllowed", desc := "(C)Z", sig := { parameters := [.char], returnType := some .boolean }, accessFlags := 10, code := some k5c1 }
/-- com/example/quorumgate/quorumgate/cluster/Key -/
def k5 : Class := { plain "com/example/quorumgate/quorumgate/cluster/Key" (some 2) with
  accessFlags := 49
  interfaces := #[]
  cf := some (fileOf pool5 23 #[] #[{ accessFlags := 1, nameIndex := 5, descriptorIndex := 29, attributes := #[] }, { accessFlags := 10, nameIndex := 40, descriptorIndex := 41, attributes := #[] }] 49 2 #[] #[{ accessFlags := 18, nameIndex := 8, descriptorIndex := 62, attributes := #[] }, { accessFlags := 25, nameIndex := 75, descriptorIndex := 76, attributes := #[] }])
  fields := #[{ name := "name", type := (.object "java/lang/String"), accessFlags := 18, slot := 0, constantValue := 0 }, { name := "MAX_LENGTH", type := .int, accessFlags := 25, slot := 0, constantValue := 0 }]
  methods := #[k5m0, k5m1]
  instanceTypes := #[(.object "java/lang/String")]
  staticTypes := #[.int]
  resolved := Array.replicate 111 none
  statics := none }

def pool6 : Array CpInfo := pool [(1, .class_ 2), (0, u "java/io/Serializable"), (0, .class_ 4), (0, u "java/lang/Object")] 2

/-- java/io/Serializable -/
def k6 : Class := { plain "java/io/Serializable" (some 0) with
  accessFlags := 1537
  interfaces := #[]
  cf := some (fileOf pool6 1 #[] #[] 1537 3 #[] #[])
  fields := #[]
  methods := #[]
  instanceTypes := #[]
  staticTypes := #[]
  resolved := Array.replicate 7 none
  statics := none }

def pool7 : Array CpInfo := pool [(1, .class_ 2), (0, u "java/lang/Comparable"), (0, .class_ 4), (0, u "java/lang/Object")] 7

/-- java/lang/Comparable -/
def k7 : Class := { plain "java/lang/Comparable" (some 0) with
  accessFlags := 1537
  interfaces := #[]
  cf := some (fileOf pool7 1 #[] #[] 1537 3 #[] #[])
  fields := #[]
  methods := #[]
  instanceTypes := #[]
  staticTypes := #[]
  resolved := Array.replicate 12 none
  statics := none }

def pool8 : Array CpInfo := pool [(2, .class_ 4), (1, u "java/lang/CharSequence"), (42, .class_ 48), (0, u "java/lang/CharSequence$1CodePointIterator"), (10, .class_ 60), (0, u "java/lang/CharSequence$1CharIterator"), (5, .class_ 67), (0, u "java/lang/Object")] 63

/-- java/lang/CharSequence -/
def k8 : Class := { plain "java/lang/CharSequence" (some 0) with
  accessFlags := 1537
  interfaces := #[]
  cf := some (fileOf pool8 2 #[.nestMembers #[47, 59]] #[] 1537 66 #[] #[])
  fields := #[]
  methods := #[]
  instanceTypes := #[]
  staticTypes := #[]
  resolved := Array.replicate 131 none
  statics := none }

def pool9 : Array CpInfo := pool [(1, .class_ 2), (0, u "java/lang/constant/Constable"), (0, .class_ 4), (0, u "java/lang/Object")] 6

/-- java/lang/constant/Constable -/
def k9 : Class := { plain "java/lang/constant/Constable" (some 0) with
  accessFlags := 1537
  interfaces := #[]
  cf := some (fileOf pool9 1 #[] #[] 1537 3 #[] #[])
  fields := #[]
  methods := #[]
  instanceTypes := #[]
  staticTypes := #[]
  resolved := Array.replicate 11 none
  statics := none }

def pool10 : Array CpInfo := pool [(1, .class_ 2), (0, u "java/lang/constant/ConstantDesc"), (0, .class_ 4), (0, u "java/lang/Object")] 32

/-- java/lang/constant/ConstantDesc -/
def k10 : Class := { plain "java/lang/constant/ConstantDesc" (some 0) with
  accessFlags := 1537
  interfaces := #[]
  cf := some (fileOf pool10 1 #[] #[] 1537 3 #[] #[])
  fields := #[]
  methods := #[]
  instanceTypes := #[]
  staticTypes := #[]
  resolved := Array.replicate 37 none
  statics := none }

def pool11 : Array CpInfo := pool [(2, .class_ 4), (1, u "java/lang/Object"), (0, u "<init>"), (0, u "()V"), (2, .fieldref 10 11), (0, .class_ 12), (0, .nameAndType 13 14), (0, u "java/lang/String"), (0, u "value"), (0, u "[B"), (0, .fieldref 10 16), (0, .nameAndType 17 18), (0, u "coder"), (0, u "B"), (2, u "hash"), (0, u "I"), (2, u "hashIsZero"), (0, u "Z"), (11, .fieldref 10 39), (0, .nameAndType 40 26), (0, u "COMPACT_STRINGS"), (66, .class_ 109), (1, u "java/lang/StringLatin1"), (32, u "()Z"), (191, u "()I"), (0, .methodref 10 336), (0, .nameAndType 17 337), (0, u "()B"), (25, u "([BI)C"), (27, u "(II)V"), (35, u "(I)C"), (64, .methodref 10 493), (0, .nameAndType 494 142), (0, u "isLatin1"), (0, .methodref 107 496), (0, .nameAndType 497 363), (0, u "charAt"), (3, u "checkIndex"), (5, u "length"), (67, .class_ 576), (0, u "java/lang/CharSequence"), (22, u "CASE_INSENSITIVE_ORDER"), (0, u "Ljava/util/Comparator;"), (91, u "isEmpty"), (360, .fieldref 1054 1055), (0, .class_ 1056), (0, .nameAndType 1057 1058), (0, u "jdk/internal/util/Preconditions"), (0, u "SIOOBE_FORMATTER"), (0, u "Ljava/util/function/BiFunction;"), (0, .methodref 1054 1060), (0, .nameAndType 501 1061), (0, u "(IILjava/util/function/BiFunction;)I"), (39, u "serialPersistentFields"), (0, u "[Ljava/io/ObjectStreamField;"), (0, .class_ 1104), (0, u "java/lang/String$CaseInsensitiveComparator"), (1, .class_ 1107), (0, u "java/io/Serializable"), (0, .class_ 1109), (0, u "java/lang/Comparable"), (0, .class_ 1111), (0, u "java/lang/constant/Constable"), (0, .class_ 1113), (0, u "java/lang/constant/ConstantDesc"), (2, u "serialVersionUID"), (0, u "J"), (3, u "REPL"), (0, u "C"), (2, u "LATIN1"), (1, u "UTF16")] 323

def k11m0 : Method := { name := "<init>", desc := "()V", sig := { parameters := [], returnType := none }, accessFlags := 1, code := none }
def k11c1 : Code := { maxStack := 2, maxLocals := 1, code := jdk_42_method_54_code, exceptionTable := #[], attributes := #[] }
def k11m1 : Method := { name := "length", desc := "()I", sig := { parameters := [], returnType := some .int }, accessFlags := 1, code := some k11c1 }
def k11c2 : Code := { maxStack := 1, maxLocals := 1, code := jdk_42_method_55_code, exceptionTable := #[], attributes := #[] }
def k11m2 : Method := { name := "isEmpty", desc := "()Z", sig := { parameters := [], returnType := some .boolean }, accessFlags := 1, code := some k11c2 }
def k11c3 : Code := { maxStack := 2, maxLocals := 2, code := jdk_42_method_56_code, exceptionTable := #[], attributes := #[] }
def k11m3 : Method := { name := "charAt", desc := "(I)C", sig := { parameters := [.int], returnType := some .char }, accessFlags := 1, code := some k11c3 }
def k11c4 : Code := { maxStack := 1, maxLocals := 1, code := jdk_42_method_152_code, exceptionTable := #[], attributes := #[] }
def k11m4 : Method := { name := "coder", desc := "()B", sig := { parameters := [], returnType := some .byte }, accessFlags := 0, code := some k11c4 }
def k11c5 : Code := { maxStack := 1, maxLocals := 1, code := jdk_42_method_154_code, exceptionTable := #[], attributes := #[] }
def k11m5 : Method := { name := "isLatin1", desc := "()Z", sig := { parameters := [], returnType := some .boolean }, accessFlags := 0, code := some k11c5 }
def k11c6 : Code := { maxStack := 3, maxLocals := 2, code := jdk_42_method_155_code, exceptionTable := #[], attributes := #[] }
def k11m6 : Method := { name := "checkIndex", desc := "(II)V", sig := { parameters := [.int, .int], returnType := none }, accessFlags := 8, code := some k11c6 }
/-- java/lang/String -/
def k11 : Class := { plain "java/lang/String" (some 0) with
  accessFlags := 49
  interfaces := #[6, 7, 8, 9, 10]
  cf := some (fileOf pool11 10 #[.nestMembers #[1103]] #[{ accessFlags := 1, nameIndex := 5, descriptorIndex := 6, attributes := #[] }, { accessFlags := 1, nameIndex := 507, descriptorIndex := 334, attributes := #[] }, { accessFlags := 1, nameIndex := 692, descriptorIndex := 142, attributes := #[] }, { accessFlags := 1, nameIndex := 497, descriptorIndex := 427, attributes := #[] }, { accessFlags := 0, nameIndex := 17, descriptorIndex := 337, attributes := #[] }, { accessFlags := 0, nameIndex := 494, descriptorIndex := 142, attributes := #[] }, { accessFlags := 8, nameIndex := 501, descriptorIndex := 391, attributes := #[] }] 49 2 #[1106, 1108, 575, 1110, 1112] #[{ accessFlags := 18, nameIndex := 13, descriptorIndex := 14, attributes := #[] }, { accessFlags := 18, nameIndex := 17, descriptorIndex := 18, attributes := #[] }, { accessFlags := 2, nameIndex := 21, descriptorIndex := 22, attributes := #[] }, { accessFlags := 2, nameIndex := 25, descriptorIndex := 26, attributes := #[] }, { accessFlags := 26, nameIndex := 1116, descriptorIndex := 1117, attributes := #[] }, { accessFlags := 24, nameIndex := 40, descriptorIndex := 26, attributes := #[] }, { accessFlags := 26, nameIndex := 1101, descriptorIndex := 1102, attributes := #[] }, { accessFlags := 26, nameIndex := 1121, descriptorIndex := 1122, attributes := #[] }, { accessFlags := 25, nameIndex := 599, descriptorIndex := 600, attributes := #[] }, { accessFlags := 24, nameIndex := 1125, descriptorIndex := 18, attributes := #[] }, { accessFlags := 24, nameIndex := 1127, descriptorIndex := 18, attributes := #[] }])
  fields := #[{ name := "value", type := (.array .byte), accessFlags := 18, slot := 0, constantValue := 0 }, { name := "coder", type := .byte, accessFlags := 18, slot := 1, constantValue := 0 }, { name := "hash", type := .int, accessFlags := 2, slot := 2, constantValue := 0 }, { name := "hashIsZero", type := .boolean, accessFlags := 2, slot := 3, constantValue := 0 }, { name := "serialVersionUID", type := .long, accessFlags := 26, slot := 0, constantValue := 0 }, { name := "COMPACT_STRINGS", type := .boolean, accessFlags := 24, slot := 1, constantValue := 0 }, { name := "serialPersistentFields", type := (.array (.object "java/io/ObjectStreamField")), accessFlags := 26, slot := 2, constantValue := 0 }, { name := "REPL", type := .char, accessFlags := 26, slot := 3, constantValue := 0 }, { name := "CASE_INSENSITIVE_ORDER", type := (.object "java/util/Comparator"), accessFlags := 25, slot := 4, constantValue := 0 }, { name := "LATIN1", type := .byte, accessFlags := 24, slot := 5, constantValue := 0 }, { name := "UTF16", type := .byte, accessFlags := 24, slot := 6, constantValue := 0 }]
  methods := #[k11m0, k11m1, k11m2, k11m3, k11m4, k11m5, k11m6]
  instanceTypes := #[(.array .byte), .byte, .int, .boolean]
  staticTypes := #[.long, .boolean, (.array (.object "java/io/ObjectStreamField")), .char, (.object "java/util/Comparator"), .byte, .byte]
  resolved := Array.replicate 1451 none
  statics := some 0 }

def pool12 : Array CpInfo := pool [(2, .class_ 4), (1, u "java/lang/Object"), (0, u "<init>"), (0, u "()V"), (35, .class_ 44), (1, u "java/util/Objects"), (0, u "requireNonNull"), (48, u "(Ljava/lang/Object;Ljava/lang/String;)Ljava/lang/Object;")] 89

def k12m0 : Method := { name := "<init>", desc := "()V", sig := { parameters := [], returnType := none }, accessFlags := 2, code := none }
def k12c1 : Code := { maxStack := 3, maxLocals := 2, code := jdk_31_method_11_code, exceptionTable := #[], attributes := #[] }
def k12m1 : Method := { name := "requireNonNull", desc := "(Ljava/lang/Object;Ljava/lang/String;)Ljava/lang/Object;", sig := { parameters := [(.object "java/lang/Object"), (.object "java/lang/String")], returnType := some (.object "java/lang/Object") }, accessFlags := 9, code := some k12c1 }
/-- java/util/Objects -/
def k12 : Class := { plain "java/util/Objects" (some 0) with
  accessFlags := 49
  interfaces := #[]
  cf := some (fileOf pool12 42 #[] #[{ accessFlags := 2, nameIndex := 5, descriptorIndex := 6, attributes := #[] }, { accessFlags := 9, nameIndex := 45, descriptorIndex := 94, attributes := #[] }] 49 2 #[] #[])
  fields := #[]
  methods := #[k12m0, k12m1]
  instanceTypes := #[]
  staticTypes := #[]
  resolved := Array.replicate 184 none
  statics := none }

def pool13 : Array CpInfo := pool [(1, .class_ 2), (0, u "java/lang/String"), (1, .class_ 6), (1, u "java/lang/Object"), (0, u "<init>"), (0, u "()V"), (0, .methodref 1 10), (0, .nameAndType 11 12), (0, u "checkIndex"), (0, u "(II)V"), (1, .class_ 16), (1, u "java/lang/StringLatin1"), (36, u "([BI)C"), (67, u "$assertionsDisabled"), (0, u "Z"), (98, .class_ 223), (1, u "java/lang/StringLatin1$LinesSpliterator"), (28, u "charAt"), (137, .class_ 391), (0, u "java/lang/StringLatin1$CharsSpliterator")] 3

def k13m0 : Method := { name := "<init>", desc := "()V", sig := { parameters := [], returnType := none }, accessFlags := 0, code := none }
def k13c1 : Code := { maxStack := 2, maxLocals := 2, code := jdk_43_method_2_code, exceptionTable := #[], attributes := #[] }
def k13m1 : Method := { name := "charAt", desc := "([BI)C", sig := { parameters := [(.array .byte), .int], returnType := some .char }, accessFlags := 9, code := some k13c1 }
/-- java/lang/StringLatin1 -/
def k13 : Class := { plain "java/lang/StringLatin1" (some 0) with
  accessFlags := 48
  interfaces := #[]
  cf := some (fileOf pool13 14 #[.nestMembers #[390, 221]] #[{ accessFlags := 0, nameIndex := 7, descriptorIndex := 8, attributes := #[] }, { accessFlags := 9, nameIndex := 252, descriptorIndex := 53, attributes := #[] }] 48 4 #[] #[{ accessFlags := 4120, nameIndex := 121, descriptorIndex := 122, attributes := #[] }])
  fields := #[{ name := "$assertionsDisabled", type := .boolean, accessFlags := 4120, slot := 0, constantValue := 0 }]
  methods := #[k13m0, k13m1]
  instanceTypes := #[]
  staticTypes := #[.boolean]
  resolved := Array.replicate 395 none
  statics := none }

def pool14 : Array CpInfo := pool [(2, .class_ 4), (1, u "java/lang/Object"), (0, u "<init>"), (0, u "()V"), (17, .class_ 26), (1, u "jdk/internal/util/Preconditions"), (6, u "checkIndex"), (21, .class_ 56), (0, u "jdk/internal/util/Preconditions$4"), (57, .class_ 115), (0, u "jdk/internal/util/Preconditions$1"), (7, u "SIOOBE_FORMATTER"), (0, u "Ljava/util/function/BiFunction;"), (0, .class_ 126), (0, u "jdk/internal/util/Preconditions$2"), (3, u "AIOOBE_FORMATTER"), (0, .class_ 132), (0, u "jdk/internal/util/Preconditions$3"), (3, u "IOOBE_FORMATTER"), (41, u "(IILjava/util/function/BiFunction;)I")] 15

def k14m0 : Method := { name := "<init>", desc := "()V", sig := { parameters := [], returnType := none }, accessFlags := 1, code := none }
def k14c1 : Code := { maxStack := 3, maxLocals := 3, code := jdk_41_method_11_code, exceptionTable := #[], attributes := #[] }
def k14m1 : Method := { name := "checkIndex", desc := "(IILjava/util/function/BiFunction;)I", sig := { parameters := [.int, .int, (.object "java/util/function/BiFunction")], returnType := some .int }, accessFlags := 9, code := some k14c1 }
/-- jdk/internal/util/Preconditions -/
def k14 : Class := { plain "jdk/internal/util/Preconditions" (some 0) with
  accessFlags := 33
  interfaces := #[]
  cf := some (fileOf pool14 24 #[.nestMembers #[55, 131, 125, 114]] #[{ accessFlags := 1, nameIndex := 5, descriptorIndex := 6, attributes := #[] }, { accessFlags := 9, nameIndex := 33, descriptorIndex := 178, attributes := #[] }] 33 2 #[] #[{ accessFlags := 25, nameIndex := 123, descriptorIndex := 124, attributes := #[] }, { accessFlags := 25, nameIndex := 130, descriptorIndex := 124, attributes := #[] }, { accessFlags := 25, nameIndex := 136, descriptorIndex := 124, attributes := #[] }])
  fields := #[{ name := "SIOOBE_FORMATTER", type := (.object "java/util/function/BiFunction"), accessFlags := 25, slot := 0, constantValue := 0 }, { name := "AIOOBE_FORMATTER", type := (.object "java/util/function/BiFunction"), accessFlags := 25, slot := 1, constantValue := 0 }, { name := "IOOBE_FORMATTER", type := (.object "java/util/function/BiFunction"), accessFlags := 25, slot := 2, constantValue := 0 }]
  methods := #[k14m0, k14m1]
  instanceTypes := #[]
  staticTypes := #[(.object "java/util/function/BiFunction"), (.object "java/util/function/BiFunction"), (.object "java/util/function/BiFunction")]
  resolved := Array.replicate 194 none
  statics := some 1 }

def pool15 : Array CpInfo := pool [(9, u "<init>"), (6, .class_ 18), (1, u "java/lang/Object"), (0, u "()V"), (1, .class_ 23), (1, u "jdk/internal/util/ArraysSupport"), (0, u "LOG2_ARRAY_LONG_INDEX_SCALE"), (0, u "I"), (2, u "U"), (0, u "Ljdk/internal/misc/Unsafe;"), (8, u "BIG_ENDIAN"), (0, u "Z"), (8, u "LOG2_BYTE_BIT_SIZE"), (4, u "LOG2_ARRAY_INT_INDEX_SCALE"), (54, u "JLA"), (0, u "Ljdk/internal/access/JavaLangAccess;"), (11, u "LOG2_ARRAY_BOOLEAN_INDEX_SCALE"), (9, u "LOG2_ARRAY_BYTE_INDEX_SCALE"), (5, u "LOG2_ARRAY_CHAR_INDEX_SCALE"), (5, u "LOG2_ARRAY_SHORT_INDEX_SCALE"), (18, u "LOG2_ARRAY_FLOAT_INDEX_SCALE"), (24, u "LOG2_ARRAY_DOUBLE_INDEX_SCALE"), (89, u "T_BOOLEAN"), (2, u "T_CHAR"), (1, u "T_FLOAT"), (1, u "T_DOUBLE"), (1, u "T_BYTE"), (1, u "T_SHORT"), (1, u "T_INT"), (1, u "T_LONG"), (1, u "SOFT_MAX_ARRAY_LENGTH")] 83

def k15m0 : Method := { name := "<init>", desc := "()V", sig := { parameters := [], returnType := none }, accessFlags := 2, code := none }
/-- jdk/internal/util/ArraysSupport -/
def k15 : Class := { plain "jdk/internal/util/ArraysSupport" (some 0) with
  accessFlags := 33
  interfaces := #[]
  cf := some (fileOf pool15 21 #[] #[{ accessFlags := 2, nameIndex := 9, descriptorIndex := 19, attributes := #[] }] 33 16 #[] #[{ accessFlags := 24, nameIndex := 28, descriptorIndex := 29, attributes := #[] }, { accessFlags := 26, nameIndex := 38, descriptorIndex := 39, attributes := #[] }, { accessFlags := 25, nameIndex := 121, descriptorIndex := 25, attributes := #[] }, { accessFlags := 25, nameIndex := 131, descriptorIndex := 25, attributes := #[] }, { accessFlags := 25, nameIndex := 137, descriptorIndex := 25, attributes := #[] }, { accessFlags := 25, nameIndex := 143, descriptorIndex := 25, attributes := #[] }, { accessFlags := 25, nameIndex := 53, descriptorIndex := 25, attributes := #[] }, { accessFlags := 25, nameIndex := 24, descriptorIndex := 25, attributes := #[] }, { accessFlags := 25, nameIndex := 162, descriptorIndex := 25, attributes := #[] }, { accessFlags := 25, nameIndex := 187, descriptorIndex := 25, attributes := #[] }, { accessFlags := 26, nameIndex := 48, descriptorIndex := 25, attributes := #[] }, { accessFlags := 25, nameIndex := 277, descriptorIndex := 25, attributes := #[] }, { accessFlags := 25, nameIndex := 280, descriptorIndex := 25, attributes := #[] }, { accessFlags := 25, nameIndex := 282, descriptorIndex := 25, attributes := #[] }, { accessFlags := 25, nameIndex := 284, descriptorIndex := 25, attributes := #[] }, { accessFlags := 25, nameIndex := 286, descriptorIndex := 25, attributes := #[] }, { accessFlags := 25, nameIndex := 288, descriptorIndex := 25, attributes := #[] }, { accessFlags := 25, nameIndex := 290, descriptorIndex := 25, attributes := #[] }, { accessFlags := 25, nameIndex := 292, descriptorIndex := 25, attributes := #[] }, { accessFlags := 26, nameIndex := 108, descriptorIndex := 109, attributes := #[] }, { accessFlags := 25, nameIndex := 294, descriptorIndex := 25, attributes := #[] }])
  fields := #[{ name := "U", type := (.object "jdk/internal/misc/Unsafe"), accessFlags := 24, slot := 0, constantValue := 0 }, { name := "BIG_ENDIAN", type := .boolean, accessFlags := 26, slot := 1, constantValue := 0 }, { name := "LOG2_ARRAY_BOOLEAN_INDEX_SCALE", type := .int, accessFlags := 25, slot := 2, constantValue := 0 }, { name := "LOG2_ARRAY_BYTE_INDEX_SCALE", type := .int, accessFlags := 25, slot := 3, constantValue := 0 }, { name := "LOG2_ARRAY_CHAR_INDEX_SCALE", type := .int, accessFlags := 25, slot := 4, constantValue := 0 }, { name := "LOG2_ARRAY_SHORT_INDEX_SCALE", type := .int, accessFlags := 25, slot := 5, constantValue := 0 }, { name := "LOG2_ARRAY_INT_INDEX_SCALE", type := .int, accessFlags := 25, slot := 6, constantValue := 0 }, { name := "LOG2_ARRAY_LONG_INDEX_SCALE", type := .int, accessFlags := 25, slot := 7, constantValue := 0 }, { name := "LOG2_ARRAY_FLOAT_INDEX_SCALE", type := .int, accessFlags := 25, slot := 8, constantValue := 0 }, { name := "LOG2_ARRAY_DOUBLE_INDEX_SCALE", type := .int, accessFlags := 25, slot := 9, constantValue := 0 }, { name := "LOG2_BYTE_BIT_SIZE", type := .int, accessFlags := 26, slot := 10, constantValue := 0 }, { name := "T_BOOLEAN", type := .int, accessFlags := 25, slot := 11, constantValue := 0 }, { name := "T_CHAR", type := .int, accessFlags := 25, slot := 12, constantValue := 0 }, { name := "T_FLOAT", type := .int, accessFlags := 25, slot := 13, constantValue := 0 }, { name := "T_DOUBLE", type := .int, accessFlags := 25, slot := 14, constantValue := 0 }, { name := "T_BYTE", type := .int, accessFlags := 25, slot := 15, constantValue := 0 }, { name := "T_SHORT", type := .int, accessFlags := 25, slot := 16, constantValue := 0 }, { name := "T_INT", type := .int, accessFlags := 25, slot := 17, constantValue := 0 }, { name := "T_LONG", type := .int, accessFlags := 25, slot := 18, constantValue := 0 }, { name := "JLA", type := (.object "jdk/internal/access/JavaLangAccess"), accessFlags := 26, slot := 19, constantValue := 0 }, { name := "SOFT_MAX_ARRAY_LENGTH", type := .int, accessFlags := 25, slot := 20, constantValue := 0 }]
  methods := #[k15m0]
  instanceTypes := #[]
  staticTypes := #[(.object "jdk/internal/misc/Unsafe"), .boolean, .int, .int, .int, .int, .int, .int, .int, .int, .int, .int, .int, .int, .int, .int, .int, .int, .int, (.object "jdk/internal/access/JavaLangAccess"), .int]
  resolved := Array.replicate 378 none
  statics := none }

def pool16 : Array CpInfo := pool [(1, u "java/lang/Cloneable"), (0, .class_ 1), (0, u "java/lang/Object"), (0, .class_ 3)] 3

/-- java/lang/Cloneable -/
def k16 : Class := { plain "java/lang/Cloneable" (some 0) with
  accessFlags := 1537
  interfaces := #[]
  cf := some (fileOf pool16 2 #[] #[] 1537 4 #[] #[])
  fields := #[]
  methods := #[]
  instanceTypes := #[]
  staticTypes := #[]
  resolved := Array.replicate 8 none
  statics := none }

/-- the primitive byte -/
def k17 : Class := { plain "byte" none with kind := .primitive 'B', accessFlags := 0x411 }
/-- [B -/
def k18 : Class := { plain "[B" (some 0) with kind := .array 17 .byte, interfaces := #[16, 6], accessFlags := 1041 }

/-- the primitive int -/
def k19 : Class := { plain "int" none with kind := .primitive 'I', accessFlags := 0x411 }
/-- [I -/
def k20 : Class := { plain "[I" (some 0) with kind := .array 19 .int, interfaces := #[16, 6], accessFlags := 1041 }

def heap : Heap := #[{ cls := 11, slots := #[.long 0, .int 1, .null, .int 0, .null, .int 0, .int 0], vm := .statics 11 },
  { cls := 14, slots := #[.null, .null, .null], vm := .statics 14 }]
def classes : Array Class := #[k0, k1, k2, k3, k4, k5, k6, k7, k8, k9, k10, k11, k12, k13, k14, k15, k16, k17, k18, k19, k20]
def interned : List (Array UInt16 × Addr) := []
def slotsUsed : Nat := 10
def theMethod : MethodId := ⟨1, 1⟩
def args0 : Array Value := #[.int 65793, .int 131333]
def aboutOver (below : List Frame) : State where
  vm := { classes := classes, interned := interned.toArray }
  heap := heap
  slotsUsed := slotsUsed
  threads := #[{ frames := .invoking theMethod args0 :: below }]
def below0 : List Frame := [.native { method := ⟨0, 0⟩, args := #[] }]
def about1 : State := aboutOver below0
def p0 : Program := .bare "" "" ""
def e0 : Env := launch0.env 0 0 0
theorem w_frames : about1.frames = Frame.invoking theMethod args0 :: below0 := rfl
set_option maxRecDepth 65536 in
theorem w_args : argsFit about1.vm theMethod args0 = true := by decide +kernel
set_option maxRecDepth 65536 in
theorem w_heap : heapFits about1 = true := by decide +kernel
set_option maxRecDepth 65536 in
theorem w_runnable : about1.curStatus? = some .runnable := by decide +kernel
set_option maxRecDepth 65536 in
theorem w_alone : about1.alone = true := by decide +kernel
set_option maxRecDepth 65536 in
theorem w_named : about1.methodNamed? x = some theMethod := by decide +kernel
set_option maxRecDepth 65536 in
theorem w_hears : about1.hears theMethod below0 = true := by decide +kernel
set_option maxRecDepth 65536 in
theorem w_ripe : about1.ripe theMethod args0 below0 = true := by decide +kernel
theorem w_running : about1.status = .running := rfl
set_option maxRecDepth 65536 in
theorem w_room : about1.hasRoom e0.platform room_1 = true :=
  launch0.hasRoom_least _ room_1 (by decide +kernel) (by decide +kernel) (by decide +kernel) (by decide +kernel) (by decide +kernel) (by decide +kernel)
theorem allAtoms_all (ts : List Jvm.Cond) (a : Array Jvm.Value) (st : Jvm.State) : (allAtoms ts).before a st = ts.all (fun c => c.before a st) := by
  induction ts with
  | nil => rfl
  | cons c t ih =>
    show (Jvm.Cond.and c (allAtoms t)).before a st = _
    rw [Jvm.Cond.before_and, ih, List.all_cons]
def words1 : List Jvm.Cond := Jvm.Cond.code x code maxLocals ret :: tables_1
/-- a 'code' word, met by the world's own term for the bytes: nothing is compared byte by byte -/
theorem code_word {y : MethodName} {bytes : ByteArray} {mx : Nat} {rt : Option FieldType} {a : Array Value} {s : State} {m : MethodId} {meth : Method} {c : Code} (h1 : s.methodNamed? y = some m) (h2 : s.vm.method? m = some meth) (h3 : meth.code = some c) (h4 : c.code = bytes)
    (h5 : (c.maxLocals == mx && c.exceptionTable.isEmpty && decide (c.maxStack ≤ mostOperands) && decide (meth.sig.returnType = rt) && !meth.locks && decide (parseMethodDescriptor y.desc = some meth.sig)) = true) : (Jvm.Cond.code y bytes mx rt).before a s = true := by
  simp only [Bool.and_eq_true, beq_iff_eq, Bool.not_eq_true', decide_eq_true_eq] at h5
  obtain ⟨⟨⟨⟨⟨g1, g2⟩, g3⟩, g4⟩, g5⟩, g6⟩ := h5
  simp [Cond.before, Cond.holds, Cond.value, h1, h2, h3, h4, g1, g2, g3, g4, g5, g6]
def isCode : Jvm.Cond → Bool
  | .code _ _ _ _ => true
  | _ => false
theorem all_split {L : List Jvm.Cond} {P : Jvm.Cond → Bool} (h1 : L.all (fun c => isCode c || P c) = true) (h2 : ∀ c ∈ L.filter isCode, P c = true) : L.all P = true := by
  refine List.all_eq_true.mpr fun c hc => ?_
  have h := List.all_eq_true.mp h1 c hc
  rcases Bool.eq_false_or_eq_true (isCode c) with hi | hi
  · exact h2 c (List.mem_filter.mpr ⟨hc, hi⟩)
  · simpa [hi] using h
set_option maxRecDepth 65536 in
theorem w_c0 : (Jvm.Cond.code x code maxLocals ret).before args0 about1 = true := code_word (m := ⟨1, 1⟩) (meth := k1m1) (c := k1c1) (by decide +kernel) rfl rfl rfl (by decide +kernel)
set_option maxRecDepth 65536 in
theorem w_c1 : (Jvm.Cond.code ({ cls := "com/example/quorumgate/quorumgate/cluster/Key", name := "<init>", desc := "(Ljava/lang/String;)V" } : Jvm.MethodName) prog_19_method_1_code (4 : Nat) (Option.none : Option Jvm.ClassFile.FieldType)).before args0 about1 = true := code_word (m := ⟨5, 0⟩) (meth := k5m0) (c := k5c0) (by decide +kernel) rfl rfl rfl (by decide +kernel)
set_option maxRecDepth 65536 in
theorem w_c2 : (Jvm.Cond.code ({ cls := "java/lang/Record", name := "<init>", desc := "()V" } : Jvm.MethodName) jdk_30_method_1_code (1 : Nat) (Option.none : Option Jvm.ClassFile.FieldType)).before args0 about1 = true := code_word (m := ⟨2, 0⟩) (meth := k2m0) (c := k2c0) (by decide +kernel) rfl rfl rfl (by decide +kernel)
set_option maxRecDepth 65536 in
theorem w_c3 : (Jvm.Cond.code ({ cls := "java/lang/Object", name := "<init>", desc := "()V" } : Jvm.MethodName) object_method_1_code (1 : Nat) (Option.none : Option Jvm.ClassFile.FieldType)).before args0 about1 = true := code_word (m := ⟨0, 0⟩) (meth := k0m0) (c := k0c0) (by decide +kernel) rfl rfl rfl (by decide +kernel)
set_option maxRecDepth 65536 in
theorem w_c4 : (Jvm.Cond.code ({ cls := "java/util/Objects", name := "requireNonNull", desc := "(Ljava/lang/Object;Ljava/lang/String;)Ljava/lang/Object;" } : Jvm.MethodName) jdk_31_method_11_code (2 : Nat) (Option.some (Jvm.ClassFile.FieldType.object "java/lang/Object"))).before args0 about1 = true := code_word (m := ⟨12, 1⟩) (meth := k12m1) (c := k12c1) (by decide +kernel) rfl rfl rfl (by decide +kernel)
set_option maxRecDepth 65536 in
theorem w_c5 : (Jvm.Cond.code ({ cls := "java/lang/String", name := "isEmpty", desc := "()Z" } : Jvm.MethodName) jdk_42_method_55_code (1 : Nat) (Option.some Jvm.ClassFile.FieldType.boolean)).before args0 about1 = true := code_word (m := ⟨11, 2⟩) (meth := k11m2) (c := k11c2) (by decide +kernel) rfl rfl rfl (by decide +kernel)
set_option maxRecDepth 65536 in
theorem w_c6 : (Jvm.Cond.code ({ cls := "java/lang/String", name := "length", desc := "()I" } : Jvm.MethodName) jdk_42_method_54_code (1 : Nat) (Option.some Jvm.ClassFile.FieldType.int)).before args0 about1 = true := code_word (m := ⟨11, 1⟩) (meth := k11m1) (c := k11c1) (by decide +kernel) rfl rfl rfl (by decide +kernel)
set_option maxRecDepth 65536 in
theorem w_c7 : (Jvm.Cond.code ({ cls := "java/lang/String", name := "coder", desc := "()B" } : Jvm.MethodName) jdk_42_method_152_code (1 : Nat) (Option.some Jvm.ClassFile.FieldType.byte)).before args0 about1 = true := code_word (m := ⟨11, 4⟩) (meth := k11m4) (c := k11c4) (by decide +kernel) rfl rfl rfl (by decide +kernel)
set_option maxRecDepth 65536 in
theorem w_c8 : (Jvm.Cond.code ({ cls := "java/lang/String", name := "charAt", desc := "(I)C" } : Jvm.MethodName) jdk_42_method_56_code (2 : Nat) (Option.some Jvm.ClassFile.FieldType.char)).before args0 about1 = true := code_word (m := ⟨11, 3⟩) (meth := k11m3) (c := k11c3) (by decide +kernel) rfl rfl rfl (by decide +kernel)
set_option maxRecDepth 65536 in
theorem w_c9 : (Jvm.Cond.code ({ cls := "java/lang/String", name := "isLatin1", desc := "()Z" } : Jvm.MethodName) jdk_42_method_154_code (1 : Nat) (Option.some Jvm.ClassFile.FieldType.boolean)).before args0 about1 = true := code_word (m := ⟨11, 5⟩) (meth := k11m5) (c := k11c5) (by decide +kernel) rfl rfl rfl (by decide +kernel)
set_option maxRecDepth 65536 in
theorem w_c10 : (Jvm.Cond.code ({ cls := "java/lang/StringLatin1", name := "charAt", desc := "([BI)C" } : Jvm.MethodName) jdk_43_method_2_code (2 : Nat) (Option.some Jvm.ClassFile.FieldType.char)).before args0 about1 = true := code_word (m := ⟨13, 1⟩) (meth := k13m1) (c := k13c1) (by decide +kernel) rfl rfl rfl (by decide +kernel)
set_option maxRecDepth 65536 in
theorem w_c11 : (Jvm.Cond.code ({ cls := "java/lang/String", name := "checkIndex", desc := "(II)V" } : Jvm.MethodName) jdk_42_method_155_code (2 : Nat) (Option.none : Option Jvm.ClassFile.FieldType)).before args0 about1 = true := code_word (m := ⟨11, 6⟩) (meth := k11m6) (c := k11c6) (by decide +kernel) rfl rfl rfl (by decide +kernel)
set_option maxRecDepth 65536 in
theorem w_c12 : (Jvm.Cond.code ({ cls := "jdk/internal/util/Preconditions", name := "checkIndex", desc := "(IILjava/util/function/BiFunction;)I" } : Jvm.MethodName) jdk_41_method_11_code (3 : Nat) (Option.some Jvm.ClassFile.FieldType.int)).before args0 about1 = true := code_word (m := ⟨14, 1⟩) (meth := k14m1) (c := k14c1) (by decide +kernel) rfl rfl rfl (by decide +kernel)
set_option maxRecDepth 65536 in
theorem w_c13 : (Jvm.Cond.code ({ cls := "com/example/quorumgate/quorumgate/cluster/Key", name := "isAllowed", desc := "(C)Z" } : Jvm.MethodName) prog_19_method_2_code (1 : Nat) (Option.some Jvm.ClassFile.FieldType.boolean)).before args0 about1 = true := code_word (m := ⟨5, 1⟩) (meth := k5m1) (c := k5c1) (by decide +kernel) rfl rfl rfl (by decide +kernel)
set_option maxRecDepth 65536 in
theorem w_c14 : (Jvm.Cond.code ({ cls := "com/example/quorumgate/quorumgate/cluster/Command$PutIfAbsent", name := "<init>", desc := "(Lcom/example/quorumgate/quorumgate/cluster/Key;[B)V" } : Jvm.MethodName) prog_13_method_1_code (3 : Nat) (Option.none : Option Jvm.ClassFile.FieldType)).before args0 about1 = true := code_word (m := ⟨4, 0⟩) (meth := k4m0) (c := k4c0) (by decide +kernel) rfl rfl rfl (by decide +kernel)
set_option maxRecDepth 65536 in
theorem w_c15 : (Jvm.Cond.code ({ cls := "com/example/quorumgate/quorumgate/cluster/Command", name := "checkPut", desc := "(Lcom/example/quorumgate/quorumgate/cluster/Key;[B)V" } : Jvm.MethodName) prog_10_method_3_code (2 : Nat) (Option.none : Option Jvm.ClassFile.FieldType)).before args0 about1 = true := code_word (m := ⟨3, 0⟩) (meth := k3m0) (c := k3c0) (by decide +kernel) rfl rfl rfl (by decide +kernel)
set_option maxRecDepth 65536 in
theorem w_c16 : (Jvm.Cond.code ({ cls := "com/example/quorumgate/quorumgate/cluster/Command$PutIfAbsent", name := "applyTo", desc := "([B)[B" } : Jvm.MethodName) prog_13_method_2_code (2 : Nat) (Option.some (Jvm.ClassFile.FieldType.array Jvm.ClassFile.FieldType.byte))).before args0 about1 = true := code_word (m := ⟨4, 1⟩) (meth := k4m1) (c := k4c1) (by decide +kernel) rfl rfl rfl (by decide +kernel)
def codes1 : List Jvm.Cond := [Jvm.Cond.code x code maxLocals ret, Jvm.Cond.code ({ cls := "com/example/quorumgate/quorumgate/cluster/Key", name := "<init>", desc := "(Ljava/lang/String;)V" } : Jvm.MethodName) prog_19_method_1_code (4 : Nat) (Option.none : Option Jvm.ClassFile.FieldType), Jvm.Cond.code ({ cls := "java/lang/Record", name := "<init>", desc := "()V" } : Jvm.MethodName) jdk_30_method_1_code (1 : Nat) (Option.none : Option Jvm.ClassFile.FieldType), Jvm.Cond.code ({ cls := "java/lang/Object", name := "<init>", desc := "()V" } : Jvm.MethodName) object_method_1_code (1 : Nat) (Option.none : Option Jvm.ClassFile.FieldType), Jvm.Cond.code ({ cls := "java/util/Objects", name := "requireNonNull", desc := "(Ljava/lang/Object;Ljava/lang/String;)Ljava/lang/Object;" } : Jvm.MethodName) jdk_31_method_11_code (2 : Nat) (Option.some (Jvm.ClassFile.FieldType.object "java/lang/Object")), Jvm.Cond.code ({ cls := "java/lang/String", name := "isEmpty", desc := "()Z" } : Jvm.MethodName) jdk_42_method_55_code (1 : Nat) (Option.some Jvm.ClassFile.FieldType.boolean), Jvm.Cond.code ({ cls := "java/lang/String", name := "length", desc := "()I" } : Jvm.MethodName) jdk_42_method_54_code (1 : Nat) (Option.some Jvm.ClassFile.FieldType.int), Jvm.Cond.code ({ cls := "java/lang/String", name := "coder", desc := "()B" } : Jvm.MethodName) jdk_42_method_152_code (1 : Nat) (Option.some Jvm.ClassFile.FieldType.byte), Jvm.Cond.code ({ cls := "java/lang/String", name := "charAt", desc := "(I)C" } : Jvm.MethodName) jdk_42_method_56_code (2 : Nat) (Option.some Jvm.ClassFile.FieldType.char), Jvm.Cond.code ({ cls := "java/lang/String", name := "isLatin1", desc := "()Z" } : Jvm.MethodName) jdk_42_method_154_code (1 : Nat) (Option.some Jvm.ClassFile.FieldType.boolean), Jvm.Cond.code ({ cls := "java/lang/StringLatin1", name := "charAt", desc := "([BI)C" } : Jvm.MethodName) jdk_43_method_2_code (2 : Nat) (Option.some Jvm.ClassFile.FieldType.char), Jvm.Cond.code ({ cls := "java/lang/String", name := "checkIndex", desc := "(II)V" } : Jvm.MethodName) jdk_42_method_155_code (2 : Nat) (Option.none : Option Jvm.ClassFile.FieldType), Jvm.Cond.code ({ cls := "jdk/internal/util/Preconditions", name := "checkIndex", desc := "(IILjava/util/function/BiFunction;)I" } : Jvm.MethodName) jdk_41_method_11_code (3 : Nat) (Option.some Jvm.ClassFile.FieldType.int), Jvm.Cond.code ({ cls := "com/example/quorumgate/quorumgate/cluster/Key", name := "isAllowed", desc := "(C)Z" } : Jvm.MethodName) prog_19_method_2_code (1 : Nat) (Option.some Jvm.ClassFile.FieldType.boolean), Jvm.Cond.code ({ cls := "com/example/quorumgate/quorumgate/cluster/Command$PutIfAbsent", name := "<init>", desc := "(Lcom/example/quorumgate/quorumgate/cluster/Key;[B)V" } : Jvm.MethodName) prog_13_method_1_code (3 : Nat) (Option.none : Option Jvm.ClassFile.FieldType), Jvm.Cond.code ({ cls := "com/example/quorumgate/quorumgate/cluster/Command", name := "checkPut", desc := "(Lcom/example/quorumgate/quorumgate/cluster/Key;[B)V" } : Jvm.MethodName) prog_10_method_3_code (2 : Nat) (Option.none : Option Jvm.ClassFile.FieldType), Jvm.Cond.code ({ cls := "com/example/quorumgate/quorumgate/cluster/Command$PutIfAbsent", name := "applyTo", desc := "([B)[B" } : Jvm.MethodName) prog_13_method_2_code (2 : Nat) (Option.some (Jvm.ClassFile.FieldType.array Jvm.ClassFile.FieldType.byte))]
set_option maxRecDepth 65536 in
theorem codes_eq : words1.filter isCode = codes1 := rfl
theorem w_codes : ∀ c ∈ words1.filter isCode, c.before args0 about1 = true := by
  rw [codes_eq]
  intro c hc
  simp only [codes1, List.mem_cons, List.not_mem_nil, or_false] at hc
  rcases hc with rfl | rfl | rfl | rfl | rfl | rfl | rfl | rfl | rfl | rfl | rfl | rfl | rfl | rfl | rfl | rfl | rfl
  · exact w_c0
  · exact w_c1
  · exact w_c2
  · exact w_c3
  · exact w_c4
  · exact w_c5
  · exact w_c6
  · exact w_c7
  · exact w_c8
  · exact w_c9
  · exact w_c10
  · exact w_c11
  · exact w_c12
  · exact w_c13
  · exact w_c14
  · exact w_c15
  · exact w_c16
set_option maxRecDepth 65536 in
theorem w_t1 : (words1.take 24).all (fun c => isCode c || c.before args0 about1) = true := by decide +kernel
set_option maxRecDepth 65536 in
theorem w_t2 : ((words1.drop 24).take 24).all (fun c => isCode c || c.before args0 about1) = true := by decide +kernel
set_option maxRecDepth 65536 in
theorem w_t3 : (((words1.drop 24).drop 24).take 24).all (fun c => isCode c || c.before args0 about1) = true := by decide +kernel
set_option maxRecDepth 65536 in
theorem w_t4 : (((words1.drop 24).drop 24).drop 24).all (fun c => isCode c || c.before args0 about1) = true := by decide +kernel
theorem w_tables : (allAtoms (Jvm.Cond.code x code maxLocals ret :: tables_1)).before args0 about1 = true := by
  rw [allAtoms_all]
  show words1.all (fun c => c.before args0 about1) = true
  refine all_split ?_ w_codes
  rw [← List.take_append_drop 24 words1, List.all_append, w_t1, ← List.take_append_drop 24 (words1.drop 24), List.all_append, w_t2, ← List.take_append_drop 24 ((words1.drop 24).drop 24), List.all_append, w_t3, w_t4]
  rfl
set_option maxRecDepth 65536 in
theorem w_rest : rest_1_c.before args0 about1 = true := by decide +kernel
set_option maxRecDepth 65536 in
theorem w_case : (Jvm.Cond.and given_1 narrow_1).before args0 about1 = true := by decide +kernel
set_option maxRecDepth 65536 in
theorem w_consts : constsHeld consts_1 about1 := Jvm.Lit.constsHeldB_iff.mp (by decide +kernel)
theorem w_applies : (headSpec (Jvm.Cond.code x code maxLocals ret :: tables_1) room_1).applies x e0.platform about1 = true :=
  (Spec.applies_iff w_frames).mpr ⟨w_running, w_runnable, w_alone, w_named, w_hears, w_ripe, w_room, w_tables⟩
theorem atStart : AtStart classFile x code maxLocals ret World_1 tables_1 room_1 Calls_1 rest_1 Pre_1 launch0 p0 e0 about1 theMethod args0 below0 :=
  ⟨lists_1, trivial, launch0.admits_env _ _ _, launch0.least_env, fairChoices_fair.cas, fairChoices_fair.clock, w_frames, w_args, w_heap, w_applies, ⟨w_consts, trivial⟩, w_rest, w_case⟩
end start1
theorem witness_1 : WitnessClaimed_1 := ⟨start1.p0, start1.e0, start1.about1, start1.theMethod, start1.args0, start1.below0, start1.atStart⟩
end Jvm.Pilot.@@N@@
