import JvmDerived
import JvmDerived.Pilot.@@N@@Statement
import JvmDerived.Pilot.@@N@@Code
set_option linter.unusedVariables false
set_option linter.unusedSimpArgs false
namespace Jvm.RoadKit
open Sem ClassFile Op Lib Jvm.Stand Jvm.Free Jvm.LawKit
section New
variable {p : Program} {l : Launch} {e : Env} {R : Room} {s : State} {m : MethodId} {args : Array Value} {below : List Frame} {meth : Method} {c : Code} {T : State} {locs : List Loc} {cells slots : Nat}
theorem retI (X : Stand p l e R s m args below meth c T locs cells slots) (hx : p.tables.exec = Jvm.exec) {pc : Nat} {Ls : Array Slot} {z : Int32} {rest : List Value} (hret : meth.sig.returnType = some .int) (hd : decode c.code pc = .ok (.ireturn, 1)) {fs : List Frame}
    (hl : ∀ (f : JFrame) (acts : List Action), f.method = m → f.locked = none → f.entered = [] → (doReturn e (T.setTop f) acts (some (.int z))).1 = T.setFrames fs) : Steps p.tables e below (T.setTop (mkF m pc Ls (.int z :: rest))) (T.setFrames fs) :=
  retOut X hx hret rfl (Or.inl ⟨rfl, Or.inl rfl, z, rfl⟩) hd hl
end New
end Jvm.RoadKit
namespace Jvm.Pilot.@@N@@
open Jvm Jvm.ClassFile Sem Op Lib Jvm.Free Jvm.Stand Jvm.LawKit Jvm.RoadKit Bundle Jvm.Pilot.@@N@@.Jvm.D
section OwnKit
variable {p : Program} {l : Launch} {e : Env} {R : Room} {m : MethodId} {args : Array Value} {below : List Frame} {meth : Method} {c : Code} {M : State → Heap → Prop} {P : State → Prop} {n0 : Nat} {Z : State} {a0 : Array Value} {own name : String} {bytes : ByteArray} {maxL : Nat} {ret : Option FieldType} {L : List (Addr × (Cell → Prop))} {k n pc pc' : Nat} {Ls Ls' : Array Slot} {st : List Value}
/-! what is known of the heap: a list of the own cells, each with what it holds -/
def Hs (h : Heap) (a : Addr) (φ : Cell → Prop) : Prop := ∃ c : Cell, h[a]? = some c ∧ φ c
def Own (n0 : Nat) (h : Heap) (L : List (Addr × (Cell → Prop))) : Prop := n0 ≤ h.size ∧ (∀ (i j : Nat) x y, L[i]? = some x → L[j]? = some y → x.1 = y.1 → i = j) ∧ ∀ (i : Nat) x, L[i]? = some x → n0 ≤ x.1 ∧ Hs h x.1 x.2
theorem Own.nil {h : Heap} (q : n0 ≤ h.size) : Own n0 h [] := ⟨q, fun i j x y hx => by simp at hx, fun i x hx => by simp at hx⟩
theorem Own.lt {h : Heap} (O : Own n0 h L) {i : Nat} {x : Addr × (Cell → Prop)} (hi : L[i]? = some x) : x.1 < h.size := by
  obtain ⟨c, h1, -⟩ := (O.2.2 i x hi).2
  exact (Array.getElem?_eq_some_iff.mp h1).1
theorem Own.ext {h h' : Heap} (O : Own n0 h L) (E : Ext h h') : Own n0 h' L :=
  ⟨Nat.le_trans O.1 E.1, O.2.1, fun i x hx => ⟨(O.2.2 i x hx).1, by obtain ⟨c, h1, h2⟩ := (O.2.2 i x hx).2; exact ⟨c, E.2 _ _ h1, h2⟩⟩⟩
theorem Own.cons {h h' : Heap} {φ : Cell → Prop} (O : Own n0 h L) (E : Ext h h') (F : Hs h' h.size φ) : Own n0 h' ((h.size, φ) :: L) := by
  have O' := O.ext E
  refine ⟨O'.1, fun i j x y hx hy e => ?_, fun i x hx => ?_⟩
  · match i, j with
    | 0, 0 => rfl
    | 0, j + 1 =>
      simp only [List.getElem?_cons_zero, Option.some.injEq] at hx
      simp only [List.getElem?_cons_succ] at hy
      subst hx; exact absurd e (Nat.ne_of_gt (O.lt hy))
    | i + 1, 0 =>
      simp only [List.getElem?_cons_zero, Option.some.injEq] at hy
      simp only [List.getElem?_cons_succ] at hx
      subst hy; exact absurd e (Nat.ne_of_lt (O.lt hx))
    | i + 1, j + 1 =>
      simp only [List.getElem?_cons_succ] at hx hy
      rw [O.2.1 i j x y hx hy e]
  · match i with
    | 0 =>
      simp only [List.getElem?_cons_zero, Option.some.injEq] at hx
      subst hx; exact ⟨O.1, F⟩
    | i + 1 =>
      simp only [List.getElem?_cons_succ] at hx
      exact O'.2.2 i x hx
theorem Own.set {h h' : Heap} {i : Nat} {a : Addr} {φ φ' : Cell → Prop} (O : Own n0 h L) (hi : L[i]? = some (a, φ)) (hs : h.size ≤ h'.size) (ho : ∀ (b : Addr) (c : Cell), b ≠ a → h[b]? = some c → h'[b]? = some c) (F : Hs h' a φ') : Own n0 h' (L.set i (a, φ')) := by
  have key : ∀ j x, (L.set i (a, φ'))[j]? = some x → (j = i ∧ x = (a, φ')) ∨ (j ≠ i ∧ L[j]? = some x) := by
    intro j x hx
    rw [List.getElem?_set] at hx
    by_cases q : i = j
    · rw [if_pos q] at hx
      split at hx
      · exact Or.inl ⟨q.symm, (Option.some.inj hx).symm⟩
      · cases hx
    · rw [if_neg q] at hx; exact Or.inr ⟨fun e => q e.symm, hx⟩
  refine ⟨Nat.le_trans O.1 hs, fun j j' x y hx hy e => ?_, fun j x hx => ?_⟩
  · rcases key j x hx with ⟨rfl, rfl⟩ | ⟨q1, q2⟩ <;> rcases key j' y hy with ⟨rfl, rfl⟩ | ⟨r1, r2⟩
    · rfl
    · exact O.2.1 _ _ _ _ hi r2 e
    · exact O.2.1 _ _ _ _ q2 hi e
    · exact O.2.1 _ _ _ _ q2 r2 e
  · rcases key j x hx with ⟨rfl, rfl⟩ | ⟨q1, q2⟩
    · exact ⟨(O.2.2 _ _ hi).1, F⟩
    · obtain ⟨c, h1, h2⟩ := (O.2.2 _ _ q2).2
      exact ⟨(O.2.2 _ _ q2).1, c, ho _ _ (fun e => q1 (O.2.1 _ _ _ _ q2 hi e)) h1, h2⟩
theorem Own.wr {h h' : Heap} {i sl : Nat} {v : Value} {a : Addr} {φ φ' : Cell → Prop} (O : Own n0 h L) (Wh : Wr h h' a sl v) (hi : L[i]? = some (a, φ)) (hφ : ∀ c : Cell, φ c → sl < c.slots.size → φ' (c.setSlot sl v)) : Own n0 h' (L.set i (a, φ')) := by
  obtain ⟨c, h1, h2⟩ := (O.2.2 _ _ hi).2
  have hsl : sl < c.slots.size := by
    obtain ⟨cell, g1, -, g3, -⟩ := Wh
    cases h1.symm.trans g1; exact g3
  refine O.set hi (Nat.le_of_eq Wh.size.symm) (fun b cb hb hc => ?_) ?_
  · obtain ⟨c', e1, -, -, -, e5, -⟩ := wr_at Wh hc
    rw [e5 hb] at e1; exact e1
  · obtain ⟨c', e1, -, -, -, -, -, e7⟩ := wr_at Wh h1
    exact ⟨c', e1, by rw [(e7 rfl).1]; exact hφ c h2 hsl⟩
theorem Own.re {h : Heap} {L' : List (Addr × (Cell → Prop))} (O : Own n0 h L) (f : Nat → Nat) (hf : ∀ j x, L'[j]? = some x → L[f j]? = some x) (hinj : ∀ i j, i < L'.length → j < L'.length → f i = f j → i = j) : Own n0 h L' :=
  ⟨O.1, fun i j x y hx hy e => hinj i j (List.getElem?_eq_some_iff.mp hx).1 (List.getElem?_eq_some_iff.mp hy).1 (O.2.1 _ _ _ _ (hf i x hx) (hf j y hy) e), fun i x hx => O.2.2 _ _ (hf i x hx)⟩
theorem Own.front {h : Heap} (O : Own n0 h L) (i : Nat) {x : Addr × (Cell → Prop)} (hi : L[i]? = some x) : Own n0 h (x :: L.eraseIdx i) := by
  refine O.re (fun j => match j with | 0 => i | j + 1 => if j < i then j else j + 1) (fun j y hy => ?_) (fun j j' _ _ e => ?_)
  · match j with
    | 0 => simp only [List.getElem?_cons_zero, Option.some.injEq] at hy; subst hy; exact hi
    | j + 1 =>
      simp only [List.getElem?_cons_succ, List.getElem?_eraseIdx] at hy
      dsimp only
      split at hy
      · rename_i q; rw [if_pos q]; exact hy
      · rename_i q; rw [if_neg q]; exact hy
  · match j, j' with
    | 0, 0 => rfl
    | 0, j' + 1 => dsimp only at e; split at e <;> omega
    | j + 1, 0 => dsimp only at e; split at e <;> omega
    | j + 1, j' + 1 => dsimp only at e; split at e <;> split at e <;> omega
theorem Own.imp {h : Heap} {i : Nat} {a : Addr} {φ φ' : Cell → Prop} (O : Own n0 h L) (hi : L[i]? = some (a, φ)) (q : ∀ c, φ c → φ' c) : Own n0 h (L.set i (a, φ')) :=
  O.set hi (Nat.le_refl _) (fun _ _ _ r => r) (by obtain ⟨c, h1, h2⟩ := (O.2.2 _ _ hi).2; exact ⟨c, h1, q c h2⟩)
theorem Own.drop {h : Heap} (O : Own n0 h L) (i : Nat) : Own n0 h (L.eraseIdx i) := by
  refine O.re (fun j => if j < i then j else j + 1) (fun j y hy => ?_) (fun j j' _ _ e => ?_)
  · rw [List.getElem?_eraseIdx] at hy
    split at hy
    · rename_i q; show L[if j < i then j else j + 1]? = _; rw [if_pos q]; exact hy
    · rename_i q; show L[if j < i then j else j + 1]? = _; rw [if_neg q]; exact hy
  · split at e <;> split at e <;> omega
theorem Own.tail {h : Heap} {x : Addr × (Cell → Prop)} (O : Own n0 h (x :: L)) : Own n0 h L :=
  O.re (fun j => j + 1) (fun j y hy => by simpa using hy) (fun i j _ _ e => by omega)
theorem Own.ne {h : Heap} {i j : Nat} {a b : Addr} {φ ψ : Cell → Prop} (O : Own n0 h L) (hi : L[i]? = some (a, φ)) (hj : L[j]? = some (b, ψ)) (q : i ≠ j) : a ≠ b := fun e => q (O.2.1 _ _ _ _ hi hj e)
/-! arrays of ints, bytes, chars ..: n places, the i-th holds f i -/
def upd (f : Nat → Int32) (i : Nat) (v : Int32) : Nat → Int32 := fun j => if j = i then v else f j
theorem upd_hit (f : Nat → Int32) (i : Nat) (v : Int32) : upd f i v i = v := if_pos rfl
theorem upd_miss (f : Nat → Int32) {i j : Nat} (v : Int32) (q : j ≠ i) : upd f i v j = f j := if_neg q
def ExaC (Z : State) (C : String) (cell : Cell) : Prop := ∃ k : Class, Z.vm.findClass C = some cell.cls ∧ Z.vm.classes[cell.cls]? = some k ∧ cell.vm.isStatics = false ∧ (k.kind = .ordinary → cell.slots.size = k.instanceTypes.size)
def ArrC (Z : State) (ty : FieldType) (n : Nat) (f : Nat → Int32) (c : Cell) : Prop := Z.isArrayOf c ty ∧ c.vm ≠ .unknown ∧ c.slots.size = n ∧ (∀ i, i < n → c.slots[i]? = some (.int (f i))) ∧ (∀ i, i < n → fits ty (.int (f i)) = true) ∧ ExaC Z ("[" ++ ty.toString) c
theorem ArrC.congr {ty : FieldType} {f g : Nat → Int32} {c : Cell} (A : ArrC Z ty n f c) (q : ∀ i, i < n → f i = g i) : ArrC Z ty n g c := ⟨A.1, A.2.1, A.2.2.1, fun i hi => by rw [← q i hi]; exact A.2.2.2.1 i hi, fun i hi => by rw [← q i hi]; exact A.2.2.2.2.1 i hi, A.2.2.2.2.2⟩
theorem ArrC.set {ty : FieldType} {f : Nat → Int32} {c : Cell} {i : Nat} {v : Int32} (A : ArrC Z ty n f c) (hi : i < n) (hv : fits ty (.int v) = true) : ArrC Z ty n (upd f i v) (c.setSlot i (.int v)) := by
  obtain ⟨A1, A2, hs, A4, A5, k, x1, x2, x3, x4⟩ := A
  refine ⟨A1, A2, (sz_set c i _).trans hs, fun j hj => ?_, fun j hj => ?_, k, x1, x2, x3, fun q => (sz_set c i _).trans (x4 q)⟩
  · by_cases q : j = i
    · subst q; rw [upd_hit]; simp [Cell.setSlot, hs, hi]
    · rw [upd_miss _ _ q, ← A4 j hj]
      show (c.slots.setIfInBounds i _)[j]? = _
      exact Array.getElem?_setIfInBounds_ne (Ne.symm q)
  · by_cases q : j = i
    · subst q; rw [upd_hit]; exact hv
    · rw [upd_miss _ _ q]; exact A5 j hj
/-! objects: class C; the fields ks (owner, name, descriptor, type) hold vs -/
def FldC (Z : State) (C n d : String) (v : Value) (cell : Cell) : Prop := ∃ (cf : ClassId) (k : Class) (i : Nat) (f : Field), Z.fieldFound? C n d = some (cf, k, i, f) ∧ f.isStatic = false ∧ cell.vm ≠ .unknown ∧ cell.vm.isStatics = false ∧ Z.vm.assignable cell.cls cf = true ∧ cell.slots[f.slot]? = some v
def ObjC (Z : State) (C : String) (ks : List (String × String × String × FieldType)) (vs : List Value) (c : Cell) : Prop := ExaC Z C c ∧ ∀ (i : Nat) kk v, ks[i]? = some kk → vs[i]? = some v → FldC Z kk.1 kk.2.1 kk.2.2.1 v c
theorem fld_of {h : Heap} {a : Addr} {C nm d : String} {v : Value} {c : Cell} (h1 : h[a]? = some c) (F : FldC Z C nm d v c) : Fld Z h a C nm d v := by
  obtain ⟨cf, k, i, f, r⟩ := F; exact ⟨c, cf, k, i, f, h1, r⟩
theorem of_fld {h : Heap} {a : Addr} {C nm d : String} {v : Value} {c : Cell} (h1 : h[a]? = some c) (F : Fld Z h a C nm d v) : FldC Z C nm d v c := by
  obtain ⟨c', cf, k, i, f, h2, r⟩ := F
  cases h1.symm.trans h2; exact ⟨cf, k, i, f, r⟩
theorem exa_of {h : Heap} {a : Addr} {C : String} {c : Cell} (h1 : h[a]? = some c) (F : ExaC Z C c) : Exa Z h a C := by
  obtain ⟨k, r⟩ := F; exact ⟨c, k, h1, r⟩
theorem of_exa {h : Heap} {a : Addr} {C : String} {c : Cell} (h1 : h[a]? = some c) (F : Exa Z h a C) : ExaC Z C c := by
  obtain ⟨c', k, h2, r⟩ := F
  cases h1.symm.trans h2; exact ⟨k, r⟩
def Lays (Z : State) (a0 : Array Value) (C : String) (ks : List (String × String × String × FieldType)) : Prop := (∀ kk ∈ ks, Laid Z a0 C kk.1 kk.2.1 kk.2.2.1 ∧ parseFieldDescriptor kk.2.2.1 = some kk.2.2.2) ∧ (ks.map (fun kk => kk.2.1)).Nodup
theorem Lays.ne {C : String} {ks : List (String × String × String × FieldType)} (H : Lays Z a0 C ks) {i j : Nat} {x y : String × String × String × FieldType} (hx : ks[i]? = some x) (hy : ks[j]? = some y) (q : i ≠ j) : Jvm.RoadKit.slotOf Z x.1 x.2.1 x.2.2.1 ≠ Jvm.RoadKit.slotOf Z y.1 y.2.1 y.2.2.1 := by
  have h1 := H.1 x (List.mem_of_getElem? hx)
  have h2 := H.1 y (List.mem_of_getElem? hy)
  refine slot_ne h1.1 h2.1 (fun e => q ?_) h1.2 h2.2
  have hi : i < (ks.map (fun kk => kk.2.1)).length := by rw [List.length_map]; exact (List.getElem?_eq_some_iff.mp hx).1
  exact (List.getElem?_inj hi H.2).mp (by rw [List.getElem?_map, List.getElem?_map, hx, hy]; exact congrArg some e)
theorem ObjC.set {C : String} {ks : List (String × String × String × FieldType)} {vs : List Value} {c : Cell} {j : Nat} {kk : String × String × String × FieldType} {v : Value} (A : ObjC Z C ks vs c) (H : Lays Z a0 C ks) (hj : ks[j]? = some kk) (hv : j < vs.length) (hsl : Jvm.RoadKit.slotOf Z kk.1 kk.2.1 kk.2.2.1 < c.slots.size) : ObjC Z C ks (vs.set j v) (c.setSlot (Jvm.RoadKit.slotOf Z kk.1 kk.2.1 kk.2.2.1) v) := by
  obtain ⟨⟨k, e1, e2, e3, e4⟩, F⟩ := A
  refine ⟨⟨k, e1, e2, e3, fun q => (sz_set c _ _).trans (e4 q)⟩, fun i kk' w hk hw => ?_⟩
  rw [List.getElem?_set] at hw
  by_cases q : j = i
  · subst q
    rw [if_pos rfl, if_pos hv] at hw
    cases hj.symm.trans hk
    cases hw
    obtain ⟨v0, hv0⟩ : ∃ v0, vs[j]? = some v0 := ⟨_, List.getElem?_eq_getElem hv⟩
    obtain ⟨cf, kc, ii, f, f1, f2, f3, f4, f5, -⟩ := F j kk v0 hj hv0
    have es : Jvm.RoadKit.slotOf Z kk.1 kk.2.1 kk.2.2.1 = f.slot := by simp [Jvm.RoadKit.slotOf, f1]
    rw [es] at hsl ⊢
    exact ⟨cf, kc, ii, f, f1, f2, f3, f4, f5, by simp [Cell.setSlot, hsl]⟩
  · rw [if_neg q] at hw
    obtain ⟨cf, kc, ii, f, f1, f2, f3, f4, f5, f6⟩ := F i kk' w hk hw
    refine ⟨cf, kc, ii, f, f1, f2, f3, f4, f5, ?_⟩
    have es : Jvm.RoadKit.slotOf Z kk'.1 kk'.2.1 kk'.2.2.1 = f.slot := by simp [Jvm.RoadKit.slotOf, f1]
    have hne := H.ne hk hj (Ne.symm q)
    rw [es] at hne
    rw [← f6]
    exact Array.getElem?_setIfInBounds_ne (Ne.symm hne)
/-! a walk: from every state that stands at pc with these locals and this stack, the end P is reached -/
def Wk (p : Program) (l : Launch) (e : Env) (R : Room) (m : MethodId) (args : Array Value) (below : List Frame) (meth : Method) (c : Code) (M : State → Heap → Prop) (P : State → Prop) (n0 : Nat) (L : List (Addr × (Cell → Prop))) (k n pc : Nat) (Ls : Array Slot) (st : List Value) : Prop :=
  ∀ s T locs, Stand p l e R s m args below meth c T locs k n → M s T.heap → Fr n0 locs → Own n0 T.heap L → ∃ t, Steps p.tables e below (T.setTop (mkF m pc Ls st)) t ∧ P t
def Cx (Z : State) (own name : String) (bytes : ByteArray) (maxL : Nat) (ret : Option FieldType) (p : Program) (m : MethodId) (meth : Method) (c : Code) (M : State → Heap → Prop) : Prop :=
  p.tables.exec = Jvm.exec ∧ c.code = bytes ∧ c.maxLocals = maxL ∧ meth.sig.returnType = ret ∧ meth.locks = false ∧ meth.name = name ∧ (∀ s h, M s h → Z.Warmed39 s.vm ∧ s.vm.findClass own = some m.cls) ∧ ∀ (s : State) (h h' : Heap), h.size ≤ h'.size → M s h → M s h'
theorem Wk.via {st' : List Value} (W : Wk p l e R m args below meth c M P n0 L k n pc' Ls' st') (hs : ∀ (s T : State) (locs : List Loc), Stand p l e R s m args below meth c T locs k n → M s T.heap → Own n0 T.heap L → ∀ t, Steps p.tables e below (T.setTop (mkF m pc' Ls' st')) t → Steps p.tables e below (T.setTop (mkF m pc Ls st)) t) : Wk p l e R m args below meth c M P n0 L k n pc Ls st := by
  intro s T locs X hM hF hO
  obtain ⟨t, h1, h2⟩ := W s T locs X hM hF hO
  exact ⟨t, hs s T locs X hM hO t h1, h2⟩
theorem Wk.more {k' n' : Nat} (W : Wk p l e R m args below meth c M P n0 L k' n' pc Ls st) (hk : k ≤ k') (hn : n ≤ n') : Wk p l e R m args below meth c M P n0 L k n pc Ls st :=
  fun s T locs X hM hF hO => W s T locs (X.more hk hn) hM hF hO
theorem Wk.recast {L' : List (Addr × (Cell → Prop))} (W : Wk p l e R m args below meth c M P n0 L' k n pc Ls st) (q : ∀ h, Own n0 h L → Own n0 h L') : Wk p l e R m args below meth c M P n0 L k n pc Ls st :=
  fun s T locs X hM hF hO => W s T locs X hM hF (q _ hO)
theorem Wk.know {B : Prop} (q : ∀ h, Own n0 h L → B) (W : B → Wk p l e R m args below meth c M P n0 L k n pc Ls st) : Wk p l e R m args below meth c M P n0 L k n pc Ls st :=
  fun s T locs X hM hF hO => W (q _ hO) s T locs X hM hF hO
theorem Wk.cast {Ls2 : Array Slot} {st2 : List Value} (W : Wk p l e R m args below meth c M P n0 L k n pc Ls2 st2) (q : Ls = Ls2) (r : st = st2) : Wk p l e R m args below meth c M P n0 L k n pc Ls st := by subst q r; exact W
theorem Wk.iload {i : Nat} {v : Int32} (C : Cx Z own name bytes maxL ret p m meth c M) (hd : decode bytes pc = .ok (.iload i, 2)) (hl : Ls[i]? = some (.val (.int v))) (hp : pc' = pc + 2) (W : Wk p l e R m args below meth c M P n0 L k n pc' Ls (.int v :: st)) : Wk p l e R m args below meth c M P n0 L k n pc Ls (st) := by
  subst hp
  exact W.via fun s T locs X hM hO t h1 => XS.iload X.here C.1 rfl (hb C.2.1 hd) hl h1
theorem Wk.iloadN {i : Fin 4} {v : Int32} (C : Cx Z own name bytes maxL ret p m meth c M) (hd : decode bytes pc = .ok (.iload_n i, 1)) (hl : Ls[i.val]? = some (.val (.int v))) (hp : pc' = pc + 1) (W : Wk p l e R m args below meth c M P n0 L k n pc' Ls (.int v :: st)) : Wk p l e R m args below meth c M P n0 L k n pc Ls (st) := by
  subst hp
  exact W.via fun s T locs X hM hO t h1 => XS.iloadN X.here C.1 rfl (hb C.2.1 hd) hl h1
theorem Wk.lload {i : Nat} {v : Int64} (C : Cx Z own name bytes maxL ret p m meth c M) (hd : decode bytes pc = .ok (.lload i, 2)) (hl : Ls[i]? = some (.val (.long v))) (hp : pc' = pc + 2) (W : Wk p l e R m args below meth c M P n0 L k n pc' Ls (.long v :: st)) : Wk p l e R m args below meth c M P n0 L k n pc Ls (st) := by
  subst hp
  exact W.via fun s T locs X hM hO t h1 => XS.lload X.here C.1 rfl (hb C.2.1 hd) hl h1
theorem Wk.lloadN {i : Fin 4} {v : Int64} (C : Cx Z own name bytes maxL ret p m meth c M) (hd : decode bytes pc = .ok (.lload_n i, 1)) (hl : Ls[i.val]? = some (.val (.long v))) (hp : pc' = pc + 1) (W : Wk p l e R m args below meth c M P n0 L k n pc' Ls (.long v :: st)) : Wk p l e R m args below meth c M P n0 L k n pc Ls (st) := by
  subst hp
  exact W.via fun s T locs X hM hO t h1 => XS.lloadN X.here C.1 rfl (hb C.2.1 hd) hl h1
theorem Wk.aload {i : Nat} {v : Value} (C : Cx Z own name bytes maxL ret p m meth c M) (hd : decode bytes pc = .ok (.aload i, 2)) (hl : Ls[i]? = some (.val v)) (hr : v.isRef = true) (hp : pc' = pc + 2) (W : Wk p l e R m args below meth c M P n0 L k n pc' Ls (v :: st)) : Wk p l e R m args below meth c M P n0 L k n pc Ls (st) := by
  subst hp
  exact W.via fun s T locs X hM hO t h1 => XS.aload X.here C.1 rfl (hb C.2.1 hd) hl hr h1
theorem Wk.aloadN {i : Fin 4} {v : Value} (C : Cx Z own name bytes maxL ret p m meth c M) (hd : decode bytes pc = .ok (.aload_n i, 1)) (hl : Ls[i.val]? = some (.val v)) (hr : v.isRef = true) (hp : pc' = pc + 1) (W : Wk p l e R m args below meth c M P n0 L k n pc' Ls (v :: st)) : Wk p l e R m args below meth c M P n0 L k n pc Ls (st) := by
  subst hp
  exact W.via fun s T locs X hM hO t h1 => XS.aloadN X.here C.1 rfl (hb C.2.1 hd) hl hr h1
theorem Wk.istore {i : Nat} {x : Int32} (C : Cx Z own name bytes maxL ret p m meth c M) (hd : decode bytes pc = .ok (.istore i, 2)) (hl : storeLocals Ls i (.int x) = some Ls') (hp : pc' = pc + 2) (W : Wk p l e R m args below meth c M P n0 L k n pc' Ls' (st)) : Wk p l e R m args below meth c M P n0 L k n pc Ls (.int x :: st) := by
  subst hp
  exact W.via fun s T locs X hM hO t h1 => XS.istore X.here C.1 rfl (hb C.2.1 hd) rfl hl h1
theorem Wk.istoreV {i : Nat} {x : Int32} (F : Int32 → Array Slot) (C : Cx Z own name bytes maxL ret p m meth c M) (hd : decode bytes pc = .ok (.istore i, 2)) (hl : storeLocals Ls i (.int x) = some (F x)) (hp : pc' = pc + 2) (W : ∀ v : Int32, v = x → Wk p l e R m args below meth c M P n0 L k n pc' (F v) (st)) : Wk p l e R m args below meth c M P n0 L k n pc Ls (.int x :: st) := Wk.istore C hd hl hp (W x rfl)
theorem Wk.istoreN {i : Fin 4} {x : Int32} (C : Cx Z own name bytes maxL ret p m meth c M) (hd : decode bytes pc = .ok (.istore_n i, 1)) (hl : storeLocals Ls i.val (.int x) = some Ls') (hp : pc' = pc + 1) (W : Wk p l e R m args below meth c M P n0 L k n pc' Ls' (st)) : Wk p l e R m args below meth c M P n0 L k n pc Ls (.int x :: st) := by
  subst hp
  exact W.via fun s T locs X hM hO t h1 => XS.istoreN X.here C.1 rfl (hb C.2.1 hd) rfl hl h1
theorem Wk.istoreNV {i : Fin 4} {x : Int32} (F : Int32 → Array Slot) (C : Cx Z own name bytes maxL ret p m meth c M) (hd : decode bytes pc = .ok (.istore_n i, 1)) (hl : storeLocals Ls i.val (.int x) = some (F x)) (hp : pc' = pc + 1) (W : ∀ v : Int32, v = x → Wk p l e R m args below meth c M P n0 L k n pc' (F v) (st)) : Wk p l e R m args below meth c M P n0 L k n pc Ls (.int x :: st) := Wk.istoreN C hd hl hp (W x rfl)
theorem Wk.lstore {i : Nat} {x : Int64} (C : Cx Z own name bytes maxL ret p m meth c M) (hd : decode bytes pc = .ok (.lstore i, 2)) (hl : storeLocals Ls i (.long x) = some Ls') (hp : pc' = pc + 2) (W : Wk p l e R m args below meth c M P n0 L k n pc' Ls' (st)) : Wk p l e R m args below meth c M P n0 L k n pc Ls (.long x :: st) := by
  subst hp
  exact W.via fun s T locs X hM hO t h1 => XS.lstore X.here C.1 rfl (hb C.2.1 hd) rfl hl h1
theorem Wk.lstoreV {i : Nat} {x : Int64} (F : Int64 → Array Slot) (C : Cx Z own name bytes maxL ret p m meth c M) (hd : decode bytes pc = .ok (.lstore i, 2)) (hl : storeLocals Ls i (.long x) = some (F x)) (hp : pc' = pc + 2) (W : ∀ v : Int64, v = x → Wk p l e R m args below meth c M P n0 L k n pc' (F v) (st)) : Wk p l e R m args below meth c M P n0 L k n pc Ls (.long x :: st) := Wk.lstore C hd hl hp (W x rfl)
theorem Wk.lstoreN {i : Fin 4} {x : Int64} (C : Cx Z own name bytes maxL ret p m meth c M) (hd : decode bytes pc = .ok (.lstore_n i, 1)) (hl : storeLocals Ls i.val (.long x) = some Ls') (hp : pc' = pc + 1) (W : Wk p l e R m args below meth c M P n0 L k n pc' Ls' (st)) : Wk p l e R m args below meth c M P n0 L k n pc Ls (.long x :: st) := by
  subst hp
  exact W.via fun s T locs X hM hO t h1 => XS.lstoreN X.here C.1 rfl (hb C.2.1 hd) rfl hl h1
theorem Wk.lstoreNV {i : Fin 4} {x : Int64} (F : Int64 → Array Slot) (C : Cx Z own name bytes maxL ret p m meth c M) (hd : decode bytes pc = .ok (.lstore_n i, 1)) (hl : storeLocals Ls i.val (.long x) = some (F x)) (hp : pc' = pc + 1) (W : ∀ v : Int64, v = x → Wk p l e R m args below meth c M P n0 L k n pc' (F v) (st)) : Wk p l e R m args below meth c M P n0 L k n pc Ls (.long x :: st) := Wk.lstoreN C hd hl hp (W x rfl)
theorem Wk.astore {i : Nat} {x : Value} (C : Cx Z own name bytes maxL ret p m meth c M) (hd : decode bytes pc = .ok (.astore i, 2)) (hr : x.isRef = true) (hl : storeLocals Ls i x = some Ls') (hp : pc' = pc + 2) (W : Wk p l e R m args below meth c M P n0 L k n pc' Ls' (st)) : Wk p l e R m args below meth c M P n0 L k n pc Ls (x :: st) := by
  subst hp
  exact W.via fun s T locs X hM hO t h1 => XS.astore X.here C.1 rfl (hb C.2.1 hd) rfl hr hl h1
theorem Wk.astoreN {i : Fin 4} {x : Value} (C : Cx Z own name bytes maxL ret p m meth c M) (hd : decode bytes pc = .ok (.astore_n i, 1)) (hr : x.isRef = true) (hl : storeLocals Ls i.val x = some Ls') (hp : pc' = pc + 1) (W : Wk p l e R m args below meth c M P n0 L k n pc' Ls' (st)) : Wk p l e R m args below meth c M P n0 L k n pc Ls (x :: st) := by
  subst hp
  exact W.via fun s T locs X hM hO t h1 => XS.astoreN X.here C.1 rfl (hb C.2.1 hd) rfl hr hl h1
theorem Wk.iinc {i : Nat} {cst : Int} {x z : Int32} (C : Cx Z own name bytes maxL ret p m meth c M) (hd : decode bytes pc = .ok (.iinc i cst, 3)) (hl : Ls[i]? = some (.val (.int x))) (hz : x + Int32.ofInt cst = z) (hl' : storeLocals Ls i (.int z) = some Ls') (hp : pc' = pc + 3) (W : Wk p l e R m args below meth c M P n0 L k n pc' Ls' (st)) : Wk p l e R m args below meth c M P n0 L k n pc Ls (st) := by
  subst hp
  exact W.via fun s T locs X hM hO t h1 => XS.iinc X.here C.1 rfl (hb C.2.1 hd) hl (by rw [hz]; exact hl') h1
theorem Wk.iconst {i : Int} {z : Int32} (C : Cx Z own name bytes maxL ret p m meth c M) (hd : decode bytes pc = .ok (.iconst i, 1)) (hz : Int32.ofInt i = z) (hp : pc' = pc + 1) (W : Wk p l e R m args below meth c M P n0 L k n pc' Ls (.int z :: st)) : Wk p l e R m args below meth c M P n0 L k n pc Ls (st) := by
  subst hp
  subst hz
  exact W.via fun s T locs X hM hO t h1 => XS.iconst X.here C.1 rfl (hb C.2.1 hd) h1
theorem Wk.bipush {i : Int} {z : Int32} (C : Cx Z own name bytes maxL ret p m meth c M) (hd : decode bytes pc = .ok (.bipush i, 2)) (hz : (Int8.ofInt i).toInt32 = z) (hp : pc' = pc + 2) (W : Wk p l e R m args below meth c M P n0 L k n pc' Ls (.int z :: st)) : Wk p l e R m args below meth c M P n0 L k n pc Ls (st) := by
  subst hp
  subst hz
  exact W.via fun s T locs X hM hO t h1 => XS.bipush X.here C.1 rfl (hb C.2.1 hd) h1
theorem Wk.sipush {i : Int} {z : Int32} (C : Cx Z own name bytes maxL ret p m meth c M) (hd : decode bytes pc = .ok (.sipush i, 3)) (hz : (Int16.ofInt i).toInt32 = z) (hp : pc' = pc + 3) (W : Wk p l e R m args below meth c M P n0 L k n pc' Ls (.int z :: st)) : Wk p l e R m args below meth c M P n0 L k n pc Ls (st) := by
  subst hp
  subst hz
  exact W.via fun s T locs X hM hO t h1 => XS.sipush X.here C.1 rfl (hb C.2.1 hd) h1
theorem Wk.lconst {i : Fin 2} {z : Int64} (C : Cx Z own name bytes maxL ret p m meth c M) (hd : decode bytes pc = .ok (.lconst i, 1)) (hz : Int64.ofNat i = z) (hp : pc' = pc + 1) (W : Wk p l e R m args below meth c M P n0 L k n pc' Ls (.long z :: st)) : Wk p l e R m args below meth c M P n0 L k n pc Ls (st) := by
  subst hp
  subst hz
  exact W.via fun s T locs X hM hO t h1 => XS.lconst X.here C.1 rfl (hb C.2.1 hd) h1
theorem Wk.aconstNull (C : Cx Z own name bytes maxL ret p m meth c M) (hd : decode bytes pc = .ok (.aconst_null, 1)) (hp : pc' = pc + 1) (W : Wk p l e R m args below meth c M P n0 L k n pc' Ls (.null :: st)) : Wk p l e R m args below meth c M P n0 L k n pc Ls (st) := by
  subst hp
  exact W.via fun s T locs X hM hO t h1 => XS.aconstNull X.here C.1 rfl (hb C.2.1 hd) h1
theorem Wk.ldcInt {i : Nat} {z : Int32} (C : Cx Z own name bytes maxL ret p m meth c M) (w : (Cond.constant own i z).before a0 Z = true) (hd : decode bytes pc = .ok (.ldc i, 2)) (hp : pc' = pc + 2) (W : Wk p l e R m args below meth c M P n0 L k n pc' Ls (.int z :: st)) : Wk p l e R m args below meth c M P n0 L k n pc Ls (st) := by
  subst hp
  exact W.via fun s T locs X hM hO t h1 => X.ldcInt C.1 (C.2.2.2.2.2.2.1 _ _ hM).2 (mvT (C.2.2.2.2.2.2.1 _ _ hM).1 w) (g := mkF m pc Ls st) rfl (hb C.2.1 hd) t h1
theorem Wk.ldcwInt {i : Nat} {z : Int32} (C : Cx Z own name bytes maxL ret p m meth c M) (w : (Cond.constant own i z).before a0 Z = true) (hd : decode bytes pc = .ok (.ldc_w i, 3)) (hp : pc' = pc + 3) (W : Wk p l e R m args below meth c M P n0 L k n pc' Ls (.int z :: st)) : Wk p l e R m args below meth c M P n0 L k n pc Ls (st) := by
  subst hp
  exact W.via fun s T locs X hM hO t h1 => X.ldcwInt C.1 (C.2.2.2.2.2.2.1 _ _ hM).2 (mvT (C.2.2.2.2.2.2.1 _ _ hM).1 w) (g := mkF m pc Ls st) rfl (hb C.2.1 hd) t h1
theorem Wk.ldc2Long {i : Nat} {z : Int64} (C : Cx Z own name bytes maxL ret p m meth c M) (w : (Cond.constantLong own i z).before a0 Z = true) (hd : decode bytes pc = .ok (.ldc2_w i, 3)) (hp : pc' = pc + 3) (W : Wk p l e R m args below meth c M P n0 L k n pc' Ls (.long z :: st)) : Wk p l e R m args below meth c M P n0 L k n pc Ls (st) := by
  subst hp
  exact W.via fun s T locs X hM hO t h1 => X.ldc2Long C.1 (C.2.2.2.2.2.2.1 _ _ hM).2 (mvT (C.2.2.2.2.2.2.1 _ _ hM).1 w) (g := mkF m pc Ls st) rfl (hb C.2.1 hd) t h1
theorem Wk.iadd {x y : Int32} (C : Cx Z own name bytes maxL ret p m meth c M) (hd : decode bytes pc = .ok (.iadd, 1)) (hp : pc' = pc + 1) (W : Wk p l e R m args below meth c M P n0 L k n pc' Ls (.int (x + y) :: st)) : Wk p l e R m args below meth c M P n0 L k n pc Ls (.int y :: .int x :: st) := by
  subst hp
  exact W.via fun s T locs X hM hO t h1 => XS.iadd X.here C.1 rfl (hb C.2.1 hd) rfl h1
theorem Wk.isub {x y : Int32} (C : Cx Z own name bytes maxL ret p m meth c M) (hd : decode bytes pc = .ok (.isub, 1)) (hp : pc' = pc + 1) (W : Wk p l e R m args below meth c M P n0 L k n pc' Ls (.int (x - y) :: st)) : Wk p l e R m args below meth c M P n0 L k n pc Ls (.int y :: .int x :: st) := by
  subst hp
  exact W.via fun s T locs X hM hO t h1 => XS.isub X.here C.1 rfl (hb C.2.1 hd) rfl h1
theorem Wk.imul {x y : Int32} (C : Cx Z own name bytes maxL ret p m meth c M) (hd : decode bytes pc = .ok (.imul, 1)) (hp : pc' = pc + 1) (W : Wk p l e R m args below meth c M P n0 L k n pc' Ls (.int (x * y) :: st)) : Wk p l e R m args below meth c M P n0 L k n pc Ls (.int y :: .int x :: st) := by
  subst hp
  exact W.via fun s T locs X hM hO t h1 => XS.imul X.here C.1 rfl (hb C.2.1 hd) rfl h1
theorem Wk.iand {x y : Int32} (C : Cx Z own name bytes maxL ret p m meth c M) (hd : decode bytes pc = .ok (.iand, 1)) (hp : pc' = pc + 1) (W : Wk p l e R m args below meth c M P n0 L k n pc' Ls (.int (x &&& y) :: st)) : Wk p l e R m args below meth c M P n0 L k n pc Ls (.int y :: .int x :: st) := by
  subst hp
  exact W.via fun s T locs X hM hO t h1 => XS.iand X.here C.1 rfl (hb C.2.1 hd) rfl h1
theorem Wk.ior {x y : Int32} (C : Cx Z own name bytes maxL ret p m meth c M) (hd : decode bytes pc = .ok (.ior, 1)) (hp : pc' = pc + 1) (W : Wk p l e R m args below meth c M P n0 L k n pc' Ls (.int (x ||| y) :: st)) : Wk p l e R m args below meth c M P n0 L k n pc Ls (.int y :: .int x :: st) := by
  subst hp
  exact W.via fun s T locs X hM hO t h1 => XS.ior X.here C.1 rfl (hb C.2.1 hd) rfl h1
theorem Wk.ixor {x y : Int32} (C : Cx Z own name bytes maxL ret p m meth c M) (hd : decode bytes pc = .ok (.ixor, 1)) (hp : pc' = pc + 1) (W : Wk p l e R m args below meth c M P n0 L k n pc' Ls (.int (x ^^^ y) :: st)) : Wk p l e R m args below meth c M P n0 L k n pc Ls (.int y :: .int x :: st) := by
  subst hp
  exact W.via fun s T locs X hM hO t h1 => XS.ixor X.here C.1 rfl (hb C.2.1 hd) rfl h1
theorem Wk.ishl {x y : Int32} (C : Cx Z own name bytes maxL ret p m meth c M) (hd : decode bytes pc = .ok (.ishl, 1)) (hp : pc' = pc + 1) (W : Wk p l e R m args below meth c M P n0 L k n pc' Ls (.int (x <<< (y &&& 31)) :: st)) : Wk p l e R m args below meth c M P n0 L k n pc Ls (.int y :: .int x :: st) := by
  subst hp
  exact W.via fun s T locs X hM hO t h1 => XS.ishl X.here C.1 rfl (hb C.2.1 hd) rfl h1
theorem Wk.ishr {x y : Int32} (C : Cx Z own name bytes maxL ret p m meth c M) (hd : decode bytes pc = .ok (.ishr, 1)) (hp : pc' = pc + 1) (W : Wk p l e R m args below meth c M P n0 L k n pc' Ls (.int (x >>> (y &&& 31)) :: st)) : Wk p l e R m args below meth c M P n0 L k n pc Ls (.int y :: .int x :: st) := by
  subst hp
  exact W.via fun s T locs X hM hO t h1 => XS.ishr X.here C.1 rfl (hb C.2.1 hd) rfl h1
theorem Wk.iushr {x y : Int32} (C : Cx Z own name bytes maxL ret p m meth c M) (hd : decode bytes pc = .ok (.iushr, 1)) (hp : pc' = pc + 1) (W : Wk p l e R m args below meth c M P n0 L k n pc' Ls (.int ((x.toUInt32 >>> (y &&& 31).toUInt32).toInt32) :: st)) : Wk p l e R m args below meth c M P n0 L k n pc Ls (.int y :: .int x :: st) := by
  subst hp
  exact W.via fun s T locs X hM hO t h1 => XS.iushr X.here C.1 rfl (hb C.2.1 hd) rfl h1
theorem Wk.irem {x y : Int32} (C : Cx Z own name bytes maxL ret p m meth c M) (hd : decode bytes pc = .ok (.irem, 1)) (hy : y ≠ 0) (hp : pc' = pc + 1) (W : Wk p l e R m args below meth c M P n0 L k n pc' Ls (.int (x % y) :: st)) : Wk p l e R m args below meth c M P n0 L k n pc Ls (.int y :: .int x :: st) := by
  subst hp
  exact W.via fun s T locs X hM hO t h1 => iremM X C.1 rfl (hb C.2.1 hd) rfl hy h1
theorem Wk.idiv {x y : Int32} (C : Cx Z own name bytes maxL ret p m meth c M) (hd : decode bytes pc = .ok (.idiv, 1)) (hy : y ≠ 0) (hp : pc' = pc + 1) (W : Wk p l e R m args below meth c M P n0 L k n pc' Ls (.int (x / y) :: st)) : Wk p l e R m args below meth c M P n0 L k n pc Ls (.int y :: .int x :: st) := by
  subst hp
  exact W.via fun s T locs X hM hO t h1 => XS.idiv X.here C.1 rfl (hb C.2.1 hd) rfl hy h1
theorem Wk.ladd {x y : Int64} (C : Cx Z own name bytes maxL ret p m meth c M) (hd : decode bytes pc = .ok (.ladd, 1)) (hp : pc' = pc + 1) (W : Wk p l e R m args below meth c M P n0 L k n pc' Ls (.long (x + y) :: st)) : Wk p l e R m args below meth c M P n0 L k n pc Ls (.long y :: .long x :: st) := by
  subst hp
  exact W.via fun s T locs X hM hO t h1 => XS.ladd X.here C.1 rfl (hb C.2.1 hd) rfl h1
theorem Wk.lsub {x y : Int64} (C : Cx Z own name bytes maxL ret p m meth c M) (hd : decode bytes pc = .ok (.lsub, 1)) (hp : pc' = pc + 1) (W : Wk p l e R m args below meth c M P n0 L k n pc' Ls (.long (x - y) :: st)) : Wk p l e R m args below meth c M P n0 L k n pc Ls (.long y :: .long x :: st) := by
  subst hp
  exact W.via fun s T locs X hM hO t h1 => XS.lsub X.here C.1 rfl (hb C.2.1 hd) rfl h1
theorem Wk.lmul {x y : Int64} (C : Cx Z own name bytes maxL ret p m meth c M) (hd : decode bytes pc = .ok (.lmul, 1)) (hp : pc' = pc + 1) (W : Wk p l e R m args below meth c M P n0 L k n pc' Ls (.long (x * y) :: st)) : Wk p l e R m args below meth c M P n0 L k n pc Ls (.long y :: .long x :: st) := by
  subst hp
  exact W.via fun s T locs X hM hO t h1 => XS.lmul X.here C.1 rfl (hb C.2.1 hd) rfl h1
theorem Wk.land {x y : Int64} (C : Cx Z own name bytes maxL ret p m meth c M) (hd : decode bytes pc = .ok (.land, 1)) (hp : pc' = pc + 1) (W : Wk p l e R m args below meth c M P n0 L k n pc' Ls (.long (x &&& y) :: st)) : Wk p l e R m args below meth c M P n0 L k n pc Ls (.long y :: .long x :: st) := by
  subst hp
  exact W.via fun s T locs X hM hO t h1 => XS.land X.here C.1 rfl (hb C.2.1 hd) rfl h1
theorem Wk.lor {x y : Int64} (C : Cx Z own name bytes maxL ret p m meth c M) (hd : decode bytes pc = .ok (.lor, 1)) (hp : pc' = pc + 1) (W : Wk p l e R m args below meth c M P n0 L k n pc' Ls (.long (x ||| y) :: st)) : Wk p l e R m args below meth c M P n0 L k n pc Ls (.long y :: .long x :: st) := by
  subst hp
  exact W.via fun s T locs X hM hO t h1 => XS.lor X.here C.1 rfl (hb C.2.1 hd) rfl h1
theorem Wk.lxor {x y : Int64} (C : Cx Z own name bytes maxL ret p m meth c M) (hd : decode bytes pc = .ok (.lxor, 1)) (hp : pc' = pc + 1) (W : Wk p l e R m args below meth c M P n0 L k n pc' Ls (.long (x ^^^ y) :: st)) : Wk p l e R m args below meth c M P n0 L k n pc Ls (.long y :: .long x :: st) := by
  subst hp
  exact W.via fun s T locs X hM hO t h1 => XS.lxor X.here C.1 rfl (hb C.2.1 hd) rfl h1
theorem Wk.lshl {x : Int64} {y : Int32} (C : Cx Z own name bytes maxL ret p m meth c M) (hd : decode bytes pc = .ok (.lshl, 1)) (hp : pc' = pc + 1) (W : Wk p l e R m args below meth c M P n0 L k n pc' Ls (.long (x <<< (y &&& 0x3f).toInt64) :: st)) : Wk p l e R m args below meth c M P n0 L k n pc Ls (.int y :: .long x :: st) := by
  subst hp
  exact W.via fun s T locs X hM hO t h1 => XS.lshl X.here C.1 rfl (hb C.2.1 hd) rfl h1
theorem Wk.lshr {x : Int64} {y : Int32} (C : Cx Z own name bytes maxL ret p m meth c M) (hd : decode bytes pc = .ok (.lshr, 1)) (hp : pc' = pc + 1) (W : Wk p l e R m args below meth c M P n0 L k n pc' Ls (.long (x >>> (y &&& 0x3f).toInt64) :: st)) : Wk p l e R m args below meth c M P n0 L k n pc Ls (.int y :: .long x :: st) := by
  subst hp
  exact W.via fun s T locs X hM hO t h1 => XS.lshr X.here C.1 rfl (hb C.2.1 hd) rfl h1
theorem Wk.lushr {x : Int64} {y : Int32} (C : Cx Z own name bytes maxL ret p m meth c M) (hd : decode bytes pc = .ok (.lushr, 1)) (hp : pc' = pc + 1) (W : Wk p l e R m args below meth c M P n0 L k n pc' Ls (.long ((x.toUInt64 >>> (y &&& 0x3f).toInt64.toUInt64).toInt64) :: st)) : Wk p l e R m args below meth c M P n0 L k n pc Ls (.int y :: .long x :: st) := by
  subst hp
  exact W.via fun s T locs X hM hO t h1 => XS.lushr X.here C.1 rfl (hb C.2.1 hd) rfl h1
theorem Wk.lrem {x y : Int64} (C : Cx Z own name bytes maxL ret p m meth c M) (hd : decode bytes pc = .ok (.lrem, 1)) (hy : y ≠ 0) (hp : pc' = pc + 1) (W : Wk p l e R m args below meth c M P n0 L k n pc' Ls (.long (x % y) :: st)) : Wk p l e R m args below meth c M P n0 L k n pc Ls (.long y :: .long x :: st) := by
  subst hp
  exact W.via fun s T locs X hM hO t h1 => XS.lrem X.here C.1 rfl (hb C.2.1 hd) rfl hy (by rw [lrem_mod]; exact h1)
theorem Wk.i2b {x : Int32} (C : Cx Z own name bytes maxL ret p m meth c M) (hd : decode bytes pc = .ok (.i2b, 1)) (hp : pc' = pc + 1) (W : Wk p l e R m args below meth c M P n0 L k n pc' Ls (.int (x.toInt8.toInt32) :: st)) : Wk p l e R m args below meth c M P n0 L k n pc Ls (.int x :: st) := by
  subst hp
  exact W.via fun s T locs X hM hO t h1 => XS.i2b X.here C.1 rfl (hb C.2.1 hd) rfl h1
theorem Wk.i2c {x : Int32} (C : Cx Z own name bytes maxL ret p m meth c M) (hd : decode bytes pc = .ok (.i2c, 1)) (hp : pc' = pc + 1) (W : Wk p l e R m args below meth c M P n0 L k n pc' Ls (.int (x.toUInt32.toUInt16.toUInt32.toInt32) :: st)) : Wk p l e R m args below meth c M P n0 L k n pc Ls (.int x :: st) := by
  subst hp
  exact W.via fun s T locs X hM hO t h1 => XS.i2c X.here C.1 rfl (hb C.2.1 hd) rfl h1
theorem Wk.i2s {x : Int32} (C : Cx Z own name bytes maxL ret p m meth c M) (hd : decode bytes pc = .ok (.i2s, 1)) (hp : pc' = pc + 1) (W : Wk p l e R m args below meth c M P n0 L k n pc' Ls (.int (x.toInt16.toInt32) :: st)) : Wk p l e R m args below meth c M P n0 L k n pc Ls (.int x :: st) := by
  subst hp
  exact W.via fun s T locs X hM hO t h1 => XS.i2s X.here C.1 rfl (hb C.2.1 hd) rfl h1
theorem Wk.i2l {x : Int32} (C : Cx Z own name bytes maxL ret p m meth c M) (hd : decode bytes pc = .ok (.i2l, 1)) (hp : pc' = pc + 1) (W : Wk p l e R m args below meth c M P n0 L k n pc' Ls (.long (x.toInt64) :: st)) : Wk p l e R m args below meth c M P n0 L k n pc Ls (.int x :: st) := by
  subst hp
  exact W.via fun s T locs X hM hO t h1 => XS.i2l X.here C.1 rfl (hb C.2.1 hd) rfl h1
theorem Wk.l2i {x : Int64} (C : Cx Z own name bytes maxL ret p m meth c M) (hd : decode bytes pc = .ok (.l2i, 1)) (hp : pc' = pc + 1) (W : Wk p l e R m args below meth c M P n0 L k n pc' Ls (.int (x.toInt32) :: st)) : Wk p l e R m args below meth c M P n0 L k n pc Ls (.long x :: st) := by
  subst hp
  exact W.via fun s T locs X hM hO t h1 => XS.l2i X.here C.1 rfl (hb C.2.1 hd) rfl h1
theorem Wk.lneg {x : Int64} (C : Cx Z own name bytes maxL ret p m meth c M) (hd : decode bytes pc = .ok (.lneg, 1)) (hp : pc' = pc + 1) (W : Wk p l e R m args below meth c M P n0 L k n pc' Ls (.long (-x) :: st)) : Wk p l e R m args below meth c M P n0 L k n pc Ls (.long x :: st) := by
  subst hp
  exact W.via fun s T locs X hM hO t h1 => XS.lneg X.here C.1 rfl (hb C.2.1 hd) rfl h1
theorem Wk.ineg {x : Int32} (C : Cx Z own name bytes maxL ret p m meth c M) (hd : decode bytes pc = .ok (.ineg, 1)) (hp : pc' = pc + 1) (W : Wk p l e R m args below meth c M P n0 L k n pc' Ls (.int (-x) :: st)) : Wk p l e R m args below meth c M P n0 L k n pc Ls (.int x :: st) := by
  subst hp
  exact W.via fun s T locs X hM hO t h1 => XS.ineg X.here C.1 rfl (hb C.2.1 hd) rfl h1
theorem Wk.dup {x : Value} (C : Cx Z own name bytes maxL ret p m meth c M) (hd : decode bytes pc = .ok (.dup, 1)) (hc : x.category = 1) (hp : pc' = pc + 1) (W : Wk p l e R m args below meth c M P n0 L k n pc' Ls (x :: x :: st)) : Wk p l e R m args below meth c M P n0 L k n pc Ls (x :: st) := by
  subst hp
  exact W.via fun s T locs X hM hO t h1 => XS.dup X.here C.1 rfl (hb C.2.1 hd) rfl hc h1
theorem Wk.pop {x : Value} (C : Cx Z own name bytes maxL ret p m meth c M) (hd : decode bytes pc = .ok (.pop, 1)) (hc : x.category = 1) (hp : pc' = pc + 1) (W : Wk p l e R m args below meth c M P n0 L k n pc' Ls (st)) : Wk p l e R m args below meth c M P n0 L k n pc Ls (x :: st) := by
  subst hp
  exact W.via fun s T locs X hM hO t h1 => XS.pop X.here C.1 rfl (hb C.2.1 hd) rfl hc h1
theorem Wk.dupX1 {x y : Value} (C : Cx Z own name bytes maxL ret p m meth c M) (hd : decode bytes pc = .ok (.dup_x1, 1)) (hc : x.category = 1) (hc' : y.category = 1) (hp : pc' = pc + 1) (W : Wk p l e R m args below meth c M P n0 L k n pc' Ls (x :: y :: x :: st)) : Wk p l e R m args below meth c M P n0 L k n pc Ls (x :: y :: st) := by
  subst hp
  exact W.via fun s T locs X hM hO t h1 => XS.dupX1 X.here C.1 rfl (hb C.2.1 hd) rfl hc hc' h1
theorem Wk.dup2 {x y : Value} (C : Cx Z own name bytes maxL ret p m meth c M) (hd : decode bytes pc = .ok (.dup2, 1)) (hc : x.category = 1) (hc' : y.category = 1) (hp : pc' = pc + 1) (W : Wk p l e R m args below meth c M P n0 L k n pc' Ls (x :: y :: x :: y :: st)) : Wk p l e R m args below meth c M P n0 L k n pc Ls (x :: y :: st) := by
  subst hp
  exact W.via fun s T locs X hM hO t h1 => Jvm.Free.XT.dup2 X.here C.1 rfl (hb C.2.1 hd) rfl hc hc' h1
theorem Wk.goto {o : Int} (C : Cx Z own name bytes maxL ret p m meth c M) (hd : decode bytes pc = .ok (.goto o, 3)) (ho : 0 ≤ (pc : Int) + o) (hp : ((pc : Int) + o).toNat = pc') (W : Wk p l e R m args below meth c M P n0 L k n pc' Ls (st)) : Wk p l e R m args below meth c M P n0 L k n pc Ls (st) :=
  W.via fun s T locs X hM hO t h1 => XS.goto X.here C.1 rfl (pc0 := pc) rfl (hb C.2.1 hd) ho hp h1
theorem Wk.icmp_lt {x y : Int32} {o : Int} {pcT pcF : Nat} (C : Cx Z own name bytes maxL ret p m meth c M) (hd : decode bytes pc = .ok (.if_icmp .lt o, 3)) (ho : 0 ≤ (pc : Int) + o) (hp : ((pc : Int) + o).toNat = pcT) (hp' : pcF = pc + 3) (hT : x < y → Wk p l e R m args below meth c M P n0 L k n pcT Ls (st)) (hF : ¬ x < y → Wk p l e R m args below meth c M P n0 L k n pcF Ls (st)) : Wk p l e R m args below meth c M P n0 L k n pc Ls (.int y :: .int x :: st) := by
  subst hp'
  by_cases h : x < y
  · exact (hT h).via fun s T locs X hM hO t h1 => XS.icmpYes X.here C.1 rfl (pc0 := pc) rfl (hb C.2.1 hd) rfl (tlt h).1 ho hp h1
  · exact (hF h).via fun s T locs X hM hO t h1 => XS.icmpNo X.here C.1 rfl (hb C.2.1 hd) rfl (flt h).1 h1
theorem Wk.if_lt {x : Int32} {o : Int} {pcT pcF : Nat} (C : Cx Z own name bytes maxL ret p m meth c M) (hd : decode bytes pc = .ok (.ifCond .lt o, 3)) (ho : 0 ≤ (pc : Int) + o) (hp : ((pc : Int) + o).toNat = pcT) (hp' : pcF = pc + 3) (hT : x < 0 → Wk p l e R m args below meth c M P n0 L k n pcT Ls (st)) (hF : ¬ x < 0 → Wk p l e R m args below meth c M P n0 L k n pcF Ls (st)) : Wk p l e R m args below meth c M P n0 L k n pc Ls (.int x :: st) := by
  subst hp'
  by_cases h : x < 0
  · exact (hT h).via fun s T locs X hM hO t h1 => XS.ifYes X.here C.1 rfl (pc0 := pc) rfl (hb C.2.1 hd) rfl ((if0 _ _).trans (tlt h).1) ho hp h1
  · exact (hF h).via fun s T locs X hM hO t h1 => XS.ifNo X.here C.1 rfl (hb C.2.1 hd) rfl ((if0 _ _).trans (flt h).1) h1
theorem Wk.lcmp_lt {x y : Int64} {o : Int} {pc1 pcT pcF : Nat} (C : Cx Z own name bytes maxL ret p m meth c M) (hd0 : decode bytes pc = .ok (.lcmp, 1)) (hp1 : pc1 = pc + 1) (hd : decode bytes pc1 = .ok (.ifCond .lt o, 3)) (ho : 0 ≤ (pc1 : Int) + o) (hp : ((pc1 : Int) + o).toNat = pcT) (hp' : pcF = pc1 + 3) (hT : x < y → Wk p l e R m args below meth c M P n0 L k n pcT Ls (st)) (hF : ¬ x < y → Wk p l e R m args below meth c M P n0 L k n pcF Ls (st)) : Wk p l e R m args below meth c M P n0 L k n pc Ls (.long y :: .long x :: st) := by
  subst hp1
  have W1 : Wk p l e R m args below meth c M P n0 L k n (pc + 1) Ls (.int (lcmpW x y) :: st) := Wk.if_lt C hd ho hp hp' (fun h => hT ((lw_lt x y).mp h)) (fun h => hF (fun q => h ((lw_lt x y).mpr q)))
  exact W1.via fun s T locs X hM hO t h1 => XS.lcmp X.here C.1 rfl (hb C.2.1 hd0) rfl h1
theorem Wk.icmp_ge {x y : Int32} {o : Int} {pcT pcF : Nat} (C : Cx Z own name bytes maxL ret p m meth c M) (hd : decode bytes pc = .ok (.if_icmp .ge o, 3)) (ho : 0 ≤ (pc : Int) + o) (hp : ((pc : Int) + o).toNat = pcT) (hp' : pcF = pc + 3) (hT : ¬ x < y → Wk p l e R m args below meth c M P n0 L k n pcT Ls (st)) (hF : x < y → Wk p l e R m args below meth c M P n0 L k n pcF Ls (st)) : Wk p l e R m args below meth c M P n0 L k n pc Ls (.int y :: .int x :: st) := by
  subst hp'
  by_cases h : x < y
  · exact (hF h).via fun s T locs X hM hO t h1 => XS.icmpNo X.here C.1 rfl (hb C.2.1 hd) rfl (tlt h).2.1 h1
  · exact (hT h).via fun s T locs X hM hO t h1 => XS.icmpYes X.here C.1 rfl (pc0 := pc) rfl (hb C.2.1 hd) rfl (flt h).2.1 ho hp h1
theorem Wk.if_ge {x : Int32} {o : Int} {pcT pcF : Nat} (C : Cx Z own name bytes maxL ret p m meth c M) (hd : decode bytes pc = .ok (.ifCond .ge o, 3)) (ho : 0 ≤ (pc : Int) + o) (hp : ((pc : Int) + o).toNat = pcT) (hp' : pcF = pc + 3) (hT : ¬ x < 0 → Wk p l e R m args below meth c M P n0 L k n pcT Ls (st)) (hF : x < 0 → Wk p l e R m args below meth c M P n0 L k n pcF Ls (st)) : Wk p l e R m args below meth c M P n0 L k n pc Ls (.int x :: st) := by
  subst hp'
  by_cases h : x < 0
  · exact (hF h).via fun s T locs X hM hO t h1 => XS.ifNo X.here C.1 rfl (hb C.2.1 hd) rfl ((if0 _ _).trans (tlt h).2.1) h1
  · exact (hT h).via fun s T locs X hM hO t h1 => XS.ifYes X.here C.1 rfl (pc0 := pc) rfl (hb C.2.1 hd) rfl ((if0 _ _).trans (flt h).2.1) ho hp h1
theorem Wk.lcmp_ge {x y : Int64} {o : Int} {pc1 pcT pcF : Nat} (C : Cx Z own name bytes maxL ret p m meth c M) (hd0 : decode bytes pc = .ok (.lcmp, 1)) (hp1 : pc1 = pc + 1) (hd : decode bytes pc1 = .ok (.ifCond .ge o, 3)) (ho : 0 ≤ (pc1 : Int) + o) (hp : ((pc1 : Int) + o).toNat = pcT) (hp' : pcF = pc1 + 3) (hT : ¬ x < y → Wk p l e R m args below meth c M P n0 L k n pcT Ls (st)) (hF : x < y → Wk p l e R m args below meth c M P n0 L k n pcF Ls (st)) : Wk p l e R m args below meth c M P n0 L k n pc Ls (.long y :: .long x :: st) := by
  subst hp1
  have W1 : Wk p l e R m args below meth c M P n0 L k n (pc + 1) Ls (.int (lcmpW x y) :: st) := Wk.if_ge C hd ho hp hp' (fun h => hT (fun q => h ((lw_lt x y).mpr q))) (fun h => hF ((lw_lt x y).mp h))
  exact W1.via fun s T locs X hM hO t h1 => XS.lcmp X.here C.1 rfl (hb C.2.1 hd0) rfl h1
theorem Wk.icmp_gt {x y : Int32} {o : Int} {pcT pcF : Nat} (C : Cx Z own name bytes maxL ret p m meth c M) (hd : decode bytes pc = .ok (.if_icmp .gt o, 3)) (ho : 0 ≤ (pc : Int) + o) (hp : ((pc : Int) + o).toNat = pcT) (hp' : pcF = pc + 3) (hT : y < x → Wk p l e R m args below meth c M P n0 L k n pcT Ls (st)) (hF : ¬ y < x → Wk p l e R m args below meth c M P n0 L k n pcF Ls (st)) : Wk p l e R m args below meth c M P n0 L k n pc Ls (.int y :: .int x :: st) := by
  subst hp'
  by_cases h : y < x
  · exact (hT h).via fun s T locs X hM hO t h1 => XS.icmpYes X.here C.1 rfl (pc0 := pc) rfl (hb C.2.1 hd) rfl (tlt h).2.2.1 ho hp h1
  · exact (hF h).via fun s T locs X hM hO t h1 => XS.icmpNo X.here C.1 rfl (hb C.2.1 hd) rfl (flt h).2.2.1 h1
theorem Wk.if_gt {x : Int32} {o : Int} {pcT pcF : Nat} (C : Cx Z own name bytes maxL ret p m meth c M) (hd : decode bytes pc = .ok (.ifCond .gt o, 3)) (ho : 0 ≤ (pc : Int) + o) (hp : ((pc : Int) + o).toNat = pcT) (hp' : pcF = pc + 3) (hT : 0 < x → Wk p l e R m args below meth c M P n0 L k n pcT Ls (st)) (hF : ¬ 0 < x → Wk p l e R m args below meth c M P n0 L k n pcF Ls (st)) : Wk p l e R m args below meth c M P n0 L k n pc Ls (.int x :: st) := by
  subst hp'
  by_cases h : 0 < x
  · exact (hT h).via fun s T locs X hM hO t h1 => XS.ifYes X.here C.1 rfl (pc0 := pc) rfl (hb C.2.1 hd) rfl ((if0 _ _).trans (tlt h).2.2.1) ho hp h1
  · exact (hF h).via fun s T locs X hM hO t h1 => XS.ifNo X.here C.1 rfl (hb C.2.1 hd) rfl ((if0 _ _).trans (flt h).2.2.1) h1
theorem Wk.lcmp_gt {x y : Int64} {o : Int} {pc1 pcT pcF : Nat} (C : Cx Z own name bytes maxL ret p m meth c M) (hd0 : decode bytes pc = .ok (.lcmp, 1)) (hp1 : pc1 = pc + 1) (hd : decode bytes pc1 = .ok (.ifCond .gt o, 3)) (ho : 0 ≤ (pc1 : Int) + o) (hp : ((pc1 : Int) + o).toNat = pcT) (hp' : pcF = pc1 + 3) (hT : y < x → Wk p l e R m args below meth c M P n0 L k n pcT Ls (st)) (hF : ¬ y < x → Wk p l e R m args below meth c M P n0 L k n pcF Ls (st)) : Wk p l e R m args below meth c M P n0 L k n pc Ls (.long y :: .long x :: st) := by
  subst hp1
  have W1 : Wk p l e R m args below meth c M P n0 L k n (pc + 1) Ls (.int (lcmpW x y) :: st) := Wk.if_gt C hd ho hp hp' (fun h => hT ((lw_gt x y).mp h)) (fun h => hF (fun q => h ((lw_gt x y).mpr q)))
  exact W1.via fun s T locs X hM hO t h1 => XS.lcmp X.here C.1 rfl (hb C.2.1 hd0) rfl h1
theorem Wk.icmp_le {x y : Int32} {o : Int} {pcT pcF : Nat} (C : Cx Z own name bytes maxL ret p m meth c M) (hd : decode bytes pc = .ok (.if_icmp .le o, 3)) (ho : 0 ≤ (pc : Int) + o) (hp : ((pc : Int) + o).toNat = pcT) (hp' : pcF = pc + 3) (hT : ¬ y < x → Wk p l e R m args below meth c M P n0 L k n pcT Ls (st)) (hF : y < x → Wk p l e R m args below meth c M P n0 L k n pcF Ls (st)) : Wk p l e R m args below meth c M P n0 L k n pc Ls (.int y :: .int x :: st) := by
  subst hp'
  by_cases h : y < x
  · exact (hF h).via fun s T locs X hM hO t h1 => XS.icmpNo X.here C.1 rfl (hb C.2.1 hd) rfl (tlt h).2.2.2 h1
  · exact (hT h).via fun s T locs X hM hO t h1 => XS.icmpYes X.here C.1 rfl (pc0 := pc) rfl (hb C.2.1 hd) rfl (flt h).2.2.2 ho hp h1
theorem Wk.if_le {x : Int32} {o : Int} {pcT pcF : Nat} (C : Cx Z own name bytes maxL ret p m meth c M) (hd : decode bytes pc = .ok (.ifCond .le o, 3)) (ho : 0 ≤ (pc : Int) + o) (hp : ((pc : Int) + o).toNat = pcT) (hp' : pcF = pc + 3) (hT : ¬ 0 < x → Wk p l e R m args below meth c M P n0 L k n pcT Ls (st)) (hF : 0 < x → Wk p l e R m args below meth c M P n0 L k n pcF Ls (st)) : Wk p l e R m args below meth c M P n0 L k n pc Ls (.int x :: st) := by
  subst hp'
  by_cases h : 0 < x
  · exact (hF h).via fun s T locs X hM hO t h1 => XS.ifNo X.here C.1 rfl (hb C.2.1 hd) rfl ((if0 _ _).trans (tlt h).2.2.2) h1
  · exact (hT h).via fun s T locs X hM hO t h1 => XS.ifYes X.here C.1 rfl (pc0 := pc) rfl (hb C.2.1 hd) rfl ((if0 _ _).trans (flt h).2.2.2) ho hp h1
theorem Wk.lcmp_le {x y : Int64} {o : Int} {pc1 pcT pcF : Nat} (C : Cx Z own name bytes maxL ret p m meth c M) (hd0 : decode bytes pc = .ok (.lcmp, 1)) (hp1 : pc1 = pc + 1) (hd : decode bytes pc1 = .ok (.ifCond .le o, 3)) (ho : 0 ≤ (pc1 : Int) + o) (hp : ((pc1 : Int) + o).toNat = pcT) (hp' : pcF = pc1 + 3) (hT : ¬ y < x → Wk p l e R m args below meth c M P n0 L k n pcT Ls (st)) (hF : y < x → Wk p l e R m args below meth c M P n0 L k n pcF Ls (st)) : Wk p l e R m args below meth c M P n0 L k n pc Ls (.long y :: .long x :: st) := by
  subst hp1
  have W1 : Wk p l e R m args below meth c M P n0 L k n (pc + 1) Ls (.int (lcmpW x y) :: st) := Wk.if_le C hd ho hp hp' (fun h => hT (fun q => h ((lw_gt x y).mpr q))) (fun h => hF ((lw_gt x y).mp h))
  exact W1.via fun s T locs X hM hO t h1 => XS.lcmp X.here C.1 rfl (hb C.2.1 hd0) rfl h1
theorem Wk.icmp_eq {x y : Int32} {o : Int} {pcT pcF : Nat} (C : Cx Z own name bytes maxL ret p m meth c M) (hd : decode bytes pc = .ok (.if_icmp .eq o, 3)) (ho : 0 ≤ (pc : Int) + o) (hp : ((pc : Int) + o).toNat = pcT) (hp' : pcF = pc + 3) (hT : x = y → Wk p l e R m args below meth c M P n0 L k n pcT Ls (st)) (hF : ¬ x = y → Wk p l e R m args below meth c M P n0 L k n pcF Ls (st)) : Wk p l e R m args below meth c M P n0 L k n pc Ls (.int y :: .int x :: st) := by
  subst hp'
  by_cases h : x = y
  · exact (hT h).via fun s T locs X hM hO t h1 => XS.icmpYes X.here C.1 rfl (pc0 := pc) rfl (hb C.2.1 hd) rfl (teq h).1 ho hp h1
  · exact (hF h).via fun s T locs X hM hO t h1 => XS.icmpNo X.here C.1 rfl (hb C.2.1 hd) rfl (feq h).1 h1
theorem Wk.if_eq {x : Int32} {o : Int} {pcT pcF : Nat} (C : Cx Z own name bytes maxL ret p m meth c M) (hd : decode bytes pc = .ok (.ifCond .eq o, 3)) (ho : 0 ≤ (pc : Int) + o) (hp : ((pc : Int) + o).toNat = pcT) (hp' : pcF = pc + 3) (hT : x = 0 → Wk p l e R m args below meth c M P n0 L k n pcT Ls (st)) (hF : ¬ x = 0 → Wk p l e R m args below meth c M P n0 L k n pcF Ls (st)) : Wk p l e R m args below meth c M P n0 L k n pc Ls (.int x :: st) := by
  subst hp'
  by_cases h : x = 0
  · exact (hT h).via fun s T locs X hM hO t h1 => XS.ifYes X.here C.1 rfl (pc0 := pc) rfl (hb C.2.1 hd) rfl ((if0 _ _).trans (teq h).1) ho hp h1
  · exact (hF h).via fun s T locs X hM hO t h1 => XS.ifNo X.here C.1 rfl (hb C.2.1 hd) rfl ((if0 _ _).trans (feq h).1) h1
theorem Wk.lcmp_eq {x y : Int64} {o : Int} {pc1 pcT pcF : Nat} (C : Cx Z own name bytes maxL ret p m meth c M) (hd0 : decode bytes pc = .ok (.lcmp, 1)) (hp1 : pc1 = pc + 1) (hd : decode bytes pc1 = .ok (.ifCond .eq o, 3)) (ho : 0 ≤ (pc1 : Int) + o) (hp : ((pc1 : Int) + o).toNat = pcT) (hp' : pcF = pc1 + 3) (hT : x = y → Wk p l e R m args below meth c M P n0 L k n pcT Ls (st)) (hF : ¬ x = y → Wk p l e R m args below meth c M P n0 L k n pcF Ls (st)) : Wk p l e R m args below meth c M P n0 L k n pc Ls (.long y :: .long x :: st) := by
  subst hp1
  have W1 : Wk p l e R m args below meth c M P n0 L k n (pc + 1) Ls (.int (lcmpW x y) :: st) := Wk.if_eq C hd ho hp hp' (fun h => hT ((lw_eq x y).mp h)) (fun h => hF (fun q => h ((lw_eq x y).mpr q)))
  exact W1.via fun s T locs X hM hO t h1 => XS.lcmp X.here C.1 rfl (hb C.2.1 hd0) rfl h1
theorem Wk.icmp_ne {x y : Int32} {o : Int} {pcT pcF : Nat} (C : Cx Z own name bytes maxL ret p m meth c M) (hd : decode bytes pc = .ok (.if_icmp .ne o, 3)) (ho : 0 ≤ (pc : Int) + o) (hp : ((pc : Int) + o).toNat = pcT) (hp' : pcF = pc + 3) (hT : ¬ x = y → Wk p l e R m args below meth c M P n0 L k n pcT Ls (st)) (hF : x = y → Wk p l e R m args below meth c M P n0 L k n pcF Ls (st)) : Wk p l e R m args below meth c M P n0 L k n pc Ls (.int y :: .int x :: st) := by
  subst hp'
  by_cases h : x = y
  · exact (hF h).via fun s T locs X hM hO t h1 => XS.icmpNo X.here C.1 rfl (hb C.2.1 hd) rfl (teq h).2 h1
  · exact (hT h).via fun s T locs X hM hO t h1 => XS.icmpYes X.here C.1 rfl (pc0 := pc) rfl (hb C.2.1 hd) rfl (feq h).2 ho hp h1
theorem Wk.if_ne {x : Int32} {o : Int} {pcT pcF : Nat} (C : Cx Z own name bytes maxL ret p m meth c M) (hd : decode bytes pc = .ok (.ifCond .ne o, 3)) (ho : 0 ≤ (pc : Int) + o) (hp : ((pc : Int) + o).toNat = pcT) (hp' : pcF = pc + 3) (hT : ¬ x = 0 → Wk p l e R m args below meth c M P n0 L k n pcT Ls (st)) (hF : x = 0 → Wk p l e R m args below meth c M P n0 L k n pcF Ls (st)) : Wk p l e R m args below meth c M P n0 L k n pc Ls (.int x :: st) := by
  subst hp'
  by_cases h : x = 0
  · exact (hF h).via fun s T locs X hM hO t h1 => XS.ifNo X.here C.1 rfl (hb C.2.1 hd) rfl ((if0 _ _).trans (teq h).2) h1
  · exact (hT h).via fun s T locs X hM hO t h1 => XS.ifYes X.here C.1 rfl (pc0 := pc) rfl (hb C.2.1 hd) rfl ((if0 _ _).trans (feq h).2) ho hp h1
theorem Wk.lcmp_ne {x y : Int64} {o : Int} {pc1 pcT pcF : Nat} (C : Cx Z own name bytes maxL ret p m meth c M) (hd0 : decode bytes pc = .ok (.lcmp, 1)) (hp1 : pc1 = pc + 1) (hd : decode bytes pc1 = .ok (.ifCond .ne o, 3)) (ho : 0 ≤ (pc1 : Int) + o) (hp : ((pc1 : Int) + o).toNat = pcT) (hp' : pcF = pc1 + 3) (hT : ¬ x = y → Wk p l e R m args below meth c M P n0 L k n pcT Ls (st)) (hF : x = y → Wk p l e R m args below meth c M P n0 L k n pcF Ls (st)) : Wk p l e R m args below meth c M P n0 L k n pc Ls (.long y :: .long x :: st) := by
  subst hp1
  have W1 : Wk p l e R m args below meth c M P n0 L k n (pc + 1) Ls (.int (lcmpW x y) :: st) := Wk.if_ne C hd ho hp hp' (fun h => hT (fun q => h ((lw_eq x y).mpr q))) (fun h => hF ((lw_eq x y).mp h))
  exact W1.via fun s T locs X hM hO t h1 => XS.lcmp X.here C.1 rfl (hb C.2.1 hd0) rfl h1
theorem Wk.ifnullYes {o : Int} (C : Cx Z own name bytes maxL ret p m meth c M) (hd : decode bytes pc = .ok (.ifnull o, 3)) (ho : 0 ≤ (pc : Int) + o) (hp : ((pc : Int) + o).toNat = pc') (W : Wk p l e R m args below meth c M P n0 L k n pc' Ls (st)) : Wk p l e R m args below meth c M P n0 L k n pc Ls (.null :: st) :=
  W.via fun s T locs X hM hO t h1 => XS.ifnullYes X.here C.1 rfl (pc0 := pc) rfl (hb C.2.1 hd) rfl ho hp h1
theorem Wk.ifnullNo {b : Addr} {o : Int} (C : Cx Z own name bytes maxL ret p m meth c M) (hd : decode bytes pc = .ok (.ifnull o, 3)) (hp : pc' = pc + 3) (W : Wk p l e R m args below meth c M P n0 L k n pc' Ls (st)) : Wk p l e R m args below meth c M P n0 L k n pc Ls (.ref b :: st) := by
  subst hp
  exact W.via fun s T locs X hM hO t h1 => XS.ifnullNo X.here C.1 rfl (hb C.2.1 hd) rfl h1
theorem Wk.ifnonnullYes {b : Addr} {o : Int} (C : Cx Z own name bytes maxL ret p m meth c M) (hd : decode bytes pc = .ok (.ifnonnull o, 3)) (ho : 0 ≤ (pc : Int) + o) (hp : ((pc : Int) + o).toNat = pc') (W : Wk p l e R m args below meth c M P n0 L k n pc' Ls (st)) : Wk p l e R m args below meth c M P n0 L k n pc Ls (.ref b :: st) :=
  W.via fun s T locs X hM hO t h1 => XS.ifnonnullYes X.here C.1 rfl (pc0 := pc) rfl (hb C.2.1 hd) rfl ho hp h1
theorem Wk.ifnonnullNo {o : Int} (C : Cx Z own name bytes maxL ret p m meth c M) (hd : decode bytes pc = .ok (.ifnonnull o, 3)) (hp : pc' = pc + 3) (W : Wk p l e R m args below meth c M P n0 L k n pc' Ls (st)) : Wk p l e R m args below meth c M P n0 L k n pc Ls (.null :: st) := by
  subst hp
  exact W.via fun s T locs X hM hO t h1 => XS.ifnonnullNo X.here C.1 rfl (hb C.2.1 hd) rfl h1
theorem Wk.acmp {cd : ACond} {x y : Value} {o : Int} {same : Bool} (C : Cx Z own name bytes maxL ret p m meth c M) (hd : decode bytes pc = .ok (.if_acmp cd o, 3)) (h1 : x.isRef = true) (h2 : y.isRef = true) (hq : decide (x = y) = same) (ho : 0 ≤ (pc : Int) + o) (hp : pc' = if acV cd same = true then ((pc : Int) + o).toNat else pc + 3) (W : Wk p l e R m args below meth c M P n0 L k n pc' Ls (st)) : Wk p l e R m args below meth c M P n0 L k n pc Ls (y :: x :: st) :=
  W.via fun s T locs X hM hO t r => Jvm.RoadKit.acmp (g := mkF m pc Ls (y :: x :: st)) X C.1 rfl h1 h2 (pc0 := pc) rfl (hb C.2.1 hd) rfl hq ho hp r
theorem Wk.join0 {pcj : Nat} (Lj : Array Slot) (sj : List Value) (J : Wk p l e R m args below meth c M P n0 L k n pcj Lj (sj)) (K : Wk p l e R m args below meth c M P n0 L k n pcj Lj (sj) → Wk p l e R m args below meth c M P n0 L k n pc Ls (st)) : Wk p l e R m args below meth c M P n0 L k n pc Ls (st) := K J
theorem Wk.join1 {pcj : Nat} {A0 : Type} (F : A0 → Array Slot) (G : A0 → List Value) (E0 : A0) (J : ∀ v0, v0 = E0 → Wk p l e R m args below meth c M P n0 L k n pcj (F v0) (G v0)) (K : (∀ v0, v0 = E0 → Wk p l e R m args below meth c M P n0 L k n pcj (F v0) (G v0)) → Wk p l e R m args below meth c M P n0 L k n pc Ls (st)) : Wk p l e R m args below meth c M P n0 L k n pc Ls (st) := K J
theorem Wk.join2 {pcj : Nat} {A0 A1 : Type} (F : A0 → A1 → Array Slot) (G : A0 → A1 → List Value) (E0 : A0) (E1 : A1) (J : ∀ v0 v1, v0 = E0 → v1 = E1 → Wk p l e R m args below meth c M P n0 L k n pcj (F v0 v1) (G v0 v1)) (K : (∀ v0 v1, v0 = E0 → v1 = E1 → Wk p l e R m args below meth c M P n0 L k n pcj (F v0 v1) (G v0 v1)) → Wk p l e R m args below meth c M P n0 L k n pc Ls (st)) : Wk p l e R m args below meth c M P n0 L k n pc Ls (st) := K J
theorem Wk.join3 {pcj : Nat} {A0 A1 A2 : Type} (F : A0 → A1 → A2 → Array Slot) (G : A0 → A1 → A2 → List Value) (E0 : A0) (E1 : A1) (E2 : A2) (J : ∀ v0 v1 v2, v0 = E0 → v1 = E1 → v2 = E2 → Wk p l e R m args below meth c M P n0 L k n pcj (F v0 v1 v2) (G v0 v1 v2)) (K : (∀ v0 v1 v2, v0 = E0 → v1 = E1 → v2 = E2 → Wk p l e R m args below meth c M P n0 L k n pcj (F v0 v1 v2) (G v0 v1 v2)) → Wk p l e R m args below meth c M P n0 L k n pc Ls (st)) : Wk p l e R m args below meth c M P n0 L k n pc Ls (st) := K J
theorem Wk.join4 {pcj : Nat} {A0 A1 A2 A3 : Type} (F : A0 → A1 → A2 → A3 → Array Slot) (G : A0 → A1 → A2 → A3 → List Value) (E0 : A0) (E1 : A1) (E2 : A2) (E3 : A3) (J : ∀ v0 v1 v2 v3, v0 = E0 → v1 = E1 → v2 = E2 → v3 = E3 → Wk p l e R m args below meth c M P n0 L k n pcj (F v0 v1 v2 v3) (G v0 v1 v2 v3)) (K : (∀ v0 v1 v2 v3, v0 = E0 → v1 = E1 → v2 = E2 → v3 = E3 → Wk p l e R m args below meth c M P n0 L k n pcj (F v0 v1 v2 v3) (G v0 v1 v2 v3)) → Wk p l e R m args below meth c M P n0 L k n pc Ls (st)) : Wk p l e R m args below meth c M P n0 L k n pc Ls (st) := K J
theorem Wk.ind {A : Type} (μ : A → Nat) (F : A → Array Slot) (H : A → List (Addr × (Cell → Prop))) (I : A → Prop) (step : ∀ a, I a → (∀ b, I b → μ b < μ a → Wk p l e R m args below meth c M P n0 (H b) k n pc (F b) (st)) → Wk p l e R m args below meth c M P n0 (H a) k n pc (F a) (st)) (a : A) (ha : I a) : Wk p l e R m args below meth c M P n0 (H a) k n pc (F a) (st) := by
  have key : ∀ (N : Nat) (a : A), μ a < N → I a → Wk p l e R m args below meth c M P n0 (H a) k n pc (F a) (st) := by
    intro N
    induction N with
    | zero => intro a h; exact absurd h (Nat.not_lt_zero _)
    | succ N ih => intro a h hI; exact step a hI fun b hb hlt => ih b (by omega) hb
  exact key _ a (Nat.lt_succ_self _) ha
theorem idx_of {j : Int32} {i nn : Nat} (hj : j.toInt = (i : Int)) (hi : i < nn) : ¬ (j < 0 ∨ nn ≤ j.toNatClampNeg) ∧ j.toNatClampNeg = i := by
  have e : j.toNatClampNeg = i := by show j.toInt.toNat = i; omega
  refine ⟨fun q => ?_, e⟩
  rcases q with q | q
  · rw [Int32.lt_iff_toInt_lt] at q
    have : (0 : Int32).toInt = 0 := rfl
    omega
  · omega
theorem Wk.iaload {a : Addr} {j : Int32} {q i nn : Nat} {f : Nat → Int32} (C : Cx Z own name bytes maxL ret p m meth c M) (hd : decode bytes pc = .ok (.iaload, 1)) (hL : L[q]? = some (a, ArrC Z .int nn f)) (hj : j.toInt = (i : Int)) (hi : i < nn) (hp : pc' = pc + 1) (W : Wk p l e R m args below meth c M P n0 L k n pc' Ls (.int (f i) :: st)) : Wk p l e R m args below meth c M P n0 L k n pc Ls (.int j :: .ref a :: st) := by
  subst hp
  refine W.via fun s T locs X hM hO t r => ?_
  obtain ⟨cl, g1, g2, g3, g4, g5, -⟩ := (hO.2.2 _ _ hL).2
  obtain ⟨b1, b2⟩ := idx_of hj hi
  rw [← g4] at b1
  exact X.iaload C.1 (j := j) (v := .int (f i)) g1 (State.isArrayOf_alike (C.2.2.2.2.2.2.1 _ _ hM).1.alike g2) g3 b1 (by rw [b2]; exact g5 i hi) (g := mkF m pc Ls (.int j :: .ref a :: st)) rfl rfl (hb C.2.1 hd) t r
theorem Wk.baload {a : Addr} {j : Int32} {q i nn : Nat} {f : Nat → Int32} (C : Cx Z own name bytes maxL ret p m meth c M) (hd : decode bytes pc = .ok (.baload, 1)) (hL : L[q]? = some (a, ArrC Z .byte nn f)) (hj : j.toInt = (i : Int)) (hi : i < nn) (hp : pc' = pc + 1) (W : Wk p l e R m args below meth c M P n0 L k n pc' Ls (.int (f i) :: st)) : Wk p l e R m args below meth c M P n0 L k n pc Ls (.int j :: .ref a :: st) := by
  subst hp
  refine W.via fun s T locs X hM hO t r => ?_
  obtain ⟨cl, g1, g2, g3, g4, g5, -⟩ := (hO.2.2 _ _ hL).2
  obtain ⟨b1, b2⟩ := idx_of hj hi
  rw [← g4] at b1
  exact X.baloadBytes C.1 (j := j) (v := .int (f i)) g1 (State.isArrayOf_alike (C.2.2.2.2.2.2.1 _ _ hM).1.alike g2) g3 b1 (by rw [b2]; exact g5 i hi) (g := mkF m pc Ls (.int j :: .ref a :: st)) rfl rfl (hb C.2.1 hd) t r
theorem Wk.caload {a : Addr} {j : Int32} {q i nn : Nat} {f : Nat → Int32} (C : Cx Z own name bytes maxL ret p m meth c M) (hd : decode bytes pc = .ok (.caload, 1)) (hL : L[q]? = some (a, ArrC Z .char nn f)) (hj : j.toInt = (i : Int)) (hi : i < nn) (hp : pc' = pc + 1) (W : Wk p l e R m args below meth c M P n0 L k n pc' Ls (.int (f i) :: st)) : Wk p l e R m args below meth c M P n0 L k n pc Ls (.int j :: .ref a :: st) := by
  subst hp
  refine W.via fun s T locs X hM hO t r => ?_
  obtain ⟨cl, g1, g2, g3, g4, g5, -⟩ := (hO.2.2 _ _ hL).2
  obtain ⟨b1, b2⟩ := idx_of hj hi
  rw [← g4] at b1
  exact X.caload C.1 (j := j) (v := .int (f i)) g1 (State.isArrayOf_alike (C.2.2.2.2.2.2.1 _ _ hM).1.alike g2) g3 b1 (by rw [b2]; exact g5 i hi) (g := mkF m pc Ls (.int j :: .ref a :: st)) rfl rfl (hb C.2.1 hd) t r
theorem Wk.arraylength {a : Addr} {q nn : Nat} {ty : FieldType} {z : Int32} {φ : Cell → Prop} (C : Cx Z own name bytes maxL ret p m meth c M) (hd : decode bytes pc = .ok (.arraylength, 1)) (hL : L[q]? = some (a, φ)) (hφ : ∀ c, φ c → Z.isArrayOf c ty ∧ c.slots.size = nn) (hz : nn.toInt32 = z) (hp : pc' = pc + 1) (W : Wk p l e R m args below meth c M P n0 L k n pc' Ls (.int z :: st)) : Wk p l e R m args below meth c M P n0 L k n pc Ls (.ref a :: st) := by
  subst hp hz
  refine W.via fun s T locs X hM hO t r => ?_
  obtain ⟨cl, g1, g2⟩ := (hO.2.2 _ _ hL).2
  obtain ⟨g3, g4⟩ := hφ cl g2
  subst g4
  exact X.arraylength C.1 g1 (State.isArrayOf_alike (C.2.2.2.2.2.2.1 _ _ hM).1.alike g3) (g := mkF m pc Ls (.ref a :: st)) rfl rfl (hb C.2.1 hd) t r
theorem Wk.iastore {a : Addr} {j x : Int32} {q i nn : Nat} {f : Nat → Int32} (C : Cx Z own name bytes maxL ret p m meth c M) (hd : decode bytes pc = .ok (.iastore, 1)) (hL : L[q]? = some (a, ArrC Z .int nn f)) (hj : j.toInt = (i : Int)) (hi : i < nn) (hp : pc' = pc + 1) (W : Wk p l e R m args below meth c M P n0 (L.set q (a, ArrC Z .int nn (upd f i (x)))) k n pc' Ls (st)) : Wk p l e R m args below meth c M P n0 L k n pc Ls (.int x :: .int j :: .ref a :: st) := by
  subst hp
  intro s T locs X hM hF hO
  obtain ⟨h0, cl, g1, g2, g3, g4, -⟩ := hO.2.2 _ _ hL
  obtain ⟨b1, b2⟩ := idx_of hj hi
  rw [← g4] at b1
  obtain ⟨T', h', X', e', Wh, stp⟩ := stI X C.1 (C.2.2.2.2.2.2.1 _ _ hM).1 rfl ⟨g1, g2, g3⟩ (j := j) b1 (g := mkF m pc Ls (.int x :: .int j :: .ref a :: st)) rfl rfl (hb C.2.1 hd)
  rw [b2] at Wh
  subst e'
  obtain ⟨t, r1, r2⟩ := W s T' _ X' (C.2.2.2.2.2.2.2 s _ _ (Nat.le_of_eq Wh.size.symm) hM) (Fr.snoc X' hF h0) (hO.wr Wh hL (φ' := ArrC Z .int nn (upd f i (x))) fun c hc _ => hc.set hi rfl)
  exact ⟨t, stp t r1, r2⟩
theorem Wk.bastore {a : Addr} {j x : Int32} {q i nn : Nat} {f : Nat → Int32} (C : Cx Z own name bytes maxL ret p m meth c M) (hd : decode bytes pc = .ok (.bastore, 1)) (hL : L[q]? = some (a, ArrC Z .byte nn f)) (hj : j.toInt = (i : Int)) (hi : i < nn) (hp : pc' = pc + 1) (W : Wk p l e R m args below meth c M P n0 (L.set q (a, ArrC Z .byte nn (upd f i (x.toInt8.toInt32)))) k n pc' Ls (st)) : Wk p l e R m args below meth c M P n0 L k n pc Ls (.int x :: .int j :: .ref a :: st) := by
  subst hp
  intro s T locs X hM hF hO
  obtain ⟨h0, cl, g1, g2, g3, g4, -⟩ := hO.2.2 _ _ hL
  obtain ⟨b1, b2⟩ := idx_of hj hi
  rw [← g4] at b1
  obtain ⟨T', h', X', e', Wh, stp⟩ := stB X C.1 (C.2.2.2.2.2.2.1 _ _ hM).1 rfl ⟨g1, g2, g3⟩ (j := j) b1 (g := mkF m pc Ls (.int x :: .int j :: .ref a :: st)) rfl rfl (hb C.2.1 hd)
  rw [b2] at Wh
  subst e'
  obtain ⟨t, r1, r2⟩ := W s T' _ X' (C.2.2.2.2.2.2.2 s _ _ (Nat.le_of_eq Wh.size.symm) hM) (Fr.snoc X' hF h0) (hO.wr Wh hL (φ' := ArrC Z .byte nn (upd f i (x.toInt8.toInt32))) fun c hc _ => hc.set hi (fits_nar_byte x))
  exact ⟨t, stp t r1, r2⟩
theorem Wk.castore {a : Addr} {j x : Int32} {q i nn : Nat} {f : Nat → Int32} (C : Cx Z own name bytes maxL ret p m meth c M) (hd : decode bytes pc = .ok (.castore, 1)) (hL : L[q]? = some (a, ArrC Z .char nn f)) (hj : j.toInt = (i : Int)) (hi : i < nn) (hp : pc' = pc + 1) (W : Wk p l e R m args below meth c M P n0 (L.set q (a, ArrC Z .char nn (upd f i (nar .char x)))) k n pc' Ls (st)) : Wk p l e R m args below meth c M P n0 L k n pc Ls (.int x :: .int j :: .ref a :: st) := by
  subst hp
  intro s T locs X hM hF hO
  obtain ⟨h0, cl, g1, g2, g3, g4, -⟩ := hO.2.2 _ _ hL
  obtain ⟨b1, b2⟩ := idx_of hj hi
  rw [← g4] at b1
  obtain ⟨T', h', X', e', Wh, stp⟩ := stC X C.1 (C.2.2.2.2.2.2.1 _ _ hM).1 rfl ⟨g1, g2, g3⟩ (j := j) b1 (g := mkF m pc Ls (.int x :: .int j :: .ref a :: st)) rfl rfl (hb C.2.1 hd)
  rw [b2] at Wh
  subst e'
  obtain ⟨t, r1, r2⟩ := W s T' _ X' (C.2.2.2.2.2.2.2 s _ _ (Nat.le_of_eq Wh.size.symm) hM) (Fr.snoc X' hF h0) (hO.wr Wh hL (φ' := ArrC Z .char nn (upd f i (nar .char x))) fun c hc _ => hc.set hi (fits_nar_char x))
  exact ⟨t, stp t r1, r2⟩
theorem Wk.newarray {aty : ArrayType} {z : Int32} {nn cap : Nat} {d : Int32} (C : Cx Z own name bytes maxL ret p m meth c M) (w : (Cond.arrayClass (newarray.typeOf aty)).before a0 Z = true) (hd : decode bytes pc = .ok (.newarray aty, 2)) (hdv : defaultValue (newarray.typeOf aty) = .int d) (hfd : fits (newarray.typeOf aty) (.int d) = true) (hz : z.toInt = (nn : Int)) (hcap : nn ≤ cap) (hb8 : cap * 8 ≤ 536870912) (hk : k + 1 ≤ R.cells) (hn : n + cap ≤ R.slots) (hp : pc' = pc + 2)
    (W : ∀ a : Addr, Wk p l e R m args below meth c M P n0 ((a, ArrC Z (newarray.typeOf aty) nn (fun _ => d)) :: L) (k + 1) (n + cap) pc' Ls (.ref a :: st)) : Wk p l e R m args below meth c M P n0 L k n pc Ls (.int z :: st) := by
  subst hp
  intro s T locs X hM hF hO
  have ez : z.toNatClampNeg = nn := by show z.toInt.toNat = nn; omega
  have nz : ¬ z < 0 := fun q => by
    rw [Int32.lt_iff_toInt_lt] at q
    have : (0 : Int32).toInt = 0 := rfl
    omega
  obtain ⟨T', h', cA, X', e', E, A, Ex, stp⟩ := newPE X C.1 (C.2.2.2.2.2.2.1 _ _ hM).1 w rfl (g := mkF m pc Ls (.int z :: st)) rfl (hb C.2.1 hd) rfl nz (cap := cap) (by rw [ez]; exact hcap) hb8 hk hn (ad := "[" ++ (newarray.typeOf aty).toString) rfl
  subst e'
  obtain ⟨t, r1, r2⟩ := W T.heap.size s T' _ X' (C.2.2.2.2.2.2.2 s _ _ E.1 hM) hF (hO.cons E ⟨_, A.1, A.2.1, A.2.2, (sz_new _ _ _).trans ez, fun i hi => by
    show (Array.replicate z.toNatClampNeg (defaultValue (newarray.typeOf aty)))[i]? = _
    rw [ez, hdv]; simp [hi], fun _ _ => hfd, of_exa A.1 Ex⟩)
  exact ⟨t, stp t r1, r2⟩
def AnyC : Cell → Prop := fun _ => True
theorem Wk.anewarray {C' : String} {index : Nat} {z : Int32} {nn cap : Nat} (C : Cx Z own name bytes maxL ret p m meth c M) (w1 : (Cond.classLink own index C').before a0 Z = true) (w2 : (Cond.arrayOver (.object C')).before a0 Z = true) (hd : decode bytes pc = .ok (.anewarray index, 3)) (hz : z.toInt = (nn : Int)) (hcap : nn ≤ cap) (hb8 : cap * 8 ≤ 536870912) (hk : k + 1 ≤ R.cells) (hn : n + cap ≤ R.slots) (hp : pc' = pc + 3)
    (W : ∀ a : Addr, Wk p l e R m args below meth c M P n0 ((a, AnyC) :: L) (k + 1) (n + cap) pc' Ls (.ref a :: st)) : Wk p l e R m args below meth c M P n0 L k n pc Ls (.int z :: st) := by
  subst hp
  intro s T locs X hM hF hO
  have ez : z.toNatClampNeg = nn := by show z.toInt.toNat = nn; omega
  have nz : ¬ z < 0 := fun q => by
    rw [Int32.lt_iff_toInt_lt] at q
    have : (0 : Int32).toInt = 0 := rfl
    omega
  obtain ⟨T', h', cA, X', e', E, A, -, stp⟩ := newR X C.1 (C.2.2.2.2.2.2.1 _ _ hM).1 (C.2.2.2.2.2.2.1 _ _ hM).2 w1 w2 rfl (g := mkF m pc Ls (.int z :: st)) rfl (hb C.2.1 hd) rfl nz (cap := cap) (by rw [ez]; exact hcap) hb8 hk hn
  subst e'
  obtain ⟨t, r1, r2⟩ := W T.heap.size s T' _ X' (C.2.2.2.2.2.2.2 s _ _ E.1 hM) hF (hO.cons E ⟨_, A.1, trivial⟩)
  exact ⟨t, stp t r1, r2⟩
theorem Wk.new {C' : String} {index nf : Nat} {ks : List (String × String × String × FieldType)} {vs : List Value} (C : Cx Z own name bytes maxL ret p m meth c M) (w : (Cond.classLink own index C').before a0 Z = true) (wi : (Cond.instantiable C' nf).before a0 Z = true) (wz : (Cond.initialized C').before a0 Z = true) (H : Lays Z a0 C' ks) (hd : decode bytes pc = .ok (.new index, 3)) (hv : vs = ks.map (fun kk => defaultValue kk.2.2.2)) (hk : k + 1 ≤ R.cells) (hn : n + nf ≤ R.slots) (hp : pc' = pc + 3)
    (W : ∀ a : Addr, Wk p l e R m args below meth c M P n0 ((a, ObjC Z C' ks vs) :: L) (k + 1) (n + nf) pc' Ls (.ref a :: st)) : Wk p l e R m args below meth c M P n0 L k n pc Ls (st) := by
  subst hp hv
  intro s T locs X hM hF hO
  obtain ⟨T', h', X', e', E, A, D, -, stp⟩ := newO X C.1 (C.2.2.2.2.2.2.1 _ _ hM).1 (C.2.2.2.2.2.2.1 _ _ hM).2 w wi wz rfl (g := mkF m pc Ls st) rfl (hb C.2.1 hd) hk hn
  subst e'
  obtain ⟨cl, kc, g1, -⟩ := id A
  obtain ⟨t, r1, r2⟩ := W T.heap.size s T' _ X' (C.2.2.2.2.2.2.2 s _ _ E.1 hM) hF (hO.cons E ⟨cl, g1, of_exa g1 A, fun i kk v hkk hvv => by
    rw [List.getElem?_map, hkk] at hvv
    cases hvv
    have q := H.1 kk (List.mem_of_getElem? hkk)
    exact of_fld g1 (D q.1 q.2)⟩)
  exact ⟨t, stp t r1, r2⟩
theorem Wk.getfield {C' O nm d host : String} {ty : FieldType} {index i q : Nat} {a : Addr} {ks : List (String × String × String × FieldType)} {vs : List Value} {v : Value} (C : Cx Z own name bytes maxL ret p m meth c M) (w : (Cond.fieldLink own index O nm d).before a0 Z = true ∨ (Cond.fieldLinkNest own index O nm d host).before a0 Z = true) (hd : decode bytes pc = .ok (.getfield index, 3)) (hL : L[q]? = some (a, ObjC Z C' ks vs)) (hk : ks[i]? = some (O, nm, d, ty)) (hv : vs[i]? = some v) (hp : pc' = pc + 3)
    (W : Wk p l e R m args below meth c M P n0 L k n pc' Ls (v :: st)) : Wk p l e R m args below meth c M P n0 L k n pc Ls (.ref a :: st) := by
  subst hp
  intro s T locs X hM hF hO
  obtain ⟨h0, cl, g1, g2, g3⟩ := hO.2.2 _ _ hL
  obtain ⟨T', X', e', stp⟩ := getF X C.1 (C.2.2.2.2.2.2.1 _ _ hM).1 (C.2.2.2.2.2.2.1 _ _ hM).2 w Via.refl rfl (fld_of g1 (g3 i _ v hk hv)) (g := mkF m pc Ls (.ref a :: st)) rfl rfl (hb C.2.1 hd)
  rw [← e'] at hM hO
  obtain ⟨t, r1, r2⟩ := W s T' _ X' hM hF hO
  exact ⟨t, stp t r1, r2⟩
theorem Wk.putfield {C' O nm d host : String} {ty : FieldType} {index i q nf : Nat} {a : Addr} {ks : List (String × String × String × FieldType)} {vs : List Value} {v : Value} (C : Cx Z own name bytes maxL ret p m meth c M) (w : (Cond.fieldLink own index O nm d).before a0 Z = true ∨ (Cond.fieldLinkNest own index O nm d host).before a0 Z = true) (H : Lays Z a0 C' ks) (hlay : (Cond.lays C' O nm d).before a0 Z = true ∨ ((Cond.laysFinal C' O nm d).before a0 Z = true ∧ own = O ∧ name = "<init>")) (wi : (Cond.instantiable C' nf).before a0 Z = true) (hd : decode bytes pc = .ok (.putfield index, 3)) (hL : L[q]? = some (a, ObjC Z C' ks vs)) (hk : ks[i]? = some (O, nm, d, ty)) (hv : i < vs.length) (hnar : narrow ty v = v) (hfit : fits ty v = true) (hp : pc' = pc + 3)
    (W : Wk p l e R m args below meth c M P n0 (L.set q (a, ObjC Z C' ks (vs.set i v))) k n pc' Ls (st)) : Wk p l e R m args below meth c M P n0 L k n pc Ls (v :: .ref a :: st) := by
  subst hp
  intro s T locs X hM hF hO
  obtain ⟨h0, cl, g1, g2, g3⟩ := hO.2.2 _ _ hL
  obtain ⟨v0, hv0⟩ : ∃ v0, vs[i]? = some v0 := ⟨_, List.getElem?_eq_getElem hv⟩
  have hpf : parseFieldDescriptor d = some ty := (H.1 (O, nm, d, ty) (List.mem_of_getElem? hk)).2
  obtain ⟨T', h', X', e', Wh, stp⟩ := putF (own := own) (R0 := O) (O := O) (n := nm) (d := d) (host := host) (C := C') (kk := nf) (v := v) (old := v0) X C.1 (C.2.2.2.2.2.2.1 _ _ hM).1 (C.2.2.2.2.2.2.1 _ _ hM).2 w Via.refl rfl (fld_of g1 (g3 i _ v0 hk hv0)) (exa_of g1 g2) (hlay.imp id fun q => ⟨q.1, q.2.1, C.2.2.2.2.2.1.trans q.2.2⟩) wi (ty := ty) hpf hnar hfit (g := mkF m pc Ls (v :: .ref a :: st)) rfl rfl (hb C.2.1 hd)
  subst e'
  have hset : ∀ c, ObjC Z C' ks vs c → Jvm.RoadKit.slotOf Z O nm d < c.slots.size → ObjC Z C' ks (vs.set i v) (c.setSlot (Jvm.RoadKit.slotOf Z O nm d) v) := fun c hc hsl => ObjC.set (kk := (O, nm, d, ty)) hc H hk hv hsl
  obtain ⟨t, r1, r2⟩ := W s T' _ X' (C.2.2.2.2.2.2.2 s _ _ (Nat.le_of_eq Wh.size.symm) hM) (Fr.snoc X' hF h0) (hO.wr Wh hL hset)
  exact ⟨t, stp t r1, r2⟩
/-! the end: v is returned, Q holds of it and of the heap -/
def Pend (below : List Frame) (FE : Outcome → State → List Loc → Prop) (n0 : Nat) (Q : Option Value → Heap → Prop) (t : State) : Prop := ∃ v L, t.status = .running ∧ Ended t below (.returned v) ∧ Q v t.heap ∧ Fr n0 L ∧ FE (.returned v) t L
def Ok (M : State → Heap → Prop) (FE : Outcome → State → List Loc → Prop) (K N : Nat) : Prop := ∀ (s t : State) (L : List Loc) (k n : Nat) (v : Option Value), M s t.heap → s.WarmedH t.vm → s.sameButNew ({ t with vm := s.vm } : State) L k n → k ≤ K → n ≤ N → FE (.returned v) t L
theorem Wk.retI {z : Int32} {FE : Outcome → State → List Loc → Prop} {Q : Option Value → Heap → Prop} {K N : Nat} (C : Cx Z own name bytes maxL (some .int) p m meth c M) (J : Ok M FE K N) (hd : decode bytes pc = .ok (.ireturn, 1)) (hk : k ≤ K) (hn : n ≤ N) (hq : ∀ h, Own n0 h L → Q (some (.int z)) h) : Wk p l e R m args below meth c M (Pend below FE n0 Q) n0 L k n pc Ls (.int z :: st) := by
  intro s T locs X hM hF hO
  obtain ⟨fs, hr, hrun, hended, hW, hsame⟩ := X.leave (v := some (.int z)) (fun h => by rw [C.2.2.2.1] at h; cases h) C.2.2.2.2.1
  exact ⟨_, Jvm.RoadKit.retI X C.1 C.2.2.2.1 (hb C.2.1 hd) hr, _, locs, hrun, hended, hq _ hO, hF, J s _ locs k n _ hM hW hsame hk hn⟩
theorem Wk.retN {z z' : Int32} {ty : FieldType} {FE : Outcome → State → List Loc → Prop} {Q : Option Value → Heap → Prop} {K N : Nat} (C : Cx Z own name bytes maxL (some ty) p m meth c M) (J : Ok M FE K N) (hd : decode bytes pc = .ok (.ireturn, 1)) (hk : k ≤ K) (hn : n ≤ N) (ht : ty = .boolean ∨ ty = .byte ∨ ty = .char ∨ ty = .short) (hz : nar ty z = z') (hq : ∀ h, Own n0 h L → Q (some (.int z')) h) : Wk p l e R m args below meth c M (Pend below FE n0 Q) n0 L k n pc Ls (.int z :: st) := by
  subst hz
  intro s T locs X hM hF hO
  obtain ⟨fs, hr, hrun, hended, hW, hsame⟩ := X.leave (v := some (.int (nar ty z))) (fun h => by rw [C.2.2.2.1] at h; cases h) C.2.2.2.2.1
  exact ⟨_, Jvm.RoadKit.retN X C.1 C.2.2.2.1 ht (hb C.2.1 hd) hr, _, locs, hrun, hended, hq _ hO, hF, J s _ locs k n _ hM hW hsame hk hn⟩
theorem Wk.retL {z : Int64} {FE : Outcome → State → List Loc → Prop} {Q : Option Value → Heap → Prop} {K N : Nat} (C : Cx Z own name bytes maxL (some .long) p m meth c M) (J : Ok M FE K N) (hd : decode bytes pc = .ok (.lreturn, 1)) (hk : k ≤ K) (hn : n ≤ N) (hq : ∀ h, Own n0 h L → Q (some (.long z)) h) : Wk p l e R m args below meth c M (Pend below FE n0 Q) n0 L k n pc Ls (.long z :: []) := by
  intro s T locs X hM hF hO
  obtain ⟨fs, hr, hrun, hended, hW, hsame⟩ := X.leave (v := some (.long z)) (fun h => by rw [C.2.2.2.1] at h; cases h) C.2.2.2.2.1
  exact ⟨_, X.lreturnOut C.1 C.2.2.2.1 (hb C.2.1 hd) hr, _, locs, hrun, hended, hq _ hO, hF, J s _ locs k n _ hM hW hsame hk hn⟩
theorem Wk.retA {z : Value} {ty : FieldType} {FE : Outcome → State → List Loc → Prop} {Q : Option Value → Heap → Prop} {K N : Nat} (C : Cx Z own name bytes maxL (some ty) p m meth c M) (J : Ok M FE K N) (hd : decode bytes pc = .ok (.areturn, 1)) (hk : k ≤ K) (hn : n ≤ N) (hz : z.isRef = true) (ht : ty.isReference = true) (hq : ∀ h, Own n0 h L → Q (some z) h) : Wk p l e R m args below meth c M (Pend below FE n0 Q) n0 L k n pc Ls (z :: []) := by
  intro s T locs X hM hF hO
  obtain ⟨fs, hr, hrun, hended, hW, hsame⟩ := X.leave (v := some z) (fun h => by rw [C.2.2.2.1] at h; cases h) C.2.2.2.2.1
  exact ⟨_, X.areturnOut C.1 hz C.2.2.2.1 ht (hb C.2.1 hd) hr, _, locs, hrun, hended, hq _ hO, hF, J s _ locs k n _ hM hW hsame hk hn⟩
theorem Wk.retV {FE : Outcome → State → List Loc → Prop} {Q : Option Value → Heap → Prop} {K N : Nat} (C : Cx Z own name bytes maxL none p m meth c M) (J : Ok M FE K N) (hd : decode bytes pc = .ok (.return_, 1)) (hk : k ≤ K) (hn : n ≤ N) (hq : ∀ h, Own n0 h L → Q none h) : Wk p l e R m args below meth c M (Pend below FE n0 Q) n0 L k n pc Ls ([]) := by
  intro s T locs X hM hF hO
  obtain ⟨fs, hr, hrun, hended, hW, hsame⟩ := X.leave (v := none) (fun h => by rfl) C.2.2.2.2.1
  exact ⟨_, X.returnOut C.1 C.2.2.2.1 (hb C.2.1 hd) hr, _, locs, hrun, hended, hq _ hO, hF, J s _ locs k n _ hM hW hsame hk hn⟩
/-- a method's contract: called with as' over the heap h it returns, and Q holds -/
def Meth (l : Launch) (Z : State) (y : MethodName) (bytes : ByteArray) (maxL : Nat) (ret : Option FieldType) (ws : List Jvm.Cond) (rm : Room) (as' : Array Value) (h : Heap) (n0 : Nat) (Q : Option Value → Heap → Prop) : Prop :=
  MetFree l y (head1 (Jvm.Cond.code y bytes maxL ret :: ws) rm) (fun a U => a = as' ∧ Z.Warmed39 U.vm ∧ U.heap = h) (fun _ _ _ _ _ => True) (fun _ U o U' => ∃ v L, o = .returned v ∧ (Q v U'.heap ∧ h.size ≤ U'.heap.size ∧ Fr n0 L) ∧ FrameEnd U o U' L rm.cells rm.slots)
theorem Meth.of {y : MethodName} {ws : List Jvm.Cond} {rm : Room} {as' : Array Value} {h : Heap} {Q : Option Value → Heap → Prop} (hp : plainFor y = true) (hE : ∀ m, entryFrame m as' maxL = mkF m 0 Ls []) (hO : Own n0 h L)
    (body : ∀ (p : Program) (e : Env) (m : MethodId) (below : List Frame) (meth : Method) (c : Code) (M : State → Heap → Prop) (FE : Outcome → State → List Loc → Prop), Cx Z y.cls y.name bytes maxL ret p m meth c M → Ok M FE rm.cells rm.slots → Wk p l e rm m as' below meth c M (Pend below FE n0 Q) n0 L 0 0 0 Ls []) :
    Meth l Z y bytes maxL ret ws rm as' h n0 Q := by
  refine MetFree.of_bodySF hp hisR ?_
  intro p e s m args below meth c s₁ Bd hml0 hP hK
  obtain ⟨rfl, hZ, hh⟩ := hP
  have hnm := (name_of_methodNamed Bd.named Bd.method).1
  have e0 : s₁.heap = h := by rw [← hh, Bd.state]; rfl
  have CC : Cx Z y.cls y.name bytes maxL ret p m meth c (fun s' _ => s' = s) := ⟨Bd.exec, Bd.bytes, hml0, Bd.returns, Bd.notSynchronized, hnm, fun s' _ q => by subst q; exact ⟨hZ, findClass_of_methodNamed Bd.named⟩, fun _ _ _ _ q => q⟩
  have JJ : Ok (fun s' _ => s' = s) (fun o t L => FrameEnd s o t L rm.cells rm.slots) rm.cells rm.slots := fun s' t L k n v q hW hs hk hn => by subst q; exact ⟨⟨_, rfl⟩, hW, hs.mono hk hn⟩
  obtain ⟨t, r1, v, Lo, r2, r3, r4, r5, r6⟩ := body p e m below meth c _ _ CC JJ s s₁ [] (Stand.of_body Bd) rfl (Fr.nil n0) (by rw [e0]; exact hO)
  refine ⟨t, .returned v, castTop (hE m) r1, r2, r3, v, Lo, rfl, ⟨r4, ?_, r5⟩, r6⟩
  rw [← hh]; exact r6.2.2.2.1
theorem Wk.callS {y : MethodName} {bytes' : ByteArray} {maxL' : Nat} {ret' : Option FieldType} {index W0 : Nat} {rm : Room} {Q : Option Value → Heap → Prop} {argsL st0 : List Value} {ps : List FieldType} {rt : Option FieldType} (C : Cx Z own name bytes maxL ret p m meth c M) (w1 : (Jvm.Cond.methodLink own index y).before a0 Z = true) (w2 : (Jvm.Cond.static y).before a0 Z = true) (w3 : (Jvm.Cond.initialized y.cls).before a0 Z = true) (w4 : (Jvm.Cond.code y bytes' maxL' ret').before a0 Z = true) (hy : y.cls ≠ "java/lang/invoke/MethodHandle" ∧ y.cls ≠ "java/lang/invoke/VarHandle")
    (hM : ∀ h, Own n0 h L → Meth l Z y bytes' maxL' ret' [] rm argsL.toArray h n0 Q) (hf : rm.frames + 1 ≤ R.frames) (hl : W0 + (maxL' + 11) + rm.locals ≤ R.locals) (hk : k + rm.cells ≤ R.cells) (hn : n + rm.slots ≤ R.slots) (hd : decode bytes pc = .ok (.invokestatic index, 3)) (hsz : Ls.size = maxL) (hpd : parseMethodDescriptor y.desc = some ⟨ps, rt⟩) (hlen : argsL.length = ps.length) (hst : st0 = argsL.reverse ++ st) (hW : (st.map fun v => v.category).sum = W0) (hp : pc' = pc + 3)
    (W : ∀ v h', Q v h' → ∃ L', Own n0 h' L' ∧ Wk p l e R m args below meth c M P n0 L' (k + rm.cells) (n + rm.slots) pc' Ls (v.toList ++ st)) : Wk p l e R m args below meth c M P n0 L k n pc Ls (st0) := by
  subst hp hst
  intro s T locs X hMs hF hO
  obtain ⟨hZ, hown⟩ := C.2.2.2.2.2.2.1 _ _ hMs
  obtain ⟨_, _, ⟨T1, L1, k1, n1⟩, -, X', ⟨Lc, hQ, l1, y1, z1⟩, stp⟩ := Jvm.LawKit.callS X C.1 (y := y) hown (mvT hZ w1) (mvT hZ w2) (mvT hZ w3) (mvT hZ w4) hy (backOf (W := W0) (Q := fun v h' L => Q v h' ∧ T.heap.size ≤ h'.size ∧ Fr n0 L) (hM _ hO) hZ w4 w3 hf hl) (g := mkF m pc Ls (argsL.reverse ++ st)) rfl (hsz.trans C.2.2.1.symm) (argsL := argsL) (rest := st) (lenOf hpd hlen) rfl (by show 2 * 0 + _ ≤ _; omega) (hb C.2.1 hd) (fun _ _ => ⟨rfl, rfl, hk, hn⟩)
  dsimp only [Pt.U, Pt.locs, Pt.cells, Pt.slots] at X' l1 y1 z1 stp hQ
  subst l1 y1 z1
  obtain ⟨hQ1, hQ2, hQ3⟩ := hQ
  obtain ⟨L', O', W'⟩ := W _ _ hQ1
  obtain ⟨t, r1, r2⟩ := W' s T1 _ X' (C.2.2.2.2.2.2.2 s _ _ hQ2 hMs) (Fr.app hF hQ3) O'
  exact ⟨t, stp t r1, r2⟩
theorem Wk.callI {y : MethodName} {bytes' : ByteArray} {maxL' : Nat} {ret' : Option FieldType} {index W0 : Nat} {rm : Room} {Q : Option Value → Heap → Prop} {a : Addr} {argsL st0 : List Value} {ps : List FieldType} {rt : Option FieldType} (C : Cx Z own name bytes maxL ret p m meth c M) (hret' : ret' = none) (hy1 : y.name = "<init>") (w1 : (Jvm.Cond.methodLink own index y).before a0 Z = true) (w2 : (Jvm.Cond.instanceMethod y).before a0 Z = true) (w3 : (Jvm.Cond.initialized y.cls).before a0 Z = true) (w4 : (Jvm.Cond.code y bytes' maxL' ret').before a0 Z = true) (hy : y.cls ≠ "java/lang/invoke/MethodHandle" ∧ y.cls ≠ "java/lang/invoke/VarHandle")
    (hM : ∀ h, Own n0 h L → Meth l Z y bytes' maxL' ret' [] rm (.ref a :: argsL).toArray h n0 Q) (hf : rm.frames + 1 ≤ R.frames) (hl : W0 + (maxL' + 11) + rm.locals ≤ R.locals) (hk : k + rm.cells ≤ R.cells) (hn : n + rm.slots ≤ R.slots) (hd : decode bytes pc = .ok (.invokespecial index, 3)) (hsz : Ls.size = maxL) (hpd : parseMethodDescriptor y.desc = some ⟨ps, rt⟩) (hlen : argsL.length = ps.length) (hst : st0 = argsL.reverse ++ .ref a :: st) (hW : (st.map fun v => v.category).sum = W0) (hp : pc' = pc + 3)
    (W : ∀ v h', Q v h' → ∃ L', Own n0 h' L' ∧ Wk p l e R m args below meth c M P n0 L' (k + rm.cells) (n + rm.slots) pc' Ls (v.toList ++ st)) : Wk p l e R m args below meth c M P n0 L k n pc Ls (st0) := by
  subst hp hst
  intro s T locs X hMs hF hO
  subst hret'
  obtain ⟨hZ, hown⟩ := C.2.2.2.2.2.2.1 _ _ hMs
  obtain ⟨_, _, ⟨T1, L1, k1, n1⟩, -, X', ⟨Lc, hQ, l1, y1, z1⟩, stp⟩ := X.specialBack C.1 (y := y) hy1 hown (mvT hZ w1) (mvT hZ w2) (mvT hZ w4) hy (backOf (W := W0) (Q := fun v h' L => Q v h' ∧ T.heap.size ≤ h'.size ∧ Fr n0 L) (hM _ hO) hZ w4 w3 hf hl) (g := mkF m pc Ls (argsL.reverse ++ .ref a :: st)) rfl (hsz.trans C.2.2.1.symm) (Steps.refl _) (a := a) (argsL := argsL) (rest := st) (lenOf hpd hlen) rfl (by show 2 * 0 + _ ≤ _; omega) (hb C.2.1 hd) (fun _ _ => ⟨rfl, rfl, hk, hn⟩)
  dsimp only [Pt.U, Pt.locs, Pt.cells, Pt.slots] at X' l1 y1 z1 stp hQ
  subst l1 y1 z1
  obtain ⟨hQ1, hQ2, hQ3⟩ := hQ
  obtain ⟨L', O', W'⟩ := W _ _ hQ1
  obtain ⟨t, r1, r2⟩ := W' s T1 _ X' (C.2.2.2.2.2.2.2 s _ _ hQ2 hMs) (Fr.app hF hQ3) O'
  exact ⟨t, stp.trans r1, r2⟩
theorem Wk.callV {y : MethodName} {C' : String} {bytes' : ByteArray} {maxL' : Nat} {ret' : Option FieldType} {index W0 q : Nat} {rm : Room} {Q : Option Value → Heap → Prop} {a : Addr} {ks : List (String × String × String × FieldType)} {vs : List Value} {argsL st0 : List Value} {ps : List FieldType} {rt : Option FieldType} (C : Cx Z own name bytes maxL ret p m meth c M) (hL : L[q]? = some (a, ObjC Z C' ks vs)) (w1 : (Jvm.Cond.methodLink own index y).before a0 Z = true) (w5 : (Jvm.Cond.declares y).before a0 Z = true) (w6 : (Jvm.Cond.selects C' y y).before a0 Z = true) (w2 : (Jvm.Cond.instanceMethod y).before a0 Z = true) (w3 : (Jvm.Cond.initialized y.cls).before a0 Z = true) (w4 : (Jvm.Cond.code y bytes' maxL' ret').before a0 Z = true) (hy : y.cls ≠ "java/lang/invoke/MethodHandle" ∧ y.cls ≠ "java/lang/invoke/VarHandle")
    (hM : ∀ h, Own n0 h L → Meth l Z y bytes' maxL' ret' [] rm (.ref a :: argsL).toArray h n0 Q) (hf : rm.frames + 1 ≤ R.frames) (hl : W0 + (maxL' + 11) + rm.locals ≤ R.locals) (hk : k + rm.cells ≤ R.cells) (hn : n + rm.slots ≤ R.slots) (hd : decode bytes pc = .ok (.invokevirtual index, 3)) (hsz : Ls.size = maxL) (hpd : parseMethodDescriptor y.desc = some ⟨ps, rt⟩) (hlen : argsL.length = ps.length) (hst : st0 = argsL.reverse ++ .ref a :: st) (hW : (st.map fun v => v.category).sum = W0) (hp : pc' = pc + 3)
    (W : ∀ v h', Q v h' → ∃ L', Own n0 h' L' ∧ Wk p l e R m args below meth c M P n0 L' (k + rm.cells) (n + rm.slots) pc' Ls (v.toList ++ st)) : Wk p l e R m args below meth c M P n0 L k n pc Ls (st0) := by
  subst hp hst
  intro s T locs X hMs hF hO
  obtain ⟨hZ, hown⟩ := C.2.2.2.2.2.2.1 _ _ hMs
  obtain ⟨h0, cl, g1, g2, g3⟩ := hO.2.2 _ _ hL
  obtain ⟨cq, kq, qa, qb, qc⟩ := isOf hZ rfl (exa_of g1 g2)
  obtain ⟨_, _, ⟨T1, L1, k1, n1⟩, -, X', ⟨Lc, hQ, l1, y1, z1⟩, stp⟩ := X.virtualBack C.1 (y := y) (z := y) hown (mvT hZ w1) (mvT hZ w5) (notFace_of_selects (args := #[]) (mvT hZ w6)) (mvT hZ w6) (mvT hZ w2) hy (backOf (W := W0) (Q := fun v h' L => Q v h' ∧ T.heap.size ≤ h'.size ∧ Fr n0 L) (hM _ hO) hZ w4 w3 hf hl) qa qc (g := mkF m pc Ls (argsL.reverse ++ .ref a :: st)) rfl (hsz.trans C.2.2.1.symm) (Steps.refl _) (argsL := argsL) (rest := st) (lenOf hpd hlen) rfl (by show 2 * 0 + _ ≤ _; omega) (hb C.2.1 hd) (fun _ _ => ⟨rfl, rfl, hk, hn⟩)
  dsimp only [Pt.U, Pt.locs, Pt.cells, Pt.slots] at X' l1 y1 z1 stp hQ
  subst l1 y1 z1
  obtain ⟨hQ1, hQ2, hQ3⟩ := hQ
  obtain ⟨L', O', W'⟩ := W _ _ hQ1
  obtain ⟨t, r1, r2⟩ := W' s T1 _ X' (C.2.2.2.2.2.2.2 s _ _ hQ2 hMs) (Fr.app hF hQ3) O'
  exact ⟨t, stp.trans r1, r2⟩
end OwnKit
abbrev HW (Z : State) (a0 : Array Value) : Prop := ∀ d ∈ tables_1, d.before a0 Z = true
theorem w0 {Z : State} {a0 : Array Value} (hw : HW Z a0) : (Jvm.Cond.constant "com/example/frugal_match/frugalmatch/matcher/SkipFlagPinLaw" (8 : Nat) (65535 : Int32)).before a0 Z = true := hw _ (List.mem_of_getElem? (i := 0) rfl)
theorem w1 {Z : State} {a0 : Array Value} (hw : HW Z a0) : (Jvm.Cond.constant "com/example/frugal_match/frugalmatch/matcher/SkipFlagPinLaw" (9 : Nat) (2147483647 : Int32)).before a0 Z = true := hw _ (List.mem_of_getElem? (i := 1) rfl)
theorem w2 {Z : State} {a0 : Array Value} (hw : HW Z a0) : (Jvm.Cond.arrayClass Jvm.ClassFile.FieldType.char).before a0 Z = true := hw _ (List.mem_of_getElem? (i := 2) rfl)
theorem w3 {Z : State} {a0 : Array Value} (hw : HW Z a0) : (Jvm.Cond.methodLink "com/example/frugal_match/frugalmatch/matcher/SkipFlagPinLaw" (10 : Nat) ({ cls := "com/example/frugal_match/frugalmatch/matcher/SkipFlagPinLaw", name := "lane", desc := "(IIII)C" } : Jvm.MethodName)).before a0 Z = true := hw _ (List.mem_of_getElem? (i := 3) rfl)
theorem w4 {Z : State} {a0 : Array Value} (hw : HW Z a0) : (Jvm.Cond.static ({ cls := "com/example/frugal_match/frugalmatch/matcher/SkipFlagPinLaw", name := "lane", desc := "(IIII)C" } : Jvm.MethodName)).before a0 Z = true := hw _ (List.mem_of_getElem? (i := 4) rfl)
theorem w5 {Z : State} {a0 : Array Value} (hw : HW Z a0) : (Jvm.Cond.initialized "com/example/frugal_match/frugalmatch/matcher/SkipFlagPinLaw").before a0 Z = true := hw _ (List.mem_of_getElem? (i := 5) rfl)
theorem w6 {Z : State} {a0 : Array Value} (hw : HW Z a0) : (Jvm.Cond.code ({ cls := "com/example/frugal_match/frugalmatch/matcher/SkipFlagPinLaw", name := "lane", desc := "(IIII)C" } : Jvm.MethodName) method_2_code (4 : Nat) (Option.some Jvm.ClassFile.FieldType.char)).before a0 Z = true := hw _ (List.mem_of_getElem? (i := 6) rfl)
theorem w7 {Z : State} {a0 : Array Value} (hw : HW Z a0) : (Jvm.Cond.methodLink "com/example/frugal_match/frugalmatch/matcher/SkipFlagPinLaw" (16 : Nat) ({ cls := "com/example/frugal_match/frugalmatch/matcher/Skip", name := "flag", desc := "([C[C[CIIII[C)V" } : Jvm.MethodName)).before a0 Z = true := hw _ (List.mem_of_getElem? (i := 7) rfl)
theorem w8 {Z : State} {a0 : Array Value} (hw : HW Z a0) : (Jvm.Cond.static ({ cls := "com/example/frugal_match/frugalmatch/matcher/Skip", name := "flag", desc := "([C[C[CIIII[C)V" } : Jvm.MethodName)).before a0 Z = true := hw _ (List.mem_of_getElem? (i := 8) rfl)
theorem w9 {Z : State} {a0 : Array Value} (hw : HW Z a0) : (Jvm.Cond.initialized "com/example/frugal_match/frugalmatch/matcher/Skip").before a0 Z = true := hw _ (List.mem_of_getElem? (i := 9) rfl)
theorem w10 {Z : State} {a0 : Array Value} (hw : HW Z a0) : (Jvm.Cond.code ({ cls := "com/example/frugal_match/frugalmatch/matcher/Skip", name := "flag", desc := "([C[C[CIIII[C)V" } : Jvm.MethodName) prog_47_method_6_code (10 : Nat) (Option.none : Option Jvm.ClassFile.FieldType)).before a0 Z = true := hw _ (List.mem_of_getElem? (i := 10) rfl)
theorem w11 {Z : State} {a0 : Array Value} (hw : HW Z a0) : (Jvm.Cond.constant "com/example/frugal_match/frugalmatch/matcher/Skip" (29 : Nat) (32768 : Int32)).before a0 Z = true := hw _ (List.mem_of_getElem? (i := 11) rfl)
theorem w12 {Z : State} {a0 : Array Value} (hw : HW Z a0) : (Jvm.Cond.methodLink "com/example/frugal_match/frugalmatch/matcher/SkipFlagPinLaw" (22 : Nat) ({ cls := "com/example/frugal_match/frugalmatch/matcher/SkipFlagPinLaw", name := "one", desc := "([C[C[C[CIIIII)Z" } : Jvm.MethodName)).before a0 Z = true := hw _ (List.mem_of_getElem? (i := 12) rfl)
theorem w13 {Z : State} {a0 : Array Value} (hw : HW Z a0) : (Jvm.Cond.static ({ cls := "com/example/frugal_match/frugalmatch/matcher/SkipFlagPinLaw", name := "one", desc := "([C[C[C[CIIIII)Z" } : Jvm.MethodName)).before a0 Z = true := hw _ (List.mem_of_getElem? (i := 13) rfl)
theorem w14 {Z : State} {a0 : Array Value} (hw : HW Z a0) : (Jvm.Cond.code ({ cls := "com/example/frugal_match/frugalmatch/matcher/SkipFlagPinLaw", name := "one", desc := "([C[C[C[CIIIII)Z" } : Jvm.MethodName) method_3_code (10 : Nat) (Option.some Jvm.ClassFile.FieldType.boolean)).before a0 Z = true := hw _ (List.mem_of_getElem? (i := 14) rfl)
theorem w15 {Z : State} {a0 : Array Value} (hw : HW Z a0) : (Jvm.Cond.constant "com/example/frugal_match/frugalmatch/matcher/SkipFlagPinLaw" (7 : Nat) (32768 : Int32)).before a0 Z = true := hw _ (List.mem_of_getElem? (i := 15) rfl)
theorem d1_0 : decode method_2_code 0 = .ok (.iload_n 1, 1) := by decide +kernel
theorem d1_1 : decode method_2_code 1 = .ok (.iload_n 3, 1) := by decide +kernel
theorem d1_2 : decode method_2_code 2 = .ok (.iushr, 1) := by decide +kernel
theorem d1_3 : decode method_2_code 3 = .ok (.iconst 1, 1) := by decide +kernel
theorem d1_4 : decode method_2_code 4 = .ok (.iand, 1) := by decide +kernel
theorem d1_5 : decode method_2_code 5 = .ok (.ifCond .eq 6, 3) := by decide +kernel
theorem d1_8 : decode method_2_code 8 = .ok (.iload_n 0, 1) := by decide +kernel
theorem d1_9 : decode method_2_code 9 = .ok (.i2c, 1) := by decide +kernel
theorem d1_10 : decode method_2_code 10 = .ok (.ireturn, 1) := by decide +kernel
theorem d1_11 : decode method_2_code 11 = .ok (.iload_n 0, 1) := by decide +kernel
theorem d1_12 : decode method_2_code 12 = .ok (.iload_n 2, 1) := by decide +kernel
theorem d1_13 : decode method_2_code 13 = .ok (.iload_n 3, 1) := by decide +kernel
theorem d1_14 : decode method_2_code 14 = .ok (.iushr, 1) := by decide +kernel
theorem d1_15 : decode method_2_code 15 = .ok (.ixor, 1) := by decide +kernel
theorem d1_16 : decode method_2_code 16 = .ok (.i2c, 1) := by decide +kernel
theorem d1_17 : decode method_2_code 17 = .ok (.ireturn, 1) := by decide +kernel
theorem d2_0 : decode prog_47_method_6_code 0 = .ok (.iconst 0, 1) := by decide +kernel
theorem d2_1 : decode prog_47_method_6_code 1 = .ok (.istore 8, 2) := by decide +kernel
theorem d2_3 : decode prog_47_method_6_code 3 = .ok (.iload 8, 2) := by decide +kernel
theorem d2_5 : decode prog_47_method_6_code 5 = .ok (.iload_n 3, 1) := by decide +kernel
theorem d2_6 : decode prog_47_method_6_code 6 = .ok (.if_icmp .ge 52, 3) := by decide +kernel
theorem d2_9 : decode prog_47_method_6_code 9 = .ok (.aload_n 0, 1) := by decide +kernel
theorem d2_10 : decode prog_47_method_6_code 10 = .ok (.iload 8, 2) := by decide +kernel
theorem d2_12 : decode prog_47_method_6_code 12 = .ok (.caload, 1) := by decide +kernel
theorem d2_13 : decode prog_47_method_6_code 13 = .ok (.iload 4, 2) := by decide +kernel
theorem d2_15 : decode prog_47_method_6_code 15 = .ok (.ixor, 1) := by decide +kernel
theorem d2_16 : decode prog_47_method_6_code 16 = .ok (.aload_n 1, 1) := by decide +kernel
theorem d2_17 : decode prog_47_method_6_code 17 = .ok (.iload 8, 2) := by decide +kernel
theorem d2_19 : decode prog_47_method_6_code 19 = .ok (.caload, 1) := by decide +kernel
theorem d2_20 : decode prog_47_method_6_code 20 = .ok (.iload 5, 2) := by decide +kernel
theorem d2_22 : decode prog_47_method_6_code 22 = .ok (.ixor, 1) := by decide +kernel
theorem d2_23 : decode prog_47_method_6_code 23 = .ok (.ior, 1) := by decide +kernel
theorem d2_24 : decode prog_47_method_6_code 24 = .ok (.aload_n 2, 1) := by decide +kernel
theorem d2_25 : decode prog_47_method_6_code 25 = .ok (.iload 8, 2) := by decide +kernel
theorem d2_27 : decode prog_47_method_6_code 27 = .ok (.caload, 1) := by decide +kernel
theorem d2_28 : decode prog_47_method_6_code 28 = .ok (.iload 6, 2) := by decide +kernel
theorem d2_30 : decode prog_47_method_6_code 30 = .ok (.ixor, 1) := by decide +kernel
theorem d2_31 : decode prog_47_method_6_code 31 = .ok (.ior, 1) := by decide +kernel
theorem d2_32 : decode prog_47_method_6_code 32 = .ok (.istore 9, 2) := by decide +kernel
theorem d2_34 : decode prog_47_method_6_code 34 = .ok (.aload 7, 2) := by decide +kernel
theorem d2_36 : decode prog_47_method_6_code 36 = .ok (.iload 8, 2) := by decide +kernel
theorem d2_38 : decode prog_47_method_6_code 38 = .ok (.iload 9, 2) := by decide +kernel
theorem d2_40 : decode prog_47_method_6_code 40 = .ok (.iconst 1, 1) := by decide +kernel
theorem d2_41 : decode prog_47_method_6_code 41 = .ok (.isub, 1) := by decide +kernel
theorem d2_42 : decode prog_47_method_6_code 42 = .ok (.iload 9, 2) := by decide +kernel
theorem d2_44 : decode prog_47_method_6_code 44 = .ok (.iconst (-1), 1) := by decide +kernel
theorem d2_45 : decode prog_47_method_6_code 45 = .ok (.ixor, 1) := by decide +kernel
theorem d2_46 : decode prog_47_method_6_code 46 = .ok (.iand, 1) := by decide +kernel
theorem d2_47 : decode prog_47_method_6_code 47 = .ok (.ldc 29, 2) := by decide +kernel
theorem d2_49 : decode prog_47_method_6_code 49 = .ok (.iand, 1) := by decide +kernel
theorem d2_50 : decode prog_47_method_6_code 50 = .ok (.i2c, 1) := by decide +kernel
theorem d2_51 : decode prog_47_method_6_code 51 = .ok (.castore, 1) := by decide +kernel
theorem d2_52 : decode prog_47_method_6_code 52 = .ok (.iinc 8 1, 3) := by decide +kernel
theorem d2_55 : decode prog_47_method_6_code 55 = .ok (.goto (-52), 3) := by decide +kernel
theorem d2_58 : decode prog_47_method_6_code 58 = .ok (.return_, 1) := by decide +kernel
theorem d3_0 : decode method_3_code 0 = .ok (.iload 4, 2) := by decide +kernel
theorem d3_2 : decode method_3_code 2 = .ok (.iload 5, 2) := by decide +kernel
theorem d3_4 : decode method_3_code 4 = .ok (.if_icmp .lt 11, 3) := by decide +kernel
theorem d3_7 : decode method_3_code 7 = .ok (.sipush 30583, 3) := by decide +kernel
theorem d3_10 : decode method_3_code 10 = .ok (.istore 9, 2) := by decide +kernel
theorem d3_12 : decode method_3_code 12 = .ok (.goto 40, 3) := by decide +kernel
theorem d3_15 : decode method_3_code 15 = .ok (.aload_n 0, 1) := by decide +kernel
theorem d3_16 : decode method_3_code 16 = .ok (.iload 4, 2) := by decide +kernel
theorem d3_18 : decode method_3_code 18 = .ok (.caload, 1) := by decide +kernel
theorem d3_19 : decode method_3_code 19 = .ok (.iload 6, 2) := by decide +kernel
theorem d3_21 : decode method_3_code 21 = .ok (.if_icmp .ne 28, 3) := by decide +kernel
theorem d3_24 : decode method_3_code 24 = .ok (.aload_n 1, 1) := by decide +kernel
theorem d3_25 : decode method_3_code 25 = .ok (.iload 4, 2) := by decide +kernel
theorem d3_27 : decode method_3_code 27 = .ok (.caload, 1) := by decide +kernel
theorem d3_28 : decode method_3_code 28 = .ok (.iload 7, 2) := by decide +kernel
theorem d3_30 : decode method_3_code 30 = .ok (.if_icmp .ne 19, 3) := by decide +kernel
theorem d3_33 : decode method_3_code 33 = .ok (.aload_n 2, 1) := by decide +kernel
theorem d3_34 : decode method_3_code 34 = .ok (.iload 4, 2) := by decide +kernel
theorem d3_36 : decode method_3_code 36 = .ok (.caload, 1) := by decide +kernel
theorem d3_37 : decode method_3_code 37 = .ok (.iload 8, 2) := by decide +kernel
theorem d3_39 : decode method_3_code 39 = .ok (.if_icmp .ne 10, 3) := by decide +kernel
theorem d3_42 : decode method_3_code 42 = .ok (.ldc 7, 2) := by decide +kernel
theorem d3_44 : decode method_3_code 44 = .ok (.istore 9, 2) := by decide +kernel
theorem d3_46 : decode method_3_code 46 = .ok (.goto 6, 3) := by decide +kernel
theorem d3_49 : decode method_3_code 49 = .ok (.iconst 0, 1) := by decide +kernel
theorem d3_50 : decode method_3_code 50 = .ok (.istore 9, 2) := by decide +kernel
theorem d3_52 : decode method_3_code 52 = .ok (.aload_n 3, 1) := by decide +kernel
theorem d3_53 : decode method_3_code 53 = .ok (.iload 4, 2) := by decide +kernel
theorem d3_55 : decode method_3_code 55 = .ok (.caload, 1) := by decide +kernel
theorem d3_56 : decode method_3_code 56 = .ok (.iload 9, 2) := by decide +kernel
theorem d3_58 : decode method_3_code 58 = .ok (.if_icmp .ne 7, 3) := by decide +kernel
theorem d3_61 : decode method_3_code 61 = .ok (.iconst 1, 1) := by decide +kernel
theorem d3_62 : decode method_3_code 62 = .ok (.goto 4, 3) := by decide +kernel
theorem d3_65 : decode method_3_code 65 = .ok (.iconst 0, 1) := by decide +kernel
theorem d3_66 : decode method_3_code 66 = .ok (.ireturn, 1) := by decide +kernel
theorem pd_0 : parseMethodDescriptor "(IIII)C" = some ⟨[.int, .int, .int, .int], some .char⟩ := by decide +kernel
theorem pd_1 : parseMethodDescriptor "([C[C[CIIII[C)V" = some ⟨[(.array .char), (.array .char), (.array .char), .int, .int, .int, .int, (.array .char)], none⟩ := by decide +kernel
theorem pd_2 : parseMethodDescriptor "([C[C[C[CIIIII)Z" = some ⟨[(.array .char), (.array .char), (.array .char), (.array .char), .int, .int, .int, .int, .int], some .boolean⟩ := by decide +kernel
theorem pn_0 : plainName "com/example/frugal_match/frugalmatch/matcher/SkipFlagPinLaw" = true := by first | (simp [plainName, overriddenIn]; done) | decide +kernel
theorem pn_1 : plainName "com/example/frugal_match/frugalmatch/matcher/Skip" = true := by first | (simp [plainName, overriddenIn]; done) | decide +kernel
def F1 (x0 : Int32) (x1 : Int32) (x2 : Int32) (x3 : Int32) : Int32 := (if (((x1.toUInt32 >>> (x3 &&& 31).toUInt32).toInt32) &&& (1 : Int32)) = 0 then ((x0 ^^^ ((x2.toUInt32 >>> (x3 &&& 31).toUInt32).toInt32)).toUInt32.toUInt16.toUInt32.toInt32) else (x0.toUInt32.toUInt16.toUInt32.toInt32))
theorem ef_rm1 (m : MethodId) (x0 : Int32) (x1 : Int32) (x2 : Int32) (x3 : Int32) : entryFrame m #[.int x0, .int x1, .int x2, .int x3] 4 = mkF m 0 #[.val (.int x0), .val (.int x1), .val (.int x2), .val (.int x3)] [] := by first | (simp [entryFrame, mkF, argsToLocals, Value.category]; done) | rfl
set_option maxRecDepth 65536 in
set_option maxHeartbeats 40000000 in
theorem rm1 (l : Launch) (Z : State) (a0 : Array Value) (hw : HW Z a0) (x0 : Int32) (x1 : Int32) (x2 : Int32) (x3 : Int32) (L : List (Addr × (Cell → Prop))) (h : Heap) (n0 : Nat) (O : Own n0 h L) :
    Meth l Z (⟨"com/example/frugal_match/frugalmatch/matcher/SkipFlagPinLaw", "lane", "(IIII)C"⟩ : MethodName) method_2_code 4 (some .char) [] ({ frames := 0, cells := 0, slots := 0, locals := 0 } : Room) #[.int x0, .int x1, .int x2, .int x3] h n0 (fun v h' => v = some (.int (nar .char (F1 x0 x1 x2 x3))) ∧ Own n0 h' L) := by
  refine Meth.of (plainFor_of_name pn_0) (fun m => ef_rm1 m x0 x1 x2 x3) O ?_
  intro p e m below meth c M FE C J
  change Cx Z "com/example/frugal_match/frugalmatch/matcher/SkipFlagPinLaw" "lane" method_2_code 4 (some .char) p m meth c M at C
  clear O
  refine Wk.iloadN (pc' := 1) C d1_0 rfl rfl ?_
  refine Wk.iloadN (pc' := 2) C d1_1 rfl rfl ?_
  refine Wk.iushr (pc' := 3) C d1_2 rfl ?_
  refine Wk.iconst (z := (1 : Int32)) (pc' := 4) C d1_3 rfl rfl ?_
  refine Wk.iand (pc' := 5) C d1_4 rfl ?_
  refine Wk.if_eq (pcT := 11) (pcF := 8) C d1_5 (by decide) (by decide) rfl (fun c1 => ?_) (fun c1 => ?_)
  · skip
    refine Wk.iloadN (pc' := 12) C d1_11 rfl rfl ?_
    refine Wk.iloadN (pc' := 13) C d1_12 rfl rfl ?_
    refine Wk.iloadN (pc' := 14) C d1_13 rfl rfl ?_
    refine Wk.iushr (pc' := 15) C d1_14 rfl ?_
    refine Wk.ixor (pc' := 16) C d1_15 rfl ?_
    refine Wk.i2c (pc' := 17) C d1_16 rfl ?_
    exact Wk.retN C J d1_17 (by decide) (by decide) (by simp) rfl (fun h O => ⟨by rw [F1, if_pos c1], O⟩)
  · skip
    refine Wk.iloadN (pc' := 9) C d1_8 rfl rfl ?_
    refine Wk.i2c (pc' := 10) C d1_9 rfl ?_
    exact Wk.retN C J d1_10 (by decide) (by decide) (by simp) rfl (fun h O => ⟨by rw [F1, if_neg c1], O⟩)
theorem own_inc {z : Int32} {i : Nat} (h : z.toInt = (i : Int)) (hi : i < 100) : (z + (1 : Int32)).toInt = ((i + 1 : Nat) : Int) := by
  have e := c_iadd z 1
  have r := rng32 (z + (1 : Int32))
  have z1 : (1 : Int32).toInt = 1 := rfl
  omega
theorem own_lt {z y : Int32} {i j : Nat} (h : z.toInt = (i : Int)) (h' : y.toInt = (j : Int)) : z < y ↔ i < j := by
  rw [Int32.lt_iff_toInt_lt]; omega
def dd (f m l a b c : Int32) : Int32 := (((f ^^^ a) ||| (m ^^^ b)) ||| (l ^^^ c))
def vv (d : Int32) : Int32 := nar .char ((((d - (1 : Int32)) &&& (d ^^^ (-1 : Int32))) &&& (32768 : Int32)).toUInt32.toUInt16.toUInt32.toInt32)
def flg (f m l : Nat → Int32) (a b c : Int32) (g : Nat → Int32) (i : Nat) : Nat → Int32 := fun j => if j < i then vv (dd (f j) (m j) (l j) a b c) else g j
theorem flg_up (f m l : Nat → Int32) (a b c : Int32) (g : Nat → Int32) (i : Nat) : upd (flg f m l a b c g i) i (vv (dd (f i) (m i) (l i) a b c)) = flg f m l a b c g (i + 1) := by
  funext j
  unfold upd flg
  by_cases h : j = i
  · subst h; rw [if_pos rfl, if_pos (Nat.lt_succ_self _)]
  · rw [if_neg h]
    by_cases h' : j < i
    · rw [if_pos h', if_pos (by omega)]
    · rw [if_neg h', if_neg (by omega)]
theorem flg_0 (f m l : Nat → Int32) (a b c : Int32) (g : Nat → Int32) : flg f m l a b c g 0 = g := by funext j; rfl
theorem ef_rm2 (m : MethodId) (r0 : Addr) (r1 : Addr) (r2 : Addr) (x3 : Int32) (x4 : Int32) (x5 : Int32) (x6 : Int32) (r7 : Addr) : entryFrame m #[.ref r0, .ref r1, .ref r2, .int x3, .int x4, .int x5, .int x6, .ref r7] 10 = mkF m 0 #[.val (.ref r0), .val (.ref r1), .val (.ref r2), .val (.int x3), .val (.int x4), .val (.int x5), .val (.int x6), .val (.ref r7), .unset, .unset] [] := by first | (simp [entryFrame, mkF, argsToLocals, Value.category]; done) | rfl
set_option maxRecDepth 65536 in
set_option maxHeartbeats 40000000 in
theorem rm2 (l : Launch) (Z : State) (a0 : Array Value) (hw : HW Z a0) (r0 : Addr) (r1 : Addr) (r2 : Addr) (x3 : Int32) (x4 : Int32) (x5 : Int32) (x6 : Int32) (r7 : Addr) (L : List (Addr × (Cell → Prop))) (q0 q1 q2 nn : Nat) (fa fb fc g : Nat → Int32) (h : Heap) (n0 : Nat) (O : Own n0 h ((r7, ArrC Z .char 4 g) :: L)) (hq0 : L[q0]? = some (r0, ArrC Z .char 4 fa)) (hq1 : L[q1]? = some (r1, ArrC Z .char 4 fb)) (hq2 : L[q2]? = some (r2, ArrC Z .char 4 fc)) (h3 : x3.toInt = (nn : Int)) (hnn : nn ≤ 4) :
    Meth l Z (⟨"com/example/frugal_match/frugalmatch/matcher/Skip", "flag", "([C[C[CIIII[C)V"⟩ : MethodName) prog_47_method_6_code 10 none [] ({ frames := 0, cells := 0, slots := 0, locals := 0 } : Room) #[.ref r0, .ref r1, .ref r2, .int x3, .int x4, .int x5, .int x6, .ref r7] h n0 (fun v h' => v = none ∧ Own n0 h' ((r7, ArrC Z .char 4 (flg fa fb fc x4 x5 x6 g nn)) :: L)) := by
  refine Meth.of (plainFor_of_name pn_1) (fun m => ef_rm2 m r0 r1 r2 x3 x4 x5 x6 r7) O ?_
  intro p e m below meth c M FE C J
  change Cx Z "com/example/frugal_match/frugalmatch/matcher/Skip" "flag" prog_47_method_6_code 10 none p m meth c M at C
  clear O
  refine Wk.iconst (z := (0 : Int32)) (pc' := 1) C d2_0 rfl rfl ?_
  refine Wk.istore (Ls' := #[.val (.ref r0), .val (.ref r1), .val (.ref r2), .val (.int x3), .val (.int x4), .val (.int x5), .val (.int x6), .val (.ref r7), .val (.int (0 : Int32)), .unset]) (pc' := 3) C d2_1 rfl rfl ?_
  rw [← flg_0 fa fb fc x4 x5 x6 g]
  refine Wk.ind (pc := 3) (A := Nat × Int32 × Slot) (fun b => nn - b.1) (fun b => #[.val (.ref r0), .val (.ref r1), .val (.ref r2), .val (.int x3), .val (.int x4), .val (.int x5), .val (.int x6), .val (.ref r7), .val (.int b.2.1), b.2.2]) (fun b => ((r7, ArrC Z .char 4 (flg fa fb fc x4 x5 x6 g b.1)) :: L)) (fun b => b.2.1.toInt = (b.1 : Int) ∧ b.1 ≤ nn ∧ (b.2.2 = .unset ∨ ∃ d : Int32, b.2.2 = .val (.int d))) ?_ (0, 0, .unset) ⟨rfl, Nat.zero_le _, Or.inl rfl⟩
  rintro ⟨i, z, sl⟩ ⟨hz, hi, hsl⟩ IH
  dsimp only at hz hi hsl IH
  rcases hsl with rfl | ⟨d, rfl⟩
  · skip
    change Wk p l e _ m _ below meth c _ _ n0 ((r7, ArrC Z .char 4 (flg fa fb fc x4 x5 x6 g i)) :: L) 0 0 3 #[.val (.ref r0), .val (.ref r1), .val (.ref r2), .val (.int x3), .val (.int x4), .val (.int x5), .val (.int x6), .val (.ref r7), .val (.int z), .unset] []
    refine Wk.iload (pc' := 5) C d2_3 rfl rfl ?_
    refine Wk.iloadN (pc' := 6) C d2_5 rfl rfl ?_
    refine Wk.icmp_ge (pcT := 58) (pcF := 9) C d2_6 (by decide) (by decide) rfl (fun c2 => ?_) (fun c2 => ?_)
    · skip
      have hge := mt (own_lt hz h3).mpr c2
      obtain rfl : i = nn := by omega
      exact Wk.retV C J d2_58 (by decide) (by decide) (fun h O => ⟨rfl, O⟩)
    · skip
      have hlt := (own_lt hz h3).mp c2
      refine Wk.aloadN (pc' := 10) C d2_9 rfl rfl rfl ?_
      refine Wk.iload (pc' := 12) C d2_10 rfl rfl ?_
      refine Wk.caload (pc' := 13) (q := (q0 + 1)) (i := i) C d2_12 hq0 hz (by omega) rfl ?_
      refine Wk.iload (pc' := 15) C d2_13 rfl rfl ?_
      refine Wk.ixor (pc' := 16) C d2_15 rfl ?_
      refine Wk.aloadN (pc' := 17) C d2_16 rfl rfl rfl ?_
      refine Wk.iload (pc' := 19) C d2_17 rfl rfl ?_
      refine Wk.caload (pc' := 20) (q := (q1 + 1)) (i := i) C d2_19 hq1 hz (by omega) rfl ?_
      refine Wk.iload (pc' := 22) C d2_20 rfl rfl ?_
      refine Wk.ixor (pc' := 23) C d2_22 rfl ?_
      refine Wk.ior (pc' := 24) C d2_23 rfl ?_
      refine Wk.aloadN (pc' := 25) C d2_24 rfl rfl rfl ?_
      refine Wk.iload (pc' := 27) C d2_25 rfl rfl ?_
      refine Wk.caload (pc' := 28) (q := (q2 + 1)) (i := i) C d2_27 hq2 hz (by omega) rfl ?_
      refine Wk.iload (pc' := 30) C d2_28 rfl rfl ?_
      refine Wk.ixor (pc' := 31) C d2_30 rfl ?_
      refine Wk.ior (pc' := 32) C d2_31 rfl ?_
      refine Wk.istore (Ls' := #[.val (.ref r0), .val (.ref r1), .val (.ref r2), .val (.int x3), .val (.int x4), .val (.int x5), .val (.int x6), .val (.ref r7), .val (.int z), .val (.int ((((fa i) ^^^ x4) ||| ((fb i) ^^^ x5)) ||| ((fc i) ^^^ x6)))]) (pc' := 34) C d2_32 rfl rfl ?_
      refine Wk.aload (pc' := 36) C d2_34 rfl rfl rfl ?_
      refine Wk.iload (pc' := 38) C d2_36 rfl rfl ?_
      refine Wk.iload (pc' := 40) C d2_38 rfl rfl ?_
      refine Wk.iconst (z := (1 : Int32)) (pc' := 41) C d2_40 rfl rfl ?_
      refine Wk.isub (pc' := 42) C d2_41 rfl ?_
      refine Wk.iload (pc' := 44) C d2_42 rfl rfl ?_
      refine Wk.iconst (z := (-1 : Int32)) (pc' := 45) C d2_44 rfl rfl ?_
      refine Wk.ixor (pc' := 46) C d2_45 rfl ?_
      refine Wk.iand (pc' := 47) C d2_46 rfl ?_
      refine Wk.ldcInt (z := (32768 : Int32)) (pc' := 49) C (w11 hw) d2_47 rfl ?_
      refine Wk.iand (pc' := 50) C d2_49 rfl ?_
      refine Wk.i2c (pc' := 51) C d2_50 rfl ?_
      refine Wk.castore (pc' := 52) (q := 0) (i := i) C d2_51 rfl hz (by omega) rfl ?_
      change Wk p l e _ m _ below meth c _ _ n0 ((r7, ArrC Z .char 4 (upd (flg fa fb fc x4 x5 x6 g i) i (nar .char ((((((((fa i) ^^^ x4) ||| ((fb i) ^^^ x5)) ||| ((fc i) ^^^ x6)) - (1 : Int32)) &&& (((((fa i) ^^^ x4) ||| ((fb i) ^^^ x5)) ||| ((fc i) ^^^ x6)) ^^^ (-1 : Int32))) &&& (32768 : Int32)).toUInt32.toUInt16.toUInt32.toInt32)))) :: L) 0 0 52 #[.val (.ref r0), .val (.ref r1), .val (.ref r2), .val (.int x3), .val (.int x4), .val (.int x5), .val (.int x6), .val (.ref r7), .val (.int z), .val (.int ((((fa i) ^^^ x4) ||| ((fb i) ^^^ x5)) ||| ((fc i) ^^^ x6)))] []
      refine Wk.iinc (z := (z + (1 : Int32))) (Ls' := #[.val (.ref r0), .val (.ref r1), .val (.ref r2), .val (.int x3), .val (.int x4), .val (.int x5), .val (.int x6), .val (.ref r7), .val (.int (z + (1 : Int32))), .val (.int ((((fa i) ^^^ x4) ||| ((fb i) ^^^ x5)) ||| ((fc i) ^^^ x6)))]) (pc' := 55) C d2_52 rfl rfl rfl rfl ?_
      refine Wk.goto (pc' := 3) C d2_55 (by decide) (by decide) ?_
      have hup := flg_up fa fb fc x4 x5 x6 g i
      simp only [vv, dd] at hup
      rw [hup]
      exact IH (i + 1, z + 1, .val (.int _)) ⟨own_inc hz (by omega), by omega, Or.inr ⟨_, rfl⟩⟩ (by show nn - (i + 1) < nn - i; omega)
  · skip
    change Wk p l e _ m _ below meth c _ _ n0 ((r7, ArrC Z .char 4 (flg fa fb fc x4 x5 x6 g i)) :: L) 0 0 3 #[.val (.ref r0), .val (.ref r1), .val (.ref r2), .val (.int x3), .val (.int x4), .val (.int x5), .val (.int x6), .val (.ref r7), .val (.int z), .val (.int d)] []
    refine Wk.iload (pc' := 5) C d2_3 rfl rfl ?_
    refine Wk.iloadN (pc' := 6) C d2_5 rfl rfl ?_
    refine Wk.icmp_ge (pcT := 58) (pcF := 9) C d2_6 (by decide) (by decide) rfl (fun c3 => ?_) (fun c3 => ?_)
    · skip
      have hge := mt (own_lt hz h3).mpr c3
      obtain rfl : i = nn := by omega
      exact Wk.retV C J d2_58 (by decide) (by decide) (fun h O => ⟨rfl, O⟩)
    · skip
      have hlt := (own_lt hz h3).mp c3
      refine Wk.aloadN (pc' := 10) C d2_9 rfl rfl rfl ?_
      refine Wk.iload (pc' := 12) C d2_10 rfl rfl ?_
      refine Wk.caload (pc' := 13) (q := (q0 + 1)) (i := i) C d2_12 hq0 hz (by omega) rfl ?_
      refine Wk.iload (pc' := 15) C d2_13 rfl rfl ?_
      refine Wk.ixor (pc' := 16) C d2_15 rfl ?_
      refine Wk.aloadN (pc' := 17) C d2_16 rfl rfl rfl ?_
      refine Wk.iload (pc' := 19) C d2_17 rfl rfl ?_
      refine Wk.caload (pc' := 20) (q := (q1 + 1)) (i := i) C d2_19 hq1 hz (by omega) rfl ?_
      refine Wk.iload (pc' := 22) C d2_20 rfl rfl ?_
      refine Wk.ixor (pc' := 23) C d2_22 rfl ?_
      refine Wk.ior (pc' := 24) C d2_23 rfl ?_
      refine Wk.aloadN (pc' := 25) C d2_24 rfl rfl rfl ?_
      refine Wk.iload (pc' := 27) C d2_25 rfl rfl ?_
      refine Wk.caload (pc' := 28) (q := (q2 + 1)) (i := i) C d2_27 hq2 hz (by omega) rfl ?_
      refine Wk.iload (pc' := 30) C d2_28 rfl rfl ?_
      refine Wk.ixor (pc' := 31) C d2_30 rfl ?_
      refine Wk.ior (pc' := 32) C d2_31 rfl ?_
      refine Wk.istore (Ls' := #[.val (.ref r0), .val (.ref r1), .val (.ref r2), .val (.int x3), .val (.int x4), .val (.int x5), .val (.int x6), .val (.ref r7), .val (.int z), .val (.int ((((fa i) ^^^ x4) ||| ((fb i) ^^^ x5)) ||| ((fc i) ^^^ x6)))]) (pc' := 34) C d2_32 rfl rfl ?_
      refine Wk.aload (pc' := 36) C d2_34 rfl rfl rfl ?_
      refine Wk.iload (pc' := 38) C d2_36 rfl rfl ?_
      refine Wk.iload (pc' := 40) C d2_38 rfl rfl ?_
      refine Wk.iconst (z := (1 : Int32)) (pc' := 41) C d2_40 rfl rfl ?_
      refine Wk.isub (pc' := 42) C d2_41 rfl ?_
      refine Wk.iload (pc' := 44) C d2_42 rfl rfl ?_
      refine Wk.iconst (z := (-1 : Int32)) (pc' := 45) C d2_44 rfl rfl ?_
      refine Wk.ixor (pc' := 46) C d2_45 rfl ?_
      refine Wk.iand (pc' := 47) C d2_46 rfl ?_
      refine Wk.ldcInt (z := (32768 : Int32)) (pc' := 49) C (w11 hw) d2_47 rfl ?_
      refine Wk.iand (pc' := 50) C d2_49 rfl ?_
      refine Wk.i2c (pc' := 51) C d2_50 rfl ?_
      refine Wk.castore (pc' := 52) (q := 0) (i := i) C d2_51 rfl hz (by omega) rfl ?_
      change Wk p l e _ m _ below meth c _ _ n0 ((r7, ArrC Z .char 4 (upd (flg fa fb fc x4 x5 x6 g i) i (nar .char ((((((((fa i) ^^^ x4) ||| ((fb i) ^^^ x5)) ||| ((fc i) ^^^ x6)) - (1 : Int32)) &&& (((((fa i) ^^^ x4) ||| ((fb i) ^^^ x5)) ||| ((fc i) ^^^ x6)) ^^^ (-1 : Int32))) &&& (32768 : Int32)).toUInt32.toUInt16.toUInt32.toInt32)))) :: L) 0 0 52 #[.val (.ref r0), .val (.ref r1), .val (.ref r2), .val (.int x3), .val (.int x4), .val (.int x5), .val (.int x6), .val (.ref r7), .val (.int z), .val (.int ((((fa i) ^^^ x4) ||| ((fb i) ^^^ x5)) ||| ((fc i) ^^^ x6)))] []
      refine Wk.iinc (z := (z + (1 : Int32))) (Ls' := #[.val (.ref r0), .val (.ref r1), .val (.ref r2), .val (.int x3), .val (.int x4), .val (.int x5), .val (.int x6), .val (.ref r7), .val (.int (z + (1 : Int32))), .val (.int ((((fa i) ^^^ x4) ||| ((fb i) ^^^ x5)) ||| ((fc i) ^^^ x6)))]) (pc' := 55) C d2_52 rfl rfl rfl rfl ?_
      refine Wk.goto (pc' := 3) C d2_55 (by decide) (by decide) ?_
      have hup := flg_up fa fb fc x4 x5 x6 g i
      simp only [vv, dd] at hup
      rw [hup]
      exact IH (i + 1, z + 1, .val (.int _)) ⟨own_inc hz (by omega), by omega, Or.inr ⟨_, rfl⟩⟩ (by show nn - (i + 1) < nn - i; omega)
def expF (P : Prop) [Decidable P] (f m l a b c : Int32) : Int32 := if P then (if f = a then (if m = b then (if l = c then (32768 : Int32) else (0 : Int32)) else (0 : Int32)) else (0 : Int32)) else (30583 : Int32)
def oneF (P : Prop) [Decidable P] (f m l g a b c : Int32) : Int32 := if g = expF P f m l a b c then (1 : Int32) else (0 : Int32)
theorem ef_rm3 (m : MethodId) (r0 : Addr) (r1 : Addr) (r2 : Addr) (r3 : Addr) (x4 : Int32) (x5 : Int32) (x6 : Int32) (x7 : Int32) (x8 : Int32) : entryFrame m #[.ref r0, .ref r1, .ref r2, .ref r3, .int x4, .int x5, .int x6, .int x7, .int x8] 10 = mkF m 0 #[.val (.ref r0), .val (.ref r1), .val (.ref r2), .val (.ref r3), .val (.int x4), .val (.int x5), .val (.int x6), .val (.int x7), .val (.int x8), .unset] [] := by first | (simp [entryFrame, mkF, argsToLocals, Value.category]; done) | rfl
set_option maxRecDepth 65536 in
set_option maxHeartbeats 40000000 in
theorem rm3 (l : Launch) (Z : State) (a0 : Array Value) (hw : HW Z a0) (r0 : Addr) (r1 : Addr) (r2 : Addr) (r3 : Addr) (x4 : Int32) (x5 : Int32) (x6 : Int32) (x7 : Int32) (x8 : Int32) (L : List (Addr × (Cell → Prop))) (q0 q1 q2 q3 i : Nat) (fa fb fc g : Nat → Int32) (h : Heap) (n0 : Nat) (O : Own n0 h L) (hq0 : L[q0]? = some (r0, ArrC Z .char 4 fa)) (hq1 : L[q1]? = some (r1, ArrC Z .char 4 fb)) (hq2 : L[q2]? = some (r2, ArrC Z .char 4 fc)) (hq3 : L[q3]? = some (r3, ArrC Z .char 4 g)) (hi : x4.toInt = (i : Int)) (hi4 : i < 4) :
    Meth l Z (⟨"com/example/frugal_match/frugalmatch/matcher/SkipFlagPinLaw", "one", "([C[C[C[CIIIII)Z"⟩ : MethodName) method_3_code 10 (some .boolean) [] ({ frames := 0, cells := 0, slots := 0, locals := 0 } : Room) #[.ref r0, .ref r1, .ref r2, .ref r3, .int x4, .int x5, .int x6, .int x7, .int x8] h n0 (fun v h' => v = some (.int (nar .boolean (oneF (x4 < x5) (fa i) (fb i) (fc i) (g i) x6 x7 x8))) ∧ Own n0 h' L) := by
  refine Meth.of (plainFor_of_name pn_0) (fun m => ef_rm3 m r0 r1 r2 r3 x4 x5 x6 x7 x8) O ?_
  intro p e m below meth c M FE C J
  change Cx Z "com/example/frugal_match/frugalmatch/matcher/SkipFlagPinLaw" "one" method_3_code 10 (some .boolean) p m meth c M at C
  clear O
  refine Wk.iload (pc' := 2) C d3_0 rfl rfl ?_
  refine Wk.iload (pc' := 4) C d3_2 rfl rfl ?_
  refine Wk.icmp_lt (pcT := 15) (pcF := 7) C d3_4 (by decide) (by decide) rfl (fun c4 => ?_) (fun c4 => ?_)
  · skip
    refine Wk.aloadN (pc' := 16) C d3_15 rfl rfl rfl ?_
    refine Wk.iload (pc' := 18) C d3_16 rfl rfl ?_
    refine Wk.caload (pc' := 19) (q := q0) (i := i) C d3_18 hq0 hi hi4 rfl ?_
    refine Wk.iload (pc' := 21) C d3_19 rfl rfl ?_
    refine Wk.icmp_ne (pcT := 49) (pcF := 24) C d3_21 (by decide) (by decide) rfl (fun c5 => ?_) (fun c5 => ?_)
    · skip
      refine Wk.iconst (z := (0 : Int32)) (pc' := 50) C d3_49 rfl rfl ?_
      refine Wk.istore (Ls' := #[.val (.ref r0), .val (.ref r1), .val (.ref r2), .val (.ref r3), .val (.int x4), .val (.int x5), .val (.int x6), .val (.int x7), .val (.int x8), .val (.int (0 : Int32))]) (pc' := 52) C d3_50 rfl rfl ?_
      refine Wk.aloadN (pc' := 53) C d3_52 rfl rfl rfl ?_
      refine Wk.iload (pc' := 55) C d3_53 rfl rfl ?_
      refine Wk.caload (pc' := 56) (q := q3) (i := i) C d3_55 hq3 hi hi4 rfl ?_
      refine Wk.iload (pc' := 58) C d3_56 rfl rfl ?_
      refine Wk.join1 (pcj := 66) (fun v7 => #[.val (.ref r0), .val (.ref r1), .val (.ref r2), .val (.ref r3), .val (.int x4), .val (.int x5), .val (.int x6), .val (.int x7), .val (.int x8), .val (.int (0 : Int32))]) (fun v7 => [.int v7]) (if (g i) = (0 : Int32) then (1 : Int32) else (0 : Int32)) ?_ (fun J8 => ?_)
      · intro v7 hv7
        have hres : v7 = oneF (x4 < x5) (fa i) (fb i) (fc i) (g i) x6 x7 x8 := by rw [oneF, expF, if_pos c4, if_neg c5]; exact hv7
        exact Wk.retN C J d3_66 (by decide) (by decide) (by simp) rfl (fun h O => ⟨by rw [hres], O⟩)
      · skip
        refine Wk.icmp_ne (pcT := 65) (pcF := 61) C d3_58 (by decide) (by decide) rfl (fun c9 => ?_) (fun c9 => ?_)
        · skip
          refine Wk.iconst (z := (0 : Int32)) (pc' := 66) C d3_65 rfl rfl ?_
          exact J8 _ (by first | rw [if_neg c9] | simp only [if_neg c9] | rfl)
        · skip
          refine Wk.iconst (z := (1 : Int32)) (pc' := 62) C d3_61 rfl rfl ?_
          refine Wk.goto (pc' := 66) C d3_62 (by decide) (by decide) ?_
          exact J8 _ (by first | rw [if_pos c9] | simp only [if_pos c9] | rfl)
    · skip
      refine Wk.aloadN (pc' := 25) C d3_24 rfl rfl rfl ?_
      refine Wk.iload (pc' := 27) C d3_25 rfl rfl ?_
      refine Wk.caload (pc' := 28) (q := q1) (i := i) C d3_27 hq1 hi hi4 rfl ?_
      refine Wk.iload (pc' := 30) C d3_28 rfl rfl ?_
      refine Wk.icmp_ne (pcT := 49) (pcF := 33) C d3_30 (by decide) (by decide) rfl (fun c10 => ?_) (fun c10 => ?_)
      · skip
        refine Wk.iconst (z := (0 : Int32)) (pc' := 50) C d3_49 rfl rfl ?_
        refine Wk.istore (Ls' := #[.val (.ref r0), .val (.ref r1), .val (.ref r2), .val (.ref r3), .val (.int x4), .val (.int x5), .val (.int x6), .val (.int x7), .val (.int x8), .val (.int (0 : Int32))]) (pc' := 52) C d3_50 rfl rfl ?_
        refine Wk.aloadN (pc' := 53) C d3_52 rfl rfl rfl ?_
        refine Wk.iload (pc' := 55) C d3_53 rfl rfl ?_
        refine Wk.caload (pc' := 56) (q := q3) (i := i) C d3_55 hq3 hi hi4 rfl ?_
        refine Wk.iload (pc' := 58) C d3_56 rfl rfl ?_
        refine Wk.join1 (pcj := 66) (fun v12 => #[.val (.ref r0), .val (.ref r1), .val (.ref r2), .val (.ref r3), .val (.int x4), .val (.int x5), .val (.int x6), .val (.int x7), .val (.int x8), .val (.int (0 : Int32))]) (fun v12 => [.int v12]) (if (g i) = (0 : Int32) then (1 : Int32) else (0 : Int32)) ?_ (fun J13 => ?_)
        · intro v12 hv12
          have hres : v12 = oneF (x4 < x5) (fa i) (fb i) (fc i) (g i) x6 x7 x8 := by rw [oneF, expF, if_pos c4, if_pos c5, if_neg c10]; exact hv12
          exact Wk.retN C J d3_66 (by decide) (by decide) (by simp) rfl (fun h O => ⟨by rw [hres], O⟩)
        · skip
          refine Wk.icmp_ne (pcT := 65) (pcF := 61) C d3_58 (by decide) (by decide) rfl (fun c14 => ?_) (fun c14 => ?_)
          · skip
            refine Wk.iconst (z := (0 : Int32)) (pc' := 66) C d3_65 rfl rfl ?_
            exact J13 _ (by first | rw [if_neg c14] | simp only [if_neg c14] | rfl)
          · skip
            refine Wk.iconst (z := (1 : Int32)) (pc' := 62) C d3_61 rfl rfl ?_
            refine Wk.goto (pc' := 66) C d3_62 (by decide) (by decide) ?_
            exact J13 _ (by first | rw [if_pos c14] | simp only [if_pos c14] | rfl)
      · skip
        refine Wk.aloadN (pc' := 34) C d3_33 rfl rfl rfl ?_
        refine Wk.iload (pc' := 36) C d3_34 rfl rfl ?_
        refine Wk.caload (pc' := 37) (q := q2) (i := i) C d3_36 hq2 hi hi4 rfl ?_
        refine Wk.iload (pc' := 39) C d3_37 rfl rfl ?_
        refine Wk.icmp_ne (pcT := 49) (pcF := 42) C d3_39 (by decide) (by decide) rfl (fun c15 => ?_) (fun c15 => ?_)
        · skip
          refine Wk.iconst (z := (0 : Int32)) (pc' := 50) C d3_49 rfl rfl ?_
          refine Wk.istore (Ls' := #[.val (.ref r0), .val (.ref r1), .val (.ref r2), .val (.ref r3), .val (.int x4), .val (.int x5), .val (.int x6), .val (.int x7), .val (.int x8), .val (.int (0 : Int32))]) (pc' := 52) C d3_50 rfl rfl ?_
          refine Wk.aloadN (pc' := 53) C d3_52 rfl rfl rfl ?_
          refine Wk.iload (pc' := 55) C d3_53 rfl rfl ?_
          refine Wk.caload (pc' := 56) (q := q3) (i := i) C d3_55 hq3 hi hi4 rfl ?_
          refine Wk.iload (pc' := 58) C d3_56 rfl rfl ?_
          refine Wk.join1 (pcj := 66) (fun v17 => #[.val (.ref r0), .val (.ref r1), .val (.ref r2), .val (.ref r3), .val (.int x4), .val (.int x5), .val (.int x6), .val (.int x7), .val (.int x8), .val (.int (0 : Int32))]) (fun v17 => [.int v17]) (if (g i) = (0 : Int32) then (1 : Int32) else (0 : Int32)) ?_ (fun J18 => ?_)
          · intro v17 hv17
            have hres : v17 = oneF (x4 < x5) (fa i) (fb i) (fc i) (g i) x6 x7 x8 := by rw [oneF, expF, if_pos c4, if_pos c5, if_pos c10, if_neg c15]; exact hv17
            exact Wk.retN C J d3_66 (by decide) (by decide) (by simp) rfl (fun h O => ⟨by rw [hres], O⟩)
          · skip
            refine Wk.icmp_ne (pcT := 65) (pcF := 61) C d3_58 (by decide) (by decide) rfl (fun c19 => ?_) (fun c19 => ?_)
            · skip
              refine Wk.iconst (z := (0 : Int32)) (pc' := 66) C d3_65 rfl rfl ?_
              exact J18 _ (by first | rw [if_neg c19] | simp only [if_neg c19] | rfl)
            · skip
              refine Wk.iconst (z := (1 : Int32)) (pc' := 62) C d3_61 rfl rfl ?_
              refine Wk.goto (pc' := 66) C d3_62 (by decide) (by decide) ?_
              exact J18 _ (by first | rw [if_pos c19] | simp only [if_pos c19] | rfl)
        · skip
          refine Wk.ldcInt (z := (32768 : Int32)) (pc' := 44) C (w15 hw) d3_42 rfl ?_
          refine Wk.istore (Ls' := #[.val (.ref r0), .val (.ref r1), .val (.ref r2), .val (.ref r3), .val (.int x4), .val (.int x5), .val (.int x6), .val (.int x7), .val (.int x8), .val (.int (32768 : Int32))]) (pc' := 46) C d3_44 rfl rfl ?_
          refine Wk.goto (pc' := 52) C d3_46 (by decide) (by decide) ?_
          refine Wk.aloadN (pc' := 53) C d3_52 rfl rfl rfl ?_
          refine Wk.iload (pc' := 55) C d3_53 rfl rfl ?_
          refine Wk.caload (pc' := 56) (q := q3) (i := i) C d3_55 hq3 hi hi4 rfl ?_
          refine Wk.iload (pc' := 58) C d3_56 rfl rfl ?_
          refine Wk.join1 (pcj := 66) (fun v21 => #[.val (.ref r0), .val (.ref r1), .val (.ref r2), .val (.ref r3), .val (.int x4), .val (.int x5), .val (.int x6), .val (.int x7), .val (.int x8), .val (.int (32768 : Int32))]) (fun v21 => [.int v21]) (if (g i) = (32768 : Int32) then (1 : Int32) else (0 : Int32)) ?_ (fun J22 => ?_)
          · intro v21 hv21
            have hres : v21 = oneF (x4 < x5) (fa i) (fb i) (fc i) (g i) x6 x7 x8 := by rw [oneF, expF, if_pos c4, if_pos c5, if_pos c10, if_pos c15]; exact hv21
            exact Wk.retN C J d3_66 (by decide) (by decide) (by simp) rfl (fun h O => ⟨by rw [hres], O⟩)
          · skip
            refine Wk.icmp_ne (pcT := 65) (pcF := 61) C d3_58 (by decide) (by decide) rfl (fun c23 => ?_) (fun c23 => ?_)
            · skip
              refine Wk.iconst (z := (0 : Int32)) (pc' := 66) C d3_65 rfl rfl ?_
              exact J22 _ (by first | rw [if_neg c23] | simp only [if_neg c23] | rfl)
            · skip
              refine Wk.iconst (z := (1 : Int32)) (pc' := 62) C d3_61 rfl rfl ?_
              refine Wk.goto (pc' := 66) C d3_62 (by decide) (by decide) ?_
              exact J22 _ (by first | rw [if_pos c23] | simp only [if_pos c23] | rfl)
  · skip
    refine Wk.sipush (z := (30583 : Int32)) (pc' := 10) C d3_7 rfl rfl ?_
    refine Wk.istore (Ls' := #[.val (.ref r0), .val (.ref r1), .val (.ref r2), .val (.ref r3), .val (.int x4), .val (.int x5), .val (.int x6), .val (.int x7), .val (.int x8), .val (.int (30583 : Int32))]) (pc' := 12) C d3_10 rfl rfl ?_
    refine Wk.goto (pc' := 52) C d3_12 (by decide) (by decide) ?_
    refine Wk.aloadN (pc' := 53) C d3_52 rfl rfl rfl ?_
    refine Wk.iload (pc' := 55) C d3_53 rfl rfl ?_
    refine Wk.caload (pc' := 56) (q := q3) (i := i) C d3_55 hq3 hi hi4 rfl ?_
    refine Wk.iload (pc' := 58) C d3_56 rfl rfl ?_
    refine Wk.join1 (pcj := 66) (fun v25 => #[.val (.ref r0), .val (.ref r1), .val (.ref r2), .val (.ref r3), .val (.int x4), .val (.int x5), .val (.int x6), .val (.int x7), .val (.int x8), .val (.int (30583 : Int32))]) (fun v25 => [.int v25]) (if (g i) = (30583 : Int32) then (1 : Int32) else (0 : Int32)) ?_ (fun J26 => ?_)
    · intro v25 hv25
      have hres : v25 = oneF (x4 < x5) (fa i) (fb i) (fc i) (g i) x6 x7 x8 := by rw [oneF, expF, if_neg c4]; exact hv25
      exact Wk.retN C J d3_66 (by decide) (by decide) (by simp) rfl (fun h O => ⟨by rw [hres], O⟩)
    · skip
      refine Wk.icmp_ne (pcT := 65) (pcF := 61) C d3_58 (by decide) (by decide) rfl (fun c27 => ?_) (fun c27 => ?_)
      · skip
        refine Wk.iconst (z := (0 : Int32)) (pc' := 66) C d3_65 rfl rfl ?_
        exact J26 _ (by first | rw [if_neg c27] | simp only [if_neg c27] | rfl)
      · skip
        refine Wk.iconst (z := (1 : Int32)) (pc' := 62) C d3_61 rfl rfl ?_
        refine Wk.goto (pc' := 66) C d3_62 (by decide) (by decide) ?_
        exact J26 _ (by first | rw [if_pos c27] | simp only [if_pos c27] | rfl)
theorem own_five (s v : Int32) (h : v = (s &&& (2147483647 : Int32)) % (5 : Int32)) : 0 ≤ v.toInt ∧ v.toInt ≤ 4 := by
  have m := c_mask s 2147483647 31 (by decide) (by decide)
  have e := (c_irem (s &&& (2147483647 : Int32)) 5 5 rfl).1 (by omega)
  rw [← h] at e
  omega
def Ch (x : Int32) : Prop := 0 ≤ x.toInt ∧ x.toInt ≤ 65535
theorem upd_rng {f : Nat → Int32} {i : Nat} {v : Int32} (hf : ∀ j, Ch (f j)) (hv : Ch v) : ∀ j, Ch (upd f i v j) := fun j => by
  unfold upd; split
  · exact hv
  · exact hf j
theorem ch0 : ∀ j : Nat, Ch ((fun _ => (0 : Int32)) j) := fun _ => (by decide : (0 : Int) ≤ (0 : Int32).toInt ∧ (0 : Int32).toInt ≤ 65535)
theorem chn (x : Int32) : Ch (nar .char x) := by
  have h := rng_char (fits_nar_char x)
  rw [Int32.lt_iff_toInt_lt, Int32.lt_iff_toInt_lt] at h
  have z0 : (0 : Int32).toInt = 0 := rfl
  have z1 : (65535 : Int32).toInt = 65535 := rfl
  unfold Ch
  omega
theorem chm (x v : Int32) (h : v = x &&& (65535 : Int32)) : Ch v := by
  have m := c_mask x 65535 16 (by decide) (by decide)
  rw [← h] at m
  unfold Ch
  omega
theorem own_nat (x : Int32) (h : 0 ≤ x.toInt) : (x.toBitVec.toNat : Int) = x.toInt := by
  have e := Int32.toInt_toBitVec x
  rw [← e] at h ⊢
  have l := x.toBitVec.isLt
  rw [BitVec.toInt_eq_toNat_cond] at h ⊢
  split at h
  · rename_i q; rw [if_pos q]
  · omega
theorem ch_nat {x : Int32} (h : Ch x) : x.toBitVec.toNat < 2 ^ 16 := by
  have e := own_nat x h.1
  have h2 := h.2
  omega
theorem own_and15 (x : BitVec 32) (h : x.getLsbD 15 = false) : x &&& 32768#32 = 0#32 := by
  have e : 32768#32 = BitVec.twoPow 32 15 := by decide
  rw [e, BitVec.and_twoPow, h]; rfl
theorem own_zero (d : Int32) (hd : d.toBitVec.toNat < 2 ^ 16) (hn : ¬ d = 0) : vv d = 0 := by
  have key : (((d - (1 : Int32)) &&& (d ^^^ (-1 : Int32))) &&& (32768 : Int32)) = 0 := by
    refine Int32.toBitVec_inj.mp ?_
    show ((d.toBitVec - 1#32) &&& (d.toBitVec ^^^ 4294967295#32)) &&& 32768#32 = 0#32
    refine own_and15 _ ?_
    have hz : d.toBitVec.toNat ≠ 0 := fun q => hn (Int32.toBitVec_inj.mp (BitVec.eq_of_toNat_eq q))
    rw [BitVec.getLsbD_and, BitVec.getLsbD_xor]
    by_cases q : d.toBitVec.toNat < 32768
    · have e1 : (d.toBitVec - 1#32).toNat < 2 ^ 15 := by
        rw [BitVec.toNat_sub]
        have : (1#32).toNat = 1 := rfl
        omega
      have e2 : (d.toBitVec - 1#32).getLsbD 15 = false := Nat.testBit_lt_two_pow e1
      rw [e2, Bool.false_and]
    · have e2 : d.toBitVec.getLsbD 15 = true := by
        show d.toBitVec.toNat.testBit 15 = true
        rw [Nat.testBit_eq_decide_div_mod_eq]
        have : d.toBitVec.toNat / 2 ^ 15 % 2 = 1 := by omega
        simpa using this
      have e3 : (4294967295#32).getLsbD 15 = true := by decide
      rw [e2, e3]; simp
  unfold vv
  rw [key]; rfl
theorem own_flag (f m l a b c : Int32) (hf : Ch f) (hm : Ch m) (hl : Ch l) (ha : Ch a) (hb : Ch b) (hc : Ch c) : vv (dd f m l a b c) = (if f = a then (if m = b then (if l = c then (32768 : Int32) else (0 : Int32)) else (0 : Int32)) else (0 : Int32)) := by
  have hlt : (dd f m l a b c).toBitVec.toNat < 2 ^ 16 := by
    show (((f.toBitVec ^^^ a.toBitVec) ||| (m.toBitVec ^^^ b.toBitVec)) ||| (l.toBitVec ^^^ c.toBitVec)).toNat < 2 ^ 16
    rw [BitVec.toNat_or, BitVec.toNat_or, BitVec.toNat_xor, BitVec.toNat_xor, BitVec.toNat_xor]
    exact Nat.or_lt_two_pow (Nat.or_lt_two_pow (Nat.xor_lt_two_pow (ch_nat hf) (ch_nat ha)) (Nat.xor_lt_two_pow (ch_nat hm) (ch_nat hb))) (Nat.xor_lt_two_pow (ch_nat hl) (ch_nat hc))
  have hz : dd f m l a b c = 0 → f = a ∧ m = b ∧ l = c := fun q => by
    have q1 : ((f.toBitVec ^^^ a.toBitVec) ||| (m.toBitVec ^^^ b.toBitVec)) ||| (l.toBitVec ^^^ c.toBitVec) = 0#32 := congrArg Int32.toBitVec q
    rw [BitVec.or_eq_zero_iff, BitVec.or_eq_zero_iff, BitVec.xor_eq_zero_iff, BitVec.xor_eq_zero_iff, BitVec.xor_eq_zero_iff] at q1
    exact ⟨Int32.toBitVec_inj.mp q1.1.1, Int32.toBitVec_inj.mp q1.1.2, Int32.toBitVec_inj.mp q1.2⟩
  by_cases h1 : f = a
  · rw [if_pos h1]
    by_cases h2 : m = b
    · rw [if_pos h2]
      by_cases h3 : l = c
      · rw [if_pos h3]
        subst h1 h2 h3
        have e : dd f m l f m l = 0 := by unfold dd; rw [Int32.xor_self, Int32.xor_self, Int32.xor_self]; decide
        rw [e]; decide
      · rw [if_neg h3]; exact own_zero _ hlt fun q => h3 (hz q).2.2
    · rw [if_neg h2]; exact own_zero _ hlt fun q => h2 (hz q).2.1
  · rw [if_neg h1]; exact own_zero _ hlt fun q => h1 (hz q).1

theorem own_one {f m l g : Nat → Int32} {a b c : Int32} {i nn : Nat} {P : Prop} [Decidable P] (hP : P ↔ i < nn) (hf : ∀ j, Ch (f j)) (hm : ∀ j, Ch (m j)) (hl : ∀ j, Ch (l j)) (ha : Ch a) (hb : Ch b) (hc : Ch c) (hg : g i = (30583 : Int32)) : nar .boolean (oneF P (f i) (m i) (l i) (flg f m l a b c g nn i) a b c) = 1 := by
  have e : flg f m l a b c g nn i = expF P (f i) (m i) (l i) a b c := by
    unfold flg expF
    by_cases q : i < nn
    · rw [if_pos q, if_pos (hP.mpr q)]; exact own_flag _ _ _ _ _ _ (hf i) (hm i) (hl i) ha hb hc
    · rw [if_neg q, if_neg (fun z => q (hP.mp z))]; exact hg
  unfold oneF
  rw [if_pos e]; rfl
theorem ef_rmLaw (m : MethodId) (x0 : Int32) (x1 : Int32) (x2 : Int32) (x3 : Int32) (x4 : Int32) (x5 : Int32) : entryFrame m #[.int x0, .int x1, .int x2, .int x3, .int x4, .int x5] 14 = mkF m 0 #[.val (.int x0), .val (.int x1), .val (.int x2), .val (.int x3), .val (.int x4), .val (.int x5), .unset, .unset, .unset, .unset, .unset, .unset, .unset, .unset] [] := by first | (simp [entryFrame, mkF, argsToLocals, Value.category]; done) | rfl
set_option maxRecDepth 65536 in
set_option maxHeartbeats 40000000 in
theorem rmLaw (l : Launch) (Z : State) (a0 : Array Value) (hw : HW Z a0) (x0 : Int32) (x1 : Int32) (x2 : Int32) (x3 : Int32) (x4 : Int32) (x5 : Int32) (h : Heap) (n0 : Nat) (O : Own n0 h []) :
    Meth l Z x code maxLocals ret tables_1 room_1 #[.int x0, .int x1, .int x2, .int x3, .int x4, .int x5] h n0 (fun v h' => v = some (.int 1)) := by
  refine Meth.of (plainFor_of_name pn_0) (fun m => ef_rmLaw m x0 x1 x2 x3 x4 x5) O ?_
  intro p e m below meth c M FE C J
  change Cx Z "com/example/frugal_match/frugalmatch/matcher/SkipFlagPinLaw" "law" code 14 (some .boolean) p m meth c M at C
  clear O
  refine Wk.iloadN (pc' := 1) C at_0 rfl rfl ?_
  refine Wk.ldcInt (z := (65535 : Int32)) (pc' := 3) C (w0 hw) at_1 rfl ?_
  refine Wk.iand (pc' := 4) C at_3 rfl ?_
  refine Wk.istoreV (fun v28 => #[.val (.int x0), .val (.int x1), .val (.int x2), .val (.int x3), .val (.int x4), .val (.int x5), .val (.int v28), .unset, .unset, .unset, .unset, .unset, .unset, .unset]) (pc' := 6) C at_4 rfl rfl ?_
  intro v28 hv28
  refine Wk.iloadN (pc' := 7) C at_6 rfl rfl ?_
  refine Wk.ldcInt (z := (65535 : Int32)) (pc' := 9) C (w0 hw) at_7 rfl ?_
  refine Wk.iand (pc' := 10) C at_9 rfl ?_
  refine Wk.istoreV (fun v29 => #[.val (.int x0), .val (.int x1), .val (.int x2), .val (.int x3), .val (.int x4), .val (.int x5), .val (.int v28), .val (.int v29), .unset, .unset, .unset, .unset, .unset, .unset]) (pc' := 12) C at_10 rfl rfl ?_
  intro v29 hv29
  refine Wk.iloadN (pc' := 13) C at_12 rfl rfl ?_
  refine Wk.ldcInt (z := (65535 : Int32)) (pc' := 15) C (w0 hw) at_13 rfl ?_
  refine Wk.iand (pc' := 16) C at_15 rfl ?_
  refine Wk.istoreV (fun v30 => #[.val (.int x0), .val (.int x1), .val (.int x2), .val (.int x3), .val (.int x4), .val (.int x5), .val (.int v28), .val (.int v29), .val (.int v30), .unset, .unset, .unset, .unset, .unset]) (pc' := 18) C at_16 rfl rfl ?_
  intro v30 hv30
  refine Wk.iload (pc' := 20) C at_18 rfl rfl ?_
  refine Wk.ldcInt (z := (2147483647 : Int32)) (pc' := 22) C (w1 hw) at_20 rfl ?_
  refine Wk.iand (pc' := 23) C at_22 rfl ?_
  refine Wk.iconst (z := (5 : Int32)) (pc' := 24) C at_23 rfl rfl ?_
  refine Wk.irem (pc' := 25) C at_24 (by decide) rfl ?_
  refine Wk.istoreV (fun v31 => #[.val (.int x0), .val (.int x1), .val (.int x2), .val (.int x3), .val (.int x4), .val (.int x5), .val (.int v28), .val (.int v29), .val (.int v30), .val (.int v31), .unset, .unset, .unset, .unset]) (pc' := 27) C at_25 rfl rfl ?_
  intro v31 hv31
  have h5 := own_five x5 v31 hv31
  obtain ⟨nn, hnn⟩ : ∃ nn : Nat, v31.toInt = (nn : Int) := ⟨v31.toInt.toNat, by omega⟩
  have hle : nn ≤ 4 := by omega
  refine Wk.iconst (z := (4 : Int32)) (pc' := 28) C at_27 rfl rfl ?_
  refine Wk.newarray (pc' := 30) (aty := .char) (nn := 4) (cap := 4) (d := 0) C (w2 hw) at_28 rfl rfl (by decide) (by decide) (by decide) (by decide) (by decide) rfl ?_
  intro a32
  change Wk p l e _ m _ below meth c _ _ n0 ((a32, ArrC Z .char 4 (fun _ => 0)) :: []) 1 4 30 #[.val (.int x0), .val (.int x1), .val (.int x2), .val (.int x3), .val (.int x4), .val (.int x5), .val (.int v28), .val (.int v29), .val (.int v30), .val (.int v31), .unset, .unset, .unset, .unset] [.ref a32]
  refine Wk.astore (Ls' := #[.val (.int x0), .val (.int x1), .val (.int x2), .val (.int x3), .val (.int x4), .val (.int x5), .val (.int v28), .val (.int v29), .val (.int v30), .val (.int v31), .val (.ref a32), .unset, .unset, .unset]) (pc' := 32) C at_30 rfl rfl rfl ?_
  refine Wk.iconst (z := (4 : Int32)) (pc' := 33) C at_32 rfl rfl ?_
  refine Wk.newarray (pc' := 35) (aty := .char) (nn := 4) (cap := 4) (d := 0) C (w2 hw) at_33 rfl rfl (by decide) (by decide) (by decide) (by decide) (by decide) rfl ?_
  intro a33
  change Wk p l e _ m _ below meth c _ _ n0 ((a33, ArrC Z .char 4 (fun _ => 0)) :: (a32, ArrC Z .char 4 (fun _ => 0)) :: []) 2 8 35 #[.val (.int x0), .val (.int x1), .val (.int x2), .val (.int x3), .val (.int x4), .val (.int x5), .val (.int v28), .val (.int v29), .val (.int v30), .val (.int v31), .val (.ref a32), .unset, .unset, .unset] [.ref a33]
  refine Wk.astore (Ls' := #[.val (.int x0), .val (.int x1), .val (.int x2), .val (.int x3), .val (.int x4), .val (.int x5), .val (.int v28), .val (.int v29), .val (.int v30), .val (.int v31), .val (.ref a32), .val (.ref a33), .unset, .unset]) (pc' := 37) C at_35 rfl rfl rfl ?_
  refine Wk.iconst (z := (4 : Int32)) (pc' := 38) C at_37 rfl rfl ?_
  refine Wk.newarray (pc' := 40) (aty := .char) (nn := 4) (cap := 4) (d := 0) C (w2 hw) at_38 rfl rfl (by decide) (by decide) (by decide) (by decide) (by decide) rfl ?_
  intro a34
  change Wk p l e _ m _ below meth c _ _ n0 ((a34, ArrC Z .char 4 (fun _ => 0)) :: (a33, ArrC Z .char 4 (fun _ => 0)) :: (a32, ArrC Z .char 4 (fun _ => 0)) :: []) 3 12 40 #[.val (.int x0), .val (.int x1), .val (.int x2), .val (.int x3), .val (.int x4), .val (.int x5), .val (.int v28), .val (.int v29), .val (.int v30), .val (.int v31), .val (.ref a32), .val (.ref a33), .unset, .unset] [.ref a34]
  refine Wk.astore (Ls' := #[.val (.int x0), .val (.int x1), .val (.int x2), .val (.int x3), .val (.int x4), .val (.int x5), .val (.int v28), .val (.int v29), .val (.int v30), .val (.int v31), .val (.ref a32), .val (.ref a33), .val (.ref a34), .unset]) (pc' := 42) C at_40 rfl rfl rfl ?_
  refine Wk.aload (pc' := 44) C at_42 rfl rfl rfl ?_
  refine Wk.iconst (z := (0 : Int32)) (pc' := 45) C at_44 rfl rfl ?_
  refine Wk.iload (pc' := 47) C at_45 rfl rfl ?_
  refine Wk.iloadN (pc' := 48) C at_47 rfl rfl ?_
  refine Wk.iload (pc' := 50) C at_48 rfl rfl ?_
  refine Wk.iconst (z := (0 : Int32)) (pc' := 51) C at_50 rfl rfl ?_
  refine Wk.callS (pc' := 54) (rm := { frames := 0, cells := 0, slots := 0, locals := 0 }) (W0 := 2) (argsL := [.int v28, .int x3, .int x4, .int (0 : Int32)]) (st := [.int (0 : Int32), .ref a32]) C (w3 hw) (w4 hw) (w5 hw) (w6 hw) (by decide) (fun h O => rm1 l Z a0 hw v28 x3 x4 (0 : Int32) ((a34, ArrC Z .char 4 (fun _ => 0)) :: (a33, ArrC Z .char 4 (fun _ => 0)) :: (a32, ArrC Z .char 4 (fun _ => 0)) :: []) h n0 O) (by decide) (by decide) (by decide) (by decide) at_51 rfl pd_0 rfl rfl rfl rfl ?_
  rintro _ h' ⟨rfl, O'⟩
  refine ⟨_, O', ?_⟩
  change Wk p l e _ m _ below meth c _ _ n0 ((a34, ArrC Z .char 4 (fun _ => 0)) :: (a33, ArrC Z .char 4 (fun _ => 0)) :: (a32, ArrC Z .char 4 (fun _ => 0)) :: []) 3 12 54 #[.val (.int x0), .val (.int x1), .val (.int x2), .val (.int x3), .val (.int x4), .val (.int x5), .val (.int v28), .val (.int v29), .val (.int v30), .val (.int v31), .val (.ref a32), .val (.ref a33), .val (.ref a34), .unset] [.int (nar .char (F1 v28 x3 x4 (0 : Int32))), .int (0 : Int32), .ref a32]
  refine Wk.castore (pc' := 55) (q := 2) (i := 0) C at_54 rfl (by decide) (by decide) rfl ?_
  change Wk p l e _ m _ below meth c _ _ n0 ((a34, ArrC Z .char 4 (fun _ => 0)) :: (a33, ArrC Z .char 4 (fun _ => 0)) :: (a32, ArrC Z .char 4 (upd (fun _ => 0) 0 (nar .char (nar .char (F1 v28 x3 x4 (0 : Int32)))))) :: []) 3 12 55 #[.val (.int x0), .val (.int x1), .val (.int x2), .val (.int x3), .val (.int x4), .val (.int x5), .val (.int v28), .val (.int v29), .val (.int v30), .val (.int v31), .val (.ref a32), .val (.ref a33), .val (.ref a34), .unset] []
  refine Wk.aload (pc' := 57) C at_55 rfl rfl rfl ?_
  refine Wk.iconst (z := (0 : Int32)) (pc' := 58) C at_57 rfl rfl ?_
  refine Wk.iload (pc' := 60) C at_58 rfl rfl ?_
  refine Wk.iloadN (pc' := 61) C at_60 rfl rfl ?_
  refine Wk.iload (pc' := 63) C at_61 rfl rfl ?_
  refine Wk.iconst (z := (1 : Int32)) (pc' := 64) C at_63 rfl rfl ?_
  refine Wk.callS (pc' := 67) (rm := { frames := 0, cells := 0, slots := 0, locals := 0 }) (W0 := 2) (argsL := [.int v29, .int x3, .int x4, .int (1 : Int32)]) (st := [.int (0 : Int32), .ref a33]) C (w3 hw) (w4 hw) (w5 hw) (w6 hw) (by decide) (fun h O => rm1 l Z a0 hw v29 x3 x4 (1 : Int32) ((a34, ArrC Z .char 4 (fun _ => 0)) :: (a33, ArrC Z .char 4 (fun _ => 0)) :: (a32, ArrC Z .char 4 (upd (fun _ => 0) 0 (nar .char (nar .char (F1 v28 x3 x4 (0 : Int32)))))) :: []) h n0 O) (by decide) (by decide) (by decide) (by decide) at_64 rfl pd_0 rfl rfl rfl rfl ?_
  rintro _ h' ⟨rfl, O'⟩
  refine ⟨_, O', ?_⟩
  change Wk p l e _ m _ below meth c _ _ n0 ((a34, ArrC Z .char 4 (fun _ => 0)) :: (a33, ArrC Z .char 4 (fun _ => 0)) :: (a32, ArrC Z .char 4 (upd (fun _ => 0) 0 (nar .char (nar .char (F1 v28 x3 x4 (0 : Int32)))))) :: []) 3 12 67 #[.val (.int x0), .val (.int x1), .val (.int x2), .val (.int x3), .val (.int x4), .val (.int x5), .val (.int v28), .val (.int v29), .val (.int v30), .val (.int v31), .val (.ref a32), .val (.ref a33), .val (.ref a34), .unset] [.int (nar .char (F1 v29 x3 x4 (1 : Int32))), .int (0 : Int32), .ref a33]
  refine Wk.castore (pc' := 68) (q := 1) (i := 0) C at_67 rfl (by decide) (by decide) rfl ?_
  change Wk p l e _ m _ below meth c _ _ n0 ((a34, ArrC Z .char 4 (fun _ => 0)) :: (a33, ArrC Z .char 4 (upd (fun _ => 0) 0 (nar .char (nar .char (F1 v29 x3 x4 (1 : Int32)))))) :: (a32, ArrC Z .char 4 (upd (fun _ => 0) 0 (nar .char (nar .char (F1 v28 x3 x4 (0 : Int32)))))) :: []) 3 12 68 #[.val (.int x0), .val (.int x1), .val (.int x2), .val (.int x3), .val (.int x4), .val (.int x5), .val (.int v28), .val (.int v29), .val (.int v30), .val (.int v31), .val (.ref a32), .val (.ref a33), .val (.ref a34), .unset] []
  refine Wk.aload (pc' := 70) C at_68 rfl rfl rfl ?_
  refine Wk.iconst (z := (0 : Int32)) (pc' := 71) C at_70 rfl rfl ?_
  refine Wk.iload (pc' := 73) C at_71 rfl rfl ?_
  refine Wk.iloadN (pc' := 74) C at_73 rfl rfl ?_
  refine Wk.iload (pc' := 76) C at_74 rfl rfl ?_
  refine Wk.iconst (z := (2 : Int32)) (pc' := 77) C at_76 rfl rfl ?_
  refine Wk.callS (pc' := 80) (rm := { frames := 0, cells := 0, slots := 0, locals := 0 }) (W0 := 2) (argsL := [.int v30, .int x3, .int x4, .int (2 : Int32)]) (st := [.int (0 : Int32), .ref a34]) C (w3 hw) (w4 hw) (w5 hw) (w6 hw) (by decide) (fun h O => rm1 l Z a0 hw v30 x3 x4 (2 : Int32) ((a34, ArrC Z .char 4 (fun _ => 0)) :: (a33, ArrC Z .char 4 (upd (fun _ => 0) 0 (nar .char (nar .char (F1 v29 x3 x4 (1 : Int32)))))) :: (a32, ArrC Z .char 4 (upd (fun _ => 0) 0 (nar .char (nar .char (F1 v28 x3 x4 (0 : Int32)))))) :: []) h n0 O) (by decide) (by decide) (by decide) (by decide) at_77 rfl pd_0 rfl rfl rfl rfl ?_
  rintro _ h' ⟨rfl, O'⟩
  refine ⟨_, O', ?_⟩
  change Wk p l e _ m _ below meth c _ _ n0 ((a34, ArrC Z .char 4 (fun _ => 0)) :: (a33, ArrC Z .char 4 (upd (fun _ => 0) 0 (nar .char (nar .char (F1 v29 x3 x4 (1 : Int32)))))) :: (a32, ArrC Z .char 4 (upd (fun _ => 0) 0 (nar .char (nar .char (F1 v28 x3 x4 (0 : Int32)))))) :: []) 3 12 80 #[.val (.int x0), .val (.int x1), .val (.int x2), .val (.int x3), .val (.int x4), .val (.int x5), .val (.int v28), .val (.int v29), .val (.int v30), .val (.int v31), .val (.ref a32), .val (.ref a33), .val (.ref a34), .unset] [.int (nar .char (F1 v30 x3 x4 (2 : Int32))), .int (0 : Int32), .ref a34]
  refine Wk.castore (pc' := 81) (q := 0) (i := 0) C at_80 rfl (by decide) (by decide) rfl ?_
  change Wk p l e _ m _ below meth c _ _ n0 ((a34, ArrC Z .char 4 (upd (fun _ => 0) 0 (nar .char (nar .char (F1 v30 x3 x4 (2 : Int32)))))) :: (a33, ArrC Z .char 4 (upd (fun _ => 0) 0 (nar .char (nar .char (F1 v29 x3 x4 (1 : Int32)))))) :: (a32, ArrC Z .char 4 (upd (fun _ => 0) 0 (nar .char (nar .char (F1 v28 x3 x4 (0 : Int32)))))) :: []) 3 12 81 #[.val (.int x0), .val (.int x1), .val (.int x2), .val (.int x3), .val (.int x4), .val (.int x5), .val (.int v28), .val (.int v29), .val (.int v30), .val (.int v31), .val (.ref a32), .val (.ref a33), .val (.ref a34), .unset] []
  refine Wk.aload (pc' := 83) C at_81 rfl rfl rfl ?_
  refine Wk.iconst (z := (1 : Int32)) (pc' := 84) C at_83 rfl rfl ?_
  refine Wk.iload (pc' := 86) C at_84 rfl rfl ?_
  refine Wk.iloadN (pc' := 87) C at_86 rfl rfl ?_
  refine Wk.iload (pc' := 89) C at_87 rfl rfl ?_
  refine Wk.iconst (z := (3 : Int32)) (pc' := 90) C at_89 rfl rfl ?_
  refine Wk.callS (pc' := 93) (rm := { frames := 0, cells := 0, slots := 0, locals := 0 }) (W0 := 2) (argsL := [.int v28, .int x3, .int x4, .int (3 : Int32)]) (st := [.int (1 : Int32), .ref a32]) C (w3 hw) (w4 hw) (w5 hw) (w6 hw) (by decide) (fun h O => rm1 l Z a0 hw v28 x3 x4 (3 : Int32) ((a34, ArrC Z .char 4 (upd (fun _ => 0) 0 (nar .char (nar .char (F1 v30 x3 x4 (2 : Int32)))))) :: (a33, ArrC Z .char 4 (upd (fun _ => 0) 0 (nar .char (nar .char (F1 v29 x3 x4 (1 : Int32)))))) :: (a32, ArrC Z .char 4 (upd (fun _ => 0) 0 (nar .char (nar .char (F1 v28 x3 x4 (0 : Int32)))))) :: []) h n0 O) (by decide) (by decide) (by decide) (by decide) at_90 rfl pd_0 rfl rfl rfl rfl ?_
  rintro _ h' ⟨rfl, O'⟩
  refine ⟨_, O', ?_⟩
  change Wk p l e _ m _ below meth c _ _ n0 ((a34, ArrC Z .char 4 (upd (fun _ => 0) 0 (nar .char (nar .char (F1 v30 x3 x4 (2 : Int32)))))) :: (a33, ArrC Z .char 4 (upd (fun _ => 0) 0 (nar .char (nar .char (F1 v29 x3 x4 (1 : Int32)))))) :: (a32, ArrC Z .char 4 (upd (fun _ => 0) 0 (nar .char (nar .char (F1 v28 x3 x4 (0 : Int32)))))) :: []) 3 12 93 #[.val (.int x0), .val (.int x1), .val (.int x2), .val (.int x3), .val (.int x4), .val (.int x5), .val (.int v28), .val (.int v29), .val (.int v30), .val (.int v31), .val (.ref a32), .val (.ref a33), .val (.ref a34), .unset] [.int (nar .char (F1 v28 x3 x4 (3 : Int32))), .int (1 : Int32), .ref a32]
  refine Wk.castore (pc' := 94) (q := 2) (i := 1) C at_93 rfl (by decide) (by decide) rfl ?_
  change Wk p l e _ m _ below meth c _ _ n0 ((a34, ArrC Z .char 4 (upd (fun _ => 0) 0 (nar .char (nar .char (F1 v30 x3 x4 (2 : Int32)))))) :: (a33, ArrC Z .char 4 (upd (fun _ => 0) 0 (nar .char (nar .char (F1 v29 x3 x4 (1 : Int32)))))) :: (a32, ArrC Z .char 4 (upd (upd (fun _ => 0) 0 (nar .char (nar .char (F1 v28 x3 x4 (0 : Int32))))) 1 (nar .char (nar .char (F1 v28 x3 x4 (3 : Int32)))))) :: []) 3 12 94 #[.val (.int x0), .val (.int x1), .val (.int x2), .val (.int x3), .val (.int x4), .val (.int x5), .val (.int v28), .val (.int v29), .val (.int v30), .val (.int v31), .val (.ref a32), .val (.ref a33), .val (.ref a34), .unset] []
  refine Wk.aload (pc' := 96) C at_94 rfl rfl rfl ?_
  refine Wk.iconst (z := (1 : Int32)) (pc' := 97) C at_96 rfl rfl ?_
  refine Wk.iload (pc' := 99) C at_97 rfl rfl ?_
  refine Wk.iloadN (pc' := 100) C at_99 rfl rfl ?_
  refine Wk.iload (pc' := 102) C at_100 rfl rfl ?_
  refine Wk.iconst (z := (4 : Int32)) (pc' := 103) C at_102 rfl rfl ?_
  refine Wk.callS (pc' := 106) (rm := { frames := 0, cells := 0, slots := 0, locals := 0 }) (W0 := 2) (argsL := [.int v29, .int x3, .int x4, .int (4 : Int32)]) (st := [.int (1 : Int32), .ref a33]) C (w3 hw) (w4 hw) (w5 hw) (w6 hw) (by decide) (fun h O => rm1 l Z a0 hw v29 x3 x4 (4 : Int32) ((a34, ArrC Z .char 4 (upd (fun _ => 0) 0 (nar .char (nar .char (F1 v30 x3 x4 (2 : Int32)))))) :: (a33, ArrC Z .char 4 (upd (fun _ => 0) 0 (nar .char (nar .char (F1 v29 x3 x4 (1 : Int32)))))) :: (a32, ArrC Z .char 4 (upd (upd (fun _ => 0) 0 (nar .char (nar .char (F1 v28 x3 x4 (0 : Int32))))) 1 (nar .char (nar .char (F1 v28 x3 x4 (3 : Int32)))))) :: []) h n0 O) (by decide) (by decide) (by decide) (by decide) at_103 rfl pd_0 rfl rfl rfl rfl ?_
  rintro _ h' ⟨rfl, O'⟩
  refine ⟨_, O', ?_⟩
  change Wk p l e _ m _ below meth c _ _ n0 ((a34, ArrC Z .char 4 (upd (fun _ => 0) 0 (nar .char (nar .char (F1 v30 x3 x4 (2 : Int32)))))) :: (a33, ArrC Z .char 4 (upd (fun _ => 0) 0 (nar .char (nar .char (F1 v29 x3 x4 (1 : Int32)))))) :: (a32, ArrC Z .char 4 (upd (upd (fun _ => 0) 0 (nar .char (nar .char (F1 v28 x3 x4 (0 : Int32))))) 1 (nar .char (nar .char (F1 v28 x3 x4 (3 : Int32)))))) :: []) 3 12 106 #[.val (.int x0), .val (.int x1), .val (.int x2), .val (.int x3), .val (.int x4), .val (.int x5), .val (.int v28), .val (.int v29), .val (.int v30), .val (.int v31), .val (.ref a32), .val (.ref a33), .val (.ref a34), .unset] [.int (nar .char (F1 v29 x3 x4 (4 : Int32))), .int (1 : Int32), .ref a33]
  refine Wk.castore (pc' := 107) (q := 1) (i := 1) C at_106 rfl (by decide) (by decide) rfl ?_
  change Wk p l e _ m _ below meth c _ _ n0 ((a34, ArrC Z .char 4 (upd (fun _ => 0) 0 (nar .char (nar .char (F1 v30 x3 x4 (2 : Int32)))))) :: (a33, ArrC Z .char 4 (upd (upd (fun _ => 0) 0 (nar .char (nar .char (F1 v29 x3 x4 (1 : Int32))))) 1 (nar .char (nar .char (F1 v29 x3 x4 (4 : Int32)))))) :: (a32, ArrC Z .char 4 (upd (upd (fun _ => 0) 0 (nar .char (nar .char (F1 v28 x3 x4 (0 : Int32))))) 1 (nar .char (nar .char (F1 v28 x3 x4 (3 : Int32)))))) :: []) 3 12 107 #[.val (.int x0), .val (.int x1), .val (.int x2), .val (.int x3), .val (.int x4), .val (.int x5), .val (.int v28), .val (.int v29), .val (.int v30), .val (.int v31), .val (.ref a32), .val (.ref a33), .val (.ref a34), .unset] []
  refine Wk.aload (pc' := 109) C at_107 rfl rfl rfl ?_
  refine Wk.iconst (z := (1 : Int32)) (pc' := 110) C at_109 rfl rfl ?_
  refine Wk.iload (pc' := 112) C at_110 rfl rfl ?_
  refine Wk.iloadN (pc' := 113) C at_112 rfl rfl ?_
  refine Wk.iload (pc' := 115) C at_113 rfl rfl ?_
  refine Wk.iconst (z := (5 : Int32)) (pc' := 116) C at_115 rfl rfl ?_
  refine Wk.callS (pc' := 119) (rm := { frames := 0, cells := 0, slots := 0, locals := 0 }) (W0 := 2) (argsL := [.int v30, .int x3, .int x4, .int (5 : Int32)]) (st := [.int (1 : Int32), .ref a34]) C (w3 hw) (w4 hw) (w5 hw) (w6 hw) (by decide) (fun h O => rm1 l Z a0 hw v30 x3 x4 (5 : Int32) ((a34, ArrC Z .char 4 (upd (fun _ => 0) 0 (nar .char (nar .char (F1 v30 x3 x4 (2 : Int32)))))) :: (a33, ArrC Z .char 4 (upd (upd (fun _ => 0) 0 (nar .char (nar .char (F1 v29 x3 x4 (1 : Int32))))) 1 (nar .char (nar .char (F1 v29 x3 x4 (4 : Int32)))))) :: (a32, ArrC Z .char 4 (upd (upd (fun _ => 0) 0 (nar .char (nar .char (F1 v28 x3 x4 (0 : Int32))))) 1 (nar .char (nar .char (F1 v28 x3 x4 (3 : Int32)))))) :: []) h n0 O) (by decide) (by decide) (by decide) (by decide) at_116 rfl pd_0 rfl rfl rfl rfl ?_
  rintro _ h' ⟨rfl, O'⟩
  refine ⟨_, O', ?_⟩
  change Wk p l e _ m _ below meth c _ _ n0 ((a34, ArrC Z .char 4 (upd (fun _ => 0) 0 (nar .char (nar .char (F1 v30 x3 x4 (2 : Int32)))))) :: (a33, ArrC Z .char 4 (upd (upd (fun _ => 0) 0 (nar .char (nar .char (F1 v29 x3 x4 (1 : Int32))))) 1 (nar .char (nar .char (F1 v29 x3 x4 (4 : Int32)))))) :: (a32, ArrC Z .char 4 (upd (upd (fun _ => 0) 0 (nar .char (nar .char (F1 v28 x3 x4 (0 : Int32))))) 1 (nar .char (nar .char (F1 v28 x3 x4 (3 : Int32)))))) :: []) 3 12 119 #[.val (.int x0), .val (.int x1), .val (.int x2), .val (.int x3), .val (.int x4), .val (.int x5), .val (.int v28), .val (.int v29), .val (.int v30), .val (.int v31), .val (.ref a32), .val (.ref a33), .val (.ref a34), .unset] [.int (nar .char (F1 v30 x3 x4 (5 : Int32))), .int (1 : Int32), .ref a34]
  refine Wk.castore (pc' := 120) (q := 0) (i := 1) C at_119 rfl (by decide) (by decide) rfl ?_
  change Wk p l e _ m _ below meth c _ _ n0 ((a34, ArrC Z .char 4 (upd (upd (fun _ => 0) 0 (nar .char (nar .char (F1 v30 x3 x4 (2 : Int32))))) 1 (nar .char (nar .char (F1 v30 x3 x4 (5 : Int32)))))) :: (a33, ArrC Z .char 4 (upd (upd (fun _ => 0) 0 (nar .char (nar .char (F1 v29 x3 x4 (1 : Int32))))) 1 (nar .char (nar .char (F1 v29 x3 x4 (4 : Int32)))))) :: (a32, ArrC Z .char 4 (upd (upd (fun _ => 0) 0 (nar .char (nar .char (F1 v28 x3 x4 (0 : Int32))))) 1 (nar .char (nar .char (F1 v28 x3 x4 (3 : Int32)))))) :: []) 3 12 120 #[.val (.int x0), .val (.int x1), .val (.int x2), .val (.int x3), .val (.int x4), .val (.int x5), .val (.int v28), .val (.int v29), .val (.int v30), .val (.int v31), .val (.ref a32), .val (.ref a33), .val (.ref a34), .unset] []
  refine Wk.aload (pc' := 122) C at_120 rfl rfl rfl ?_
  refine Wk.iconst (z := (2 : Int32)) (pc' := 123) C at_122 rfl rfl ?_
  refine Wk.iload (pc' := 125) C at_123 rfl rfl ?_
  refine Wk.iloadN (pc' := 126) C at_125 rfl rfl ?_
  refine Wk.iload (pc' := 128) C at_126 rfl rfl ?_
  refine Wk.bipush (z := (6 : Int32)) (pc' := 130) C at_128 rfl rfl ?_
  refine Wk.callS (pc' := 133) (rm := { frames := 0, cells := 0, slots := 0, locals := 0 }) (W0 := 2) (argsL := [.int v28, .int x3, .int x4, .int (6 : Int32)]) (st := [.int (2 : Int32), .ref a32]) C (w3 hw) (w4 hw) (w5 hw) (w6 hw) (by decide) (fun h O => rm1 l Z a0 hw v28 x3 x4 (6 : Int32) ((a34, ArrC Z .char 4 (upd (upd (fun _ => 0) 0 (nar .char (nar .char (F1 v30 x3 x4 (2 : Int32))))) 1 (nar .char (nar .char (F1 v30 x3 x4 (5 : Int32)))))) :: (a33, ArrC Z .char 4 (upd (upd (fun _ => 0) 0 (nar .char (nar .char (F1 v29 x3 x4 (1 : Int32))))) 1 (nar .char (nar .char (F1 v29 x3 x4 (4 : Int32)))))) :: (a32, ArrC Z .char 4 (upd (upd (fun _ => 0) 0 (nar .char (nar .char (F1 v28 x3 x4 (0 : Int32))))) 1 (nar .char (nar .char (F1 v28 x3 x4 (3 : Int32)))))) :: []) h n0 O) (by decide) (by decide) (by decide) (by decide) at_130 rfl pd_0 rfl rfl rfl rfl ?_
  rintro _ h' ⟨rfl, O'⟩
  refine ⟨_, O', ?_⟩
  change Wk p l e _ m _ below meth c _ _ n0 ((a34, ArrC Z .char 4 (upd (upd (fun _ => 0) 0 (nar .char (nar .char (F1 v30 x3 x4 (2 : Int32))))) 1 (nar .char (nar .char (F1 v30 x3 x4 (5 : Int32)))))) :: (a33, ArrC Z .char 4 (upd (upd (fun _ => 0) 0 (nar .char (nar .char (F1 v29 x3 x4 (1 : Int32))))) 1 (nar .char (nar .char (F1 v29 x3 x4 (4 : Int32)))))) :: (a32, ArrC Z .char 4 (upd (upd (fun _ => 0) 0 (nar .char (nar .char (F1 v28 x3 x4 (0 : Int32))))) 1 (nar .char (nar .char (F1 v28 x3 x4 (3 : Int32)))))) :: []) 3 12 133 #[.val (.int x0), .val (.int x1), .val (.int x2), .val (.int x3), .val (.int x4), .val (.int x5), .val (.int v28), .val (.int v29), .val (.int v30), .val (.int v31), .val (.ref a32), .val (.ref a33), .val (.ref a34), .unset] [.int (nar .char (F1 v28 x3 x4 (6 : Int32))), .int (2 : Int32), .ref a32]
  refine Wk.castore (pc' := 134) (q := 2) (i := 2) C at_133 rfl (by decide) (by decide) rfl ?_
  change Wk p l e _ m _ below meth c _ _ n0 ((a34, ArrC Z .char 4 (upd (upd (fun _ => 0) 0 (nar .char (nar .char (F1 v30 x3 x4 (2 : Int32))))) 1 (nar .char (nar .char (F1 v30 x3 x4 (5 : Int32)))))) :: (a33, ArrC Z .char 4 (upd (upd (fun _ => 0) 0 (nar .char (nar .char (F1 v29 x3 x4 (1 : Int32))))) 1 (nar .char (nar .char (F1 v29 x3 x4 (4 : Int32)))))) :: (a32, ArrC Z .char 4 (upd (upd (upd (fun _ => 0) 0 (nar .char (nar .char (F1 v28 x3 x4 (0 : Int32))))) 1 (nar .char (nar .char (F1 v28 x3 x4 (3 : Int32))))) 2 (nar .char (nar .char (F1 v28 x3 x4 (6 : Int32)))))) :: []) 3 12 134 #[.val (.int x0), .val (.int x1), .val (.int x2), .val (.int x3), .val (.int x4), .val (.int x5), .val (.int v28), .val (.int v29), .val (.int v30), .val (.int v31), .val (.ref a32), .val (.ref a33), .val (.ref a34), .unset] []
  refine Wk.aload (pc' := 136) C at_134 rfl rfl rfl ?_
  refine Wk.iconst (z := (2 : Int32)) (pc' := 137) C at_136 rfl rfl ?_
  refine Wk.iload (pc' := 139) C at_137 rfl rfl ?_
  refine Wk.iloadN (pc' := 140) C at_139 rfl rfl ?_
  refine Wk.iload (pc' := 142) C at_140 rfl rfl ?_
  refine Wk.bipush (z := (7 : Int32)) (pc' := 144) C at_142 rfl rfl ?_
  refine Wk.callS (pc' := 147) (rm := { frames := 0, cells := 0, slots := 0, locals := 0 }) (W0 := 2) (argsL := [.int v29, .int x3, .int x4, .int (7 : Int32)]) (st := [.int (2 : Int32), .ref a33]) C (w3 hw) (w4 hw) (w5 hw) (w6 hw) (by decide) (fun h O => rm1 l Z a0 hw v29 x3 x4 (7 : Int32) ((a34, ArrC Z .char 4 (upd (upd (fun _ => 0) 0 (nar .char (nar .char (F1 v30 x3 x4 (2 : Int32))))) 1 (nar .char (nar .char (F1 v30 x3 x4 (5 : Int32)))))) :: (a33, ArrC Z .char 4 (upd (upd (fun _ => 0) 0 (nar .char (nar .char (F1 v29 x3 x4 (1 : Int32))))) 1 (nar .char (nar .char (F1 v29 x3 x4 (4 : Int32)))))) :: (a32, ArrC Z .char 4 (upd (upd (upd (fun _ => 0) 0 (nar .char (nar .char (F1 v28 x3 x4 (0 : Int32))))) 1 (nar .char (nar .char (F1 v28 x3 x4 (3 : Int32))))) 2 (nar .char (nar .char (F1 v28 x3 x4 (6 : Int32)))))) :: []) h n0 O) (by decide) (by decide) (by decide) (by decide) at_144 rfl pd_0 rfl rfl rfl rfl ?_
  rintro _ h' ⟨rfl, O'⟩
  refine ⟨_, O', ?_⟩
  change Wk p l e _ m _ below meth c _ _ n0 ((a34, ArrC Z .char 4 (upd (upd (fun _ => 0) 0 (nar .char (nar .char (F1 v30 x3 x4 (2 : Int32))))) 1 (nar .char (nar .char (F1 v30 x3 x4 (5 : Int32)))))) :: (a33, ArrC Z .char 4 (upd (upd (fun _ => 0) 0 (nar .char (nar .char (F1 v29 x3 x4 (1 : Int32))))) 1 (nar .char (nar .char (F1 v29 x3 x4 (4 : Int32)))))) :: (a32, ArrC Z .char 4 (upd (upd (upd (fun _ => 0) 0 (nar .char (nar .char (F1 v28 x3 x4 (0 : Int32))))) 1 (nar .char (nar .char (F1 v28 x3 x4 (3 : Int32))))) 2 (nar .char (nar .char (F1 v28 x3 x4 (6 : Int32)))))) :: []) 3 12 147 #[.val (.int x0), .val (.int x1), .val (.int x2), .val (.int x3), .val (.int x4), .val (.int x5), .val (.int v28), .val (.int v29), .val (.int v30), .val (.int v31), .val (.ref a32), .val (.ref a33), .val (.ref a34), .unset] [.int (nar .char (F1 v29 x3 x4 (7 : Int32))), .int (2 : Int32), .ref a33]
  refine Wk.castore (pc' := 148) (q := 1) (i := 2) C at_147 rfl (by decide) (by decide) rfl ?_
  change Wk p l e _ m _ below meth c _ _ n0 ((a34, ArrC Z .char 4 (upd (upd (fun _ => 0) 0 (nar .char (nar .char (F1 v30 x3 x4 (2 : Int32))))) 1 (nar .char (nar .char (F1 v30 x3 x4 (5 : Int32)))))) :: (a33, ArrC Z .char 4 (upd (upd (upd (fun _ => 0) 0 (nar .char (nar .char (F1 v29 x3 x4 (1 : Int32))))) 1 (nar .char (nar .char (F1 v29 x3 x4 (4 : Int32))))) 2 (nar .char (nar .char (F1 v29 x3 x4 (7 : Int32)))))) :: (a32, ArrC Z .char 4 (upd (upd (upd (fun _ => 0) 0 (nar .char (nar .char (F1 v28 x3 x4 (0 : Int32))))) 1 (nar .char (nar .char (F1 v28 x3 x4 (3 : Int32))))) 2 (nar .char (nar .char (F1 v28 x3 x4 (6 : Int32)))))) :: []) 3 12 148 #[.val (.int x0), .val (.int x1), .val (.int x2), .val (.int x3), .val (.int x4), .val (.int x5), .val (.int v28), .val (.int v29), .val (.int v30), .val (.int v31), .val (.ref a32), .val (.ref a33), .val (.ref a34), .unset] []
  refine Wk.aload (pc' := 150) C at_148 rfl rfl rfl ?_
  refine Wk.iconst (z := (2 : Int32)) (pc' := 151) C at_150 rfl rfl ?_
  refine Wk.iload (pc' := 153) C at_151 rfl rfl ?_
  refine Wk.iloadN (pc' := 154) C at_153 rfl rfl ?_
  refine Wk.iload (pc' := 156) C at_154 rfl rfl ?_
  refine Wk.bipush (z := (8 : Int32)) (pc' := 158) C at_156 rfl rfl ?_
  refine Wk.callS (pc' := 161) (rm := { frames := 0, cells := 0, slots := 0, locals := 0 }) (W0 := 2) (argsL := [.int v30, .int x3, .int x4, .int (8 : Int32)]) (st := [.int (2 : Int32), .ref a34]) C (w3 hw) (w4 hw) (w5 hw) (w6 hw) (by decide) (fun h O => rm1 l Z a0 hw v30 x3 x4 (8 : Int32) ((a34, ArrC Z .char 4 (upd (upd (fun _ => 0) 0 (nar .char (nar .char (F1 v30 x3 x4 (2 : Int32))))) 1 (nar .char (nar .char (F1 v30 x3 x4 (5 : Int32)))))) :: (a33, ArrC Z .char 4 (upd (upd (upd (fun _ => 0) 0 (nar .char (nar .char (F1 v29 x3 x4 (1 : Int32))))) 1 (nar .char (nar .char (F1 v29 x3 x4 (4 : Int32))))) 2 (nar .char (nar .char (F1 v29 x3 x4 (7 : Int32)))))) :: (a32, ArrC Z .char 4 (upd (upd (upd (fun _ => 0) 0 (nar .char (nar .char (F1 v28 x3 x4 (0 : Int32))))) 1 (nar .char (nar .char (F1 v28 x3 x4 (3 : Int32))))) 2 (nar .char (nar .char (F1 v28 x3 x4 (6 : Int32)))))) :: []) h n0 O) (by decide) (by decide) (by decide) (by decide) at_158 rfl pd_0 rfl rfl rfl rfl ?_
  rintro _ h' ⟨rfl, O'⟩
  refine ⟨_, O', ?_⟩
  change Wk p l e _ m _ below meth c _ _ n0 ((a34, ArrC Z .char 4 (upd (upd (fun _ => 0) 0 (nar .char (nar .char (F1 v30 x3 x4 (2 : Int32))))) 1 (nar .char (nar .char (F1 v30 x3 x4 (5 : Int32)))))) :: (a33, ArrC Z .char 4 (upd (upd (upd (fun _ => 0) 0 (nar .char (nar .char (F1 v29 x3 x4 (1 : Int32))))) 1 (nar .char (nar .char (F1 v29 x3 x4 (4 : Int32))))) 2 (nar .char (nar .char (F1 v29 x3 x4 (7 : Int32)))))) :: (a32, ArrC Z .char 4 (upd (upd (upd (fun _ => 0) 0 (nar .char (nar .char (F1 v28 x3 x4 (0 : Int32))))) 1 (nar .char (nar .char (F1 v28 x3 x4 (3 : Int32))))) 2 (nar .char (nar .char (F1 v28 x3 x4 (6 : Int32)))))) :: []) 3 12 161 #[.val (.int x0), .val (.int x1), .val (.int x2), .val (.int x3), .val (.int x4), .val (.int x5), .val (.int v28), .val (.int v29), .val (.int v30), .val (.int v31), .val (.ref a32), .val (.ref a33), .val (.ref a34), .unset] [.int (nar .char (F1 v30 x3 x4 (8 : Int32))), .int (2 : Int32), .ref a34]
  refine Wk.castore (pc' := 162) (q := 0) (i := 2) C at_161 rfl (by decide) (by decide) rfl ?_
  change Wk p l e _ m _ below meth c _ _ n0 ((a34, ArrC Z .char 4 (upd (upd (upd (fun _ => 0) 0 (nar .char (nar .char (F1 v30 x3 x4 (2 : Int32))))) 1 (nar .char (nar .char (F1 v30 x3 x4 (5 : Int32))))) 2 (nar .char (nar .char (F1 v30 x3 x4 (8 : Int32)))))) :: (a33, ArrC Z .char 4 (upd (upd (upd (fun _ => 0) 0 (nar .char (nar .char (F1 v29 x3 x4 (1 : Int32))))) 1 (nar .char (nar .char (F1 v29 x3 x4 (4 : Int32))))) 2 (nar .char (nar .char (F1 v29 x3 x4 (7 : Int32)))))) :: (a32, ArrC Z .char 4 (upd (upd (upd (fun _ => 0) 0 (nar .char (nar .char (F1 v28 x3 x4 (0 : Int32))))) 1 (nar .char (nar .char (F1 v28 x3 x4 (3 : Int32))))) 2 (nar .char (nar .char (F1 v28 x3 x4 (6 : Int32)))))) :: []) 3 12 162 #[.val (.int x0), .val (.int x1), .val (.int x2), .val (.int x3), .val (.int x4), .val (.int x5), .val (.int v28), .val (.int v29), .val (.int v30), .val (.int v31), .val (.ref a32), .val (.ref a33), .val (.ref a34), .unset] []
  refine Wk.aload (pc' := 164) C at_162 rfl rfl rfl ?_
  refine Wk.iconst (z := (3 : Int32)) (pc' := 165) C at_164 rfl rfl ?_
  refine Wk.iload (pc' := 167) C at_165 rfl rfl ?_
  refine Wk.iloadN (pc' := 168) C at_167 rfl rfl ?_
  refine Wk.iload (pc' := 170) C at_168 rfl rfl ?_
  refine Wk.bipush (z := (9 : Int32)) (pc' := 172) C at_170 rfl rfl ?_
  refine Wk.callS (pc' := 175) (rm := { frames := 0, cells := 0, slots := 0, locals := 0 }) (W0 := 2) (argsL := [.int v28, .int x3, .int x4, .int (9 : Int32)]) (st := [.int (3 : Int32), .ref a32]) C (w3 hw) (w4 hw) (w5 hw) (w6 hw) (by decide) (fun h O => rm1 l Z a0 hw v28 x3 x4 (9 : Int32) ((a34, ArrC Z .char 4 (upd (upd (upd (fun _ => 0) 0 (nar .char (nar .char (F1 v30 x3 x4 (2 : Int32))))) 1 (nar .char (nar .char (F1 v30 x3 x4 (5 : Int32))))) 2 (nar .char (nar .char (F1 v30 x3 x4 (8 : Int32)))))) :: (a33, ArrC Z .char 4 (upd (upd (upd (fun _ => 0) 0 (nar .char (nar .char (F1 v29 x3 x4 (1 : Int32))))) 1 (nar .char (nar .char (F1 v29 x3 x4 (4 : Int32))))) 2 (nar .char (nar .char (F1 v29 x3 x4 (7 : Int32)))))) :: (a32, ArrC Z .char 4 (upd (upd (upd (fun _ => 0) 0 (nar .char (nar .char (F1 v28 x3 x4 (0 : Int32))))) 1 (nar .char (nar .char (F1 v28 x3 x4 (3 : Int32))))) 2 (nar .char (nar .char (F1 v28 x3 x4 (6 : Int32)))))) :: []) h n0 O) (by decide) (by decide) (by decide) (by decide) at_172 rfl pd_0 rfl rfl rfl rfl ?_
  rintro _ h' ⟨rfl, O'⟩
  refine ⟨_, O', ?_⟩
  change Wk p l e _ m _ below meth c _ _ n0 ((a34, ArrC Z .char 4 (upd (upd (upd (fun _ => 0) 0 (nar .char (nar .char (F1 v30 x3 x4 (2 : Int32))))) 1 (nar .char (nar .char (F1 v30 x3 x4 (5 : Int32))))) 2 (nar .char (nar .char (F1 v30 x3 x4 (8 : Int32)))))) :: (a33, ArrC Z .char 4 (upd (upd (upd (fun _ => 0) 0 (nar .char (nar .char (F1 v29 x3 x4 (1 : Int32))))) 1 (nar .char (nar .char (F1 v29 x3 x4 (4 : Int32))))) 2 (nar .char (nar .char (F1 v29 x3 x4 (7 : Int32)))))) :: (a32, ArrC Z .char 4 (upd (upd (upd (fun _ => 0) 0 (nar .char (nar .char (F1 v28 x3 x4 (0 : Int32))))) 1 (nar .char (nar .char (F1 v28 x3 x4 (3 : Int32))))) 2 (nar .char (nar .char (F1 v28 x3 x4 (6 : Int32)))))) :: []) 3 12 175 #[.val (.int x0), .val (.int x1), .val (.int x2), .val (.int x3), .val (.int x4), .val (.int x5), .val (.int v28), .val (.int v29), .val (.int v30), .val (.int v31), .val (.ref a32), .val (.ref a33), .val (.ref a34), .unset] [.int (nar .char (F1 v28 x3 x4 (9 : Int32))), .int (3 : Int32), .ref a32]
  refine Wk.castore (pc' := 176) (q := 2) (i := 3) C at_175 rfl (by decide) (by decide) rfl ?_
  change Wk p l e _ m _ below meth c _ _ n0 ((a34, ArrC Z .char 4 (upd (upd (upd (fun _ => 0) 0 (nar .char (nar .char (F1 v30 x3 x4 (2 : Int32))))) 1 (nar .char (nar .char (F1 v30 x3 x4 (5 : Int32))))) 2 (nar .char (nar .char (F1 v30 x3 x4 (8 : Int32)))))) :: (a33, ArrC Z .char 4 (upd (upd (upd (fun _ => 0) 0 (nar .char (nar .char (F1 v29 x3 x4 (1 : Int32))))) 1 (nar .char (nar .char (F1 v29 x3 x4 (4 : Int32))))) 2 (nar .char (nar .char (F1 v29 x3 x4 (7 : Int32)))))) :: (a32, ArrC Z .char 4 (upd (upd (upd (upd (fun _ => 0) 0 (nar .char (nar .char (F1 v28 x3 x4 (0 : Int32))))) 1 (nar .char (nar .char (F1 v28 x3 x4 (3 : Int32))))) 2 (nar .char (nar .char (F1 v28 x3 x4 (6 : Int32))))) 3 (nar .char (nar .char (F1 v28 x3 x4 (9 : Int32)))))) :: []) 3 12 176 #[.val (.int x0), .val (.int x1), .val (.int x2), .val (.int x3), .val (.int x4), .val (.int x5), .val (.int v28), .val (.int v29), .val (.int v30), .val (.int v31), .val (.ref a32), .val (.ref a33), .val (.ref a34), .unset] []
  refine Wk.aload (pc' := 178) C at_176 rfl rfl rfl ?_
  refine Wk.iconst (z := (3 : Int32)) (pc' := 179) C at_178 rfl rfl ?_
  refine Wk.iload (pc' := 181) C at_179 rfl rfl ?_
  refine Wk.iloadN (pc' := 182) C at_181 rfl rfl ?_
  refine Wk.iload (pc' := 184) C at_182 rfl rfl ?_
  refine Wk.bipush (z := (10 : Int32)) (pc' := 186) C at_184 rfl rfl ?_
  refine Wk.callS (pc' := 189) (rm := { frames := 0, cells := 0, slots := 0, locals := 0 }) (W0 := 2) (argsL := [.int v29, .int x3, .int x4, .int (10 : Int32)]) (st := [.int (3 : Int32), .ref a33]) C (w3 hw) (w4 hw) (w5 hw) (w6 hw) (by decide) (fun h O => rm1 l Z a0 hw v29 x3 x4 (10 : Int32) ((a34, ArrC Z .char 4 (upd (upd (upd (fun _ => 0) 0 (nar .char (nar .char (F1 v30 x3 x4 (2 : Int32))))) 1 (nar .char (nar .char (F1 v30 x3 x4 (5 : Int32))))) 2 (nar .char (nar .char (F1 v30 x3 x4 (8 : Int32)))))) :: (a33, ArrC Z .char 4 (upd (upd (upd (fun _ => 0) 0 (nar .char (nar .char (F1 v29 x3 x4 (1 : Int32))))) 1 (nar .char (nar .char (F1 v29 x3 x4 (4 : Int32))))) 2 (nar .char (nar .char (F1 v29 x3 x4 (7 : Int32)))))) :: (a32, ArrC Z .char 4 (upd (upd (upd (upd (fun _ => 0) 0 (nar .char (nar .char (F1 v28 x3 x4 (0 : Int32))))) 1 (nar .char (nar .char (F1 v28 x3 x4 (3 : Int32))))) 2 (nar .char (nar .char (F1 v28 x3 x4 (6 : Int32))))) 3 (nar .char (nar .char (F1 v28 x3 x4 (9 : Int32)))))) :: []) h n0 O) (by decide) (by decide) (by decide) (by decide) at_186 rfl pd_0 rfl rfl rfl rfl ?_
  rintro _ h' ⟨rfl, O'⟩
  refine ⟨_, O', ?_⟩
  change Wk p l e _ m _ below meth c _ _ n0 ((a34, ArrC Z .char 4 (upd (upd (upd (fun _ => 0) 0 (nar .char (nar .char (F1 v30 x3 x4 (2 : Int32))))) 1 (nar .char (nar .char (F1 v30 x3 x4 (5 : Int32))))) 2 (nar .char (nar .char (F1 v30 x3 x4 (8 : Int32)))))) :: (a33, ArrC Z .char 4 (upd (upd (upd (fun _ => 0) 0 (nar .char (nar .char (F1 v29 x3 x4 (1 : Int32))))) 1 (nar .char (nar .char (F1 v29 x3 x4 (4 : Int32))))) 2 (nar .char (nar .char (F1 v29 x3 x4 (7 : Int32)))))) :: (a32, ArrC Z .char 4 (upd (upd (upd (upd (fun _ => 0) 0 (nar .char (nar .char (F1 v28 x3 x4 (0 : Int32))))) 1 (nar .char (nar .char (F1 v28 x3 x4 (3 : Int32))))) 2 (nar .char (nar .char (F1 v28 x3 x4 (6 : Int32))))) 3 (nar .char (nar .char (F1 v28 x3 x4 (9 : Int32)))))) :: []) 3 12 189 #[.val (.int x0), .val (.int x1), .val (.int x2), .val (.int x3), .val (.int x4), .val (.int x5), .val (.int v28), .val (.int v29), .val (.int v30), .val (.int v31), .val (.ref a32), .val (.ref a33), .val (.ref a34), .unset] [.int (nar .char (F1 v29 x3 x4 (10 : Int32))), .int (3 : Int32), .ref a33]
  refine Wk.castore (pc' := 190) (q := 1) (i := 3) C at_189 rfl (by decide) (by decide) rfl ?_
  change Wk p l e _ m _ below meth c _ _ n0 ((a34, ArrC Z .char 4 (upd (upd (upd (fun _ => 0) 0 (nar .char (nar .char (F1 v30 x3 x4 (2 : Int32))))) 1 (nar .char (nar .char (F1 v30 x3 x4 (5 : Int32))))) 2 (nar .char (nar .char (F1 v30 x3 x4 (8 : Int32)))))) :: (a33, ArrC Z .char 4 (upd (upd (upd (upd (fun _ => 0) 0 (nar .char (nar .char (F1 v29 x3 x4 (1 : Int32))))) 1 (nar .char (nar .char (F1 v29 x3 x4 (4 : Int32))))) 2 (nar .char (nar .char (F1 v29 x3 x4 (7 : Int32))))) 3 (nar .char (nar .char (F1 v29 x3 x4 (10 : Int32)))))) :: (a32, ArrC Z .char 4 (upd (upd (upd (upd (fun _ => 0) 0 (nar .char (nar .char (F1 v28 x3 x4 (0 : Int32))))) 1 (nar .char (nar .char (F1 v28 x3 x4 (3 : Int32))))) 2 (nar .char (nar .char (F1 v28 x3 x4 (6 : Int32))))) 3 (nar .char (nar .char (F1 v28 x3 x4 (9 : Int32)))))) :: []) 3 12 190 #[.val (.int x0), .val (.int x1), .val (.int x2), .val (.int x3), .val (.int x4), .val (.int x5), .val (.int v28), .val (.int v29), .val (.int v30), .val (.int v31), .val (.ref a32), .val (.ref a33), .val (.ref a34), .unset] []
  refine Wk.aload (pc' := 192) C at_190 rfl rfl rfl ?_
  refine Wk.iconst (z := (3 : Int32)) (pc' := 193) C at_192 rfl rfl ?_
  refine Wk.iload (pc' := 195) C at_193 rfl rfl ?_
  refine Wk.iloadN (pc' := 196) C at_195 rfl rfl ?_
  refine Wk.iload (pc' := 198) C at_196 rfl rfl ?_
  refine Wk.bipush (z := (11 : Int32)) (pc' := 200) C at_198 rfl rfl ?_
  refine Wk.callS (pc' := 203) (rm := { frames := 0, cells := 0, slots := 0, locals := 0 }) (W0 := 2) (argsL := [.int v30, .int x3, .int x4, .int (11 : Int32)]) (st := [.int (3 : Int32), .ref a34]) C (w3 hw) (w4 hw) (w5 hw) (w6 hw) (by decide) (fun h O => rm1 l Z a0 hw v30 x3 x4 (11 : Int32) ((a34, ArrC Z .char 4 (upd (upd (upd (fun _ => 0) 0 (nar .char (nar .char (F1 v30 x3 x4 (2 : Int32))))) 1 (nar .char (nar .char (F1 v30 x3 x4 (5 : Int32))))) 2 (nar .char (nar .char (F1 v30 x3 x4 (8 : Int32)))))) :: (a33, ArrC Z .char 4 (upd (upd (upd (upd (fun _ => 0) 0 (nar .char (nar .char (F1 v29 x3 x4 (1 : Int32))))) 1 (nar .char (nar .char (F1 v29 x3 x4 (4 : Int32))))) 2 (nar .char (nar .char (F1 v29 x3 x4 (7 : Int32))))) 3 (nar .char (nar .char (F1 v29 x3 x4 (10 : Int32)))))) :: (a32, ArrC Z .char 4 (upd (upd (upd (upd (fun _ => 0) 0 (nar .char (nar .char (F1 v28 x3 x4 (0 : Int32))))) 1 (nar .char (nar .char (F1 v28 x3 x4 (3 : Int32))))) 2 (nar .char (nar .char (F1 v28 x3 x4 (6 : Int32))))) 3 (nar .char (nar .char (F1 v28 x3 x4 (9 : Int32)))))) :: []) h n0 O) (by decide) (by decide) (by decide) (by decide) at_200 rfl pd_0 rfl rfl rfl rfl ?_
  rintro _ h' ⟨rfl, O'⟩
  refine ⟨_, O', ?_⟩
  change Wk p l e _ m _ below meth c _ _ n0 ((a34, ArrC Z .char 4 (upd (upd (upd (fun _ => 0) 0 (nar .char (nar .char (F1 v30 x3 x4 (2 : Int32))))) 1 (nar .char (nar .char (F1 v30 x3 x4 (5 : Int32))))) 2 (nar .char (nar .char (F1 v30 x3 x4 (8 : Int32)))))) :: (a33, ArrC Z .char 4 (upd (upd (upd (upd (fun _ => 0) 0 (nar .char (nar .char (F1 v29 x3 x4 (1 : Int32))))) 1 (nar .char (nar .char (F1 v29 x3 x4 (4 : Int32))))) 2 (nar .char (nar .char (F1 v29 x3 x4 (7 : Int32))))) 3 (nar .char (nar .char (F1 v29 x3 x4 (10 : Int32)))))) :: (a32, ArrC Z .char 4 (upd (upd (upd (upd (fun _ => 0) 0 (nar .char (nar .char (F1 v28 x3 x4 (0 : Int32))))) 1 (nar .char (nar .char (F1 v28 x3 x4 (3 : Int32))))) 2 (nar .char (nar .char (F1 v28 x3 x4 (6 : Int32))))) 3 (nar .char (nar .char (F1 v28 x3 x4 (9 : Int32)))))) :: []) 3 12 203 #[.val (.int x0), .val (.int x1), .val (.int x2), .val (.int x3), .val (.int x4), .val (.int x5), .val (.int v28), .val (.int v29), .val (.int v30), .val (.int v31), .val (.ref a32), .val (.ref a33), .val (.ref a34), .unset] [.int (nar .char (F1 v30 x3 x4 (11 : Int32))), .int (3 : Int32), .ref a34]
  refine Wk.castore (pc' := 204) (q := 0) (i := 3) C at_203 rfl (by decide) (by decide) rfl ?_
  change Wk p l e _ m _ below meth c _ _ n0 ((a34, ArrC Z .char 4 (upd (upd (upd (upd (fun _ => 0) 0 (nar .char (nar .char (F1 v30 x3 x4 (2 : Int32))))) 1 (nar .char (nar .char (F1 v30 x3 x4 (5 : Int32))))) 2 (nar .char (nar .char (F1 v30 x3 x4 (8 : Int32))))) 3 (nar .char (nar .char (F1 v30 x3 x4 (11 : Int32)))))) :: (a33, ArrC Z .char 4 (upd (upd (upd (upd (fun _ => 0) 0 (nar .char (nar .char (F1 v29 x3 x4 (1 : Int32))))) 1 (nar .char (nar .char (F1 v29 x3 x4 (4 : Int32))))) 2 (nar .char (nar .char (F1 v29 x3 x4 (7 : Int32))))) 3 (nar .char (nar .char (F1 v29 x3 x4 (10 : Int32)))))) :: (a32, ArrC Z .char 4 (upd (upd (upd (upd (fun _ => 0) 0 (nar .char (nar .char (F1 v28 x3 x4 (0 : Int32))))) 1 (nar .char (nar .char (F1 v28 x3 x4 (3 : Int32))))) 2 (nar .char (nar .char (F1 v28 x3 x4 (6 : Int32))))) 3 (nar .char (nar .char (F1 v28 x3 x4 (9 : Int32)))))) :: []) 3 12 204 #[.val (.int x0), .val (.int x1), .val (.int x2), .val (.int x3), .val (.int x4), .val (.int x5), .val (.int v28), .val (.int v29), .val (.int v30), .val (.int v31), .val (.ref a32), .val (.ref a33), .val (.ref a34), .unset] []
  generalize hf35 : ((upd (upd (upd (upd (fun _ => 0) 0 (nar .char (nar .char (F1 v28 x3 x4 (0 : Int32))))) 1 (nar .char (nar .char (F1 v28 x3 x4 (3 : Int32))))) 2 (nar .char (nar .char (F1 v28 x3 x4 (6 : Int32))))) 3 (nar .char (nar .char (F1 v28 x3 x4 (9 : Int32))))) : Nat → Int32) = f35
  have hch0 : ∀ j, Ch (f35 j) := by rw [← hf35]; exact upd_rng (upd_rng (upd_rng (upd_rng ch0 (chn _)) (chn _)) (chn _)) (chn _)
  clear hf35
  generalize hf36 : ((upd (upd (upd (upd (fun _ => 0) 0 (nar .char (nar .char (F1 v29 x3 x4 (1 : Int32))))) 1 (nar .char (nar .char (F1 v29 x3 x4 (4 : Int32))))) 2 (nar .char (nar .char (F1 v29 x3 x4 (7 : Int32))))) 3 (nar .char (nar .char (F1 v29 x3 x4 (10 : Int32))))) : Nat → Int32) = f36
  have hch1 : ∀ j, Ch (f36 j) := by rw [← hf36]; exact upd_rng (upd_rng (upd_rng (upd_rng ch0 (chn _)) (chn _)) (chn _)) (chn _)
  clear hf36
  generalize hf37 : ((upd (upd (upd (upd (fun _ => 0) 0 (nar .char (nar .char (F1 v30 x3 x4 (2 : Int32))))) 1 (nar .char (nar .char (F1 v30 x3 x4 (5 : Int32))))) 2 (nar .char (nar .char (F1 v30 x3 x4 (8 : Int32))))) 3 (nar .char (nar .char (F1 v30 x3 x4 (11 : Int32))))) : Nat → Int32) = f37
  have hch2 : ∀ j, Ch (f37 j) := by rw [← hf37]; exact upd_rng (upd_rng (upd_rng (upd_rng ch0 (chn _)) (chn _)) (chn _)) (chn _)
  clear hf37
  have hca6 := chm x0 v28 hv28
  have hca7 := chm x1 v29 hv29
  have hca8 := chm x2 v30 hv30
  refine Wk.iconst (z := (4 : Int32)) (pc' := 205) C at_204 rfl rfl ?_
  refine Wk.newarray (pc' := 207) (aty := .char) (nn := 4) (cap := 4) (d := 0) C (w2 hw) at_205 rfl rfl (by decide) (by decide) (by decide) (by decide) (by decide) rfl ?_
  intro a38
  change Wk p l e _ m _ below meth c _ _ n0 ((a38, ArrC Z .char 4 (fun _ => 0)) :: (a34, ArrC Z .char 4 f37) :: (a33, ArrC Z .char 4 f36) :: (a32, ArrC Z .char 4 f35) :: []) 4 16 207 #[.val (.int x0), .val (.int x1), .val (.int x2), .val (.int x3), .val (.int x4), .val (.int x5), .val (.int v28), .val (.int v29), .val (.int v30), .val (.int v31), .val (.ref a32), .val (.ref a33), .val (.ref a34), .unset] [.ref a38]
  refine Wk.astore (Ls' := #[.val (.int x0), .val (.int x1), .val (.int x2), .val (.int x3), .val (.int x4), .val (.int x5), .val (.int v28), .val (.int v29), .val (.int v30), .val (.int v31), .val (.ref a32), .val (.ref a33), .val (.ref a34), .val (.ref a38)]) (pc' := 209) C at_207 rfl rfl rfl ?_
  refine Wk.aload (pc' := 211) C at_209 rfl rfl rfl ?_
  refine Wk.iconst (z := (0 : Int32)) (pc' := 212) C at_211 rfl rfl ?_
  refine Wk.sipush (z := (30583 : Int32)) (pc' := 215) C at_212 rfl rfl ?_
  refine Wk.castore (pc' := 216) (q := 0) (i := 0) C at_215 rfl (by decide) (by decide) rfl ?_
  change Wk p l e _ m _ below meth c _ _ n0 ((a38, ArrC Z .char 4 (upd (fun _ => 0) 0 (nar .char (30583 : Int32)))) :: (a34, ArrC Z .char 4 f37) :: (a33, ArrC Z .char 4 f36) :: (a32, ArrC Z .char 4 f35) :: []) 4 16 216 #[.val (.int x0), .val (.int x1), .val (.int x2), .val (.int x3), .val (.int x4), .val (.int x5), .val (.int v28), .val (.int v29), .val (.int v30), .val (.int v31), .val (.ref a32), .val (.ref a33), .val (.ref a34), .val (.ref a38)] []
  refine Wk.aload (pc' := 218) C at_216 rfl rfl rfl ?_
  refine Wk.iconst (z := (1 : Int32)) (pc' := 219) C at_218 rfl rfl ?_
  refine Wk.sipush (z := (30583 : Int32)) (pc' := 222) C at_219 rfl rfl ?_
  refine Wk.castore (pc' := 223) (q := 0) (i := 1) C at_222 rfl (by decide) (by decide) rfl ?_
  change Wk p l e _ m _ below meth c _ _ n0 ((a38, ArrC Z .char 4 (upd (upd (fun _ => 0) 0 (nar .char (30583 : Int32))) 1 (nar .char (30583 : Int32)))) :: (a34, ArrC Z .char 4 f37) :: (a33, ArrC Z .char 4 f36) :: (a32, ArrC Z .char 4 f35) :: []) 4 16 223 #[.val (.int x0), .val (.int x1), .val (.int x2), .val (.int x3), .val (.int x4), .val (.int x5), .val (.int v28), .val (.int v29), .val (.int v30), .val (.int v31), .val (.ref a32), .val (.ref a33), .val (.ref a34), .val (.ref a38)] []
  refine Wk.aload (pc' := 225) C at_223 rfl rfl rfl ?_
  refine Wk.iconst (z := (2 : Int32)) (pc' := 226) C at_225 rfl rfl ?_
  refine Wk.sipush (z := (30583 : Int32)) (pc' := 229) C at_226 rfl rfl ?_
  refine Wk.castore (pc' := 230) (q := 0) (i := 2) C at_229 rfl (by decide) (by decide) rfl ?_
  change Wk p l e _ m _ below meth c _ _ n0 ((a38, ArrC Z .char 4 (upd (upd (upd (fun _ => 0) 0 (nar .char (30583 : Int32))) 1 (nar .char (30583 : Int32))) 2 (nar .char (30583 : Int32)))) :: (a34, ArrC Z .char 4 f37) :: (a33, ArrC Z .char 4 f36) :: (a32, ArrC Z .char 4 f35) :: []) 4 16 230 #[.val (.int x0), .val (.int x1), .val (.int x2), .val (.int x3), .val (.int x4), .val (.int x5), .val (.int v28), .val (.int v29), .val (.int v30), .val (.int v31), .val (.ref a32), .val (.ref a33), .val (.ref a34), .val (.ref a38)] []
  refine Wk.aload (pc' := 232) C at_230 rfl rfl rfl ?_
  refine Wk.iconst (z := (3 : Int32)) (pc' := 233) C at_232 rfl rfl ?_
  refine Wk.sipush (z := (30583 : Int32)) (pc' := 236) C at_233 rfl rfl ?_
  refine Wk.castore (pc' := 237) (q := 0) (i := 3) C at_236 rfl (by decide) (by decide) rfl ?_
  change Wk p l e _ m _ below meth c _ _ n0 ((a38, ArrC Z .char 4 (upd (upd (upd (upd (fun _ => 0) 0 (nar .char (30583 : Int32))) 1 (nar .char (30583 : Int32))) 2 (nar .char (30583 : Int32))) 3 (nar .char (30583 : Int32)))) :: (a34, ArrC Z .char 4 f37) :: (a33, ArrC Z .char 4 f36) :: (a32, ArrC Z .char 4 f35) :: []) 4 16 237 #[.val (.int x0), .val (.int x1), .val (.int x2), .val (.int x3), .val (.int x4), .val (.int x5), .val (.int v28), .val (.int v29), .val (.int v30), .val (.int v31), .val (.ref a32), .val (.ref a33), .val (.ref a34), .val (.ref a38)] []
  refine Wk.aload (pc' := 239) C at_237 rfl rfl rfl ?_
  refine Wk.aload (pc' := 241) C at_239 rfl rfl rfl ?_
  refine Wk.aload (pc' := 243) C at_241 rfl rfl rfl ?_
  refine Wk.iload (pc' := 245) C at_243 rfl rfl ?_
  refine Wk.iload (pc' := 247) C at_245 rfl rfl ?_
  refine Wk.iload (pc' := 249) C at_247 rfl rfl ?_
  refine Wk.iload (pc' := 251) C at_249 rfl rfl ?_
  refine Wk.aload (pc' := 253) C at_251 rfl rfl rfl ?_
  refine Wk.callS (pc' := 256) (rm := { frames := 0, cells := 0, slots := 0, locals := 0 }) (W0 := 0) (argsL := [.ref a32, .ref a33, .ref a34, .int v31, .int v28, .int v29, .int v30, .ref a38]) (st := []) C (w7 hw) (w8 hw) (w9 hw) (w10 hw) (by decide) (fun h O => rm2 l Z a0 hw a32 a33 a34 v31 v28 v29 v30 a38 ((a34, ArrC Z .char 4 f37) :: (a33, ArrC Z .char 4 f36) :: (a32, ArrC Z .char 4 f35) :: []) 2 1 0 nn f35 f36 f37 (upd (upd (upd (upd (fun _ => 0) 0 (nar .char (30583 : Int32))) 1 (nar .char (30583 : Int32))) 2 (nar .char (30583 : Int32))) 3 (nar .char (30583 : Int32))) h n0 O rfl rfl rfl hnn hle) (by decide) (by decide) (by decide) (by decide) at_253 rfl pd_1 rfl rfl rfl rfl ?_
  rintro _ h' ⟨rfl, O'⟩
  refine ⟨_, O', ?_⟩
  change Wk p l e _ m _ below meth c _ _ n0 ((a38, ArrC Z .char 4 (flg f35 f36 f37 v28 v29 v30 (upd (upd (upd (upd (fun _ => 0) 0 (nar .char (30583 : Int32))) 1 (nar .char (30583 : Int32))) 2 (nar .char (30583 : Int32))) 3 (nar .char (30583 : Int32))) nn)) :: (a34, ArrC Z .char 4 f37) :: (a33, ArrC Z .char 4 f36) :: (a32, ArrC Z .char 4 f35) :: []) 4 16 256 #[.val (.int x0), .val (.int x1), .val (.int x2), .val (.int x3), .val (.int x4), .val (.int x5), .val (.int v28), .val (.int v29), .val (.int v30), .val (.int v31), .val (.ref a32), .val (.ref a33), .val (.ref a34), .val (.ref a38)] []
  refine Wk.aload (pc' := 258) C at_256 rfl rfl rfl ?_
  refine Wk.aload (pc' := 260) C at_258 rfl rfl rfl ?_
  refine Wk.aload (pc' := 262) C at_260 rfl rfl rfl ?_
  refine Wk.aload (pc' := 264) C at_262 rfl rfl rfl ?_
  refine Wk.iconst (z := (0 : Int32)) (pc' := 265) C at_264 rfl rfl ?_
  refine Wk.iload (pc' := 267) C at_265 rfl rfl ?_
  refine Wk.iload (pc' := 269) C at_267 rfl rfl ?_
  refine Wk.iload (pc' := 271) C at_269 rfl rfl ?_
  refine Wk.iload (pc' := 273) C at_271 rfl rfl ?_
  refine Wk.callS (pc' := 276) (rm := { frames := 0, cells := 0, slots := 0, locals := 0 }) (W0 := 0) (argsL := [.ref a32, .ref a33, .ref a34, .ref a38, .int (0 : Int32), .int v31, .int v28, .int v29, .int v30]) (st := []) C (w12 hw) (w13 hw) (w5 hw) (w14 hw) (by decide) (fun h O => rm3 l Z a0 hw a32 a33 a34 a38 (0 : Int32) v31 v28 v29 v30 ((a38, ArrC Z .char 4 (flg f35 f36 f37 v28 v29 v30 (upd (upd (upd (upd (fun _ => 0) 0 (nar .char (30583 : Int32))) 1 (nar .char (30583 : Int32))) 2 (nar .char (30583 : Int32))) 3 (nar .char (30583 : Int32))) nn)) :: (a34, ArrC Z .char 4 f37) :: (a33, ArrC Z .char 4 f36) :: (a32, ArrC Z .char 4 f35) :: []) 3 2 1 0 0 f35 f36 f37 (flg f35 f36 f37 v28 v29 v30 (upd (upd (upd (upd (fun _ => 0) 0 (nar .char (30583 : Int32))) 1 (nar .char (30583 : Int32))) 2 (nar .char (30583 : Int32))) 3 (nar .char (30583 : Int32))) nn) h n0 O rfl rfl rfl rfl (by decide) (by decide)) (by decide) (by decide) (by decide) (by decide) at_273 rfl pd_2 rfl rfl rfl rfl ?_
  rintro _ h' ⟨rfl, O'⟩
  refine ⟨_, O', ?_⟩
  change Wk p l e _ m _ below meth c _ _ n0 ((a38, ArrC Z .char 4 (flg f35 f36 f37 v28 v29 v30 (upd (upd (upd (upd (fun _ => 0) 0 (nar .char (30583 : Int32))) 1 (nar .char (30583 : Int32))) 2 (nar .char (30583 : Int32))) 3 (nar .char (30583 : Int32))) nn)) :: (a34, ArrC Z .char 4 f37) :: (a33, ArrC Z .char 4 f36) :: (a32, ArrC Z .char 4 f35) :: []) 4 16 276 #[.val (.int x0), .val (.int x1), .val (.int x2), .val (.int x3), .val (.int x4), .val (.int x5), .val (.int v28), .val (.int v29), .val (.int v30), .val (.int v31), .val (.ref a32), .val (.ref a33), .val (.ref a34), .val (.ref a38)] [.int (nar .boolean (oneF ((0 : Int32) < v31) (f35 0) (f36 0) (f37 0) ((flg f35 f36 f37 v28 v29 v30 (upd (upd (upd (upd (fun _ => 0) 0 (nar .char (30583 : Int32))) 1 (nar .char (30583 : Int32))) 2 (nar .char (30583 : Int32))) 3 (nar .char (30583 : Int32))) nn) 0) v28 v29 v30))]
  refine Wk.if_eq (pcT := 352) (pcF := 279) C at_276 (by decide) (by decide) rfl (fun c39 => (show False from absurd (c39.symm.trans (own_one (own_lt (rfl : (0 : Int32).toInt = ((0 : Nat) : Int)) hnn) hch0 hch1 hch2 hca6 hca7 hca8 rfl)) (by decide)).elim) (fun c39 => ?_)
  refine Wk.aload (pc' := 281) C at_279 rfl rfl rfl ?_
  refine Wk.aload (pc' := 283) C at_281 rfl rfl rfl ?_
  refine Wk.aload (pc' := 285) C at_283 rfl rfl rfl ?_
  refine Wk.aload (pc' := 287) C at_285 rfl rfl rfl ?_
  refine Wk.iconst (z := (1 : Int32)) (pc' := 288) C at_287 rfl rfl ?_
  refine Wk.iload (pc' := 290) C at_288 rfl rfl ?_
  refine Wk.iload (pc' := 292) C at_290 rfl rfl ?_
  refine Wk.iload (pc' := 294) C at_292 rfl rfl ?_
  refine Wk.iload (pc' := 296) C at_294 rfl rfl ?_
  refine Wk.callS (pc' := 299) (rm := { frames := 0, cells := 0, slots := 0, locals := 0 }) (W0 := 0) (argsL := [.ref a32, .ref a33, .ref a34, .ref a38, .int (1 : Int32), .int v31, .int v28, .int v29, .int v30]) (st := []) C (w12 hw) (w13 hw) (w5 hw) (w14 hw) (by decide) (fun h O => rm3 l Z a0 hw a32 a33 a34 a38 (1 : Int32) v31 v28 v29 v30 ((a38, ArrC Z .char 4 (flg f35 f36 f37 v28 v29 v30 (upd (upd (upd (upd (fun _ => 0) 0 (nar .char (30583 : Int32))) 1 (nar .char (30583 : Int32))) 2 (nar .char (30583 : Int32))) 3 (nar .char (30583 : Int32))) nn)) :: (a34, ArrC Z .char 4 f37) :: (a33, ArrC Z .char 4 f36) :: (a32, ArrC Z .char 4 f35) :: []) 3 2 1 0 1 f35 f36 f37 (flg f35 f36 f37 v28 v29 v30 (upd (upd (upd (upd (fun _ => 0) 0 (nar .char (30583 : Int32))) 1 (nar .char (30583 : Int32))) 2 (nar .char (30583 : Int32))) 3 (nar .char (30583 : Int32))) nn) h n0 O rfl rfl rfl rfl (by decide) (by decide)) (by decide) (by decide) (by decide) (by decide) at_296 rfl pd_2 rfl rfl rfl rfl ?_
  rintro _ h' ⟨rfl, O'⟩
  refine ⟨_, O', ?_⟩
  change Wk p l e _ m _ below meth c _ _ n0 ((a38, ArrC Z .char 4 (flg f35 f36 f37 v28 v29 v30 (upd (upd (upd (upd (fun _ => 0) 0 (nar .char (30583 : Int32))) 1 (nar .char (30583 : Int32))) 2 (nar .char (30583 : Int32))) 3 (nar .char (30583 : Int32))) nn)) :: (a34, ArrC Z .char 4 f37) :: (a33, ArrC Z .char 4 f36) :: (a32, ArrC Z .char 4 f35) :: []) 4 16 299 #[.val (.int x0), .val (.int x1), .val (.int x2), .val (.int x3), .val (.int x4), .val (.int x5), .val (.int v28), .val (.int v29), .val (.int v30), .val (.int v31), .val (.ref a32), .val (.ref a33), .val (.ref a34), .val (.ref a38)] [.int (nar .boolean (oneF ((1 : Int32) < v31) (f35 1) (f36 1) (f37 1) ((flg f35 f36 f37 v28 v29 v30 (upd (upd (upd (upd (fun _ => 0) 0 (nar .char (30583 : Int32))) 1 (nar .char (30583 : Int32))) 2 (nar .char (30583 : Int32))) 3 (nar .char (30583 : Int32))) nn) 1) v28 v29 v30))]
  refine Wk.if_eq (pcT := 352) (pcF := 302) C at_299 (by decide) (by decide) rfl (fun c40 => (show False from absurd (c40.symm.trans (own_one (own_lt (rfl : (1 : Int32).toInt = ((1 : Nat) : Int)) hnn) hch0 hch1 hch2 hca6 hca7 hca8 rfl)) (by decide)).elim) (fun c40 => ?_)
  refine Wk.aload (pc' := 304) C at_302 rfl rfl rfl ?_
  refine Wk.aload (pc' := 306) C at_304 rfl rfl rfl ?_
  refine Wk.aload (pc' := 308) C at_306 rfl rfl rfl ?_
  refine Wk.aload (pc' := 310) C at_308 rfl rfl rfl ?_
  refine Wk.iconst (z := (2 : Int32)) (pc' := 311) C at_310 rfl rfl ?_
  refine Wk.iload (pc' := 313) C at_311 rfl rfl ?_
  refine Wk.iload (pc' := 315) C at_313 rfl rfl ?_
  refine Wk.iload (pc' := 317) C at_315 rfl rfl ?_
  refine Wk.iload (pc' := 319) C at_317 rfl rfl ?_
  refine Wk.callS (pc' := 322) (rm := { frames := 0, cells := 0, slots := 0, locals := 0 }) (W0 := 0) (argsL := [.ref a32, .ref a33, .ref a34, .ref a38, .int (2 : Int32), .int v31, .int v28, .int v29, .int v30]) (st := []) C (w12 hw) (w13 hw) (w5 hw) (w14 hw) (by decide) (fun h O => rm3 l Z a0 hw a32 a33 a34 a38 (2 : Int32) v31 v28 v29 v30 ((a38, ArrC Z .char 4 (flg f35 f36 f37 v28 v29 v30 (upd (upd (upd (upd (fun _ => 0) 0 (nar .char (30583 : Int32))) 1 (nar .char (30583 : Int32))) 2 (nar .char (30583 : Int32))) 3 (nar .char (30583 : Int32))) nn)) :: (a34, ArrC Z .char 4 f37) :: (a33, ArrC Z .char 4 f36) :: (a32, ArrC Z .char 4 f35) :: []) 3 2 1 0 2 f35 f36 f37 (flg f35 f36 f37 v28 v29 v30 (upd (upd (upd (upd (fun _ => 0) 0 (nar .char (30583 : Int32))) 1 (nar .char (30583 : Int32))) 2 (nar .char (30583 : Int32))) 3 (nar .char (30583 : Int32))) nn) h n0 O rfl rfl rfl rfl (by decide) (by decide)) (by decide) (by decide) (by decide) (by decide) at_319 rfl pd_2 rfl rfl rfl rfl ?_
  rintro _ h' ⟨rfl, O'⟩
  refine ⟨_, O', ?_⟩
  change Wk p l e _ m _ below meth c _ _ n0 ((a38, ArrC Z .char 4 (flg f35 f36 f37 v28 v29 v30 (upd (upd (upd (upd (fun _ => 0) 0 (nar .char (30583 : Int32))) 1 (nar .char (30583 : Int32))) 2 (nar .char (30583 : Int32))) 3 (nar .char (30583 : Int32))) nn)) :: (a34, ArrC Z .char 4 f37) :: (a33, ArrC Z .char 4 f36) :: (a32, ArrC Z .char 4 f35) :: []) 4 16 322 #[.val (.int x0), .val (.int x1), .val (.int x2), .val (.int x3), .val (.int x4), .val (.int x5), .val (.int v28), .val (.int v29), .val (.int v30), .val (.int v31), .val (.ref a32), .val (.ref a33), .val (.ref a34), .val (.ref a38)] [.int (nar .boolean (oneF ((2 : Int32) < v31) (f35 2) (f36 2) (f37 2) ((flg f35 f36 f37 v28 v29 v30 (upd (upd (upd (upd (fun _ => 0) 0 (nar .char (30583 : Int32))) 1 (nar .char (30583 : Int32))) 2 (nar .char (30583 : Int32))) 3 (nar .char (30583 : Int32))) nn) 2) v28 v29 v30))]
  refine Wk.if_eq (pcT := 352) (pcF := 325) C at_322 (by decide) (by decide) rfl (fun c41 => (show False from absurd (c41.symm.trans (own_one (own_lt (rfl : (2 : Int32).toInt = ((2 : Nat) : Int)) hnn) hch0 hch1 hch2 hca6 hca7 hca8 rfl)) (by decide)).elim) (fun c41 => ?_)
  refine Wk.aload (pc' := 327) C at_325 rfl rfl rfl ?_
  refine Wk.aload (pc' := 329) C at_327 rfl rfl rfl ?_
  refine Wk.aload (pc' := 331) C at_329 rfl rfl rfl ?_
  refine Wk.aload (pc' := 333) C at_331 rfl rfl rfl ?_
  refine Wk.iconst (z := (3 : Int32)) (pc' := 334) C at_333 rfl rfl ?_
  refine Wk.iload (pc' := 336) C at_334 rfl rfl ?_
  refine Wk.iload (pc' := 338) C at_336 rfl rfl ?_
  refine Wk.iload (pc' := 340) C at_338 rfl rfl ?_
  refine Wk.iload (pc' := 342) C at_340 rfl rfl ?_
  refine Wk.callS (pc' := 345) (rm := { frames := 0, cells := 0, slots := 0, locals := 0 }) (W0 := 0) (argsL := [.ref a32, .ref a33, .ref a34, .ref a38, .int (3 : Int32), .int v31, .int v28, .int v29, .int v30]) (st := []) C (w12 hw) (w13 hw) (w5 hw) (w14 hw) (by decide) (fun h O => rm3 l Z a0 hw a32 a33 a34 a38 (3 : Int32) v31 v28 v29 v30 ((a38, ArrC Z .char 4 (flg f35 f36 f37 v28 v29 v30 (upd (upd (upd (upd (fun _ => 0) 0 (nar .char (30583 : Int32))) 1 (nar .char (30583 : Int32))) 2 (nar .char (30583 : Int32))) 3 (nar .char (30583 : Int32))) nn)) :: (a34, ArrC Z .char 4 f37) :: (a33, ArrC Z .char 4 f36) :: (a32, ArrC Z .char 4 f35) :: []) 3 2 1 0 3 f35 f36 f37 (flg f35 f36 f37 v28 v29 v30 (upd (upd (upd (upd (fun _ => 0) 0 (nar .char (30583 : Int32))) 1 (nar .char (30583 : Int32))) 2 (nar .char (30583 : Int32))) 3 (nar .char (30583 : Int32))) nn) h n0 O rfl rfl rfl rfl (by decide) (by decide)) (by decide) (by decide) (by decide) (by decide) at_342 rfl pd_2 rfl rfl rfl rfl ?_
  rintro _ h' ⟨rfl, O'⟩
  refine ⟨_, O', ?_⟩
  change Wk p l e _ m _ below meth c _ _ n0 ((a38, ArrC Z .char 4 (flg f35 f36 f37 v28 v29 v30 (upd (upd (upd (upd (fun _ => 0) 0 (nar .char (30583 : Int32))) 1 (nar .char (30583 : Int32))) 2 (nar .char (30583 : Int32))) 3 (nar .char (30583 : Int32))) nn)) :: (a34, ArrC Z .char 4 f37) :: (a33, ArrC Z .char 4 f36) :: (a32, ArrC Z .char 4 f35) :: []) 4 16 345 #[.val (.int x0), .val (.int x1), .val (.int x2), .val (.int x3), .val (.int x4), .val (.int x5), .val (.int v28), .val (.int v29), .val (.int v30), .val (.int v31), .val (.ref a32), .val (.ref a33), .val (.ref a34), .val (.ref a38)] [.int (nar .boolean (oneF ((3 : Int32) < v31) (f35 3) (f36 3) (f37 3) ((flg f35 f36 f37 v28 v29 v30 (upd (upd (upd (upd (fun _ => 0) 0 (nar .char (30583 : Int32))) 1 (nar .char (30583 : Int32))) 2 (nar .char (30583 : Int32))) 3 (nar .char (30583 : Int32))) nn) 3) v28 v29 v30))]
  refine Wk.if_eq (pcT := 352) (pcF := 348) C at_345 (by decide) (by decide) rfl (fun c42 => (show False from absurd (c42.symm.trans (own_one (own_lt (rfl : (3 : Int32).toInt = ((3 : Nat) : Int)) hnn) hch0 hch1 hch2 hca6 hca7 hca8 rfl)) (by decide)).elim) (fun c42 => ?_)
  refine Wk.iconst (z := (1 : Int32)) (pc' := 349) C at_348 rfl rfl ?_
  refine Wk.goto (pc' := 353) C at_349 (by decide) (by decide) ?_
  exact Wk.retN C J at_353 (by decide) (by decide) (by simp) rfl (fun h O => rfl)
set_option maxRecDepth 65536 in
set_option maxHeartbeats 40000000 in
theorem comes_1 {Post : Tables → Env → Array Value → State → Outcome → State → Prop} (hpost : ∀ tb e args s v u, (limb_1_1.after args s (.returned v) u = true ∧ limb_1_2.after args s (.returned v) u = true ∧ True) → FrameEnd s (.returned v) u (Jvm.fieldLocs frame_1_writes args s ++ Jvm.arrayLocs frame_1_arrays args s ++ Jvm.staticLocs frame_1_statics s) 16 128 → Post tb e args s (.returned v) u) :
    ArmFor flags0 classFile x code maxLocals ret World_1 tables_1 room_1 Calls_1 rest_1 Pre_1 Post := by
  intro l hfl _ _ p e ha hc hk s m args below hf hA hF happ hP
  obtain ⟨hcalls, hrest, hpre⟩ := hP
  obtain ⟨-, -, -, hnamed, -, -, -, hat⟩ := (Spec.applies_iff hf).mp happ
  obtain ⟨hg, hn⟩ := and_e (Cond.before_iff.mp (show (Jvm.Cond.and given_1 narrow_1).before args s = true from hpre))
  obtain ⟨hcount, hr0⟩ := and_e hg
  obtain ⟨hi0, hr1⟩ := and_e hr0
  obtain ⟨hi1, hr2⟩ := and_e hr1
  obtain ⟨hi2, hr3⟩ := and_e hr2
  obtain ⟨hi3, hr4⟩ := and_e hr3
  obtain ⟨hi4, hr5⟩ := and_e hr4
  have hi5 := hr5
  obtain ⟨w0, w1, w2, w3, w4, w5, rfl⟩ : ∃ w0 w1 w2 w3 w4 w5 : Value, args = #[w0, w1, w2, w3, w4, w5] := by
    have hs : args.size = 6 := by simpa [Cond.value, given_1] using hcount
    obtain ⟨L⟩ := args
    match L, hs with
    | [w0, w1, w2, w3, w4, w5], _ => exact ⟨w0, w1, w2, w3, w4, w5, rfl⟩
  have hw : HW s _ := fun d (hd : d ∈ tables_1) => atoms_spec (ws := Jvm.Cond.code x code maxLocals ret :: tables_1) hat d (List.mem_cons_of_mem _ hd)
  obtain ⟨i0, e0⟩ := is_v hi0
  obtain rfl : w0 = (.int i0) := Option.some.inj e0
  obtain ⟨i1, e1⟩ := is_v hi1
  obtain rfl : w1 = (.int i1) := Option.some.inj e1
  obtain ⟨i2, e2⟩ := is_v hi2
  obtain rfl : w2 = (.int i2) := Option.some.inj e2
  obtain ⟨i3, e3⟩ := is_v hi3
  obtain rfl : w3 = (.int i3) := Option.some.inj e3
  obtain ⟨i4, e4⟩ := is_v hi4
  obtain rfl : w4 = (.int i4) := Option.some.inj e4
  obtain ⟨i5, e5⟩ := is_v hi5
  obtain rfl : w5 = (.int i5) := Option.some.inj e5
  obtain ⟨n, o, h1, h2, h3, _, L, rfl, ⟨rfl, -, N⟩, hq⟩ := rmLaw l s _ hw i0 i1 i2 i3 i4 i5 s.heap s.heap.size (Own.nil (Nat.le_refl _)) p e ha hc hk s m _ below hf ((Spec.applies_iff_loose hf).mp happ).1 ⟨rfl, State.Warmed39.refl s, rfl⟩ trivial
  refine ⟨n, _, h1, h2, h3, hpost _ _ _ _ _ _ ⟨Cond.after_iff.mpr rfl, Cond.after_iff.mpr (eq_i res_at (Term.int_eval (1)) rfl), trivial⟩ ⟨hq.1, hq.2.1, (hq.2.2.sift fun y hy => Or.inr (N y hy)).mono (by decide) (by decide)⟩⟩
theorem main_1_1 : Claimed_1_1 := comes_1 fun _ _ _ _ _ _ h hF => ⟨h.1, hF⟩
theorem main_1_2 : Claimed_1_2 := comes_1 fun _ _ _ _ _ _ h hF => ⟨h.2.1, hF⟩
end Jvm.Pilot.@@N@@
namespace Jvm.Pilot.@@N@@
open Jvm Jvm.ClassFile Sem Op Lib Jvm.Free Jvm.Stand Jvm.Pilot.@@N@@.Jvm.D
/-! MADE BY PROGRAM (witnessworld.py) out of the Statement's table words and the real class files: 11 classes; the members and pool entries that the words name. The judged class is class 1, her method 3. -/
namespace start1
open Jvm.ClassFile
def u (s : String) : CpInfo := .utf8 (stringToUtf16 s)
/-- a pool by its gaps: so many unusable entries, then the entry; so many at the end -/
def gap : Nat → List CpInfo → List CpInfo
  | 0, r => r
  | n + 1, r => .unusable :: gap n r
def poolList (es : List (Nat × CpInfo)) (last : Nat) : List CpInfo := es.foldr (fun e r => gap e.1 (e.2 :: r)) (gap last [])
def pool (es : List (Nat × CpInfo)) (last : Nat) : Array CpInfo := ⟨poolList es last⟩
def fileOf (pool : Array CpInfo) (this : Nat) (attrs : Array Attribute := #[]) (ms : Array MethodInfo := #[]) (fl : Nat := 33) (sup : Nat := 0) (ifs : Array Nat := #[]) (fds : Array FieldInfo := #[]) : ClassFile where
  minorVersion := 0
  majorVersion := 65
  constantPool := pool
  accessFlags := fl
  thisClass := this
  superClass := sup
  interfaces := ifs
  fields := fds
  methods := ms
  attributes := attrs
def plain (name : String) (sup : Option ClassId) : Class where
  name := name
  kind := .ordinary
  loader := none
  accessFlags := 33
  super := sup
  interfaces := #[]
  cf := none
  fields := #[]
  methods := #[]
  instanceTypes := #[]
  staticTypes := #[]
  resolved := #[]
  callSites := []
  init := .initialized
  statics := none
  mirror := none

def pool0 : Array CpInfo := pool [(5, u "<init>"), (0, u "()V"), (1, .class_ 10), (1, u "java/lang/Object")] 113

def k0m0 : Method := { name := "<init>", desc := "()V", sig := { parameters := [], returnType := none }, accessFlags := 1, code := none }
/-- java/lang/Object -/
def k0 : Class := { plain "java/lang/Object" none with
  accessFlags := 33
  interfaces := #[]
  cf := some (fileOf pool0 8 #[] #[{ accessFlags := 1, nameIndex := 5, descriptorIndex := 6, attributes := #[] }] 33 0 #[] #[])
  fields := #[]
  methods := #[k0m0]
  instanceTypes := #[]
  staticTypes := #[]
  resolved := Array.replicate 124 none
  statics := none }

def pool1 : Array CpInfo := pool [(2, .class_ 4), (1, u "java/lang/Object"), (0, u "<init>"), (0, u "()V"), (0, .integer 32768), (0, .integer 65535), (0, .integer 2147483647), (0, .methodref 11 12), (0, .class_ 13), (0, .nameAndType 14 15), (0, u "com/example/frugal_match/frugalmatch/matcher/SkipFlagPinLaw"), (0, u "lane"), (0, u "(IIII)C"), (0, .methodref 17 18), (0, .class_ 19), (0, .nameAndType 20 21), (0, u "com/example/frugal_match/frugalmatch/matcher/Skip"), (0, u "flag"), (0, u "([C[C[CIIII[C)V"), (0, .methodref 11 23), (0, .nameAndType 24 25), (0, u "one"), (0, u "([C[C[C[CIIIII)Z"), (3, u "law"), (0, u "(IIIIII)Z")] 4

def k1m0 : Method := { name := "<init>", desc := "()V", sig := { parameters := [], returnType := none }, accessFlags := 2, code := none }
def k1c1 : Code := { maxStack := 3, maxLocals := 4, code := method_2_code, exceptionTable := #[], attributes := #[] }
def k1m1 : Method := { name := "lane", desc := "(IIII)C", sig := { parameters := [.int, .int, .int, .int], returnType := some .char }, accessFlags := 10, code := some k1c1 }
def k1c2 : Code := { maxStack := 2, maxLocals := 10, code := method_3_code, exceptionTable := #[], attributes := #[] }
def k1m2 : Method := { name := "one", desc := "([C[C[C[CIIIII)Z", sig := { parameters := [(.array .char), (.array .char), (.array .char), (.array .char), .int, .int, .int, .int, .int], returnType := some .boolean }, accessFlags := 10, code := some k1c2 }
def k1c3 : Code := { maxStack := 9, maxLocals := 14, code := code, exceptionTable := #[], attributes := #[] }
def k1m3 : Method := { name := "law", desc := "(IIIIII)Z", sig := { parameters := [.int, .int, .int, .int, .int, .int], returnType := some .boolean }, accessFlags := 9, code := some k1c3 }
/-- com/example/frugal_match/frugalmatch/matcher/SkipFlagPinLaw -/
def k1 : Class := { plain "com/example/frugal_match/frugalmatch/matcher/SkipFlagPinLaw" (some 0) with
  accessFlags := 49
  interfaces := #[]
  cf := some (fileOf pool1 11 #[] #[{ accessFlags := 2, nameIndex := 5, descriptorIndex := 6, attributes := #[] }, { accessFlags := 10, nameIndex := 14, descriptorIndex := 15, attributes := #[] }, { accessFlags := 10, nameIndex := 24, descriptorIndex := 25, attributes := #[] }, { accessFlags := 9, nameIndex := 29, descriptorIndex := 30, attributes := #[] }] 49 2 #[] #[])
  fields := #[]
  methods := #[k1m0, k1m1, k1m2, k1m3]
  instanceTypes := #[]
  staticTypes := #[]
  resolved := Array.replicate 35 none
  statics := none }

def pool2 : Array CpInfo := pool [(3, .class_ 4), (0, u "com/example/frugal_match/frugalmatch/matcher/Skip"), (1, .class_ 8), (1, u "java/lang/Object"), (0, u "<init>"), (0, u "()V"), (2, u "LONGS"), (0, u "Ljava/lang/invoke/VarHandle;"), (14, .integer 32768), (49, u "FLAGS_READ"), (0, u "I"), (2, u "GATHER"), (0, u "J"), (0, u "ONES"), (0, u "HIGHS"), (0, u "ALL"), (1, u "CASE"), (0, u "BYTE_FLAG"), (0, u "B"), (1, u "CHAR_FLAG"), (0, u "C"), (3, u "flag"), (1, u "([C[C[CIIII[C)V")] 10

def k2m0 : Method := { name := "<init>", desc := "()V", sig := { parameters := [], returnType := none }, accessFlags := 2, code := none }
def k2c1 : Code := { maxStack := 5, maxLocals := 10, code := prog_47_method_6_code, exceptionTable := #[], attributes := #[] }
def k2m1 : Method := { name := "flag", desc := "([C[C[CIIII[C)V", sig := { parameters := [(.array .char), (.array .char), (.array .char), .int, .int, .int, .int, (.array .char)], returnType := none }, accessFlags := 8, code := some k2c1 }
/-- com/example/frugal_match/frugalmatch/matcher/Skip -/
def k2 : Class := { plain "com/example/frugal_match/frugalmatch/matcher/Skip" (some 0) with
  accessFlags := 48
  interfaces := #[]
  cf := some (fileOf pool2 3 #[] #[{ accessFlags := 2, nameIndex := 9, descriptorIndex := 10, attributes := #[] }, { accessFlags := 8, nameIndex := 98, descriptorIndex := 100, attributes := #[] }] 48 6 #[] #[{ accessFlags := 24, nameIndex := 79, descriptorIndex := 80, attributes := #[] }, { accessFlags := 26, nameIndex := 13, descriptorIndex := 14, attributes := #[] }, { accessFlags := 26, nameIndex := 83, descriptorIndex := 84, attributes := #[] }, { accessFlags := 26, nameIndex := 85, descriptorIndex := 84, attributes := #[] }, { accessFlags := 26, nameIndex := 86, descriptorIndex := 84, attributes := #[] }, { accessFlags := 26, nameIndex := 87, descriptorIndex := 80, attributes := #[] }, { accessFlags := 26, nameIndex := 89, descriptorIndex := 80, attributes := #[] }, { accessFlags := 26, nameIndex := 90, descriptorIndex := 91, attributes := #[] }, { accessFlags := 26, nameIndex := 93, descriptorIndex := 94, attributes := #[] }])
  fields := #[{ name := "FLAGS_READ", type := .int, accessFlags := 24, slot := 0, constantValue := 0 }, { name := "LONGS", type := (.object "java/lang/invoke/VarHandle"), accessFlags := 26, slot := 1, constantValue := 0 }, { name := "GATHER", type := .long, accessFlags := 26, slot := 2, constantValue := 0 }, { name := "ONES", type := .long, accessFlags := 26, slot := 3, constantValue := 0 }, { name := "HIGHS", type := .long, accessFlags := 26, slot := 4, constantValue := 0 }, { name := "ALL", type := .int, accessFlags := 26, slot := 5, constantValue := 0 }, { name := "CASE", type := .int, accessFlags := 26, slot := 6, constantValue := 0 }, { name := "BYTE_FLAG", type := .byte, accessFlags := 26, slot := 7, constantValue := 0 }, { name := "CHAR_FLAG", type := .char, accessFlags := 26, slot := 8, constantValue := 0 }]
  methods := #[k2m0, k2m1]
  instanceTypes := #[]
  staticTypes := #[.int, (.object "java/lang/invoke/VarHandle"), .long, .long, .long, .int, .int, .byte, .char]
  resolved := Array.replicate 111 none
  statics := none }

def pool3 : Array CpInfo := pool [(1, u "java/lang/Cloneable"), (0, .class_ 1), (0, u "java/lang/Object"), (0, .class_ 3)] 3

/-- java/lang/Cloneable -/
def k3 : Class := { plain "java/lang/Cloneable" (some 0) with
  accessFlags := 1537
  interfaces := #[]
  cf := some (fileOf pool3 2 #[] #[] 1537 4 #[] #[])
  fields := #[]
  methods := #[]
  instanceTypes := #[]
  staticTypes := #[]
  resolved := Array.replicate 8 none
  statics := none }

def pool4 : Array CpInfo := pool [(1, u "java/io/Serializable"), (0, .class_ 1), (0, u "java/lang/Object"), (0, .class_ 3)] 3

/-- java/io/Serializable -/
def k4 : Class := { plain "java/io/Serializable" (some 0) with
  accessFlags := 1537
  interfaces := #[]
  cf := some (fileOf pool4 2 #[] #[] 1537 4 #[] #[])
  fields := #[]
  methods := #[]
  instanceTypes := #[]
  staticTypes := #[]
  resolved := Array.replicate 8 none
  statics := none }

/-- the primitive byte -/
def k5 : Class := { plain "byte" none with kind := .primitive 'B', accessFlags := 0x411 }
/-- [B -/
def k6 : Class := { plain "[B" (some 0) with kind := .array 5 .byte, interfaces := #[3, 4], accessFlags := 1041 }

/-- the primitive char -/
def k7 : Class := { plain "char" none with kind := .primitive 'C', accessFlags := 0x411 }
/-- [C -/
def k8 : Class := { plain "[C" (some 0) with kind := .array 7 .char, interfaces := #[3, 4], accessFlags := 1041 }

/-- the primitive int -/
def k9 : Class := { plain "int" none with kind := .primitive 'I', accessFlags := 0x411 }
/-- [I -/
def k10 : Class := { plain "[I" (some 0) with kind := .array 9 .int, interfaces := #[3, 4], accessFlags := 1041 }

def heap : Heap := #[]
def classes : Array Class := #[k0, k1, k2, k3, k4, k5, k6, k7, k8, k9, k10]
def interned : List (Array UInt16 × Addr) := []
def slotsUsed : Nat := 0
def theMethod : MethodId := ⟨1, 3⟩
def args0 : Array Value := #[.int 7, .int 200, .int 3, .int 9, .int 5, .int 3]
def aboutOver (below : List Frame) : State where
  vm := { classes := classes, interned := interned.toArray }
  heap := heap
  slotsUsed := slotsUsed
  threads := #[{ frames := .invoking theMethod args0 :: below }]
def below0 : List Frame := [.native { method := ⟨0, 0⟩, args := #[] }]
def about1 : State := aboutOver below0
def p0 : Program := .bare "" "" ""
def e0 : Env := launch0.env 0 0 0
theorem w_frames : about1.frames = Frame.invoking theMethod args0 :: below0 := rfl
set_option maxRecDepth 65536 in
theorem w_args : argsFit about1.vm theMethod args0 = true := by decide +kernel
set_option maxRecDepth 65536 in
theorem w_heap : heapFits about1 = true := by decide +kernel
set_option maxRecDepth 65536 in
theorem w_runnable : about1.curStatus? = some .runnable := by decide +kernel
set_option maxRecDepth 65536 in
theorem w_alone : about1.alone = true := by decide +kernel
set_option maxRecDepth 65536 in
theorem w_named : about1.methodNamed? x = some theMethod := by decide +kernel
set_option maxRecDepth 65536 in
theorem w_hears : about1.hears theMethod below0 = true := by decide +kernel
set_option maxRecDepth 65536 in
theorem w_ripe : about1.ripe theMethod args0 below0 = true := by decide +kernel
theorem w_running : about1.status = .running := rfl
set_option maxRecDepth 65536 in
theorem w_room : about1.hasRoom e0.platform room_1 = true :=
  launch0.hasRoom_least _ room_1 (by decide +kernel) (by decide +kernel) (by decide +kernel) (by decide +kernel) (by decide +kernel) (by decide +kernel)
theorem allAtoms_all (ts : List Jvm.Cond) (a : Array Jvm.Value) (st : Jvm.State) : (allAtoms ts).before a st = ts.all (fun c => c.before a st) := by
  induction ts with
  | nil => rfl
  | cons c t ih =>
    show (Jvm.Cond.and c (allAtoms t)).before a st = _
    rw [Jvm.Cond.before_and, ih, List.all_cons]
def words1 : List Jvm.Cond := Jvm.Cond.code x code maxLocals ret :: tables_1
/-- a 'code' word, met by the world's own term for the bytes: nothing is compared byte by byte -/
theorem code_word {y : MethodName} {bytes : ByteArray} {mx : Nat} {rt : Option FieldType} {a : Array Value} {s : State} {m : MethodId} {meth : Method} {c : Code} (h1 : s.methodNamed? y = some m) (h2 : s.vm.method? m = some meth) (h3 : meth.code = some c) (h4 : c.code = bytes)
    (h5 : (c.maxLocals == mx && c.exceptionTable.isEmpty && decide (c.maxStack ≤ mostOperands) && decide (meth.sig.returnType = rt) && !meth.locks && decide (parseMethodDescriptor y.desc = some meth.sig)) = true) : (Jvm.Cond.code y bytes mx rt).before a s = true := by
  simp only [Bool.and_eq_true, beq_iff_eq, Bool.not_eq_true', decide_eq_true_eq] at h5
  obtain ⟨⟨⟨⟨⟨g1, g2⟩, g3⟩, g4⟩, g5⟩, g6⟩ := h5
  simp [Cond.before, Cond.holds, Cond.value, h1, h2, h3, h4, g1, g2, g3, g4, g5, g6]
def isCode : Jvm.Cond → Bool
  | .code _ _ _ _ => true
  | _ => false
theorem all_split {L : List Jvm.Cond} {P : Jvm.Cond → Bool} (h1 : L.all (fun c => isCode c || P c) = true) (h2 : ∀ c ∈ L.filter isCode, P c = true) : L.all P = true := by
  refine List.all_eq_true.mpr fun c hc => ?_
  have h := List.all_eq_true.mp h1 c hc
  rcases Bool.eq_false_or_eq_true (isCode c) with hi | hi
  · exact h2 c (List.mem_filter.mpr ⟨hc, hi⟩)
  · simpa [hi] using h
set_option maxRecDepth 65536 in
theorem w_c0 : (Jvm.Cond.code x code maxLocals ret).before args0 about1 = true := code_word (m := ⟨1, 3⟩) (meth := k1m3) (c := k1c3) (by decide +kernel) rfl rfl rfl (by decide +kernel)
set_option maxRecDepth 65536 in
theorem w_c1 : (Jvm.Cond.code ({ cls := "com/example/frugal_match/frugalmatch/matcher/SkipFlagPinLaw", name := "lane", desc := "(IIII)C" } : Jvm.MethodName) method_2_code (4 : Nat) (Option.some Jvm.ClassFile.FieldType.char)).before args0 about1 = true := code_word (m := ⟨1, 1⟩) (meth := k1m1) (c := k1c1) (by decide +kernel) rfl rfl rfl (by decide +kernel)
set_option maxRecDepth 65536 in
theorem w_c2 : (Jvm.Cond.code ({ cls := "com/example/frugal_match/frugalmatch/matcher/Skip", name := "flag", desc := "([C[C[CIIII[C)V" } : Jvm.MethodName) prog_47_method_6_code (10 : Nat) (Option.none : Option Jvm.ClassFile.FieldType)).before args0 about1 = true := code_word (m := ⟨2, 1⟩) (meth := k2m1) (c := k2c1) (by decide +kernel) rfl rfl rfl (by decide +kernel)
set_option maxRecDepth 65536 in
theorem w_c3 : (Jvm.Cond.code ({ cls := "com/example/frugal_match/frugalmatch/matcher/SkipFlagPinLaw", name := "one", desc := "([C[C[C[CIIIII)Z" } : Jvm.MethodName) method_3_code (10 : Nat) (Option.some Jvm.ClassFile.FieldType.boolean)).before args0 about1 = true := code_word (m := ⟨1, 2⟩) (meth := k1m2) (c := k1c2) (by decide +kernel) rfl rfl rfl (by decide +kernel)
def codes1 : List Jvm.Cond := [Jvm.Cond.code x code maxLocals ret, Jvm.Cond.code ({ cls := "com/example/frugal_match/frugalmatch/matcher/SkipFlagPinLaw", name := "lane", desc := "(IIII)C" } : Jvm.MethodName) method_2_code (4 : Nat) (Option.some Jvm.ClassFile.FieldType.char), Jvm.Cond.code ({ cls := "com/example/frugal_match/frugalmatch/matcher/Skip", name := "flag", desc := "([C[C[CIIII[C)V" } : Jvm.MethodName) prog_47_method_6_code (10 : Nat) (Option.none : Option Jvm.ClassFile.FieldType), Jvm.Cond.code ({ cls := "com/example/frugal_match/frugalmatch/matcher/SkipFlagPinLaw", name := "one", desc := "([C[C[C[CIIIII)Z" } : Jvm.MethodName) method_3_code (10 : Nat) (Option.some Jvm.ClassFile.FieldType.boolean)]
set_option maxRecDepth 65536 in
theorem codes_eq : words1.filter isCode = codes1 := rfl
theorem w_codes : ∀ c ∈ words1.filter isCode, c.before args0 about1 = true := by
  rw [codes_eq]
  intro c hc
  simp only [codes1, List.mem_cons, List.not_mem_nil, or_false] at hc
  rcases hc with rfl | rfl | rfl | rfl
  · exact w_c0
  · exact w_c1
  · exact w_c2
  · exact w_c3
set_option maxRecDepth 65536 in
theorem w_t1 : words1.all (fun c => isCode c || c.before args0 about1) = true := by decide +kernel
theorem w_tables : (allAtoms (Jvm.Cond.code x code maxLocals ret :: tables_1)).before args0 about1 = true := by
  rw [allAtoms_all]
  show words1.all (fun c => c.before args0 about1) = true
  refine all_split ?_ w_codes
  rw [w_t1]
set_option maxRecDepth 65536 in
theorem w_case : (Jvm.Cond.and given_1 narrow_1).before args0 about1 = true := by decide +kernel
theorem w_applies : (headSpec (Jvm.Cond.code x code maxLocals ret :: tables_1) room_1).applies x e0.platform about1 = true :=
  (Spec.applies_iff w_frames).mpr ⟨w_running, w_runnable, w_alone, w_named, w_hears, w_ripe, w_room, w_tables⟩
theorem atStart : AtStart classFile x code maxLocals ret World_1 tables_1 room_1 Calls_1 rest_1 Pre_1 launch0 p0 e0 about1 theMethod args0 below0 :=
  ⟨lists_1, trivial, launch0.admits_env _ _ _, launch0.least_env, fairChoices_fair.cas, fairChoices_fair.clock, w_frames, w_args, w_heap, w_applies, trivial, trivial, w_case⟩
end start1
theorem witness_1 : WitnessClaimed_1 := ⟨start1.p0, start1.e0, start1.about1, start1.theMethod, start1.args0, start1.below0, start1.atStart⟩
end Jvm.Pilot.@@N@@
