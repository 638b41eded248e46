import JvmDerived
import JvmDerived.Pilot.@@N@@Statement
import JvmDerived.Pilot.@@N@@Code
set_option linter.unusedVariables false
set_option linter.unusedSimpArgs false
namespace Jvm.RoadKit
open Sem ClassFile Op Lib Jvm.Stand Jvm.Free Jvm.LawKit
section New
variable {p : Program} {l : Launch} {e : Env} {R : Room} {s : State} {m : MethodId} {args : Array Value} {below : List Frame} {meth : Method} {c : Code} {T : State} {locs : List Loc} {cells slots : Nat}
theorem retI (X : Stand p l e R s m args below meth c T locs cells slots) (hx : p.tables.exec = Jvm.exec) {pc : Nat} {Ls : Array Slot} {z : Int32} {rest : List Value} (hret : meth.sig.returnType = some .int) (hd : decode c.code pc = .ok (.ireturn, 1)) {fs : List Frame}
    (hl : ∀ (f : JFrame) (acts : List Action), f.method = m → f.locked = none → f.entered = [] → (doReturn e (T.setTop f) acts (some (.int z))).1 = T.setFrames fs) : Steps p.tables e below (T.setTop (mkF m pc Ls (.int z :: rest))) (T.setFrames fs) :=
  retOut X hx hret rfl (Or.inl ⟨rfl, Or.inl rfl, z, rfl⟩) hd hl
end New
end Jvm.RoadKit
namespace Jvm.Pilot.@@N@@
open Jvm Jvm.ClassFile Sem Op Lib Jvm.Free Jvm.Stand Jvm.LawKit Jvm.RoadKit Bundle Jvm.Pilot.@@N@@.Jvm.D
section OwnKit
variable {p : Program} {l : Launch} {e : Env} {R : Room} {m : MethodId} {args : Array Value} {below : List Frame} {meth : Method} {c : Code} {M : State → Heap → Prop} {P : State → Prop} {n0 : Nat} {Z : State} {a0 : Array Value} {own name : String} {bytes : ByteArray} {maxL : Nat} {ret : Option FieldType} {L : List (Addr × (Cell → Prop))} {k n pc pc' : Nat} {Ls Ls' : Array Slot} {st : List Value}
/-! what is known of the heap: a list of the own cells, each with what it holds -/
def Hs (h : Heap) (a : Addr) (φ : Cell → Prop) : Prop := ∃ c : Cell, h[a]? = some c ∧ φ c
def Own (n0 : Nat) (h : Heap) (L : List (Addr × (Cell → Prop))) : Prop := n0 ≤ h.size ∧ (∀ (i j : Nat) x y, L[i]? = some x → L[j]? = some y → x.1 = y.1 → i = j) ∧ ∀ (i : Nat) x, L[i]? = some x → n0 ≤ x.1 ∧ Hs h x.1 x.2
theorem Own.nil {h : Heap} (q : n0 ≤ h.size) : Own n0 h [] := ⟨q, fun i j x y hx => by simp at hx, fun i x hx => by simp at hx⟩
theorem Own.lt {h : Heap} (O : Own n0 h L) {i : Nat} {x : Addr × (Cell → Prop)} (hi : L[i]? = some x) : x.1 < h.size := by
  obtain ⟨c, h1, -⟩ := (O.2.2 i x hi).2
  exact (Array.getElem?_eq_some_iff.mp h1).1
theorem Own.ext {h h' : Heap} (O : Own n0 h L) (E : Ext h h') : Own n0 h' L :=
  ⟨Nat.le_trans O.1 E.1, O.2.1, fun i x hx => ⟨(O.2.2 i x hx).1, by obtain ⟨c, h1, h2⟩ := (O.2.2 i x hx).2; exact ⟨c, E.2 _ _ h1, h2⟩⟩⟩
theorem Own.cons {h h' : Heap} {φ : Cell → Prop} (O : Own n0 h L) (E : Ext h h') (F : Hs h' h.size φ) : Own n0 h' ((h.size, φ) :: L) := by
  have O' := O.ext E
  refine ⟨O'.1, fun i j x y hx hy e => ?_, fun i x hx => ?_⟩
  · match i, j with
    | 0, 0 => rfl
    | 0, j + 1 =>
      simp only [List.getElem?_cons_zero, Option.some.injEq] at hx
      simp only [List.getElem?_cons_succ] at hy
      subst hx; exact absurd e (Nat.ne_of_gt (O.lt hy))
    | i + 1, 0 =>
      simp only [List.getElem?_cons_zero, Option.some.injEq] at hy
      simp only [List.getElem?_cons_succ] at hx
      subst hy; exact absurd e (Nat.ne_of_lt (O.lt hx))
    | i + 1, j + 1 =>
      simp only [List.getElem?_cons_succ] at hx hy
      rw [O.2.1 i j x y hx hy e]
  · match i with
    | 0 =>
      simp only [List.getElem?_cons_zero, Option.some.injEq] at hx
      subst hx; exact ⟨O.1, F⟩
    | i + 1 =>
      simp only [List.getElem?_cons_succ] at hx
      exact O'.2.2 i x hx
theorem Own.set {h h' : Heap} {i : Nat} {a : Addr} {φ φ' : Cell → Prop} (O : Own n0 h L) (hi : L[i]? = some (a, φ)) (hs : h.size ≤ h'.size) (ho : ∀ (b : Addr) (c : Cell), b ≠ a → h[b]? = some c → h'[b]? = some c) (F : Hs h' a φ') : Own n0 h' (L.set i (a, φ')) := by
  have key : ∀ j x, (L.set i (a, φ'))[j]? = some x → (j = i ∧ x = (a, φ')) ∨ (j ≠ i ∧ L[j]? = some x) := by
    intro j x hx
    rw [List.getElem?_set] at hx
    by_cases q : i = j
    · rw [if_pos q] at hx
      split at hx
      · exact Or.inl ⟨q.symm, (Option.some.inj hx).symm⟩
      · cases hx
    · rw [if_neg q] at hx; exact Or.inr ⟨fun e => q e.symm, hx⟩
  refine ⟨Nat.le_trans O.1 hs, fun j j' x y hx hy e => ?_, fun j x hx => ?_⟩
  · rcases key j x hx with ⟨rfl, rfl⟩ | ⟨q1, q2⟩ <;> rcases key j' y hy with ⟨rfl, rfl⟩ | ⟨r1, r2⟩
    · rfl
    · exact O.2.1 _ _ _ _ hi r2 e
    · exact O.2.1 _ _ _ _ q2 hi e
    · exact O.2.1 _ _ _ _ q2 r2 e
  · rcases key j x hx with ⟨rfl, rfl⟩ | ⟨q1, q2⟩
    · exact ⟨(O.2.2 _ _ hi).1, F⟩
    · obtain ⟨c, h1, h2⟩ := (O.2.2 _ _ q2).2
      exact ⟨(O.2.2 _ _ q2).1, c, ho _ _ (fun e => q1 (O.2.1 _ _ _ _ q2 hi e)) h1, h2⟩
theorem Own.wr {h h' : Heap} {i sl : Nat} {v : Value} {a : Addr} {φ φ' : Cell → Prop} (O : Own n0 h L) (Wh : Wr h h' a sl v) (hi : L[i]? = some (a, φ)) (hφ : ∀ c : Cell, φ c → sl < c.slots.size → φ' (c.setSlot sl v)) : Own n0 h' (L.set i (a, φ')) := by
  obtain ⟨c, h1, h2⟩ := (O.2.2 _ _ hi).2
  have hsl : sl < c.slots.size := by
    obtain ⟨cell, g1, -, g3, -⟩ := Wh
    cases h1.symm.trans g1; exact g3
  refine O.set hi (Nat.le_of_eq Wh.size.symm) (fun b cb hb hc => ?_) ?_
  · obtain ⟨c', e1, -, -, -, e5, -⟩ := wr_at Wh hc
    rw [e5 hb] at e1; exact e1
  · obtain ⟨c', e1, -, -, -, -, -, e7⟩ := wr_at Wh h1
    exact ⟨c', e1, by rw [(e7 rfl).1]; exact hφ c h2 hsl⟩
theorem Own.re {h : Heap} {L' : List (Addr × (Cell → Prop))} (O : Own n0 h L) (f : Nat → Nat) (hf : ∀ j x, L'[j]? = some x → L[f j]? = some x) (hinj : ∀ i j, i < L'.length → j < L'.length → f i = f j → i = j) : Own n0 h L' :=
  ⟨O.1, fun i j x y hx hy e => hinj i j (List.getElem?_eq_some_iff.mp hx).1 (List.getElem?_eq_some_iff.mp hy).1 (O.2.1 _ _ _ _ (hf i x hx) (hf j y hy) e), fun i x hx => O.2.2 _ _ (hf i x hx)⟩
theorem Own.front {h : Heap} (O : Own n0 h L) (i : Nat) {x : Addr × (Cell → Prop)} (hi : L[i]? = some x) : Own n0 h (x :: L.eraseIdx i) := by
  refine O.re (fun j => match j with | 0 => i | j + 1 => if j < i then j else j + 1) (fun j y hy => ?_) (fun j j' _ _ e => ?_)
  · match j with
    | 0 => simp only [List.getElem?_cons_zero, Option.some.injEq] at hy; subst hy; exact hi
    | j + 1 =>
      simp only [List.getElem?_cons_succ, List.getElem?_eraseIdx] at hy
      dsimp only
      split at hy
      · rename_i q; rw [if_pos q]; exact hy
      · rename_i q; rw [if_neg q]; exact hy
  · match j, j' with
    | 0, 0 => rfl
    | 0, j' + 1 => dsimp only at e; split at e <;> omega
    | j + 1, 0 => dsimp only at e; split at e <;> omega
    | j + 1, j' + 1 => dsimp only at e; split at e <;> split at e <;> omega
theorem Own.imp {h : Heap} {i : Nat} {a : Addr} {φ φ' : Cell → Prop} (O : Own n0 h L) (hi : L[i]? = some (a, φ)) (q : ∀ c, φ c → φ' c) : Own n0 h (L.set i (a, φ')) :=
  O.set hi (Nat.le_refl _) (fun _ _ _ r => r) (by obtain ⟨c, h1, h2⟩ := (O.2.2 _ _ hi).2; exact ⟨c, h1, q c h2⟩)
theorem Own.drop {h : Heap} (O : Own n0 h L) (i : Nat) : Own n0 h (L.eraseIdx i) := by
  refine O.re (fun j => if j < i then j else j + 1) (fun j y hy => ?_) (fun j j' _ _ e => ?_)
  · rw [List.getElem?_eraseIdx] at hy
    split at hy
    · rename_i q; show L[if j < i then j else j + 1]? = _; rw [if_pos q]; exact hy
    · rename_i q; show L[if j < i then j else j + 1]? = _; rw [if_neg q]; exact hy
  · split at e <;> split at e <;> omega
theorem Own.tail {h : Heap} {x : Addr × (Cell → Prop)} (O : Own n0 h (x :: L)) : Own n0 h L :=
  O.re (fun j => j + 1) (fun j y hy => by simpa using hy) (fun i j _ _ e => by omega)
theorem Own.ne {h : Heap} {i j : Nat} {a b : Addr} {φ ψ : Cell → Prop} (O : Own n0 h L) (hi : L[i]? = some (a, φ)) (hj : L[j]? = some (b, ψ)) (q : i ≠ j) : a ≠ b := fun e => q (O.2.1 _ _ _ _ hi hj e)
/-! arrays of ints, bytes, chars ..: n places, the i-th holds f i -/
def upd (f : Nat → Int32) (i : Nat) (v : Int32) : Nat → Int32 := fun j => if j = i then v else f j
theorem upd_hit (f : Nat → Int32) (i : Nat) (v : Int32) : upd f i v i = v := if_pos rfl
theorem upd_miss (f : Nat → Int32) {i j : Nat} (v : Int32) (q : j ≠ i) : upd f i v j = f j := if_neg q
def ExaC (Z : State) (C : String) (cell : Cell) : Prop := ∃ k : Class, Z.vm.findClass C = some cell.cls ∧ Z.vm.classes[cell.cls]? = some k ∧ cell.vm.isStatics = false ∧ (k.kind = .ordinary → cell.slots.size = k.instanceTypes.size)
def ArrC (Z : State) (ty : FieldType) (n : Nat) (f : Nat → Int32) (c : Cell) : Prop := Z.isArrayOf c ty ∧ c.vm ≠ .unknown ∧ c.slots.size = n ∧ (∀ i, i < n → c.slots[i]? = some (.int (f i))) ∧ (∀ i, i < n → fits ty (.int (f i)) = true) ∧ ExaC Z ("[" ++ ty.toString) c
theorem ArrC.congr {ty : FieldType} {f g : Nat → Int32} {c : Cell} (A : ArrC Z ty n f c) (q : ∀ i, i < n → f i = g i) : ArrC Z ty n g c := ⟨A.1, A.2.1, A.2.2.1, fun i hi => by rw [← q i hi]; exact A.2.2.2.1 i hi, fun i hi => by rw [← q i hi]; exact A.2.2.2.2.1 i hi, A.2.2.2.2.2⟩
theorem ArrC.set {ty : FieldType} {f : Nat → Int32} {c : Cell} {i : Nat} {v : Int32} (A : ArrC Z ty n f c) (hi : i < n) (hv : fits ty (.int v) = true) : ArrC Z ty n (upd f i v) (c.setSlot i (.int v)) := by
  obtain ⟨A1, A2, hs, A4, A5, k, x1, x2, x3, x4⟩ := A
  refine ⟨A1, A2, (sz_set c i _).trans hs, fun j hj => ?_, fun j hj => ?_, k, x1, x2, x3, fun q => (sz_set c i _).trans (x4 q)⟩
  · by_cases q : j = i
    · subst q; rw [upd_hit]; simp [Cell.setSlot, hs, hi]
    · rw [upd_miss _ _ q, ← A4 j hj]
      show (c.slots.setIfInBounds i _)[j]? = _
      exact Array.getElem?_setIfInBounds_ne (Ne.symm q)
  · by_cases q : j = i
    · subst q; rw [upd_hit]; exact hv
    · rw [upd_miss _ _ q]; exact A5 j hj
/-! objects: class C; the fields ks (owner, name, descriptor, type) hold vs -/
def FldC (Z : State) (C n d : String) (v : Value) (cell : Cell) : Prop := ∃ (cf : ClassId) (k : Class) (i : Nat) (f : Field), Z.fieldFound? C n d = some (cf, k, i, f) ∧ f.isStatic = false ∧ cell.vm ≠ .unknown ∧ cell.vm.isStatics = false ∧ Z.vm.assignable cell.cls cf = true ∧ cell.slots[f.slot]? = some v
def ObjC (Z : State) (C : String) (ks : List (String × String × String × FieldType)) (vs : List Value) (c : Cell) : Prop := ExaC Z C c ∧ ∀ (i : Nat) kk v, ks[i]? = some kk → vs[i]? = some v → FldC Z kk.1 kk.2.1 kk.2.2.1 v c
theorem fld_of {h : Heap} {a : Addr} {C nm d : String} {v : Value} {c : Cell} (h1 : h[a]? = some c) (F : FldC Z C nm d v c) : Fld Z h a C nm d v := by
  obtain ⟨cf, k, i, f, r⟩ := F; exact ⟨c, cf, k, i, f, h1, r⟩
theorem of_fld {h : Heap} {a : Addr} {C nm d : String} {v : Value} {c : Cell} (h1 : h[a]? = some c) (F : Fld Z h a C nm d v) : FldC Z C nm d v c := by
  obtain ⟨c', cf, k, i, f, h2, r⟩ := F
  cases h1.symm.trans h2; exact ⟨cf, k, i, f, r⟩
theorem exa_of {h : Heap} {a : Addr} {C : String} {c : Cell} (h1 : h[a]? = some c) (F : ExaC Z C c) : Exa Z h a C := by
  obtain ⟨k, r⟩ := F; exact ⟨c, k, h1, r⟩
theorem of_exa {h : Heap} {a : Addr} {C : String} {c : Cell} (h1 : h[a]? = some c) (F : Exa Z h a C) : ExaC Z C c := by
  obtain ⟨c', k, h2, r⟩ := F
  cases h1.symm.trans h2; exact ⟨k, r⟩
def Lays (Z : State) (a0 : Array Value) (C : String) (ks : List (String × String × String × FieldType)) : Prop := (∀ kk ∈ ks, Laid Z a0 C kk.1 kk.2.1 kk.2.2.1 ∧ parseFieldDescriptor kk.2.2.1 = some kk.2.2.2) ∧ (ks.map (fun kk => kk.2.1)).Nodup
theorem Lays.ne {C : String} {ks : List (String × String × String × FieldType)} (H : Lays Z a0 C ks) {i j : Nat} {x y : String × String × String × FieldType} (hx : ks[i]? = some x) (hy : ks[j]? = some y) (q : i ≠ j) : Jvm.RoadKit.slotOf Z x.1 x.2.1 x.2.2.1 ≠ Jvm.RoadKit.slotOf Z y.1 y.2.1 y.2.2.1 := by
  have h1 := H.1 x (List.mem_of_getElem? hx)
  have h2 := H.1 y (List.mem_of_getElem? hy)
  refine slot_ne h1.1 h2.1 (fun e => q ?_) h1.2 h2.2
  have hi : i < (ks.map (fun kk => kk.2.1)).length := by rw [List.length_map]; exact (List.getElem?_eq_some_iff.mp hx).1
  exact (List.getElem?_inj hi H.2).mp (by rw [List.getElem?_map, List.getElem?_map, hx, hy]; exact congrArg some e)
theorem ObjC.set {C : String} {ks : List (String × String × String × FieldType)} {vs : List Value} {c : Cell} {j : Nat} {kk : String × String × String × FieldType} {v : Value} (A : ObjC Z C ks vs c) (H : Lays Z a0 C ks) (hj : ks[j]? = some kk) (hv : j < vs.length) (hsl : Jvm.RoadKit.slotOf Z kk.1 kk.2.1 kk.2.2.1 < c.slots.size) : ObjC Z C ks (vs.set j v) (c.setSlot (Jvm.RoadKit.slotOf Z kk.1 kk.2.1 kk.2.2.1) v) := by
  obtain ⟨⟨k, e1, e2, e3, e4⟩, F⟩ := A
  refine ⟨⟨k, e1, e2, e3, fun q => (sz_set c _ _).trans (e4 q)⟩, fun i kk' w hk hw => ?_⟩
  rw [List.getElem?_set] at hw
  by_cases q : j = i
  · subst q
    rw [if_pos rfl, if_pos hv] at hw
    cases hj.symm.trans hk
    cases hw
    obtain ⟨v0, hv0⟩ : ∃ v0, vs[j]? = some v0 := ⟨_, List.getElem?_eq_getElem hv⟩
    obtain ⟨cf, kc, ii, f, f1, f2, f3, f4, f5, -⟩ := F j kk v0 hj hv0
    have es : Jvm.RoadKit.slotOf Z kk.1 kk.2.1 kk.2.2.1 = f.slot := by simp [Jvm.RoadKit.slotOf, f1]
    rw [es] at hsl ⊢
    exact ⟨cf, kc, ii, f, f1, f2, f3, f4, f5, by simp [Cell.setSlot, hsl]⟩
  · rw [if_neg q] at hw
    obtain ⟨cf, kc, ii, f, f1, f2, f3, f4, f5, f6⟩ := F i kk' w hk hw
    refine ⟨cf, kc, ii, f, f1, f2, f3, f4, f5, ?_⟩
    have es : Jvm.RoadKit.slotOf Z kk'.1 kk'.2.1 kk'.2.2.1 = f.slot := by simp [Jvm.RoadKit.slotOf, f1]
    have hne := H.ne hk hj (Ne.symm q)
    rw [es] at hne
    rw [← f6]
    exact Array.getElem?_setIfInBounds_ne (Ne.symm hne)
/-! a walk: from every state that stands at pc with these locals and this stack, the end P is reached -/
def Wk (p : Program) (l : Launch) (e : Env) (R : Room) (m : MethodId) (args : Array Value) (below : List Frame) (meth : Method) (c : Code) (M : State → Heap → Prop) (P : State → Prop) (n0 : Nat) (L : List (Addr × (Cell → Prop))) (k n pc : Nat) (Ls : Array Slot) (st : List Value) : Prop :=
  ∀ s T locs, Stand p l e R s m args below meth c T locs k n → M s T.heap → Fr n0 locs → Own n0 T.heap L → ∃ t, Steps p.tables e below (T.setTop (mkF m pc Ls st)) t ∧ P t
def Cx (Z : State) (own name : String) (bytes : ByteArray) (maxL : Nat) (ret : Option FieldType) (p : Program) (m : MethodId) (meth : Method) (c : Code) (M : State → Heap → Prop) : Prop :=
  p.tables.exec = Jvm.exec ∧ c.code = bytes ∧ c.maxLocals = maxL ∧ meth.sig.returnType = ret ∧ meth.locks = false ∧ meth.name = name ∧ (∀ s h, M s h → Z.Warmed39 s.vm ∧ s.vm.findClass own = some m.cls) ∧ ∀ (s : State) (h h' : Heap), h.size ≤ h'.size → M s h → M s h'
theorem Wk.via {st' : List Value} (W : Wk p l e R m args below meth c M P n0 L k n pc' Ls' st') (hs : ∀ (s T : State) (locs : List Loc), Stand p l e R s m args below meth c T locs k n → M s T.heap → Own n0 T.heap L → ∀ t, Steps p.tables e below (T.setTop (mkF m pc' Ls' st')) t → Steps p.tables e below (T.setTop (mkF m pc Ls st)) t) : Wk p l e R m args below meth c M P n0 L k n pc Ls st := by
  intro s T locs X hM hF hO
  obtain ⟨t, h1, h2⟩ := W s T locs X hM hF hO
  exact ⟨t, hs s T locs X hM hO t h1, h2⟩
theorem Wk.more {k' n' : Nat} (W : Wk p l e R m args below meth c M P n0 L k' n' pc Ls st) (hk : k ≤ k') (hn : n ≤ n') : Wk p l e R m args below meth c M P n0 L k n pc Ls st :=
  fun s T locs X hM hF hO => W s T locs (X.more hk hn) hM hF hO
theorem Wk.recast {L' : List (Addr × (Cell → Prop))} (W : Wk p l e R m args below meth c M P n0 L' k n pc Ls st) (q : ∀ h, Own n0 h L → Own n0 h L') : Wk p l e R m args below meth c M P n0 L k n pc Ls st :=
  fun s T locs X hM hF hO => W s T locs X hM hF (q _ hO)
theorem Wk.know {B : Prop} (q : ∀ h, Own n0 h L → B) (W : B → Wk p l e R m args below meth c M P n0 L k n pc Ls st) : Wk p l e R m args below meth c M P n0 L k n pc Ls st :=
  fun s T locs X hM hF hO => W (q _ hO) s T locs X hM hF hO
theorem Wk.cast {Ls2 : Array Slot} {st2 : List Value} (W : Wk p l e R m args below meth c M P n0 L k n pc Ls2 st2) (q : Ls = Ls2) (r : st = st2) : Wk p l e R m args below meth c M P n0 L k n pc Ls st := by subst q r; exact W
theorem Wk.iload {i : Nat} {v : Int32} (C : Cx Z own name bytes maxL ret p m meth c M) (hd : decode bytes pc = .ok (.iload i, 2)) (hl : Ls[i]? = some (.val (.int v))) (hp : pc' = pc + 2) (W : Wk p l e R m args below meth c M P n0 L k n pc' Ls (.int v :: st)) : Wk p l e R m args below meth c M P n0 L k n pc Ls (st) := by
  subst hp
  exact W.via fun s T locs X hM hO t h1 => XS.iload X.here C.1 rfl (hb C.2.1 hd) hl h1
theorem Wk.iloadN {i : Fin 4} {v : Int32} (C : Cx Z own name bytes maxL ret p m meth c M) (hd : decode bytes pc = .ok (.iload_n i, 1)) (hl : Ls[i.val]? = some (.val (.int v))) (hp : pc' = pc + 1) (W : Wk p l e R m args below meth c M P n0 L k n pc' Ls (.int v :: st)) : Wk p l e R m args below meth c M P n0 L k n pc Ls (st) := by
  subst hp
  exact W.via fun s T locs X hM hO t h1 => XS.iloadN X.here C.1 rfl (hb C.2.1 hd) hl h1
theorem Wk.lload {i : Nat} {v : Int64} (C : Cx Z own name bytes maxL ret p m meth c M) (hd : decode bytes pc = .ok (.lload i, 2)) (hl : Ls[i]? = some (.val (.long v))) (hp : pc' = pc + 2) (W : Wk p l e R m args below meth c M P n0 L k n pc' Ls (.long v :: st)) : Wk p l e R m args below meth c M P n0 L k n pc Ls (st) := by
  subst hp
  exact W.via fun s T locs X hM hO t h1 => XS.lload X.here C.1 rfl (hb C.2.1 hd) hl h1
theorem Wk.lloadN {i : Fin 4} {v : Int64} (C : Cx Z own name bytes maxL ret p m meth c M) (hd : decode bytes pc = .ok (.lload_n i, 1)) (hl : Ls[i.val]? = some (.val (.long v))) (hp : pc' = pc + 1) (W : Wk p l e R m args below meth c M P n0 L k n pc' Ls (.long v :: st)) : Wk p l e R m args below meth c M P n0 L k n pc Ls (st) := by
  subst hp
  exact W.via fun s T locs X hM hO t h1 => XS.lloadN X.here C.1 rfl (hb C.2.1 hd) hl h1
theorem Wk.aload {i : Nat} {v : Value} (C : Cx Z own name bytes maxL ret p m meth c M) (hd : decode bytes pc = .ok (.aload i, 2)) (hl : Ls[i]? = some (.val v)) (hr : v.isRef = true) (hp : pc' = pc + 2) (W : Wk p l e R m args below meth c M P n0 L k n pc' Ls (v :: st)) : Wk p l e R m args below meth c M P n0 L k n pc Ls (st) := by
  subst hp
  exact W.via fun s T locs X hM hO t h1 => XS.aload X.here C.1 rfl (hb C.2.1 hd) hl hr h1
theorem Wk.aloadN {i : Fin 4} {v : Value} (C : Cx Z own name bytes maxL ret p m meth c M) (hd : decode bytes pc = .ok (.aload_n i, 1)) (hl : Ls[i.val]? = some (.val v)) (hr : v.isRef = true) (hp : pc' = pc + 1) (W : Wk p l e R m args below meth c M P n0 L k n pc' Ls (v :: st)) : Wk p l e R m args below meth c M P n0 L k n pc Ls (st) := by
  subst hp
  exact W.via fun s T locs X hM hO t h1 => XS.aloadN X.here C.1 rfl (hb C.2.1 hd) hl hr h1
theorem Wk.istore {i : Nat} {x : Int32} (C : Cx Z own name bytes maxL ret p m meth c M) (hd : decode bytes pc = .ok (.istore i, 2)) (hl : storeLocals Ls i (.int x) = some Ls') (hp : pc' = pc + 2) (W : Wk p l e R m args below meth c M P n0 L k n pc' Ls' (st)) : Wk p l e R m args below meth c M P n0 L k n pc Ls (.int x :: st) := by
  subst hp
  exact W.via fun s T locs X hM hO t h1 => XS.istore X.here C.1 rfl (hb C.2.1 hd) rfl hl h1
theorem Wk.istoreV {i : Nat} {x : Int32} (F : Int32 → Array Slot) (C : Cx Z own name bytes maxL ret p m meth c M) (hd : decode bytes pc = .ok (.istore i, 2)) (hl : storeLocals Ls i (.int x) = some (F x)) (hp : pc' = pc + 2) (W : ∀ v : Int32, v = x → Wk p l e R m args below meth c M P n0 L k n pc' (F v) (st)) : Wk p l e R m args below meth c M P n0 L k n pc Ls (.int x :: st) := Wk.istore C hd hl hp (W x rfl)
theorem Wk.istoreN {i : Fin 4} {x : Int32} (C : Cx Z own name bytes maxL ret p m meth c M) (hd : decode bytes pc = .ok (.istore_n i, 1)) (hl : storeLocals Ls i.val (.int x) = some Ls') (hp : pc' = pc + 1) (W : Wk p l e R m args below meth c M P n0 L k n pc' Ls' (st)) : Wk p l e R m args below meth c M P n0 L k n pc Ls (.int x :: st) := by
  subst hp
  exact W.via fun s T locs X hM hO t h1 => XS.istoreN X.here C.1 rfl (hb C.2.1 hd) rfl hl h1
theorem Wk.istoreNV {i : Fin 4} {x : Int32} (F : Int32 → Array Slot) (C : Cx Z own name bytes maxL ret p m meth c M) (hd : decode bytes pc = .ok (.istore_n i, 1)) (hl : storeLocals Ls i.val (.int x) = some (F x)) (hp : pc' = pc + 1) (W : ∀ v : Int32, v = x → Wk p l e R m args below meth c M P n0 L k n pc' (F v) (st)) : Wk p l e R m args below meth c M P n0 L k n pc Ls (.int x :: st) := Wk.istoreN C hd hl hp (W x rfl)
theorem Wk.lstore {i : Nat} {x : Int64} (C : Cx Z own name bytes maxL ret p m meth c M) (hd : decode bytes pc = .ok (.lstore i, 2)) (hl : storeLocals Ls i (.long x) = some Ls') (hp : pc' = pc + 2) (W : Wk p l e R m args below meth c M P n0 L k n pc' Ls' (st)) : Wk p l e R m args below meth c M P n0 L k n pc Ls (.long x :: st) := by
  subst hp
  exact W.via fun s T locs X hM hO t h1 => XS.lstore X.here C.1 rfl (hb C.2.1 hd) rfl hl h1
theorem Wk.lstoreV {i : Nat} {x : Int64} (F : Int64 → Array Slot) (C : Cx Z own name bytes maxL ret p m meth c M) (hd : decode bytes pc = .ok (.lstore i, 2)) (hl : storeLocals Ls i (.long x) = some (F x)) (hp : pc' = pc + 2) (W : ∀ v : Int64, v = x → Wk p l e R m args below meth c M P n0 L k n pc' (F v) (st)) : Wk p l e R m args below meth c M P n0 L k n pc Ls (.long x :: st) := Wk.lstore C hd hl hp (W x rfl)
theorem Wk.lstoreN {i : Fin 4} {x : Int64} (C : Cx Z own name bytes maxL ret p m meth c M) (hd : decode bytes pc = .ok (.lstore_n i, 1)) (hl : storeLocals Ls i.val (.long x) = some Ls') (hp : pc' = pc + 1) (W : Wk p l e R m args below meth c M P n0 L k n pc' Ls' (st)) : Wk p l e R m args below meth c M P n0 L k n pc Ls (.long x :: st) := by
  subst hp
  exact W.via fun s T locs X hM hO t h1 => XS.lstoreN X.here C.1 rfl (hb C.2.1 hd) rfl hl h1
theorem Wk.lstoreNV {i : Fin 4} {x : Int64} (F : Int64 → Array Slot) (C : Cx Z own name bytes maxL ret p m meth c M) (hd : decode bytes pc = .ok (.lstore_n i, 1)) (hl : storeLocals Ls i.val (.long x) = some (F x)) (hp : pc' = pc + 1) (W : ∀ v : Int64, v = x → Wk p l e R m args below meth c M P n0 L k n pc' (F v) (st)) : Wk p l e R m args below meth c M P n0 L k n pc Ls (.long x :: st) := Wk.lstoreN C hd hl hp (W x rfl)
theorem Wk.astore {i : Nat} {x : Value} (C : Cx Z own name bytes maxL ret p m meth c M) (hd : decode bytes pc = .ok (.astore i, 2)) (hr : x.isRef = true) (hl : storeLocals Ls i x = some Ls') (hp : pc' = pc + 2) (W : Wk p l e R m args below meth c M P n0 L k n pc' Ls' (st)) : Wk p l e R m args below meth c M P n0 L k n pc Ls (x :: st) := by
  subst hp
  exact W.via fun s T locs X hM hO t h1 => XS.astore X.here C.1 rfl (hb C.2.1 hd) rfl hr hl h1
theorem Wk.astoreN {i : Fin 4} {x : Value} (C : Cx Z own name bytes maxL ret p m meth c M) (hd : decode bytes pc = .ok (.astore_n i, 1)) (hr : x.isRef = true) (hl : storeLocals Ls i.val x = some Ls') (hp : pc' = pc + 1) (W : Wk p l e R m args below meth c M P n0 L k n pc' Ls' (st)) : Wk p l e R m args below meth c M P n0 L k n pc Ls (x :: st) := by
  subst hp
  exact W.via fun s T locs X hM hO t h1 => XS.astoreN X.here C.1 rfl (hb C.2.1 hd) rfl hr hl h1
theorem Wk.iinc {i : Nat} {cst : Int} {x z : Int32} (C : Cx Z own name bytes maxL ret p m meth c M) (hd : decode bytes pc = .ok (.iinc i cst, 3)) (hl : Ls[i]? = some (.val (.int x))) (hz : x + Int32.ofInt cst = z) (hl' : storeLocals Ls i (.int z) = some Ls') (hp : pc' = pc + 3) (W : Wk p l e R m args below meth c M P n0 L k n pc' Ls' (st)) : Wk p l e R m args below meth c M P n0 L k n pc Ls (st) := by
  subst hp
  exact W.via fun s T locs X hM hO t h1 => XS.iinc X.here C.1 rfl (hb C.2.1 hd) hl (by rw [hz]; exact hl') h1
theorem Wk.iconst {i : Int} {z : Int32} (C : Cx Z own name bytes maxL ret p m meth c M) (hd : decode bytes pc = .ok (.iconst i, 1)) (hz : Int32.ofInt i = z) (hp : pc' = pc + 1) (W : Wk p l e R m args below meth c M P n0 L k n pc' Ls (.int z :: st)) : Wk p l e R m args below meth c M P n0 L k n pc Ls (st) := by
  subst hp
  subst hz
  exact W.via fun s T locs X hM hO t h1 => XS.iconst X.here C.1 rfl (hb C.2.1 hd) h1
theorem Wk.bipush {i : Int} {z : Int32} (C : Cx Z own name bytes maxL ret p m meth c M) (hd : decode bytes pc = .ok (.bipush i, 2)) (hz : (Int8.ofInt i).toInt32 = z) (hp : pc' = pc + 2) (W : Wk p l e R m args below meth c M P n0 L k n pc' Ls (.int z :: st)) : Wk p l e R m args below meth c M P n0 L k n pc Ls (st) := by
  subst hp
  subst hz
  exact W.via fun s T locs X hM hO t h1 => XS.bipush X.here C.1 rfl (hb C.2.1 hd) h1
theorem Wk.sipush {i : Int} {z : Int32} (C : Cx Z own name bytes maxL ret p m meth c M) (hd : decode bytes pc = .ok (.sipush i, 3)) (hz : (Int16.ofInt i).toInt32 = z) (hp : pc' = pc + 3) (W : Wk p l e R m args below meth c M P n0 L k n pc' Ls (.int z :: st)) : Wk p l e R m args below meth c M P n0 L k n pc Ls (st) := by
  subst hp
  subst hz
  exact W.via fun s T locs X hM hO t h1 => XS.sipush X.here C.1 rfl (hb C.2.1 hd) h1
theorem Wk.lconst {i : Fin 2} {z : Int64} (C : Cx Z own name bytes maxL ret p m meth c M) (hd : decode bytes pc = .ok (.lconst i, 1)) (hz : Int64.ofNat i = z) (hp : pc' = pc + 1) (W : Wk p l e R m args below meth c M P n0 L k n pc' Ls (.long z :: st)) : Wk p l e R m args below meth c M P n0 L k n pc Ls (st) := by
  subst hp
  subst hz
  exact W.via fun s T locs X hM hO t h1 => XS.lconst X.here C.1 rfl (hb C.2.1 hd) h1
theorem Wk.aconstNull (C : Cx Z own name bytes maxL ret p m meth c M) (hd : decode bytes pc = .ok (.aconst_null, 1)) (hp : pc' = pc + 1) (W : Wk p l e R m args below meth c M P n0 L k n pc' Ls (.null :: st)) : Wk p l e R m args below meth c M P n0 L k n pc Ls (st) := by
  subst hp
  exact W.via fun s T locs X hM hO t h1 => XS.aconstNull X.here C.1 rfl (hb C.2.1 hd) h1
theorem Wk.ldcInt {i : Nat} {z : Int32} (C : Cx Z own name bytes maxL ret p m meth c M) (w : (Cond.constant own i z).before a0 Z = true) (hd : decode bytes pc = .ok (.ldc i, 2)) (hp : pc' = pc + 2) (W : Wk p l e R m args below meth c M P n0 L k n pc' Ls (.int z :: st)) : Wk p l e R m args below meth c M P n0 L k n pc Ls (st) := by
  subst hp
  exact W.via fun s T locs X hM hO t h1 => X.ldcInt C.1 (C.2.2.2.2.2.2.1 _ _ hM).2 (mvT (C.2.2.2.2.2.2.1 _ _ hM).1 w) (g := mkF m pc Ls st) rfl (hb C.2.1 hd) t h1
theorem Wk.ldcwInt {i : Nat} {z : Int32} (C : Cx Z own name bytes maxL ret p m meth c M) (w : (Cond.constant own i z).before a0 Z = true) (hd : decode bytes pc = .ok (.ldc_w i, 3)) (hp : pc' = pc + 3) (W : Wk p l e R m args below meth c M P n0 L k n pc' Ls (.int z :: st)) : Wk p l e R m args below meth c M P n0 L k n pc Ls (st) := by
  subst hp
  exact W.via fun s T locs X hM hO t h1 => X.ldcwInt C.1 (C.2.2.2.2.2.2.1 _ _ hM).2 (mvT (C.2.2.2.2.2.2.1 _ _ hM).1 w) (g := mkF m pc Ls st) rfl (hb C.2.1 hd) t h1
theorem Wk.ldc2Long {i : Nat} {z : Int64} (C : Cx Z own name bytes maxL ret p m meth c M) (w : (Cond.constantLong own i z).before a0 Z = true) (hd : decode bytes pc = .ok (.ldc2_w i, 3)) (hp : pc' = pc + 3) (W : Wk p l e R m args below meth c M P n0 L k n pc' Ls (.long z :: st)) : Wk p l e R m args below meth c M P n0 L k n pc Ls (st) := by
  subst hp
  exact W.via fun s T locs X hM hO t h1 => X.ldc2Long C.1 (C.2.2.2.2.2.2.1 _ _ hM).2 (mvT (C.2.2.2.2.2.2.1 _ _ hM).1 w) (g := mkF m pc Ls st) rfl (hb C.2.1 hd) t h1
theorem Wk.iadd {x y : Int32} (C : Cx Z own name bytes maxL ret p m meth c M) (hd : decode bytes pc = .ok (.iadd, 1)) (hp : pc' = pc + 1) (W : Wk p l e R m args below meth c M P n0 L k n pc' Ls (.int (x + y) :: st)) : Wk p l e R m args below meth c M P n0 L k n pc Ls (.int y :: .int x :: st) := by
  subst hp
  exact W.via fun s T locs X hM hO t h1 => XS.iadd X.here C.1 rfl (hb C.2.1 hd) rfl h1
theorem Wk.isub {x y : Int32} (C : Cx Z own name bytes maxL ret p m meth c M) (hd : decode bytes pc = .ok (.isub, 1)) (hp : pc' = pc + 1) (W : Wk p l e R m args below meth c M P n0 L k n pc' Ls (.int (x - y) :: st)) : Wk p l e R m args below meth c M P n0 L k n pc Ls (.int y :: .int x :: st) := by
  subst hp
  exact W.via fun s T locs X hM hO t h1 => XS.isub X.here C.1 rfl (hb C.2.1 hd) rfl h1
theorem Wk.imul {x y : Int32} (C : Cx Z own name bytes maxL ret p m meth c M) (hd : decode bytes pc = .ok (.imul, 1)) (hp : pc' = pc + 1) (W : Wk p l e R m args below meth c M P n0 L k n pc' Ls (.int (x * y) :: st)) : Wk p l e R m args below meth c M P n0 L k n pc Ls (.int y :: .int x :: st) := by
  subst hp
  exact W.via fun s T locs X hM hO t h1 => XS.imul X.here C.1 rfl (hb C.2.1 hd) rfl h1
theorem Wk.iand {x y : Int32} (C : Cx Z own name bytes maxL ret p m meth c M) (hd : decode bytes pc = .ok (.iand, 1)) (hp : pc' = pc + 1) (W : Wk p l e R m args below meth c M P n0 L k n pc' Ls (.int (x &&& y) :: st)) : Wk p l e R m args below meth c M P n0 L k n pc Ls (.int y :: .int x :: st) := by
  subst hp
  exact W.via fun s T locs X hM hO t h1 => XS.iand X.here C.1 rfl (hb C.2.1 hd) rfl h1
theorem Wk.ior {x y : Int32} (C : Cx Z own name bytes maxL ret p m meth c M) (hd : decode bytes pc = .ok (.ior, 1)) (hp : pc' = pc + 1) (W : Wk p l e R m args below meth c M P n0 L k n pc' Ls (.int (x ||| y) :: st)) : Wk p l e R m args below meth c M P n0 L k n pc Ls (.int y :: .int x :: st) := by
  subst hp
  exact W.via fun s T locs X hM hO t h1 => XS.ior X.here C.1 rfl (hb C.2.1 hd) rfl h1
theorem Wk.ixor {x y : Int32} (C : Cx Z own name bytes maxL ret p m meth c M) (hd : decode bytes pc = .ok (.ixor, 1)) (hp : pc' = pc + 1) (W : Wk p l e R m args below meth c M P n0 L k n pc' Ls (.int (x ^^^ y) :: st)) : Wk p l e R m args below meth c M P n0 L k n pc Ls (.int y :: .int x :: st) := by
  subst hp
  exact W.via fun s T locs X hM hO t h1 => XS.ixor X.here C.1 rfl (hb C.2.1 hd) rfl h1
theorem Wk.ishl {x y : Int32} (C : Cx Z own name bytes maxL ret p m meth c M) (hd : decode bytes pc = .ok (.ishl, 1)) (hp : pc' = pc + 1) (W : Wk p l e R m args below meth c M P n0 L k n pc' Ls (.int (x <<< (y &&& 31)) :: st)) : Wk p l e R m args below meth c M P n0 L k n pc Ls (.int y :: .int x :: st) := by
  subst hp
  exact W.via fun s T locs X hM hO t h1 => XS.ishl X.here C.1 rfl (hb C.2.1 hd) rfl h1
theorem Wk.ishr {x y : Int32} (C : Cx Z own name bytes maxL ret p m meth c M) (hd : decode bytes pc = .ok (.ishr, 1)) (hp : pc' = pc + 1) (W : Wk p l e R m args below meth c M P n0 L k n pc' Ls (.int (x >>> (y &&& 31)) :: st)) : Wk p l e R m args below meth c M P n0 L k n pc Ls (.int y :: .int x :: st) := by
  subst hp
  exact W.via fun s T locs X hM hO t h1 => XS.ishr X.here C.1 rfl (hb C.2.1 hd) rfl h1
theorem Wk.iushr {x y : Int32} (C : Cx Z own name bytes maxL ret p m meth c M) (hd : decode bytes pc = .ok (.iushr, 1)) (hp : pc' = pc + 1) (W : Wk p l e R m args below meth c M P n0 L k n pc' Ls (.int ((x.toUInt32 >>> (y &&& 31).toUInt32).toInt32) :: st)) : Wk p l e R m args below meth c M P n0 L k n pc Ls (.int y :: .int x :: st) := by
  subst hp
  exact W.via fun s T locs X hM hO t h1 => XS.iushr X.here C.1 rfl (hb C.2.1 hd) rfl h1
theorem Wk.irem {x y : Int32} (C : Cx Z own name bytes maxL ret p m meth c M) (hd : decode bytes pc = .ok (.irem, 1)) (hy : y ≠ 0) (hp : pc' = pc + 1) (W : Wk p l e R m args below meth c M P n0 L k n pc' Ls (.int (x % y) :: st)) : Wk p l e R m args below meth c M P n0 L k n pc Ls (.int y :: .int x :: st) := by
  subst hp
  exact W.via fun s T locs X hM hO t h1 => iremM X C.1 rfl (hb C.2.1 hd) rfl hy h1
theorem Wk.idiv {x y : Int32} (C : Cx Z own name bytes maxL ret p m meth c M) (hd : decode bytes pc = .ok (.idiv, 1)) (hy : y ≠ 0) (hp : pc' = pc + 1) (W : Wk p l e R m args below meth c M P n0 L k n pc' Ls (.int (x / y) :: st)) : Wk p l e R m args below meth c M P n0 L k n pc Ls (.int y :: .int x :: st) := by
  subst hp
  exact W.via fun s T locs X hM hO t h1 => XS.idiv X.here C.1 rfl (hb C.2.1 hd) rfl hy h1
theorem Wk.ladd {x y : Int64} (C : Cx Z own name bytes maxL ret p m meth c M) (hd : decode bytes pc = .ok (.ladd, 1)) (hp : pc' = pc + 1) (W : Wk p l e R m args below meth c M P n0 L k n pc' Ls (.long (x + y) :: st)) : Wk p l e R m args below meth c M P n0 L k n pc Ls (.long y :: .long x :: st) := by
  subst hp
  exact W.via fun s T locs X hM hO t h1 => XS.ladd X.here C.1 rfl (hb C.2.1 hd) rfl h1
theorem Wk.lsub {x y : Int64} (C : Cx Z own name bytes maxL ret p m meth c M) (hd : decode bytes pc = .ok (.lsub, 1)) (hp : pc' = pc + 1) (W : Wk p l e R m args below meth c M P n0 L k n pc' Ls (.long (x - y) :: st)) : Wk p l e R m args below meth c M P n0 L k n pc Ls (.long y :: .long x :: st) := by
  subst hp
  exact W.via fun s T locs X hM hO t h1 => XS.lsub X.here C.1 rfl (hb C.2.1 hd) rfl h1
theorem Wk.lmul {x y : Int64} (C : Cx Z own name bytes maxL ret p m meth c M) (hd : decode bytes pc = .ok (.lmul, 1)) (hp : pc' = pc + 1) (W : Wk p l e R m args below meth c M P n0 L k n pc' Ls (.long (x * y) :: st)) : Wk p l e R m args below meth c M P n0 L k n pc Ls (.long y :: .long x :: st) := by
  subst hp
  exact W.via fun s T locs X hM hO t h1 => XS.lmul X.here C.1 rfl (hb C.2.1 hd) rfl h1
theorem Wk.land {x y : Int64} (C : Cx Z own name bytes maxL ret p m meth c M) (hd : decode bytes pc = .ok (.land, 1)) (hp : pc' = pc + 1) (W : Wk p l e R m args below meth c M P n0 L k n pc' Ls (.long (x &&& y) :: st)) : Wk p l e R m args below meth c M P n0 L k n pc Ls (.long y :: .long x :: st) := by
  subst hp
  exact W.via fun s T locs X hM hO t h1 => XS.land X.here C.1 rfl (hb C.2.1 hd) rfl h1
theorem Wk.lor {x y : Int64} (C : Cx Z own name bytes maxL ret p m meth c M) (hd : decode bytes pc = .ok (.lor, 1)) (hp : pc' = pc + 1) (W : Wk p l e R m args below meth c M P n0 L k n pc' Ls (.long (x ||| y) :: st)) : Wk p l e R m args below meth c M P n0 L k n pc Ls (.long y :: .long x :: st) := by
  subst hp
  exact W.via fun s T locs X hM hO t h1 => XS.lor X.here C.1 rfl (hb C.2.1 hd) rfl h1
theorem Wk.lxor {x y : Int64} (C : Cx Z own name bytes maxL ret p m meth c M) (hd : decode bytes pc = .ok (.lxor, 1)) (hp : pc' = pc + 1) (W : Wk p l e R m args below meth c M P n0 L k n pc' Ls (.long (x ^^^ y) :: st)) : Wk p l e R m args below meth c M P n0 L k n pc Ls (.long y :: .long x :: st) := by
  subst hp
  exact W.via fun s T locs X hM hO t h1 => XS.lxor X.here C.1 rfl (hb C.2.1 hd) rfl h1
theorem Wk.lshl {x : Int64} {y : Int32} (C : Cx Z own name bytes maxL ret p m meth c M) (hd : decode bytes pc = .ok (.lshl, 1)) (hp : pc' = pc + 1) (W : Wk p l e R m args below meth c M P n0 L k n pc' Ls (.long (x <<< (y &&& 0x3f).toInt64) :: st)) : Wk p l e R m args below meth c M P n0 L k n pc Ls (.int y :: .long x :: st) := by
  subst hp
  exact W.via fun s T locs X hM hO t h1 => XS.lshl X.here C.1 rfl (hb C.2.1 hd) rfl h1
theorem Wk.lshr {x : Int64} {y : Int32} (C : Cx Z own name bytes maxL ret p m meth c M) (hd : decode bytes pc = .ok (.lshr, 1)) (hp : pc' = pc + 1) (W : Wk p l e R m args below meth c M P n0 L k n pc' Ls (.long (x >>> (y &&& 0x3f).toInt64) :: st)) : Wk p l e R m args below meth c M P n0 L k n pc Ls (.int y :: .long x :: st) := by
  subst hp
  exact W.via fun s T locs X hM hO t h1 => XS.lshr X.here C.1 rfl (hb C.2.1 hd) rfl h1
theorem Wk.lushr {x : Int64} {y : Int32} (C : Cx Z own name bytes maxL ret p m meth c M) (hd : decode bytes pc = .ok (.lushr, 1)) (hp : pc' = pc + 1) (W : Wk p l e R m args below meth c M P n0 L k n pc' Ls (.long ((x.toUInt64 >>> (y &&& 0x3f).toInt64.toUInt64).toInt64) :: st)) : Wk p l e R m args below meth c M P n0 L k n pc Ls (.int y :: .long x :: st) := by
  subst hp
  exact W.via fun s T locs X hM hO t h1 => XS.lushr X.here C.1 rfl (hb C.2.1 hd) rfl h1
theorem Wk.lrem {x y : Int64} (C : Cx Z own name bytes maxL ret p m meth c M) (hd : decode bytes pc = .ok (.lrem, 1)) (hy : y ≠ 0) (hp : pc' = pc + 1) (W : Wk p l e R m args below meth c M P n0 L k n pc' Ls (.long (x % y) :: st)) : Wk p l e R m args below meth c M P n0 L k n pc Ls (.long y :: .long x :: st) := by
  subst hp
  exact W.via fun s T locs X hM hO t h1 => XS.lrem X.here C.1 rfl (hb C.2.1 hd) rfl hy (by rw [lrem_mod]; exact h1)
theorem Wk.i2b {x : Int32} (C : Cx Z own name bytes maxL ret p m meth c M) (hd : decode bytes pc = .ok (.i2b, 1)) (hp : pc' = pc + 1) (W : Wk p l e R m args below meth c M P n0 L k n pc' Ls (.int (x.toInt8.toInt32) :: st)) : Wk p l e R m args below meth c M P n0 L k n pc Ls (.int x :: st) := by
  subst hp
  exact W.via fun s T locs X hM hO t h1 => XS.i2b X.here C.1 rfl (hb C.2.1 hd) rfl h1
theorem Wk.i2c {x : Int32} (C : Cx Z own name bytes maxL ret p m meth c M) (hd : decode bytes pc = .ok (.i2c, 1)) (hp : pc' = pc + 1) (W : Wk p l e R m args below meth c M P n0 L k n pc' Ls (.int (x.toUInt32.toUInt16.toUInt32.toInt32) :: st)) : Wk p l e R m args below meth c M P n0 L k n pc Ls (.int x :: st) := by
  subst hp
  exact W.via fun s T locs X hM hO t h1 => XS.i2c X.here C.1 rfl (hb C.2.1 hd) rfl h1
theorem Wk.i2s {x : Int32} (C : Cx Z own name bytes maxL ret p m meth c M) (hd : decode bytes pc = .ok (.i2s, 1)) (hp : pc' = pc + 1) (W : Wk p l e R m args below meth c M P n0 L k n pc' Ls (.int (x.toInt16.toInt32) :: st)) : Wk p l e R m args below meth c M P n0 L k n pc Ls (.int x :: st) := by
  subst hp
  exact W.via fun s T locs X hM hO t h1 => XS.i2s X.here C.1 rfl (hb C.2.1 hd) rfl h1
theorem Wk.i2l {x : Int32} (C : Cx Z own name bytes maxL ret p m meth c M) (hd : decode bytes pc = .ok (.i2l, 1)) (hp : pc' = pc + 1) (W : Wk p l e R m args below meth c M P n0 L k n pc' Ls (.long (x.toInt64) :: st)) : Wk p l e R m args below meth c M P n0 L k n pc Ls (.int x :: st) := by
  subst hp
  exact W.via fun s T locs X hM hO t h1 => XS.i2l X.here C.1 rfl (hb C.2.1 hd) rfl h1
theorem Wk.l2i {x : Int64} (C : Cx Z own name bytes maxL ret p m meth c M) (hd : decode bytes pc = .ok (.l2i, 1)) (hp : pc' = pc + 1) (W : Wk p l e R m args below meth c M P n0 L k n pc' Ls (.int (x.toInt32) :: st)) : Wk p l e R m args below meth c M P n0 L k n pc Ls (.long x :: st) := by
  subst hp
  exact W.via fun s T locs X hM hO t h1 => XS.l2i X.here C.1 rfl (hb C.2.1 hd) rfl h1
theorem Wk.lneg {x : Int64} (C : Cx Z own name bytes maxL ret p m meth c M) (hd : decode bytes pc = .ok (.lneg, 1)) (hp : pc' = pc + 1) (W : Wk p l e R m args below meth c M P n0 L k n pc' Ls (.long (-x) :: st)) : Wk p l e R m args below meth c M P n0 L k n pc Ls (.long x :: st) := by
  subst hp
  exact W.via fun s T locs X hM hO t h1 => XS.lneg X.here C.1 rfl (hb C.2.1 hd) rfl h1
theorem Wk.ineg {x : Int32} (C : Cx Z own name bytes maxL ret p m meth c M) (hd : decode bytes pc = .ok (.ineg, 1)) (hp : pc' = pc + 1) (W : Wk p l e R m args below meth c M P n0 L k n pc' Ls (.int (-x) :: st)) : Wk p l e R m args below meth c M P n0 L k n pc Ls (.int x :: st) := by
  subst hp
  exact W.via fun s T locs X hM hO t h1 => XS.ineg X.here C.1 rfl (hb C.2.1 hd) rfl h1
theorem Wk.dup {x : Value} (C : Cx Z own name bytes maxL ret p m meth c M) (hd : decode bytes pc = .ok (.dup, 1)) (hc : x.category = 1) (hp : pc' = pc + 1) (W : Wk p l e R m args below meth c M P n0 L k n pc' Ls (x :: x :: st)) : Wk p l e R m args below meth c M P n0 L k n pc Ls (x :: st) := by
  subst hp
  exact W.via fun s T locs X hM hO t h1 => XS.dup X.here C.1 rfl (hb C.2.1 hd) rfl hc h1
theorem Wk.pop {x : Value} (C : Cx Z own name bytes maxL ret p m meth c M) (hd : decode bytes pc = .ok (.pop, 1)) (hc : x.category = 1) (hp : pc' = pc + 1) (W : Wk p l e R m args below meth c M P n0 L k n pc' Ls (st)) : Wk p l e R m args below meth c M P n0 L k n pc Ls (x :: st) := by
  subst hp
  exact W.via fun s T locs X hM hO t h1 => XS.pop X.here C.1 rfl (hb C.2.1 hd) rfl hc h1
theorem Wk.dupX1 {x y : Value} (C : Cx Z own name bytes maxL ret p m meth c M) (hd : decode bytes pc = .ok (.dup_x1, 1)) (hc : x.category = 1) (hc' : y.category = 1) (hp : pc' = pc + 1) (W : Wk p l e R m args below meth c M P n0 L k n pc' Ls (x :: y :: x :: st)) : Wk p l e R m args below meth c M P n0 L k n pc Ls (x :: y :: st) := by
  subst hp
  exact W.via fun s T locs X hM hO t h1 => XS.dupX1 X.here C.1 rfl (hb C.2.1 hd) rfl hc hc' h1
theorem Wk.dup2 {x y : Value} (C : Cx Z own name bytes maxL ret p m meth c M) (hd : decode bytes pc = .ok (.dup2, 1)) (hc : x.category = 1) (hc' : y.category = 1) (hp : pc' = pc + 1) (W : Wk p l e R m args below meth c M P n0 L k n pc' Ls (x :: y :: x :: y :: st)) : Wk p l e R m args below meth c M P n0 L k n pc Ls (x :: y :: st) := by
  subst hp
  exact W.via fun s T locs X hM hO t h1 => Jvm.Free.XT.dup2 X.here C.1 rfl (hb C.2.1 hd) rfl hc hc' h1
theorem Wk.goto {o : Int} (C : Cx Z own name bytes maxL ret p m meth c M) (hd : decode bytes pc = .ok (.goto o, 3)) (ho : 0 ≤ (pc : Int) + o) (hp : ((pc : Int) + o).toNat = pc') (W : Wk p l e R m args below meth c M P n0 L k n pc' Ls (st)) : Wk p l e R m args below meth c M P n0 L k n pc Ls (st) :=
  W.via fun s T locs X hM hO t h1 => XS.goto X.here C.1 rfl (pc0 := pc) rfl (hb C.2.1 hd) ho hp h1
theorem Wk.icmp_lt {x y : Int32} {o : Int} {pcT pcF : Nat} (C : Cx Z own name bytes maxL ret p m meth c M) (hd : decode bytes pc = .ok (.if_icmp .lt o, 3)) (ho : 0 ≤ (pc : Int) + o) (hp : ((pc : Int) + o).toNat = pcT) (hp' : pcF = pc + 3) (hT : x < y → Wk p l e R m args below meth c M P n0 L k n pcT Ls (st)) (hF : ¬ x < y → Wk p l e R m args below meth c M P n0 L k n pcF Ls (st)) : Wk p l e R m args below meth c M P n0 L k n pc Ls (.int y :: .int x :: st) := by
  subst hp'
  by_cases h : x < y
  · exact (hT h).via fun s T locs X hM hO t h1 => XS.icmpYes X.here C.1 rfl (pc0 := pc) rfl (hb C.2.1 hd) rfl (tlt h).1 ho hp h1
  · exact (hF h).via fun s T locs X hM hO t h1 => XS.icmpNo X.here C.1 rfl (hb C.2.1 hd) rfl (flt h).1 h1
theorem Wk.if_lt {x : Int32} {o : Int} {pcT pcF : Nat} (C : Cx Z own name bytes maxL ret p m meth c M) (hd : decode bytes pc = .ok (.ifCond .lt o, 3)) (ho : 0 ≤ (pc : Int) + o) (hp : ((pc : Int) + o).toNat = pcT) (hp' : pcF = pc + 3) (hT : x < 0 → Wk p l e R m args below meth c M P n0 L k n pcT Ls (st)) (hF : ¬ x < 0 → Wk p l e R m args below meth c M P n0 L k n pcF Ls (st)) : Wk p l e R m args below meth c M P n0 L k n pc Ls (.int x :: st) := by
  subst hp'
  by_cases h : x < 0
  · exact (hT h).via fun s T locs X hM hO t h1 => XS.ifYes X.here C.1 rfl (pc0 := pc) rfl (hb C.2.1 hd) rfl ((if0 _ _).trans (tlt h).1) ho hp h1
  · exact (hF h).via fun s T locs X hM hO t h1 => XS.ifNo X.here C.1 rfl (hb C.2.1 hd) rfl ((if0 _ _).trans (flt h).1) h1
theorem Wk.lcmp_lt {x y : Int64} {o : Int} {pc1 pcT pcF : Nat} (C : Cx Z own name bytes maxL ret p m meth c M) (hd0 : decode bytes pc = .ok (.lcmp, 1)) (hp1 : pc1 = pc + 1) (hd : decode bytes pc1 = .ok (.ifCond .lt o, 3)) (ho : 0 ≤ (pc1 : Int) + o) (hp : ((pc1 : Int) + o).toNat = pcT) (hp' : pcF = pc1 + 3) (hT : x < y → Wk p l e R m args below meth c M P n0 L k n pcT Ls (st)) (hF : ¬ x < y → Wk p l e R m args below meth c M P n0 L k n pcF Ls (st)) : Wk p l e R m args below meth c M P n0 L k n pc Ls (.long y :: .long x :: st) := by
  subst hp1
  have W1 : Wk p l e R m args below meth c M P n0 L k n (pc + 1) Ls (.int (lcmpW x y) :: st) := Wk.if_lt C hd ho hp hp' (fun h => hT ((lw_lt x y).mp h)) (fun h => hF (fun q => h ((lw_lt x y).mpr q)))
  exact W1.via fun s T locs X hM hO t h1 => XS.lcmp X.here C.1 rfl (hb C.2.1 hd0) rfl h1
theorem Wk.icmp_ge {x y : Int32} {o : Int} {pcT pcF : Nat} (C : Cx Z own name bytes maxL ret p m meth c M) (hd : decode bytes pc = .ok (.if_icmp .ge o, 3)) (ho : 0 ≤ (pc : Int) + o) (hp : ((pc : Int) + o).toNat = pcT) (hp' : pcF = pc + 3) (hT : ¬ x < y → Wk p l e R m args below meth c M P n0 L k n pcT Ls (st)) (hF : x < y → Wk p l e R m args below meth c M P n0 L k n pcF Ls (st)) : Wk p l e R m args below meth c M P n0 L k n pc Ls (.int y :: .int x :: st) := by
  subst hp'
  by_cases h : x < y
  · exact (hF h).via fun s T locs X hM hO t h1 => XS.icmpNo X.here C.1 rfl (hb C.2.1 hd) rfl (tlt h).2.1 h1
  · exact (hT h).via fun s T locs X hM hO t h1 => XS.icmpYes X.here C.1 rfl (pc0 := pc) rfl (hb C.2.1 hd) rfl (flt h).2.1 ho hp h1
theorem Wk.if_ge {x : Int32} {o : Int} {pcT pcF : Nat} (C : Cx Z own name bytes maxL ret p m meth c M) (hd : decode bytes pc = .ok (.ifCond .ge o, 3)) (ho : 0 ≤ (pc : Int) + o) (hp : ((pc : Int) + o).toNat = pcT) (hp' : pcF = pc + 3) (hT : ¬ x < 0 → Wk p l e R m args below meth c M P n0 L k n pcT Ls (st)) (hF : x < 0 → Wk p l e R m args below meth c M P n0 L k n pcF Ls (st)) : Wk p l e R m args below meth c M P n0 L k n pc Ls (.int x :: st) := by
  subst hp'
  by_cases h : x < 0
  · exact (hF h).via fun s T locs X hM hO t h1 => XS.ifNo X.here C.1 rfl (hb C.2.1 hd) rfl ((if0 _ _).trans (tlt h).2.1) h1
  · exact (hT h).via fun s T locs X hM hO t h1 => XS.ifYes X.here C.1 rfl (pc0 := pc) rfl (hb C.2.1 hd) rfl ((if0 _ _).trans (flt h).2.1) ho hp h1
theorem Wk.lcmp_ge {x y : Int64} {o : Int} {pc1 pcT pcF : Nat} (C : Cx Z own name bytes maxL ret p m meth c M) (hd0 : decode bytes pc = .ok (.lcmp, 1)) (hp1 : pc1 = pc + 1) (hd : decode bytes pc1 = .ok (.ifCond .ge o, 3)) (ho : 0 ≤ (pc1 : Int) + o) (hp : ((pc1 : Int) + o).toNat = pcT) (hp' : pcF = pc1 + 3) (hT : ¬ x < y → Wk p l e R m args below meth c M P n0 L k n pcT Ls (st)) (hF : x < y → Wk p l e R m args below meth c M P n0 L k n pcF Ls (st)) : Wk p l e R m args below meth c M P n0 L k n pc Ls (.long y :: .long x :: st) := by
  subst hp1
  have W1 : Wk p l e R m args below meth c M P n0 L k n (pc + 1) Ls (.int (lcmpW x y) :: st) := Wk.if_ge C hd ho hp hp' (fun h => hT (fun q => h ((lw_lt x y).mpr q))) (fun h => hF ((lw_lt x y).mp h))
  exact W1.via fun s T locs X hM hO t h1 => XS.lcmp X.here C.1 rfl (hb C.2.1 hd0) rfl h1
theorem Wk.icmp_gt {x y : Int32} {o : Int} {pcT pcF : Nat} (C : Cx Z own name bytes maxL ret p m meth c M) (hd : decode bytes pc = .ok (.if_icmp .gt o, 3)) (ho : 0 ≤ (pc : Int) + o) (hp : ((pc : Int) + o).toNat = pcT) (hp' : pcF = pc + 3) (hT : y < x → Wk p l e R m args below meth c M P n0 L k n pcT Ls (st)) (hF : ¬ y < x → Wk p l e R m args below meth c M P n0 L k n pcF Ls (st)) : Wk p l e R m args below meth c M P n0 L k n pc Ls (.int y :: .int x :: st) := by
  subst hp'
  by_cases h : y < x
  · exact (hT h).via fun s T locs X hM hO t h1 => XS.icmpYes X.here C.1 rfl (pc0 := pc) rfl (hb C.2.1 hd) rfl (tlt h).2.2.1 ho hp h1
  · exact (hF h).via fun s T locs X hM hO t h1 => XS.icmpNo X.here C.1 rfl (hb C.2.1 hd) rfl (flt h).2.2.1 h1
theorem Wk.if_gt {x : Int32} {o : Int} {pcT pcF : Nat} (C : Cx Z own name bytes maxL ret p m meth c M) (hd : decode bytes pc = .ok (.ifCond .gt o, 3)) (ho : 0 ≤ (pc : Int) + o) (hp : ((pc : Int) + o).toNat = pcT) (hp' : pcF = pc + 3) (hT : 0 < x → Wk p l e R m args below meth c M P n0 L k n pcT Ls (st)) (hF : ¬ 0 < x → Wk p l e R m args below meth c M P n0 L k n pcF Ls (st)) : Wk p l e R m args below meth c M P n0 L k n pc Ls (.int x :: st) := by
  subst hp'
  by_cases h : 0 < x
  · exact (hT h).via fun s T locs X hM hO t h1 => XS.ifYes X.here C.1 rfl (pc0 := pc) rfl (hb C.2.1 hd) rfl ((if0 _ _).trans (tlt h).2.2.1) ho hp h1
  · exact (hF h).via fun s T locs X hM hO t h1 => XS.ifNo X.here C.1 rfl (hb C.2.1 hd) rfl ((if0 _ _).trans (flt h).2.2.1) h1
theorem Wk.lcmp_gt {x y : Int64} {o : Int} {pc1 pcT pcF : Nat} (C : Cx Z own name bytes maxL ret p m meth c M) (hd0 : decode bytes pc = .ok (.lcmp, 1)) (hp1 : pc1 = pc + 1) (hd : decode bytes pc1 = .ok (.ifCond .gt o, 3)) (ho : 0 ≤ (pc1 : Int) + o) (hp : ((pc1 : Int) + o).toNat = pcT) (hp' : pcF = pc1 + 3) (hT : y < x → Wk p l e R m args below meth c M P n0 L k n pcT Ls (st)) (hF : ¬ y < x → Wk p l e R m args below meth c M P n0 L k n pcF Ls (st)) : Wk p l e R m args below meth c M P n0 L k n pc Ls (.long y :: .long x :: st) := by
  subst hp1
  have W1 : Wk p l e R m args below meth c M P n0 L k n (pc + 1) Ls (.int (lcmpW x y) :: st) := Wk.if_gt C hd ho hp hp' (fun h => hT ((lw_gt x y).mp h)) (fun h => hF (fun q => h ((lw_gt x y).mpr q)))
  exact W1.via fun s T locs X hM hO t h1 => XS.lcmp X.here C.1 rfl (hb C.2.1 hd0) rfl h1
theorem Wk.icmp_le {x y : Int32} {o : Int} {pcT pcF : Nat} (C : Cx Z own name bytes maxL ret p m meth c M) (hd : decode bytes pc = .ok (.if_icmp .le o, 3)) (ho : 0 ≤ (pc : Int) + o) (hp : ((pc : Int) + o).toNat = pcT) (hp' : pcF = pc + 3) (hT : ¬ y < x → Wk p l e R m args below meth c M P n0 L k n pcT Ls (st)) (hF : y < x → Wk p l e R m args below meth c M P n0 L k n pcF Ls (st)) : Wk p l e R m args below meth c M P n0 L k n pc Ls (.int y :: .int x :: st) := by
  subst hp'
  by_cases h : y < x
  · exact (hF h).via fun s T locs X hM hO t h1 => XS.icmpNo X.here C.1 rfl (hb C.2.1 hd) rfl (tlt h).2.2.2 h1
  · exact (hT h).via fun s T locs X hM hO t h1 => XS.icmpYes X.here C.1 rfl (pc0 := pc) rfl (hb C.2.1 hd) rfl (flt h).2.2.2 ho hp h1
theorem Wk.if_le {x : Int32} {o : Int} {pcT pcF : Nat} (C : Cx Z own name bytes maxL ret p m meth c M) (hd : decode bytes pc = .ok (.ifCond .le o, 3)) (ho : 0 ≤ (pc : Int) + o) (hp : ((pc : Int) + o).toNat = pcT) (hp' : pcF = pc + 3) (hT : ¬ 0 < x → Wk p l e R m args below meth c M P n0 L k n pcT Ls (st)) (hF : 0 < x → Wk p l e R m args below meth c M P n0 L k n pcF Ls (st)) : Wk p l e R m args below meth c M P n0 L k n pc Ls (.int x :: st) := by
  subst hp'
  by_cases h : 0 < x
  · exact (hF h).via fun s T locs X hM hO t h1 => XS.ifNo X.here C.1 rfl (hb C.2.1 hd) rfl ((if0 _ _).trans (tlt h).2.2.2) h1
  · exact (hT h).via fun s T locs X hM hO t h1 => XS.ifYes X.here C.1 rfl (pc0 := pc) rfl (hb C.2.1 hd) rfl ((if0 _ _).trans (flt h).2.2.2) ho hp h1
theorem Wk.lcmp_le {x y : Int64} {o : Int} {pc1 pcT pcF : Nat} (C : Cx Z own name bytes maxL ret p m meth c M) (hd0 : decode bytes pc = .ok (.lcmp, 1)) (hp1 : pc1 = pc + 1) (hd : decode bytes pc1 = .ok (.ifCond .le o, 3)) (ho : 0 ≤ (pc1 : Int) + o) (hp : ((pc1 : Int) + o).toNat = pcT) (hp' : pcF = pc1 + 3) (hT : ¬ y < x → Wk p l e R m args below meth c M P n0 L k n pcT Ls (st)) (hF : y < x → Wk p l e R m args below meth c M P n0 L k n pcF Ls (st)) : Wk p l e R m args below meth c M P n0 L k n pc Ls (.long y :: .long x :: st) := by
  subst hp1
  have W1 : Wk p l e R m args below meth c M P n0 L k n (pc + 1) Ls (.int (lcmpW x y) :: st) := Wk.if_le C hd ho hp hp' (fun h => hT (fun q => h ((lw_gt x y).mpr q))) (fun h => hF ((lw_gt x y).mp h))
  exact W1.via fun s T locs X hM hO t h1 => XS.lcmp X.here C.1 rfl (hb C.2.1 hd0) rfl h1
theorem Wk.icmp_eq {x y : Int32} {o : Int} {pcT pcF : Nat} (C : Cx Z own name bytes maxL ret p m meth c M) (hd : decode bytes pc = .ok (.if_icmp .eq o, 3)) (ho : 0 ≤ (pc : Int) + o) (hp : ((pc : Int) + o).toNat = pcT) (hp' : pcF = pc + 3) (hT : x = y → Wk p l e R m args below meth c M P n0 L k n pcT Ls (st)) (hF : ¬ x = y → Wk p l e R m args below meth c M P n0 L k n pcF Ls (st)) : Wk p l e R m args below meth c M P n0 L k n pc Ls (.int y :: .int x :: st) := by
  subst hp'
  by_cases h : x = y
  · exact (hT h).via fun s T locs X hM hO t h1 => XS.icmpYes X.here C.1 rfl (pc0 := pc) rfl (hb C.2.1 hd) rfl (teq h).1 ho hp h1
  · exact (hF h).via fun s T locs X hM hO t h1 => XS.icmpNo X.here C.1 rfl (hb C.2.1 hd) rfl (feq h).1 h1
theorem Wk.if_eq {x : Int32} {o : Int} {pcT pcF : Nat} (C : Cx Z own name bytes maxL ret p m meth c M) (hd : decode bytes pc = .ok (.ifCond .eq o, 3)) (ho : 0 ≤ (pc : Int) + o) (hp : ((pc : Int) + o).toNat = pcT) (hp' : pcF = pc + 3) (hT : x = 0 → Wk p l e R m args below meth c M P n0 L k n pcT Ls (st)) (hF : ¬ x = 0 → Wk p l e R m args below meth c M P n0 L k n pcF Ls (st)) : Wk p l e R m args below meth c M P n0 L k n pc Ls (.int x :: st) := by
  subst hp'
  by_cases h : x = 0
  · exact (hT h).via fun s T locs X hM hO t h1 => XS.ifYes X.here C.1 rfl (pc0 := pc) rfl (hb C.2.1 hd) rfl ((if0 _ _).trans (teq h).1) ho hp h1
  · exact (hF h).via fun s T locs X hM hO t h1 => XS.ifNo X.here C.1 rfl (hb C.2.1 hd) rfl ((if0 _ _).trans (feq h).1) h1
theorem Wk.lcmp_eq {x y : Int64} {o : Int} {pc1 pcT pcF : Nat} (C : Cx Z own name bytes maxL ret p m meth c M) (hd0 : decode bytes pc = .ok (.lcmp, 1)) (hp1 : pc1 = pc + 1) (hd : decode bytes pc1 = .ok (.ifCond .eq o, 3)) (ho : 0 ≤ (pc1 : Int) + o) (hp : ((pc1 : Int) + o).toNat = pcT) (hp' : pcF = pc1 + 3) (hT : x = y → Wk p l e R m args below meth c M P n0 L k n pcT Ls (st)) (hF : ¬ x = y → Wk p l e R m args below meth c M P n0 L k n pcF Ls (st)) : Wk p l e R m args below meth c M P n0 L k n pc Ls (.long y :: .long x :: st) := by
  subst hp1
  have W1 : Wk p l e R m args below meth c M P n0 L k n (pc + 1) Ls (.int (lcmpW x y) :: st) := Wk.if_eq C hd ho hp hp' (fun h => hT ((lw_eq x y).mp h)) (fun h => hF (fun q => h ((lw_eq x y).mpr q)))
  exact W1.via fun s T locs X hM hO t h1 => XS.lcmp X.here C.1 rfl (hb C.2.1 hd0) rfl h1
theorem Wk.icmp_ne {x y : Int32} {o : Int} {pcT pcF : Nat} (C : Cx Z own name bytes maxL ret p m meth c M) (hd : decode bytes pc = .ok (.if_icmp .ne o, 3)) (ho : 0 ≤ (pc : Int) + o) (hp : ((pc : Int) + o).toNat = pcT) (hp' : pcF = pc + 3) (hT : ¬ x = y → Wk p l e R m args below meth c M P n0 L k n pcT Ls (st)) (hF : x = y → Wk p l e R m args below meth c M P n0 L k n pcF Ls (st)) : Wk p l e R m args below meth c M P n0 L k n pc Ls (.int y :: .int x :: st) := by
  subst hp'
  by_cases h : x = y
  · exact (hF h).via fun s T locs X hM hO t h1 => XS.icmpNo X.here C.1 rfl (hb C.2.1 hd) rfl (teq h).2 h1
  · exact (hT h).via fun s T locs X hM hO t h1 => XS.icmpYes X.here C.1 rfl (pc0 := pc) rfl (hb C.2.1 hd) rfl (feq h).2 ho hp h1
theorem Wk.if_ne {x : Int32} {o : Int} {pcT pcF : Nat} (C : Cx Z own name bytes maxL ret p m meth c M) (hd : decode bytes pc = .ok (.ifCond .ne o, 3)) (ho : 0 ≤ (pc : Int) + o) (hp : ((pc : Int) + o).toNat = pcT) (hp' : pcF = pc + 3) (hT : ¬ x = 0 → Wk p l e R m args below meth c M P n0 L k n pcT Ls (st)) (hF : x = 0 → Wk p l e R m args below meth c M P n0 L k n pcF Ls (st)) : Wk p l e R m args below meth c M P n0 L k n pc Ls (.int x :: st) := by
  subst hp'
  by_cases h : x = 0
  · exact (hF h).via fun s T locs X hM hO t h1 => XS.ifNo X.here C.1 rfl (hb C.2.1 hd) rfl ((if0 _ _).trans (teq h).2) h1
  · exact (hT h).via fun s T locs X hM hO t h1 => XS.ifYes X.here C.1 rfl (pc0 := pc) rfl (hb C.2.1 hd) rfl ((if0 _ _).trans (feq h).2) ho hp h1
theorem Wk.lcmp_ne {x y : Int64} {o : Int} {pc1 pcT pcF : Nat} (C : Cx Z own name bytes maxL ret p m meth c M) (hd0 : decode bytes pc = .ok (.lcmp, 1)) (hp1 : pc1 = pc + 1) (hd : decode bytes pc1 = .ok (.ifCond .ne o, 3)) (ho : 0 ≤ (pc1 : Int) + o) (hp : ((pc1 : Int) + o).toNat = pcT) (hp' : pcF = pc1 + 3) (hT : ¬ x = y → Wk p l e R m args below meth c M P n0 L k n pcT Ls (st)) (hF : x = y → Wk p l e R m args below meth c M P n0 L k n pcF Ls (st)) : Wk p l e R m args below meth c M P n0 L k n pc Ls (.long y :: .long x :: st) := by
  subst hp1
  have W1 : Wk p l e R m args below meth c M P n0 L k n (pc + 1) Ls (.int (lcmpW x y) :: st) := Wk.if_ne C hd ho hp hp' (fun h => hT (fun q => h ((lw_eq x y).mpr q))) (fun h => hF ((lw_eq x y).mp h))
  exact W1.via fun s T locs X hM hO t h1 => XS.lcmp X.here C.1 rfl (hb C.2.1 hd0) rfl h1
theorem Wk.ifnullYes {o : Int} (C : Cx Z own name bytes maxL ret p m meth c M) (hd : decode bytes pc = .ok (.ifnull o, 3)) (ho : 0 ≤ (pc : Int) + o) (hp : ((pc : Int) + o).toNat = pc') (W : Wk p l e R m args below meth c M P n0 L k n pc' Ls (st)) : Wk p l e R m args below meth c M P n0 L k n pc Ls (.null :: st) :=
  W.via fun s T locs X hM hO t h1 => XS.ifnullYes X.here C.1 rfl (pc0 := pc) rfl (hb C.2.1 hd) rfl ho hp h1
theorem Wk.ifnullNo {b : Addr} {o : Int} (C : Cx Z own name bytes maxL ret p m meth c M) (hd : decode bytes pc = .ok (.ifnull o, 3)) (hp : pc' = pc + 3) (W : Wk p l e R m args below meth c M P n0 L k n pc' Ls (st)) : Wk p l e R m args below meth c M P n0 L k n pc Ls (.ref b :: st) := by
  subst hp
  exact W.via fun s T locs X hM hO t h1 => XS.ifnullNo X.here C.1 rfl (hb C.2.1 hd) rfl h1
theorem Wk.ifnonnullYes {b : Addr} {o : Int} (C : Cx Z own name bytes maxL ret p m meth c M) (hd : decode bytes pc = .ok (.ifnonnull o, 3)) (ho : 0 ≤ (pc : Int) + o) (hp : ((pc : Int) + o).toNat = pc') (W : Wk p l e R m args below meth c M P n0 L k n pc' Ls (st)) : Wk p l e R m args below meth c M P n0 L k n pc Ls (.ref b :: st) :=
  W.via fun s T locs X hM hO t h1 => XS.ifnonnullYes X.here C.1 rfl (pc0 := pc) rfl (hb C.2.1 hd) rfl ho hp h1
theorem Wk.ifnonnullNo {o : Int} (C : Cx Z own name bytes maxL ret p m meth c M) (hd : decode bytes pc = .ok (.ifnonnull o, 3)) (hp : pc' = pc + 3) (W : Wk p l e R m args below meth c M P n0 L k n pc' Ls (st)) : Wk p l e R m args below meth c M P n0 L k n pc Ls (.null :: st) := by
  subst hp
  exact W.via fun s T locs X hM hO t h1 => XS.ifnonnullNo X.here C.1 rfl (hb C.2.1 hd) rfl h1
theorem Wk.acmp {cd : ACond} {x y : Value} {o : Int} {same : Bool} (C : Cx Z own name bytes maxL ret p m meth c M) (hd : decode bytes pc = .ok (.if_acmp cd o, 3)) (h1 : x.isRef = true) (h2 : y.isRef = true) (hq : decide (x = y) = same) (ho : 0 ≤ (pc : Int) + o) (hp : pc' = if acV cd same = true then ((pc : Int) + o).toNat else pc + 3) (W : Wk p l e R m args below meth c M P n0 L k n pc' Ls (st)) : Wk p l e R m args below meth c M P n0 L k n pc Ls (y :: x :: st) :=
  W.via fun s T locs X hM hO t r => Jvm.RoadKit.acmp (g := mkF m pc Ls (y :: x :: st)) X C.1 rfl h1 h2 (pc0 := pc) rfl (hb C.2.1 hd) rfl hq ho hp r
theorem Wk.join0 {pcj : Nat} (Lj : Array Slot) (sj : List Value) (J : Wk p l e R m args below meth c M P n0 L k n pcj Lj (sj)) (K : Wk p l e R m args below meth c M P n0 L k n pcj Lj (sj) → Wk p l e R m args below meth c M P n0 L k n pc Ls (st)) : Wk p l e R m args below meth c M P n0 L k n pc Ls (st) := K J
theorem Wk.join1 {pcj : Nat} {A0 : Type} (F : A0 → Array Slot) (G : A0 → List Value) (E0 : A0) (J : ∀ v0, v0 = E0 → Wk p l e R m args below meth c M P n0 L k n pcj (F v0) (G v0)) (K : (∀ v0, v0 = E0 → Wk p l e R m args below meth c M P n0 L k n pcj (F v0) (G v0)) → Wk p l e R m args below meth c M P n0 L k n pc Ls (st)) : Wk p l e R m args below meth c M P n0 L k n pc Ls (st) := K J
theorem Wk.join2 {pcj : Nat} {A0 A1 : Type} (F : A0 → A1 → Array Slot) (G : A0 → A1 → List Value) (E0 : A0) (E1 : A1) (J : ∀ v0 v1, v0 = E0 → v1 = E1 → Wk p l e R m args below meth c M P n0 L k n pcj (F v0 v1) (G v0 v1)) (K : (∀ v0 v1, v0 = E0 → v1 = E1 → Wk p l e R m args below meth c M P n0 L k n pcj (F v0 v1) (G v0 v1)) → Wk p l e R m args below meth c M P n0 L k n pc Ls (st)) : Wk p l e R m args below meth c M P n0 L k n pc Ls (st) := K J
theorem Wk.join3 {pcj : Nat} {A0 A1 A2 : Type} (F : A0 → A1 → A2 → Array Slot) (G : A0 → A1 → A2 → List Value) (E0 : A0) (E1 : A1) (E2 : A2) (J : ∀ v0 v1 v2, v0 = E0 → v1 = E1 → v2 = E2 → Wk p l e R m args below meth c M P n0 L k n pcj (F v0 v1 v2) (G v0 v1 v2)) (K : (∀ v0 v1 v2, v0 = E0 → v1 = E1 → v2 = E2 → Wk p l e R m args below meth c M P n0 L k n pcj (F v0 v1 v2) (G v0 v1 v2)) → Wk p l e R m args below meth c M P n0 L k n pc Ls (st)) : Wk p l e R m args below meth c M P n0 L k n pc Ls (st) := K J
theorem Wk.join4 {pcj : Nat} {A0 A1 A2 A3 : Type} (F : A0 → A1 → A2 → A3 → Array Slot) (G : A0 → A1 → A2 → A3 → List Value) (E0 : A0) (E1 : A1) (E2 : A2) (E3 : A3) (J : ∀ v0 v1 v2 v3, v0 = E0 → v1 = E1 → v2 = E2 → v3 = E3 → Wk p l e R m args below meth c M P n0 L k n pcj (F v0 v1 v2 v3) (G v0 v1 v2 v3)) (K : (∀ v0 v1 v2 v3, v0 = E0 → v1 = E1 → v2 = E2 → v3 = E3 → Wk p l e R m args below meth c M P n0 L k n pcj (F v0 v1 v2 v3) (G v0 v1 v2 v3)) → Wk p l e R m args below meth c M P n0 L k n pc Ls (st)) : Wk p l e R m args below meth c M P n0 L k n pc Ls (st) := K J
theorem Wk.ind {A : Type} (μ : A → Nat) (F : A → Array Slot) (H : A → List (Addr × (Cell → Prop))) (I : A → Prop) (step : ∀ a, I a → (∀ b, I b → μ b < μ a → Wk p l e R m args below meth c M P n0 (H b) k n pc (F b) (st)) → Wk p l e R m args below meth c M P n0 (H a) k n pc (F a) (st)) (a : A) (ha : I a) : Wk p l e R m args below meth c M P n0 (H a) k n pc (F a) (st) := by
  have key : ∀ (N : Nat) (a : A), μ a < N → I a → Wk p l e R m args below meth c M P n0 (H a) k n pc (F a) (st) := by
    intro N
    induction N with
    | zero => intro a h; exact absurd h (Nat.not_lt_zero _)
    | succ N ih => intro a h hI; exact step a hI fun b hb hlt => ih b (by omega) hb
  exact key _ a (Nat.lt_succ_self _) ha
theorem idx_of {j : Int32} {i nn : Nat} (hj : j.toInt = (i : Int)) (hi : i < nn) : ¬ (j < 0 ∨ nn ≤ j.toNatClampNeg) ∧ j.toNatClampNeg = i := by
  have e : j.toNatClampNeg = i := by show j.toInt.toNat = i; omega
  refine ⟨fun q => ?_, e⟩
  rcases q with q | q
  · rw [Int32.lt_iff_toInt_lt] at q
    have : (0 : Int32).toInt = 0 := rfl
    omega
  · omega
theorem Wk.iaload {a : Addr} {j : Int32} {q i nn : Nat} {f : Nat → Int32} (C : Cx Z own name bytes maxL ret p m meth c M) (hd : decode bytes pc = .ok (.iaload, 1)) (hL : L[q]? = some (a, ArrC Z .int nn f)) (hj : j.toInt = (i : Int)) (hi : i < nn) (hp : pc' = pc + 1) (W : Wk p l e R m args below meth c M P n0 L k n pc' Ls (.int (f i) :: st)) : Wk p l e R m args below meth c M P n0 L k n pc Ls (.int j :: .ref a :: st) := by
  subst hp
  refine W.via fun s T locs X hM hO t r => ?_
  obtain ⟨cl, g1, g2, g3, g4, g5, -⟩ := (hO.2.2 _ _ hL).2
  obtain ⟨b1, b2⟩ := idx_of hj hi
  rw [← g4] at b1
  exact X.iaload C.1 (j := j) (v := .int (f i)) g1 (State.isArrayOf_alike (C.2.2.2.2.2.2.1 _ _ hM).1.alike g2) g3 b1 (by rw [b2]; exact g5 i hi) (g := mkF m pc Ls (.int j :: .ref a :: st)) rfl rfl (hb C.2.1 hd) t r
theorem Wk.baload {a : Addr} {j : Int32} {q i nn : Nat} {f : Nat → Int32} (C : Cx Z own name bytes maxL ret p m meth c M) (hd : decode bytes pc = .ok (.baload, 1)) (hL : L[q]? = some (a, ArrC Z .byte nn f)) (hj : j.toInt = (i : Int)) (hi : i < nn) (hp : pc' = pc + 1) (W : Wk p l e R m args below meth c M P n0 L k n pc' Ls (.int (f i) :: st)) : Wk p l e R m args below meth c M P n0 L k n pc Ls (.int j :: .ref a :: st) := by
  subst hp
  refine W.via fun s T locs X hM hO t r => ?_
  obtain ⟨cl, g1, g2, g3, g4, g5, -⟩ := (hO.2.2 _ _ hL).2
  obtain ⟨b1, b2⟩ := idx_of hj hi
  rw [← g4] at b1
  exact X.baloadBytes C.1 (j := j) (v := .int (f i)) g1 (State.isArrayOf_alike (C.2.2.2.2.2.2.1 _ _ hM).1.alike g2) g3 b1 (by rw [b2]; exact g5 i hi) (g := mkF m pc Ls (.int j :: .ref a :: st)) rfl rfl (hb C.2.1 hd) t r
theorem Wk.caload {a : Addr} {j : Int32} {q i nn : Nat} {f : Nat → Int32} (C : Cx Z own name bytes maxL ret p m meth c M) (hd : decode bytes pc = .ok (.caload, 1)) (hL : L[q]? = some (a, ArrC Z .char nn f)) (hj : j.toInt = (i : Int)) (hi : i < nn) (hp : pc' = pc + 1) (W : Wk p l e R m args below meth c M P n0 L k n pc' Ls (.int (f i) :: st)) : Wk p l e R m args below meth c M P n0 L k n pc Ls (.int j :: .ref a :: st) := by
  subst hp
  refine W.via fun s T locs X hM hO t r => ?_
  obtain ⟨cl, g1, g2, g3, g4, g5, -⟩ := (hO.2.2 _ _ hL).2
  obtain ⟨b1, b2⟩ := idx_of hj hi
  rw [← g4] at b1
  exact X.caload C.1 (j := j) (v := .int (f i)) g1 (State.isArrayOf_alike (C.2.2.2.2.2.2.1 _ _ hM).1.alike g2) g3 b1 (by rw [b2]; exact g5 i hi) (g := mkF m pc Ls (.int j :: .ref a :: st)) rfl rfl (hb C.2.1 hd) t r
theorem Wk.arraylength {a : Addr} {q nn : Nat} {ty : FieldType} {z : Int32} {φ : Cell → Prop} (C : Cx Z own name bytes maxL ret p m meth c M) (hd : decode bytes pc = .ok (.arraylength, 1)) (hL : L[q]? = some (a, φ)) (hφ : ∀ c, φ c → Z.isArrayOf c ty ∧ c.slots.size = nn) (hz : nn.toInt32 = z) (hp : pc' = pc + 1) (W : Wk p l e R m args below meth c M P n0 L k n pc' Ls (.int z :: st)) : Wk p l e R m args below meth c M P n0 L k n pc Ls (.ref a :: st) := by
  subst hp hz
  refine W.via fun s T locs X hM hO t r => ?_
  obtain ⟨cl, g1, g2⟩ := (hO.2.2 _ _ hL).2
  obtain ⟨g3, g4⟩ := hφ cl g2
  subst g4
  exact X.arraylength C.1 g1 (State.isArrayOf_alike (C.2.2.2.2.2.2.1 _ _ hM).1.alike g3) (g := mkF m pc Ls (.ref a :: st)) rfl rfl (hb C.2.1 hd) t r
theorem Wk.iastore {a : Addr} {j x : Int32} {q i nn : Nat} {f : Nat → Int32} (C : Cx Z own name bytes maxL ret p m meth c M) (hd : decode bytes pc = .ok (.iastore, 1)) (hL : L[q]? = some (a, ArrC Z .int nn f)) (hj : j.toInt = (i : Int)) (hi : i < nn) (hp : pc' = pc + 1) (W : Wk p l e R m args below meth c M P n0 (L.set q (a, ArrC Z .int nn (upd f i (x)))) k n pc' Ls (st)) : Wk p l e R m args below meth c M P n0 L k n pc Ls (.int x :: .int j :: .ref a :: st) := by
  subst hp
  intro s T locs X hM hF hO
  obtain ⟨h0, cl, g1, g2, g3, g4, -⟩ := hO.2.2 _ _ hL
  obtain ⟨b1, b2⟩ := idx_of hj hi
  rw [← g4] at b1
  obtain ⟨T', h', X', e', Wh, stp⟩ := stI X C.1 (C.2.2.2.2.2.2.1 _ _ hM).1 rfl ⟨g1, g2, g3⟩ (j := j) b1 (g := mkF m pc Ls (.int x :: .int j :: .ref a :: st)) rfl rfl (hb C.2.1 hd)
  rw [b2] at Wh
  subst e'
  obtain ⟨t, r1, r2⟩ := W s T' _ X' (C.2.2.2.2.2.2.2 s _ _ (Nat.le_of_eq Wh.size.symm) hM) (Fr.snoc X' hF h0) (hO.wr Wh hL (φ' := ArrC Z .int nn (upd f i (x))) fun c hc _ => hc.set hi rfl)
  exact ⟨t, stp t r1, r2⟩
theorem Wk.bastore {a : Addr} {j x : Int32} {q i nn : Nat} {f : Nat → Int32} (C : Cx Z own name bytes maxL ret p m meth c M) (hd : decode bytes pc = .ok (.bastore, 1)) (hL : L[q]? = some (a, ArrC Z .byte nn f)) (hj : j.toInt = (i : Int)) (hi : i < nn) (hp : pc' = pc + 1) (W : Wk p l e R m args below meth c M P n0 (L.set q (a, ArrC Z .byte nn (upd f i (x.toInt8.toInt32)))) k n pc' Ls (st)) : Wk p l e R m args below meth c M P n0 L k n pc Ls (.int x :: .int j :: .ref a :: st) := by
  subst hp
  intro s T locs X hM hF hO
  obtain ⟨h0, cl, g1, g2, g3, g4, -⟩ := hO.2.2 _ _ hL
  obtain ⟨b1, b2⟩ := idx_of hj hi
  rw [← g4] at b1
  obtain ⟨T', h', X', e', Wh, stp⟩ := stB X C.1 (C.2.2.2.2.2.2.1 _ _ hM).1 rfl ⟨g1, g2, g3⟩ (j := j) b1 (g := mkF m pc Ls (.int x :: .int j :: .ref a :: st)) rfl rfl (hb C.2.1 hd)
  rw [b2] at Wh
  subst e'
  obtain ⟨t, r1, r2⟩ := W s T' _ X' (C.2.2.2.2.2.2.2 s _ _ (Nat.le_of_eq Wh.size.symm) hM) (Fr.snoc X' hF h0) (hO.wr Wh hL (φ' := ArrC Z .byte nn (upd f i (x.toInt8.toInt32))) fun c hc _ => hc.set hi (fits_nar_byte x))
  exact ⟨t, stp t r1, r2⟩
theorem Wk.castore {a : Addr} {j x : Int32} {q i nn : Nat} {f : Nat → Int32} (C : Cx Z own name bytes maxL ret p m meth c M) (hd : decode bytes pc = .ok (.castore, 1)) (hL : L[q]? = some (a, ArrC Z .char nn f)) (hj : j.toInt = (i : Int)) (hi : i < nn) (hp : pc' = pc + 1) (W : Wk p l e R m args below meth c M P n0 (L.set q (a, ArrC Z .char nn (upd f i (nar .char x)))) k n pc' Ls (st)) : Wk p l e R m args below meth c M P n0 L k n pc Ls (.int x :: .int j :: .ref a :: st) := by
  subst hp
  intro s T locs X hM hF hO
  obtain ⟨h0, cl, g1, g2, g3, g4, -⟩ := hO.2.2 _ _ hL
  obtain ⟨b1, b2⟩ := idx_of hj hi
  rw [← g4] at b1
  obtain ⟨T', h', X', e', Wh, stp⟩ := stC X C.1 (C.2.2.2.2.2.2.1 _ _ hM).1 rfl ⟨g1, g2, g3⟩ (j := j) b1 (g := mkF m pc Ls (.int x :: .int j :: .ref a :: st)) rfl rfl (hb C.2.1 hd)
  rw [b2] at Wh
  subst e'
  obtain ⟨t, r1, r2⟩ := W s T' _ X' (C.2.2.2.2.2.2.2 s _ _ (Nat.le_of_eq Wh.size.symm) hM) (Fr.snoc X' hF h0) (hO.wr Wh hL (φ' := ArrC Z .char nn (upd f i (nar .char x))) fun c hc _ => hc.set hi (fits_nar_char x))
  exact ⟨t, stp t r1, r2⟩
theorem Wk.newarray {aty : ArrayType} {z : Int32} {nn cap : Nat} {d : Int32} (C : Cx Z own name bytes maxL ret p m meth c M) (w : (Cond.arrayClass (newarray.typeOf aty)).before a0 Z = true) (hd : decode bytes pc = .ok (.newarray aty, 2)) (hdv : defaultValue (newarray.typeOf aty) = .int d) (hfd : fits (newarray.typeOf aty) (.int d) = true) (hz : z.toInt = (nn : Int)) (hcap : nn ≤ cap) (hb8 : cap * 8 ≤ 536870912) (hk : k + 1 ≤ R.cells) (hn : n + cap ≤ R.slots) (hp : pc' = pc + 2)
    (W : ∀ a : Addr, Wk p l e R m args below meth c M P n0 ((a, ArrC Z (newarray.typeOf aty) nn (fun _ => d)) :: L) (k + 1) (n + cap) pc' Ls (.ref a :: st)) : Wk p l e R m args below meth c M P n0 L k n pc Ls (.int z :: st) := by
  subst hp
  intro s T locs X hM hF hO
  have ez : z.toNatClampNeg = nn := by show z.toInt.toNat = nn; omega
  have nz : ¬ z < 0 := fun q => by
    rw [Int32.lt_iff_toInt_lt] at q
    have : (0 : Int32).toInt = 0 := rfl
    omega
  obtain ⟨T', h', cA, X', e', E, A, Ex, stp⟩ := newPE X C.1 (C.2.2.2.2.2.2.1 _ _ hM).1 w rfl (g := mkF m pc Ls (.int z :: st)) rfl (hb C.2.1 hd) rfl nz (cap := cap) (by rw [ez]; exact hcap) hb8 hk hn (ad := "[" ++ (newarray.typeOf aty).toString) rfl
  subst e'
  obtain ⟨t, r1, r2⟩ := W T.heap.size s T' _ X' (C.2.2.2.2.2.2.2 s _ _ E.1 hM) hF (hO.cons E ⟨_, A.1, A.2.1, A.2.2, (sz_new _ _ _).trans ez, fun i hi => by
    show (Array.replicate z.toNatClampNeg (defaultValue (newarray.typeOf aty)))[i]? = _
    rw [ez, hdv]; simp [hi], fun _ _ => hfd, of_exa A.1 Ex⟩)
  exact ⟨t, stp t r1, r2⟩
def AnyC : Cell → Prop := fun _ => True
theorem Wk.anewarray {C' : String} {index : Nat} {z : Int32} {nn cap : Nat} (C : Cx Z own name bytes maxL ret p m meth c M) (w1 : (Cond.classLink own index C').before a0 Z = true) (w2 : (Cond.arrayOver (.object C')).before a0 Z = true) (hd : decode bytes pc = .ok (.anewarray index, 3)) (hz : z.toInt = (nn : Int)) (hcap : nn ≤ cap) (hb8 : cap * 8 ≤ 536870912) (hk : k + 1 ≤ R.cells) (hn : n + cap ≤ R.slots) (hp : pc' = pc + 3)
    (W : ∀ a : Addr, Wk p l e R m args below meth c M P n0 ((a, AnyC) :: L) (k + 1) (n + cap) pc' Ls (.ref a :: st)) : Wk p l e R m args below meth c M P n0 L k n pc Ls (.int z :: st) := by
  subst hp
  intro s T locs X hM hF hO
  have ez : z.toNatClampNeg = nn := by show z.toInt.toNat = nn; omega
  have nz : ¬ z < 0 := fun q => by
    rw [Int32.lt_iff_toInt_lt] at q
    have : (0 : Int32).toInt = 0 := rfl
    omega
  obtain ⟨T', h', cA, X', e', E, A, -, stp⟩ := newR X C.1 (C.2.2.2.2.2.2.1 _ _ hM).1 (C.2.2.2.2.2.2.1 _ _ hM).2 w1 w2 rfl (g := mkF m pc Ls (.int z :: st)) rfl (hb C.2.1 hd) rfl nz (cap := cap) (by rw [ez]; exact hcap) hb8 hk hn
  subst e'
  obtain ⟨t, r1, r2⟩ := W T.heap.size s T' _ X' (C.2.2.2.2.2.2.2 s _ _ E.1 hM) hF (hO.cons E ⟨_, A.1, trivial⟩)
  exact ⟨t, stp t r1, r2⟩
theorem Wk.new {C' : String} {index nf : Nat} {ks : List (String × String × String × FieldType)} {vs : List Value} (C : Cx Z own name bytes maxL ret p m meth c M) (w : (Cond.classLink own index C').before a0 Z = true) (wi : (Cond.instantiable C' nf).before a0 Z = true) (wz : (Cond.initialized C').before a0 Z = true) (H : Lays Z a0 C' ks) (hd : decode bytes pc = .ok (.new index, 3)) (hv : vs = ks.map (fun kk => defaultValue kk.2.2.2)) (hk : k + 1 ≤ R.cells) (hn : n + nf ≤ R.slots) (hp : pc' = pc + 3)
    (W : ∀ a : Addr, Wk p l e R m args below meth c M P n0 ((a, ObjC Z C' ks vs) :: L) (k + 1) (n + nf) pc' Ls (.ref a :: st)) : Wk p l e R m args below meth c M P n0 L k n pc Ls (st) := by
  subst hp hv
  intro s T locs X hM hF hO
  obtain ⟨T', h', X', e', E, A, D, -, stp⟩ := newO X C.1 (C.2.2.2.2.2.2.1 _ _ hM).1 (C.2.2.2.2.2.2.1 _ _ hM).2 w wi wz rfl (g := mkF m pc Ls st) rfl (hb C.2.1 hd) hk hn
  subst e'
  obtain ⟨cl, kc, g1, -⟩ := id A
  obtain ⟨t, r1, r2⟩ := W T.heap.size s T' _ X' (C.2.2.2.2.2.2.2 s _ _ E.1 hM) hF (hO.cons E ⟨cl, g1, of_exa g1 A, fun i kk v hkk hvv => by
    rw [List.getElem?_map, hkk] at hvv
    cases hvv
    have q := H.1 kk (List.mem_of_getElem? hkk)
    exact of_fld g1 (D q.1 q.2)⟩)
  exact ⟨t, stp t r1, r2⟩
theorem Wk.getfield {C' O nm d host : String} {ty : FieldType} {index i q : Nat} {a : Addr} {ks : List (String × String × String × FieldType)} {vs : List Value} {v : Value} (C : Cx Z own name bytes maxL ret p m meth c M) (w : (Cond.fieldLink own index O nm d).before a0 Z = true ∨ (Cond.fieldLinkNest own index O nm d host).before a0 Z = true) (hd : decode bytes pc = .ok (.getfield index, 3)) (hL : L[q]? = some (a, ObjC Z C' ks vs)) (hk : ks[i]? = some (O, nm, d, ty)) (hv : vs[i]? = some v) (hp : pc' = pc + 3)
    (W : Wk p l e R m args below meth c M P n0 L k n pc' Ls (v :: st)) : Wk p l e R m args below meth c M P n0 L k n pc Ls (.ref a :: st) := by
  subst hp
  intro s T locs X hM hF hO
  obtain ⟨h0, cl, g1, g2, g3⟩ := hO.2.2 _ _ hL
  obtain ⟨T', X', e', stp⟩ := getF X C.1 (C.2.2.2.2.2.2.1 _ _ hM).1 (C.2.2.2.2.2.2.1 _ _ hM).2 w Via.refl rfl (fld_of g1 (g3 i _ v hk hv)) (g := mkF m pc Ls (.ref a :: st)) rfl rfl (hb C.2.1 hd)
  rw [← e'] at hM hO
  obtain ⟨t, r1, r2⟩ := W s T' _ X' hM hF hO
  exact ⟨t, stp t r1, r2⟩
theorem Wk.putfield {C' O nm d host : String} {ty : FieldType} {index i q nf : Nat} {a : Addr} {ks : List (String × String × String × FieldType)} {vs : List Value} {v : Value} (C : Cx Z own name bytes maxL ret p m meth c M) (w : (Cond.fieldLink own index O nm d).before a0 Z = true ∨ (Cond.fieldLinkNest own index O nm d host).before a0 Z = true) (H : Lays Z a0 C' ks) (hlay : (Cond.lays C' O nm d).before a0 Z = true ∨ ((Cond.laysFinal C' O nm d).before a0 Z = true ∧ own = O ∧ name = "<init>")) (wi : (Cond.instantiable C' nf).before a0 Z = true) (hd : decode bytes pc = .ok (.putfield index, 3)) (hL : L[q]? = some (a, ObjC Z C' ks vs)) (hk : ks[i]? = some (O, nm, d, ty)) (hv : i < vs.length) (hnar : narrow ty v = v) (hfit : fits ty v = true) (hp : pc' = pc + 3)
    (W : Wk p l e R m args below meth c M P n0 (L.set q (a, ObjC Z C' ks (vs.set i v))) k n pc' Ls (st)) : Wk p l e R m args below meth c M P n0 L k n pc Ls (v :: .ref a :: st) := by
  subst hp
  intro s T locs X hM hF hO
  obtain ⟨h0, cl, g1, g2, g3⟩ := hO.2.2 _ _ hL
  obtain ⟨v0, hv0⟩ : ∃ v0, vs[i]? = some v0 := ⟨_, List.getElem?_eq_getElem hv⟩
  have hpf : parseFieldDescriptor d = some ty := (H.1 (O, nm, d, ty) (List.mem_of_getElem? hk)).2
  obtain ⟨T', h', X', e', Wh, stp⟩ := putF (own := own) (R0 := O) (O := O) (n := nm) (d := d) (host := host) (C := C') (kk := nf) (v := v) (old := v0) X C.1 (C.2.2.2.2.2.2.1 _ _ hM).1 (C.2.2.2.2.2.2.1 _ _ hM).2 w Via.refl rfl (fld_of g1 (g3 i _ v0 hk hv0)) (exa_of g1 g2) (hlay.imp id fun q => ⟨q.1, q.2.1, C.2.2.2.2.2.1.trans q.2.2⟩) wi (ty := ty) hpf hnar hfit (g := mkF m pc Ls (v :: .ref a :: st)) rfl rfl (hb C.2.1 hd)
  subst e'
  have hset : ∀ c, ObjC Z C' ks vs c → Jvm.RoadKit.slotOf Z O nm d < c.slots.size → ObjC Z C' ks (vs.set i v) (c.setSlot (Jvm.RoadKit.slotOf Z O nm d) v) := fun c hc hsl => ObjC.set (kk := (O, nm, d, ty)) hc H hk hv hsl
  obtain ⟨t, r1, r2⟩ := W s T' _ X' (C.2.2.2.2.2.2.2 s _ _ (Nat.le_of_eq Wh.size.symm) hM) (Fr.snoc X' hF h0) (hO.wr Wh hL hset)
  exact ⟨t, stp t r1, r2⟩
theorem Wk.objInit {idx W0 : Nat} {a : Addr} (C : Cx Z own name bytes maxL ret p m meth c M) (w1 : (Cond.methodLink own idx Lib.objectInit).before a0 Z = true) (w2 : (Cond.instanceMethod Lib.objectInit).before a0 Z = true) (w3 : (Cond.code Lib.objectInit object_method_1_code 1 none).before a0 Z = true) (hd : decode bytes pc = .ok (.invokespecial idx, 3)) (hsz : Ls.size = maxL) (hf : 1 ≤ R.frames) (hW : (st.map fun v => v.category).sum = W0) (hl : W0 + 12 ≤ R.locals) (hp : pc' = pc + 3)
    (W : Wk p l e R m args below meth c M P n0 L k n pc' Ls (st)) : Wk p l e R m args below meth c M P n0 L k n pc Ls (.ref a :: st) := by
  subst hp
  intro s T locs X hM hF hO
  obtain ⟨T', X', e', stp⟩ := initO X C.1 (C.2.2.2.2.2.2.1 _ _ hM).1 (C.2.2.2.2.2.2.1 _ _ hM).2 w1 w2 w3 rfl (g := mkF m pc Ls (.ref a :: st)) rfl (hsz.trans C.2.2.1.symm) (rest := st) rfl (hb C.2.1 hd) hf (W := W0) (by show 2 * 0 + _ ≤ _; omega) hl
  rw [← e'] at hM hO
  obtain ⟨t, r1, r2⟩ := W s T' _ X' hM hF hO
  exact ⟨t, stp t r1, r2⟩
/-! the end: v is returned, Q holds of it and of the heap -/
def Pend (below : List Frame) (FE : Outcome → State → List Loc → Prop) (n0 : Nat) (Q : Option Value → Heap → Prop) (t : State) : Prop := ∃ v L, t.status = .running ∧ Ended t below (.returned v) ∧ Q v t.heap ∧ Fr n0 L ∧ FE (.returned v) t L
def Ok (M : State → Heap → Prop) (FE : Outcome → State → List Loc → Prop) (K N : Nat) : Prop := ∀ (s t : State) (L : List Loc) (k n : Nat) (v : Option Value), M s t.heap → s.WarmedH t.vm → s.sameButNew ({ t with vm := s.vm } : State) L k n → k ≤ K → n ≤ N → FE (.returned v) t L
theorem Wk.retI {z : Int32} {FE : Outcome → State → List Loc → Prop} {Q : Option Value → Heap → Prop} {K N : Nat} (C : Cx Z own name bytes maxL (some .int) p m meth c M) (J : Ok M FE K N) (hd : decode bytes pc = .ok (.ireturn, 1)) (hk : k ≤ K) (hn : n ≤ N) (hq : ∀ h, Own n0 h L → Q (some (.int z)) h) : Wk p l e R m args below meth c M (Pend below FE n0 Q) n0 L k n pc Ls (.int z :: st) := by
  intro s T locs X hM hF hO
  obtain ⟨fs, hr, hrun, hended, hW, hsame⟩ := X.leave (v := some (.int z)) (fun h => by rw [C.2.2.2.1] at h; cases h) C.2.2.2.2.1
  exact ⟨_, Jvm.RoadKit.retI X C.1 C.2.2.2.1 (hb C.2.1 hd) hr, _, locs, hrun, hended, hq _ hO, hF, J s _ locs k n _ hM hW hsame hk hn⟩
theorem Wk.retN {z z' : Int32} {ty : FieldType} {FE : Outcome → State → List Loc → Prop} {Q : Option Value → Heap → Prop} {K N : Nat} (C : Cx Z own name bytes maxL (some ty) p m meth c M) (J : Ok M FE K N) (hd : decode bytes pc = .ok (.ireturn, 1)) (hk : k ≤ K) (hn : n ≤ N) (ht : ty = .boolean ∨ ty = .byte ∨ ty = .char ∨ ty = .short) (hz : nar ty z = z') (hq : ∀ h, Own n0 h L → Q (some (.int z')) h) : Wk p l e R m args below meth c M (Pend below FE n0 Q) n0 L k n pc Ls (.int z :: st) := by
  subst hz
  intro s T locs X hM hF hO
  obtain ⟨fs, hr, hrun, hended, hW, hsame⟩ := X.leave (v := some (.int (nar ty z))) (fun h => by rw [C.2.2.2.1] at h; cases h) C.2.2.2.2.1
  exact ⟨_, Jvm.RoadKit.retN X C.1 C.2.2.2.1 ht (hb C.2.1 hd) hr, _, locs, hrun, hended, hq _ hO, hF, J s _ locs k n _ hM hW hsame hk hn⟩
theorem Wk.retL {z : Int64} {FE : Outcome → State → List Loc → Prop} {Q : Option Value → Heap → Prop} {K N : Nat} (C : Cx Z own name bytes maxL (some .long) p m meth c M) (J : Ok M FE K N) (hd : decode bytes pc = .ok (.lreturn, 1)) (hk : k ≤ K) (hn : n ≤ N) (hq : ∀ h, Own n0 h L → Q (some (.long z)) h) : Wk p l e R m args below meth c M (Pend below FE n0 Q) n0 L k n pc Ls (.long z :: []) := by
  intro s T locs X hM hF hO
  obtain ⟨fs, hr, hrun, hended, hW, hsame⟩ := X.leave (v := some (.long z)) (fun h => by rw [C.2.2.2.1] at h; cases h) C.2.2.2.2.1
  exact ⟨_, X.lreturnOut C.1 C.2.2.2.1 (hb C.2.1 hd) hr, _, locs, hrun, hended, hq _ hO, hF, J s _ locs k n _ hM hW hsame hk hn⟩
theorem Wk.retA {z : Value} {ty : FieldType} {FE : Outcome → State → List Loc → Prop} {Q : Option Value → Heap → Prop} {K N : Nat} (C : Cx Z own name bytes maxL (some ty) p m meth c M) (J : Ok M FE K N) (hd : decode bytes pc = .ok (.areturn, 1)) (hk : k ≤ K) (hn : n ≤ N) (hz : z.isRef = true) (ht : ty.isReference = true) (hq : ∀ h, Own n0 h L → Q (some z) h) : Wk p l e R m args below meth c M (Pend below FE n0 Q) n0 L k n pc Ls (z :: []) := by
  intro s T locs X hM hF hO
  obtain ⟨fs, hr, hrun, hended, hW, hsame⟩ := X.leave (v := some z) (fun h => by rw [C.2.2.2.1] at h; cases h) C.2.2.2.2.1
  exact ⟨_, X.areturnOut C.1 hz C.2.2.2.1 ht (hb C.2.1 hd) hr, _, locs, hrun, hended, hq _ hO, hF, J s _ locs k n _ hM hW hsame hk hn⟩
theorem Wk.retV {FE : Outcome → State → List Loc → Prop} {Q : Option Value → Heap → Prop} {K N : Nat} (C : Cx Z own name bytes maxL none p m meth c M) (J : Ok M FE K N) (hd : decode bytes pc = .ok (.return_, 1)) (hk : k ≤ K) (hn : n ≤ N) (hq : ∀ h, Own n0 h L → Q none h) : Wk p l e R m args below meth c M (Pend below FE n0 Q) n0 L k n pc Ls ([]) := by
  intro s T locs X hM hF hO
  obtain ⟨fs, hr, hrun, hended, hW, hsame⟩ := X.leave (v := none) (fun h => by rfl) C.2.2.2.2.1
  exact ⟨_, X.returnOut C.1 C.2.2.2.1 (hb C.2.1 hd) hr, _, locs, hrun, hended, hq _ hO, hF, J s _ locs k n _ hM hW hsame hk hn⟩
/-- a method's contract: called with as' over the heap h it returns, and Q holds -/
def Meth (l : Launch) (Z : State) (y : MethodName) (bytes : ByteArray) (maxL : Nat) (ret : Option FieldType) (ws : List Jvm.Cond) (rm : Room) (as' : Array Value) (h : Heap) (n0 : Nat) (Q : Option Value → Heap → Prop) : Prop :=
  MetFree l y (head1 (Jvm.Cond.code y bytes maxL ret :: ws) rm) (fun a U => a = as' ∧ Z.Warmed39 U.vm ∧ U.heap = h) (fun _ _ _ _ _ => True) (fun _ U o U' => ∃ v L, o = .returned v ∧ (Q v U'.heap ∧ h.size ≤ U'.heap.size ∧ Fr n0 L) ∧ FrameEnd U o U' L rm.cells rm.slots)
theorem Meth.of {y : MethodName} {ws : List Jvm.Cond} {rm : Room} {as' : Array Value} {h : Heap} {Q : Option Value → Heap → Prop} (hp : plainFor y = true) (hE : ∀ m, entryFrame m as' maxL = mkF m 0 Ls []) (hO : Own n0 h L)
    (body : ∀ (p : Program) (e : Env) (m : MethodId) (below : List Frame) (meth : Method) (c : Code) (M : State → Heap → Prop) (FE : Outcome → State → List Loc → Prop), Cx Z y.cls y.name bytes maxL ret p m meth c M → Ok M FE rm.cells rm.slots → Wk p l e rm m as' below meth c M (Pend below FE n0 Q) n0 L 0 0 0 Ls []) :
    Meth l Z y bytes maxL ret ws rm as' h n0 Q := by
  refine MetFree.of_bodySF hp hisR ?_
  intro p e s m args below meth c s₁ Bd hml0 hP hK
  obtain ⟨rfl, hZ, hh⟩ := hP
  have hnm := (name_of_methodNamed Bd.named Bd.method).1
  have e0 : s₁.heap = h := by rw [← hh, Bd.state]; rfl
  have CC : Cx Z y.cls y.name bytes maxL ret p m meth c (fun s' _ => s' = s) := ⟨Bd.exec, Bd.bytes, hml0, Bd.returns, Bd.notSynchronized, hnm, fun s' _ q => by subst q; exact ⟨hZ, findClass_of_methodNamed Bd.named⟩, fun _ _ _ _ q => q⟩
  have JJ : Ok (fun s' _ => s' = s) (fun o t L => FrameEnd s o t L rm.cells rm.slots) rm.cells rm.slots := fun s' t L k n v q hW hs hk hn => by subst q; exact ⟨⟨_, rfl⟩, hW, hs.mono hk hn⟩
  obtain ⟨t, r1, v, Lo, r2, r3, r4, r5, r6⟩ := body p e m below meth c _ _ CC JJ s s₁ [] (Stand.of_body Bd) rfl (Fr.nil n0) (by rw [e0]; exact hO)
  refine ⟨t, .returned v, castTop (hE m) r1, r2, r3, v, Lo, rfl, ⟨r4, ?_, r5⟩, r6⟩
  rw [← hh]; exact r6.2.2.2.1
theorem Wk.callS {y : MethodName} {bytes' : ByteArray} {maxL' : Nat} {ret' : Option FieldType} {index W0 : Nat} {rm : Room} {Q : Option Value → Heap → Prop} {argsL st0 : List Value} {ps : List FieldType} {rt : Option FieldType} (C : Cx Z own name bytes maxL ret p m meth c M) (w1 : (Jvm.Cond.methodLink own index y).before a0 Z = true) (w2 : (Jvm.Cond.static y).before a0 Z = true) (w3 : (Jvm.Cond.initialized y.cls).before a0 Z = true) (w4 : (Jvm.Cond.code y bytes' maxL' ret').before a0 Z = true) (hy : y.cls ≠ "java/lang/invoke/MethodHandle" ∧ y.cls ≠ "java/lang/invoke/VarHandle")
    (hM : ∀ h, Own n0 h L → Meth l Z y bytes' maxL' ret' [] rm argsL.toArray h n0 Q) (hf : rm.frames + 1 ≤ R.frames) (hl : W0 + (maxL' + 11) + rm.locals ≤ R.locals) (hk : k + rm.cells ≤ R.cells) (hn : n + rm.slots ≤ R.slots) (hd : decode bytes pc = .ok (.invokestatic index, 3)) (hsz : Ls.size = maxL) (hpd : parseMethodDescriptor y.desc = some ⟨ps, rt⟩) (hlen : argsL.length = ps.length) (hst : st0 = argsL.reverse ++ st) (hW : (st.map fun v => v.category).sum = W0) (hp : pc' = pc + 3)
    (W : ∀ v h', Q v h' → ∃ L', Own n0 h' L' ∧ Wk p l e R m args below meth c M P n0 L' (k + rm.cells) (n + rm.slots) pc' Ls (v.toList ++ st)) : Wk p l e R m args below meth c M P n0 L k n pc Ls (st0) := by
  subst hp hst
  intro s T locs X hMs hF hO
  obtain ⟨hZ, hown⟩ := C.2.2.2.2.2.2.1 _ _ hMs
  obtain ⟨_, _, ⟨T1, L1, k1, n1⟩, -, X', ⟨Lc, hQ, l1, y1, z1⟩, stp⟩ := Jvm.LawKit.callS X C.1 (y := y) hown (mvT hZ w1) (mvT hZ w2) (mvT hZ w3) (mvT hZ w4) hy (backOf (W := W0) (Q := fun v h' L => Q v h' ∧ T.heap.size ≤ h'.size ∧ Fr n0 L) (hM _ hO) hZ w4 w3 hf hl) (g := mkF m pc Ls (argsL.reverse ++ st)) rfl (hsz.trans C.2.2.1.symm) (argsL := argsL) (rest := st) (lenOf hpd hlen) rfl (by show 2 * 0 + _ ≤ _; omega) (hb C.2.1 hd) (fun _ _ => ⟨rfl, rfl, hk, hn⟩)
  dsimp only [Pt.U, Pt.locs, Pt.cells, Pt.slots] at X' l1 y1 z1 stp hQ
  subst l1 y1 z1
  obtain ⟨hQ1, hQ2, hQ3⟩ := hQ
  obtain ⟨L', O', W'⟩ := W _ _ hQ1
  obtain ⟨t, r1, r2⟩ := W' s T1 _ X' (C.2.2.2.2.2.2.2 s _ _ hQ2 hMs) (Fr.app hF hQ3) O'
  exact ⟨t, stp t r1, r2⟩
theorem Wk.callI {y : MethodName} {bytes' : ByteArray} {maxL' : Nat} {ret' : Option FieldType} {index W0 : Nat} {rm : Room} {Q : Option Value → Heap → Prop} {a : Addr} {argsL st0 : List Value} {ps : List FieldType} {rt : Option FieldType} (C : Cx Z own name bytes maxL ret p m meth c M) (hret' : ret' = none) (hy1 : y.name = "<init>") (w1 : (Jvm.Cond.methodLink own index y).before a0 Z = true) (w2 : (Jvm.Cond.instanceMethod y).before a0 Z = true) (w3 : (Jvm.Cond.initialized y.cls).before a0 Z = true) (w4 : (Jvm.Cond.code y bytes' maxL' ret').before a0 Z = true) (hy : y.cls ≠ "java/lang/invoke/MethodHandle" ∧ y.cls ≠ "java/lang/invoke/VarHandle")
    (hM : ∀ h, Own n0 h L → Meth l Z y bytes' maxL' ret' [] rm (.ref a :: argsL).toArray h n0 Q) (hf : rm.frames + 1 ≤ R.frames) (hl : W0 + (maxL' + 11) + rm.locals ≤ R.locals) (hk : k + rm.cells ≤ R.cells) (hn : n + rm.slots ≤ R.slots) (hd : decode bytes pc = .ok (.invokespecial index, 3)) (hsz : Ls.size = maxL) (hpd : parseMethodDescriptor y.desc = some ⟨ps, rt⟩) (hlen : argsL.length = ps.length) (hst : st0 = argsL.reverse ++ .ref a :: st) (hW : (st.map fun v => v.category).sum = W0) (hp : pc' = pc + 3)
    (W : ∀ v h', Q v h' → ∃ L', Own n0 h' L' ∧ Wk p l e R m args below meth c M P n0 L' (k + rm.cells) (n + rm.slots) pc' Ls (v.toList ++ st)) : Wk p l e R m args below meth c M P n0 L k n pc Ls (st0) := by
  subst hp hst
  intro s T locs X hMs hF hO
  subst hret'
  obtain ⟨hZ, hown⟩ := C.2.2.2.2.2.2.1 _ _ hMs
  obtain ⟨_, _, ⟨T1, L1, k1, n1⟩, -, X', ⟨Lc, hQ, l1, y1, z1⟩, stp⟩ := X.specialBack C.1 (y := y) hy1 hown (mvT hZ w1) (mvT hZ w2) (mvT hZ w4) hy (backOf (W := W0) (Q := fun v h' L => Q v h' ∧ T.heap.size ≤ h'.size ∧ Fr n0 L) (hM _ hO) hZ w4 w3 hf hl) (g := mkF m pc Ls (argsL.reverse ++ .ref a :: st)) rfl (hsz.trans C.2.2.1.symm) (Steps.refl _) (a := a) (argsL := argsL) (rest := st) (lenOf hpd hlen) rfl (by show 2 * 0 + _ ≤ _; omega) (hb C.2.1 hd) (fun _ _ => ⟨rfl, rfl, hk, hn⟩)
  dsimp only [Pt.U, Pt.locs, Pt.cells, Pt.slots] at X' l1 y1 z1 stp hQ
  subst l1 y1 z1
  obtain ⟨hQ1, hQ2, hQ3⟩ := hQ
  obtain ⟨L', O', W'⟩ := W _ _ hQ1
  obtain ⟨t, r1, r2⟩ := W' s T1 _ X' (C.2.2.2.2.2.2.2 s _ _ hQ2 hMs) (Fr.app hF hQ3) O'
  exact ⟨t, stp.trans r1, r2⟩
theorem Wk.callV {y : MethodName} {C' : String} {bytes' : ByteArray} {maxL' : Nat} {ret' : Option FieldType} {index W0 q : Nat} {rm : Room} {Q : Option Value → Heap → Prop} {a : Addr} {ks : List (String × String × String × FieldType)} {vs : List Value} {argsL st0 : List Value} {ps : List FieldType} {rt : Option FieldType} (C : Cx Z own name bytes maxL ret p m meth c M) (hL : L[q]? = some (a, ObjC Z C' ks vs)) (w1 : (Jvm.Cond.methodLink own index y).before a0 Z = true) (w5 : (Jvm.Cond.declares y).before a0 Z = true) (w6 : (Jvm.Cond.selects C' y y).before a0 Z = true) (w2 : (Jvm.Cond.instanceMethod y).before a0 Z = true) (w3 : (Jvm.Cond.initialized y.cls).before a0 Z = true) (w4 : (Jvm.Cond.code y bytes' maxL' ret').before a0 Z = true) (hy : y.cls ≠ "java/lang/invoke/MethodHandle" ∧ y.cls ≠ "java/lang/invoke/VarHandle")
    (hM : ∀ h, Own n0 h L → Meth l Z y bytes' maxL' ret' [] rm (.ref a :: argsL).toArray h n0 Q) (hf : rm.frames + 1 ≤ R.frames) (hl : W0 + (maxL' + 11) + rm.locals ≤ R.locals) (hk : k + rm.cells ≤ R.cells) (hn : n + rm.slots ≤ R.slots) (hd : decode bytes pc = .ok (.invokevirtual index, 3)) (hsz : Ls.size = maxL) (hpd : parseMethodDescriptor y.desc = some ⟨ps, rt⟩) (hlen : argsL.length = ps.length) (hst : st0 = argsL.reverse ++ .ref a :: st) (hW : (st.map fun v => v.category).sum = W0) (hp : pc' = pc + 3)
    (W : ∀ v h', Q v h' → ∃ L', Own n0 h' L' ∧ Wk p l e R m args below meth c M P n0 L' (k + rm.cells) (n + rm.slots) pc' Ls (v.toList ++ st)) : Wk p l e R m args below meth c M P n0 L k n pc Ls (st0) := by
  subst hp hst
  intro s T locs X hMs hF hO
  obtain ⟨hZ, hown⟩ := C.2.2.2.2.2.2.1 _ _ hMs
  obtain ⟨h0, cl, g1, g2, g3⟩ := hO.2.2 _ _ hL
  obtain ⟨cq, kq, qa, qb, qc⟩ := isOf hZ rfl (exa_of g1 g2)
  obtain ⟨_, _, ⟨T1, L1, k1, n1⟩, -, X', ⟨Lc, hQ, l1, y1, z1⟩, stp⟩ := X.virtualBack C.1 (y := y) (z := y) hown (mvT hZ w1) (mvT hZ w5) (notFace_of_selects (args := #[]) (mvT hZ w6)) (mvT hZ w6) (mvT hZ w2) hy (backOf (W := W0) (Q := fun v h' L => Q v h' ∧ T.heap.size ≤ h'.size ∧ Fr n0 L) (hM _ hO) hZ w4 w3 hf hl) qa qc (g := mkF m pc Ls (argsL.reverse ++ .ref a :: st)) rfl (hsz.trans C.2.2.1.symm) (Steps.refl _) (argsL := argsL) (rest := st) (lenOf hpd hlen) rfl (by show 2 * 0 + _ ≤ _; omega) (hb C.2.1 hd) (fun _ _ => ⟨rfl, rfl, hk, hn⟩)
  dsimp only [Pt.U, Pt.locs, Pt.cells, Pt.slots] at X' l1 y1 z1 stp hQ
  subst l1 y1 z1
  obtain ⟨hQ1, hQ2, hQ3⟩ := hQ
  obtain ⟨L', O', W'⟩ := W _ _ hQ1
  obtain ⟨t, r1, r2⟩ := W' s T1 _ X' (C.2.2.2.2.2.2.2 s _ _ hQ2 hMs) (Fr.app hF hQ3) O'
  exact ⟨t, stp.trans r1, r2⟩
end OwnKit
abbrev HW (Z : State) (a0 : Array Value) : Prop := ∀ d ∈ tables_1, d.before a0 Z = true
theorem w0 {Z : State} {a0 : Array Value} (hw : HW Z a0) : (Jvm.Cond.constant "com/example/nisaba/nisaba/tokenizer/DecodingReadPinLaw" (7 : Nat) (2147483647 : Int32)).before a0 Z = true := hw _ (List.mem_of_getElem? (i := 0) rfl)
theorem w1 {Z : State} {a0 : Array Value} (hw : HW Z a0) : (Jvm.Cond.arrayClass Jvm.ClassFile.FieldType.byte).before a0 Z = true := hw _ (List.mem_of_getElem? (i := 1) rfl)
theorem w2 {Z : State} {a0 : Array Value} (hw : HW Z a0) : (Jvm.Cond.classLink "com/example/nisaba/nisaba/tokenizer/DecodingReadPinLaw" (8 : Nat) "com/example/nisaba/nisaba/tokenizer/Decoding").before a0 Z = true := hw _ (List.mem_of_getElem? (i := 2) rfl)
theorem w3 {Z : State} {a0 : Array Value} (hw : HW Z a0) : (Jvm.Cond.instantiable "com/example/nisaba/nisaba/tokenizer/Decoding" (4 : Nat)).before a0 Z = true := hw _ (List.mem_of_getElem? (i := 3) rfl)
theorem w4 {Z : State} {a0 : Array Value} (hw : HW Z a0) : (Jvm.Cond.initialized "com/example/nisaba/nisaba/tokenizer/Decoding").before a0 Z = true := hw _ (List.mem_of_getElem? (i := 4) rfl)
theorem w5 {Z : State} {a0 : Array Value} (hw : HW Z a0) : (Jvm.Cond.methodLink "com/example/nisaba/nisaba/tokenizer/DecodingReadPinLaw" (10 : Nat) ({ cls := "com/example/nisaba/nisaba/tokenizer/Decoding", name := "<init>", desc := "([BI)V" } : Jvm.MethodName)).before a0 Z = true := hw _ (List.mem_of_getElem? (i := 5) rfl)
theorem w6 {Z : State} {a0 : Array Value} (hw : HW Z a0) : (Jvm.Cond.instanceMethod ({ cls := "com/example/nisaba/nisaba/tokenizer/Decoding", name := "<init>", desc := "([BI)V" } : Jvm.MethodName)).before a0 Z = true := hw _ (List.mem_of_getElem? (i := 6) rfl)
theorem w7 {Z : State} {a0 : Array Value} (hw : HW Z a0) : (Jvm.Cond.code ({ cls := "com/example/nisaba/nisaba/tokenizer/Decoding", name := "<init>", desc := "([BI)V" } : Jvm.MethodName) prog_95_method_1_code (3 : Nat) (Option.none : Option Jvm.ClassFile.FieldType)).before a0 Z = true := hw _ (List.mem_of_getElem? (i := 7) rfl)
theorem w8 {Z : State} {a0 : Array Value} (hw : HW Z a0) : (Jvm.Cond.methodLink "com/example/nisaba/nisaba/tokenizer/Decoding" (1 : Nat) ({ cls := "java/lang/Object", name := "<init>", desc := "()V" } : Jvm.MethodName)).before a0 Z = true := hw _ (List.mem_of_getElem? (i := 8) rfl)
theorem w9 {Z : State} {a0 : Array Value} (hw : HW Z a0) : (Jvm.Cond.instanceMethod ({ cls := "java/lang/Object", name := "<init>", desc := "()V" } : Jvm.MethodName)).before a0 Z = true := hw _ (List.mem_of_getElem? (i := 9) rfl)
theorem w10 {Z : State} {a0 : Array Value} (hw : HW Z a0) : (Jvm.Cond.code ({ cls := "java/lang/Object", name := "<init>", desc := "()V" } : Jvm.MethodName) object_method_1_code (1 : Nat) (Option.none : Option Jvm.ClassFile.FieldType)).before a0 Z = true := hw _ (List.mem_of_getElem? (i := 10) rfl)
theorem w11 {Z : State} {a0 : Array Value} (hw : HW Z a0) : (Jvm.Cond.fieldLink "com/example/nisaba/nisaba/tokenizer/Decoding" (7 : Nat) "com/example/nisaba/nisaba/tokenizer/Decoding" "input" "[B").before a0 Z = true := hw _ (List.mem_of_getElem? (i := 11) rfl)
theorem w12 {Z : State} {a0 : Array Value} (hw : HW Z a0) : (Jvm.Cond.laysFinal "com/example/nisaba/nisaba/tokenizer/Decoding" "com/example/nisaba/nisaba/tokenizer/Decoding" "input" "[B").before a0 Z = true := hw _ (List.mem_of_getElem? (i := 12) rfl)
theorem w13 {Z : State} {a0 : Array Value} (hw : HW Z a0) : (Jvm.Cond.fieldLink "com/example/nisaba/nisaba/tokenizer/Decoding" (13 : Nat) "com/example/nisaba/nisaba/tokenizer/Decoding" "next" "I").before a0 Z = true := hw _ (List.mem_of_getElem? (i := 13) rfl)
theorem w14 {Z : State} {a0 : Array Value} (hw : HW Z a0) : (Jvm.Cond.lays "com/example/nisaba/nisaba/tokenizer/Decoding" "com/example/nisaba/nisaba/tokenizer/Decoding" "next" "I").before a0 Z = true := hw _ (List.mem_of_getElem? (i := 14) rfl)
theorem w15 {Z : State} {a0 : Array Value} (hw : HW Z a0) : (Jvm.Cond.arrayClass Jvm.ClassFile.FieldType.char).before a0 Z = true := hw _ (List.mem_of_getElem? (i := 15) rfl)
theorem w16 {Z : State} {a0 : Array Value} (hw : HW Z a0) : (Jvm.Cond.fieldLink "com/example/nisaba/nisaba/tokenizer/Decoding" (17 : Nat) "com/example/nisaba/nisaba/tokenizer/Decoding" "text" "[C").before a0 Z = true := hw _ (List.mem_of_getElem? (i := 16) rfl)
theorem w17 {Z : State} {a0 : Array Value} (hw : HW Z a0) : (Jvm.Cond.laysFinal "com/example/nisaba/nisaba/tokenizer/Decoding" "com/example/nisaba/nisaba/tokenizer/Decoding" "text" "[C").before a0 Z = true := hw _ (List.mem_of_getElem? (i := 17) rfl)
theorem w18 {Z : State} {a0 : Array Value} (hw : HW Z a0) : (Jvm.Cond.methodLink "com/example/nisaba/nisaba/tokenizer/DecodingReadPinLaw" (13 : Nat) ({ cls := "com/example/nisaba/nisaba/tokenizer/Decoding", name := "read", desc := "()I" } : Jvm.MethodName)).before a0 Z = true := hw _ (List.mem_of_getElem? (i := 18) rfl)
theorem w19 {Z : State} {a0 : Array Value} (hw : HW Z a0) : (Jvm.Cond.declares ({ cls := "com/example/nisaba/nisaba/tokenizer/Decoding", name := "read", desc := "()I" } : Jvm.MethodName)).before a0 Z = true := hw _ (List.mem_of_getElem? (i := 19) rfl)
theorem w20 {Z : State} {a0 : Array Value} (hw : HW Z a0) : (Jvm.Cond.instanceMethod ({ cls := "com/example/nisaba/nisaba/tokenizer/Decoding", name := "read", desc := "()I" } : Jvm.MethodName)).before a0 Z = true := hw _ (List.mem_of_getElem? (i := 20) rfl)
theorem w21 {Z : State} {a0 : Array Value} (hw : HW Z a0) : (Jvm.Cond.selects "com/example/nisaba/nisaba/tokenizer/Decoding" ({ cls := "com/example/nisaba/nisaba/tokenizer/Decoding", name := "read", desc := "()I" } : Jvm.MethodName) ({ cls := "com/example/nisaba/nisaba/tokenizer/Decoding", name := "read", desc := "()I" } : Jvm.MethodName)).before a0 Z = true := hw _ (List.mem_of_getElem? (i := 21) rfl)
theorem w22 {Z : State} {a0 : Array Value} (hw : HW Z a0) : (Jvm.Cond.code ({ cls := "com/example/nisaba/nisaba/tokenizer/Decoding", name := "read", desc := "()I" } : Jvm.MethodName) prog_95_method_2_code (1 : Nat) (Option.some Jvm.ClassFile.FieldType.int)).before a0 Z = true := hw _ (List.mem_of_getElem? (i := 22) rfl)
theorem w23 {Z : State} {a0 : Array Value} (hw : HW Z a0) : (Jvm.Cond.methodLink "com/example/nisaba/nisaba/tokenizer/DecodingReadPinLaw" (17 : Nat) ({ cls := "com/example/nisaba/nisaba/tokenizer/DecodingReadPinLaw", name := "expected", desc := "([BI)I" } : Jvm.MethodName)).before a0 Z = true := hw _ (List.mem_of_getElem? (i := 23) rfl)
theorem w24 {Z : State} {a0 : Array Value} (hw : HW Z a0) : (Jvm.Cond.static ({ cls := "com/example/nisaba/nisaba/tokenizer/DecodingReadPinLaw", name := "expected", desc := "([BI)I" } : Jvm.MethodName)).before a0 Z = true := hw _ (List.mem_of_getElem? (i := 24) rfl)
theorem w25 {Z : State} {a0 : Array Value} (hw : HW Z a0) : (Jvm.Cond.initialized "com/example/nisaba/nisaba/tokenizer/DecodingReadPinLaw").before a0 Z = true := hw _ (List.mem_of_getElem? (i := 25) rfl)
theorem w26 {Z : State} {a0 : Array Value} (hw : HW Z a0) : (Jvm.Cond.code ({ cls := "com/example/nisaba/nisaba/tokenizer/DecodingReadPinLaw", name := "expected", desc := "([BI)I" } : Jvm.MethodName) method_3_code (3 : Nat) (Option.some Jvm.ClassFile.FieldType.int)).before a0 Z = true := hw _ (List.mem_of_getElem? (i := 26) rfl)
theorem d1_0 : decode prog_95_method_1_code 0 = .ok (.aload_n 0, 1) := by decide +kernel
theorem d1_1 : decode prog_95_method_1_code 1 = .ok (.invokespecial 1, 3) := by decide +kernel
theorem d1_4 : decode prog_95_method_1_code 4 = .ok (.aload_n 0, 1) := by decide +kernel
theorem d1_5 : decode prog_95_method_1_code 5 = .ok (.aload_n 1, 1) := by decide +kernel
theorem d1_6 : decode prog_95_method_1_code 6 = .ok (.putfield 7, 3) := by decide +kernel
theorem d1_9 : decode prog_95_method_1_code 9 = .ok (.aload_n 0, 1) := by decide +kernel
theorem d1_10 : decode prog_95_method_1_code 10 = .ok (.iload_n 2, 1) := by decide +kernel
theorem d1_11 : decode prog_95_method_1_code 11 = .ok (.putfield 13, 3) := by decide +kernel
theorem d1_14 : decode prog_95_method_1_code 14 = .ok (.aload_n 0, 1) := by decide +kernel
theorem d1_15 : decode prog_95_method_1_code 15 = .ok (.aload_n 1, 1) := by decide +kernel
theorem d1_16 : decode prog_95_method_1_code 16 = .ok (.arraylength, 1) := by decide +kernel
theorem d1_17 : decode prog_95_method_1_code 17 = .ok (.iload_n 2, 1) := by decide +kernel
theorem d1_18 : decode prog_95_method_1_code 18 = .ok (.isub, 1) := by decide +kernel
theorem d1_19 : decode prog_95_method_1_code 19 = .ok (.newarray .char, 2) := by decide +kernel
theorem d1_21 : decode prog_95_method_1_code 21 = .ok (.putfield 17, 3) := by decide +kernel
theorem d1_24 : decode prog_95_method_1_code 24 = .ok (.return_, 1) := by decide +kernel
theorem d3_0 : decode prog_95_method_2_code 0 = .ok (.aload_n 0, 1) := by decide +kernel
theorem d3_1 : decode prog_95_method_2_code 1 = .ok (.getfield 13, 3) := by decide +kernel
theorem d3_4 : decode prog_95_method_2_code 4 = .ok (.aload_n 0, 1) := by decide +kernel
theorem d3_5 : decode prog_95_method_2_code 5 = .ok (.getfield 7, 3) := by decide +kernel
theorem d3_8 : decode prog_95_method_2_code 8 = .ok (.arraylength, 1) := by decide +kernel
theorem d3_9 : decode prog_95_method_2_code 9 = .ok (.if_icmp .ge 26, 3) := by decide +kernel
theorem d3_12 : decode prog_95_method_2_code 12 = .ok (.aload_n 0, 1) := by decide +kernel
theorem d3_13 : decode prog_95_method_2_code 13 = .ok (.getfield 7, 3) := by decide +kernel
theorem d3_16 : decode prog_95_method_2_code 16 = .ok (.aload_n 0, 1) := by decide +kernel
theorem d3_17 : decode prog_95_method_2_code 17 = .ok (.dup, 1) := by decide +kernel
theorem d3_18 : decode prog_95_method_2_code 18 = .ok (.getfield 13, 3) := by decide +kernel
theorem d3_21 : decode prog_95_method_2_code 21 = .ok (.dup_x1, 1) := by decide +kernel
theorem d3_22 : decode prog_95_method_2_code 22 = .ok (.iconst 1, 1) := by decide +kernel
theorem d3_23 : decode prog_95_method_2_code 23 = .ok (.iadd, 1) := by decide +kernel
theorem d3_24 : decode prog_95_method_2_code 24 = .ok (.putfield 13, 3) := by decide +kernel
theorem d3_27 : decode prog_95_method_2_code 27 = .ok (.baload, 1) := by decide +kernel
theorem d3_28 : decode prog_95_method_2_code 28 = .ok (.sipush 255, 3) := by decide +kernel
theorem d3_31 : decode prog_95_method_2_code 31 = .ok (.iand, 1) := by decide +kernel
theorem d3_32 : decode prog_95_method_2_code 32 = .ok (.goto 4, 3) := by decide +kernel
theorem d3_35 : decode prog_95_method_2_code 35 = .ok (.iconst (-1), 1) := by decide +kernel
theorem d3_36 : decode prog_95_method_2_code 36 = .ok (.ireturn, 1) := by decide +kernel
theorem d4_0 : decode method_3_code 0 = .ok (.iload_n 1, 1) := by decide +kernel
theorem d4_1 : decode method_3_code 1 = .ok (.aload_n 0, 1) := by decide +kernel
theorem d4_2 : decode method_3_code 2 = .ok (.arraylength, 1) := by decide +kernel
theorem d4_3 : decode method_3_code 3 = .ok (.if_icmp .lt 5, 3) := by decide +kernel
theorem d4_6 : decode method_3_code 6 = .ok (.iconst (-1), 1) := by decide +kernel
theorem d4_7 : decode method_3_code 7 = .ok (.ireturn, 1) := by decide +kernel
theorem d4_8 : decode method_3_code 8 = .ok (.aload_n 0, 1) := by decide +kernel
theorem d4_9 : decode method_3_code 9 = .ok (.iload_n 1, 1) := by decide +kernel
theorem d4_10 : decode method_3_code 10 = .ok (.baload, 1) := by decide +kernel
theorem d4_11 : decode method_3_code 11 = .ok (.istore_n 2, 1) := by decide +kernel
theorem d4_12 : decode method_3_code 12 = .ok (.iload_n 2, 1) := by decide +kernel
theorem d4_13 : decode method_3_code 13 = .ok (.ifCond .ge 9, 3) := by decide +kernel
theorem d4_16 : decode method_3_code 16 = .ok (.iload_n 2, 1) := by decide +kernel
theorem d4_17 : decode method_3_code 17 = .ok (.sipush 256, 3) := by decide +kernel
theorem d4_20 : decode method_3_code 20 = .ok (.iadd, 1) := by decide +kernel
theorem d4_21 : decode method_3_code 21 = .ok (.ireturn, 1) := by decide +kernel
theorem d4_22 : decode method_3_code 22 = .ok (.iload_n 2, 1) := by decide +kernel
theorem d4_23 : decode method_3_code 23 = .ok (.ireturn, 1) := by decide +kernel
theorem pd_0 : parseMethodDescriptor "([BI)V" = some ⟨[(.array .byte), .int], none⟩ := by decide +kernel
theorem pd_1 : parseMethodDescriptor "()I" = some ⟨[], some .int⟩ := by decide +kernel
theorem pd_2 : parseMethodDescriptor "([BI)I" = some ⟨[(.array .byte), .int], some .int⟩ := by decide +kernel
theorem pn_0 : plainName "com/example/nisaba/nisaba/tokenizer/Decoding" = true := by first | (simp [plainName, overriddenIn]; done) | decide +kernel
theorem pn_1 : plainName "com/example/nisaba/nisaba/tokenizer/DecodingReadPinLaw" = true := by first | (simp [plainName, overriddenIn]; done) | decide +kernel
def ks_0 : List (String × String × String × FieldType) := [("com/example/nisaba/nisaba/tokenizer/Decoding", "input", "[B", (.array .byte)), ("com/example/nisaba/nisaba/tokenizer/Decoding", "next", "I", .int), ("com/example/nisaba/nisaba/tokenizer/Decoding", "text", "[C", (.array .char))]
theorem lays_ks_0 {Z : State} {a0 : Array Value} (hw : HW Z a0) : Lays Z a0 "com/example/nisaba/nisaba/tokenizer/Decoding" ks_0 := by
  refine ⟨fun kk hk => ?_, by decide⟩
  simp only [ks_0, List.mem_cons, List.not_mem_nil, or_false] at hk
  rcases hk with rfl | rfl | rfl
  · exact ⟨Or.inr (w12 hw), by decide⟩
  · exact ⟨Or.inl (w14 hw), by decide⟩
  · exact ⟨Or.inr (w17 hw), by decide⟩
theorem own_inc {z : Int32} {i : Nat} (h : z.toInt = (i : Int)) (hi : i < 100) : (z + (1 : Int32)).toInt = ((i + 1 : Nat) : Int) := by
  have e := c_iadd z 1
  have r := rng32 (z + (1 : Int32))
  have z1 : (1 : Int32).toInt = 1 := rfl
  omega
theorem own_lt {z : Int32} {i nn : Nat} (h : z.toInt = (i : Int)) (hn : nn < 100) : z < nn.toInt32 ↔ i < nn := by
  have e : nn.toInt32.toInt = nn := len_toInt (by omega)
  rw [Int32.lt_iff_toInt_lt]; omega
theorem own_sub {z : Int32} {i nn : Nat} (h : z.toInt = (i : Int)) (hi : i ≤ nn) (hn : nn ≤ 4) : (nn.toInt32 - z).toInt = ((nn - i : Nat) : Int) := by
  have e : nn.toInt32.toInt = nn := len_toInt (by omega)
  have e2 := c_isub nn.toInt32 z
  have r := rng32 (nn.toInt32 - z)
  omega
theorem own_add {z : Int32} {i k : Nat} {y : Int32} (h : z.toInt = (i : Int)) (hy : y.toInt = (k : Int)) (hi : i < 100) (hk : k < 100) : (z + y).toInt = ((i + k : Nat) : Int) := by
  have e := c_iadd z y
  have r := rng32 (z + y)
  omega
def stp (nn i : Nat) : Nat := if i < nn then i + 1 else i
def Rd (f : Nat → Int32) (nn i : Nat) : Int32 := if i < nn then (f i &&& (255 : Int32)) else (-1 : Int32)
def Ex (f : Nat → Int32) (nn j : Nat) : Int32 := if j < nn then (if f j < 0 then f j + (256 : Int32) else f j) else (-1 : Int32)
def Bt (x : Int32) : Prop := -128 ≤ x.toInt ∧ x.toInt < 128
theorem upd_rng {f : Nat → Int32} {i : Nat} {v : Int32} (hf : ∀ j, Bt (f j)) (hv : Bt v) : ∀ j, Bt (upd f i v j) := fun j => by
  unfold upd; split
  · exact hv
  · exact hf j
theorem bt0 : ∀ j : Nat, Bt ((fun _ => (0 : Int32)) j) := fun _ => (by decide : (-128 : Int) ≤ (0 : Int32).toInt ∧ (0 : Int32).toInt < 128)
theorem bt8 (x : Int32) : Bt x.toInt8.toInt32 := (c_i2b x).2
theorem own_re {f : Nat → Int32} {nn j : Nat} (hf : ∀ j, Bt (f j)) : Rd f nn (min j nn) = Ex f nn j := by
  unfold Rd Ex
  by_cases h : j < nn
  · rw [Nat.min_eq_left (by omega), if_pos h, if_pos h]
    have b := hf j
    unfold Bt at b
    have m := c_mask (f j) 255 8 (by decide) (by decide)
    have e := c_iadd (f j) 256
    have r := rng32 (f j + (256 : Int32))
    have z0 : (0 : Int32).toInt = 0 := rfl
    have z256 : (256 : Int32).toInt = 256 := rfl
    refine Int32.toInt_inj.mp ?_
    by_cases q : f j < 0
    · rw [if_pos q]; rw [Int32.lt_iff_toInt_lt] at q; omega
    · rw [if_neg q]; rw [Int32.lt_iff_toInt_lt] at q; omega
  · rw [if_neg h, if_neg (by omega)]
theorem ef_rm1 (m : MethodId) (r0 : Addr) (r1 : Addr) (x2 : Int32) : entryFrame m #[.ref r0, .ref r1, .int x2] 3 = mkF m 0 #[.val (.ref r0), .val (.ref r1), .val (.int x2)] [] := by first | (simp [entryFrame, mkF, argsToLocals, Value.category]; done) | rfl
set_option maxRecDepth 65536 in
set_option maxHeartbeats 40000000 in
theorem rm1 (l : Launch) (Z : State) (a0 : Array Value) (hw : HW Z a0) (r0 : Addr) (r1 : Addr) (x2 : Int32) (L : List (Addr × (Cell → Prop))) (q nn i : Nat) (f : Nat → Int32) (h : Heap) (n0 : Nat) (O : Own n0 h ((r0, ObjC Z "com/example/nisaba/nisaba/tokenizer/Decoding" ks_0 [.null, .int (0 : Int32), .null]) :: L)) (hq : L[q]? = some (r1, ArrC Z .byte nn f)) (hi : x2.toInt = (i : Int)) (hin : i ≤ nn) (hnn : nn ≤ 4) :
    Meth l Z (⟨"com/example/nisaba/nisaba/tokenizer/Decoding", "<init>", "([BI)V"⟩ : MethodName) prog_95_method_1_code 3 none [] ({ frames := 1, cells := 1, slots := 4, locals := 13 } : Room) #[.ref r0, .ref r1, .int x2] h n0 (fun v h' => v = none ∧ ∃ b : Addr, Own n0 h' ((r0, ObjC Z "com/example/nisaba/nisaba/tokenizer/Decoding" ks_0 [.ref r1, .int x2, .ref b]) :: L)) := by
  refine Meth.of (plainFor_of_name pn_0) (fun m => ef_rm1 m r0 r1 x2) O ?_
  intro p e m below meth c M FE C J
  change Cx Z "com/example/nisaba/nisaba/tokenizer/Decoding" "<init>" prog_95_method_1_code 3 none p m meth c M at C
  clear O
  refine Wk.aloadN (pc' := 1) C d1_0 rfl rfl rfl ?_
  refine Wk.objInit (pc' := 4) (W0 := 0) C (w8 hw) (w9 hw) (w10 hw) d1_1 rfl (by decide) rfl (by decide) rfl ?_
  refine Wk.aloadN (pc' := 5) C d1_4 rfl rfl rfl ?_
  refine Wk.aloadN (pc' := 6) C d1_5 rfl rfl rfl ?_
  refine Wk.putfield (pc' := 9) (host := "") (q := 0) (i := 0) C (Or.inl (w11 hw)) (lays_ks_0 hw) (Or.inr ⟨(w12 hw), rfl, rfl⟩) (w3 hw) d1_6 rfl rfl (Nat.le_of_ble_eq_true rfl) rfl rfl rfl ?_
  change Wk p l e _ m _ below meth c _ _ n0 ((r0, ObjC Z "com/example/nisaba/nisaba/tokenizer/Decoding" ks_0 [.ref r1, .int (0 : Int32), .null]) :: L) 0 0 9 #[.val (.ref r0), .val (.ref r1), .val (.int x2)] []
  refine Wk.aloadN (pc' := 10) C d1_9 rfl rfl rfl ?_
  refine Wk.iloadN (pc' := 11) C d1_10 rfl rfl ?_
  refine Wk.putfield (pc' := 14) (host := "") (q := 0) (i := 1) C (Or.inl (w13 hw)) (lays_ks_0 hw) (Or.inl (w14 hw)) (w3 hw) d1_11 rfl rfl (Nat.le_of_ble_eq_true rfl) rfl rfl rfl ?_
  change Wk p l e _ m _ below meth c _ _ n0 ((r0, ObjC Z "com/example/nisaba/nisaba/tokenizer/Decoding" ks_0 [.ref r1, .int x2, .null]) :: L) 0 0 14 #[.val (.ref r0), .val (.ref r1), .val (.int x2)] []
  refine Wk.aloadN (pc' := 15) C d1_14 rfl rfl rfl ?_
  refine Wk.aloadN (pc' := 16) C d1_15 rfl rfl rfl ?_
  refine Wk.arraylength (pc' := 17) (q := (q + 1)) (z := nn.toInt32) C d1_16 hq (fun _ A => ⟨A.1, A.2.2.1⟩) rfl rfl ?_
  refine Wk.iloadN (pc' := 18) C d1_17 rfl rfl ?_
  refine Wk.isub (pc' := 19) C d1_18 rfl ?_
  refine Wk.newarray (pc' := 21) (aty := .char) (nn := (nn - i)) (cap := 4) (d := 0) C (w15 hw) d1_19 rfl rfl (own_sub hi hin hnn) (by omega) (by decide) (by decide) (by decide) rfl ?_
  intro a1
  change Wk p l e _ m _ below meth c _ _ n0 ((a1, ArrC Z .char ((nn - i)) (fun _ => 0)) :: (r0, ObjC Z "com/example/nisaba/nisaba/tokenizer/Decoding" ks_0 [.ref r1, .int x2, .null]) :: L) 1 4 21 #[.val (.ref r0), .val (.ref r1), .val (.int x2)] [.ref a1, .ref r0]
  refine Wk.putfield (pc' := 24) (host := "") (q := 1) (i := 2) C (Or.inl (w16 hw)) (lays_ks_0 hw) (Or.inr ⟨(w17 hw), rfl, rfl⟩) (w3 hw) d1_21 rfl rfl (Nat.le_of_ble_eq_true rfl) rfl rfl rfl ?_
  change Wk p l e _ m _ below meth c _ _ n0 ((a1, ArrC Z .char ((nn - i)) (fun _ => 0)) :: (r0, ObjC Z "com/example/nisaba/nisaba/tokenizer/Decoding" ks_0 [.ref r1, .int x2, .ref a1]) :: L) 1 4 24 #[.val (.ref r0), .val (.ref r1), .val (.int x2)] []
  exact Wk.retV C J d1_24 (by decide) (by decide) (fun h O => ⟨rfl, _, O.tail⟩)
theorem ef_rm3 (m : MethodId) (r0 : Addr) : entryFrame m #[.ref r0] 1 = mkF m 0 #[.val (.ref r0)] [] := by first | (simp [entryFrame, mkF, argsToLocals, Value.category]; done) | rfl
set_option maxRecDepth 65536 in
set_option maxHeartbeats 40000000 in
theorem rm3 (l : Launch) (Z : State) (a0 : Array Value) (hw : HW Z a0) (r0 : Addr) (L : List (Addr × (Cell → Prop))) (q nn g : Nat) (f : Nat → Int32) (ra rt : Addr) (nx : Int32) (h : Heap) (n0 : Nat) (O : Own n0 h ((r0, ObjC Z "com/example/nisaba/nisaba/tokenizer/Decoding" ks_0 [.ref ra, .int nx, .ref rt]) :: L)) (hq : L[q]? = some (ra, ArrC Z .byte nn f)) (hi : nx.toInt = (g : Int)) (hin : g ≤ nn) (hnn : nn ≤ 4) :
    Meth l Z (⟨"com/example/nisaba/nisaba/tokenizer/Decoding", "read", "()I"⟩ : MethodName) prog_95_method_2_code 1 (some .int) [] ({ frames := 0, cells := 0, slots := 0, locals := 0 } : Room) #[.ref r0] h n0 (fun v h' => ∃ nx' : Int32, nx'.toInt = (stp nn g : Int) ∧ v = some (.int (Rd f nn g)) ∧ Own n0 h' ((r0, ObjC Z "com/example/nisaba/nisaba/tokenizer/Decoding" ks_0 [.ref ra, .int nx', .ref rt]) :: L)) := by
  refine Meth.of (plainFor_of_name pn_0) (fun m => ef_rm3 m r0) O ?_
  intro p e m below meth c M FE C J
  change Cx Z "com/example/nisaba/nisaba/tokenizer/Decoding" "read" prog_95_method_2_code 1 (some .int) p m meth c M at C
  clear O
  refine Wk.aloadN (pc' := 1) C d3_0 rfl rfl rfl ?_
  refine Wk.getfield (pc' := 4) (host := "") (q := 0) (i := 1) C (Or.inl (w13 hw)) d3_1 rfl rfl rfl rfl ?_
  refine Wk.aloadN (pc' := 5) C d3_4 rfl rfl rfl ?_
  refine Wk.getfield (pc' := 8) (host := "") (q := 0) (i := 0) C (Or.inl (w11 hw)) d3_5 rfl rfl rfl rfl ?_
  refine Wk.arraylength (pc' := 9) (q := (q + 1)) (z := nn.toInt32) C d3_8 hq (fun _ A => ⟨A.1, A.2.2.1⟩) rfl rfl ?_
  refine Wk.icmp_ge (pcT := 35) (pcF := 12) C d3_9 (by decide) (by decide) rfl (fun c2 => ?_) (fun c2 => ?_)
  · skip
    have hge := mt (own_lt hi (by omega : nn < 100)).mpr c2
    refine Wk.iconst (z := (-1 : Int32)) (pc' := 36) C d3_35 rfl rfl ?_
    exact Wk.retI C J d3_36 (by decide) (by decide) (fun h O => ⟨_, by rw [stp, if_neg hge]; exact hi, by rw [Rd, if_neg hge], O⟩)
  · skip
    have hlt := (own_lt hi (by omega)).mp c2
    refine Wk.aloadN (pc' := 13) C d3_12 rfl rfl rfl ?_
    refine Wk.getfield (pc' := 16) (host := "") (q := 0) (i := 0) C (Or.inl (w11 hw)) d3_13 rfl rfl rfl rfl ?_
    refine Wk.aloadN (pc' := 17) C d3_16 rfl rfl rfl ?_
    refine Wk.dup (pc' := 18) C d3_17 rfl rfl ?_
    refine Wk.getfield (pc' := 21) (host := "") (q := 0) (i := 1) C (Or.inl (w13 hw)) d3_18 rfl rfl rfl rfl ?_
    refine Wk.dupX1 (pc' := 22) C d3_21 rfl rfl rfl ?_
    refine Wk.iconst (z := (1 : Int32)) (pc' := 23) C d3_22 rfl rfl ?_
    refine Wk.iadd (pc' := 24) C d3_23 rfl ?_
    refine Wk.putfield (pc' := 27) (host := "") (q := 0) (i := 1) C (Or.inl (w13 hw)) (lays_ks_0 hw) (Or.inl (w14 hw)) (w3 hw) d3_24 rfl rfl (Nat.le_of_ble_eq_true rfl) rfl rfl rfl ?_
    change Wk p l e _ m _ below meth c _ _ n0 ((r0, ObjC Z "com/example/nisaba/nisaba/tokenizer/Decoding" ks_0 [.ref ra, .int (nx + (1 : Int32)), .ref rt]) :: L) 0 0 27 #[.val (.ref r0)] [.int nx, .ref ra]
    refine Wk.baload (pc' := 28) (q := (q + 1)) (i := g) C d3_27 hq hi hlt rfl ?_
    refine Wk.sipush (z := (255 : Int32)) (pc' := 31) C d3_28 rfl rfl ?_
    refine Wk.iand (pc' := 32) C d3_31 rfl ?_
    refine Wk.goto (pc' := 36) C d3_32 (by decide) (by decide) ?_
    exact Wk.retI C J d3_36 (by decide) (by decide) (fun h O => ⟨_, by rw [stp, if_pos hlt]; exact own_inc hi (by omega), by rw [Rd, if_pos hlt], O⟩)
theorem ef_rm4 (m : MethodId) (r0 : Addr) (x1 : Int32) : entryFrame m #[.ref r0, .int x1] 3 = mkF m 0 #[.val (.ref r0), .val (.int x1), .unset] [] := by first | (simp [entryFrame, mkF, argsToLocals, Value.category]; done) | rfl
set_option maxRecDepth 65536 in
set_option maxHeartbeats 40000000 in
theorem rm4 (l : Launch) (Z : State) (a0 : Array Value) (hw : HW Z a0) (r0 : Addr) (x1 : Int32) (L : List (Addr × (Cell → Prop))) (q nn j : Nat) (f : Nat → Int32) (h : Heap) (n0 : Nat) (O : Own n0 h L) (hq : L[q]? = some (r0, ArrC Z .byte nn f)) (hj : x1.toInt = (j : Int)) (hnn : nn ≤ 4) :
    Meth l Z (⟨"com/example/nisaba/nisaba/tokenizer/DecodingReadPinLaw", "expected", "([BI)I"⟩ : MethodName) method_3_code 3 (some .int) [] ({ frames := 0, cells := 0, slots := 0, locals := 0 } : Room) #[.ref r0, .int x1] h n0 (fun v h' => v = some (.int (Ex f nn j)) ∧ Own n0 h' L) := by
  refine Meth.of (plainFor_of_name pn_1) (fun m => ef_rm4 m r0 x1) O ?_
  intro p e m below meth c M FE C J
  change Cx Z "com/example/nisaba/nisaba/tokenizer/DecodingReadPinLaw" "expected" method_3_code 3 (some .int) p m meth c M at C
  clear O
  refine Wk.iloadN (pc' := 1) C d4_0 rfl rfl ?_
  refine Wk.aloadN (pc' := 2) C d4_1 rfl rfl rfl ?_
  refine Wk.arraylength (pc' := 3) (q := q) (z := nn.toInt32) C d4_2 hq (fun _ A => ⟨A.1, A.2.2.1⟩) rfl rfl ?_
  refine Wk.icmp_lt (pcT := 8) (pcF := 6) C d4_3 (by decide) (by decide) rfl (fun c3 => ?_) (fun c3 => ?_)
  · skip
    have hlt := (own_lt hj (by omega)).mp c3
    refine Wk.aloadN (pc' := 9) C d4_8 rfl rfl rfl ?_
    refine Wk.iloadN (pc' := 10) C d4_9 rfl rfl ?_
    refine Wk.baload (pc' := 11) (q := q) (i := j) C d4_10 hq hj hlt rfl ?_
    refine Wk.istoreN (Ls' := #[.val (.ref r0), .val (.int x1), .val (.int (f j))]) (pc' := 12) C d4_11 rfl rfl ?_
    refine Wk.iloadN (pc' := 13) C d4_12 rfl rfl ?_
    refine Wk.if_ge (pcT := 22) (pcF := 16) C d4_13 (by decide) (by decide) rfl (fun c4 => ?_) (fun c4 => ?_)
    · skip
      refine Wk.iloadN (pc' := 23) C d4_22 rfl rfl ?_
      exact Wk.retI C J d4_23 (by decide) (by decide) (fun h O => ⟨by rw [Ex, if_pos hlt, if_neg c4], O⟩)
    · skip
      refine Wk.iloadN (pc' := 17) C d4_16 rfl rfl ?_
      refine Wk.sipush (z := (256 : Int32)) (pc' := 20) C d4_17 rfl rfl ?_
      refine Wk.iadd (pc' := 21) C d4_20 rfl ?_
      exact Wk.retI C J d4_21 (by decide) (by decide) (fun h O => ⟨by rw [Ex, if_pos hlt, if_pos c4], O⟩)
  · skip
    have hge := mt (own_lt hj (by omega : nn < 100)).mpr c3
    refine Wk.iconst (z := (-1 : Int32)) (pc' := 7) C d4_6 rfl rfl ?_
    exact Wk.retI C J d4_7 (by decide) (by decide) (fun h O => ⟨by rw [Ex, if_neg hge], O⟩)
theorem own_five (s v : Int32) (h : v = (s &&& (2147483647 : Int32)) % (5 : Int32)) : v = (0 : Int32) ∨ v = (1 : Int32) ∨ v = (2 : Int32) ∨ v = (3 : Int32) ∨ v = (4 : Int32) := by
  have m := c_mask s 2147483647 31 (by decide) (by decide)
  have e := (c_irem (s &&& (2147483647 : Int32)) 5 5 rfl).1 (by omega)
  rw [← h] at e
  rcases (by omega : v.toInt = 0 ∨ v.toInt = 1 ∨ v.toInt = 2 ∨ v.toInt = 3 ∨ v.toInt = 4) with q | q | q | q | q
  · exact Or.inl (Int32.toInt_inj.mp q)
  · exact Or.inr (Or.inl (Int32.toInt_inj.mp q))
  · exact Or.inr (Or.inr (Or.inl (Int32.toInt_inj.mp q)))
  · exact Or.inr (Or.inr (Or.inr (Or.inl (Int32.toInt_inj.mp q))))
  · exact Or.inr (Or.inr (Or.inr (Or.inr (Int32.toInt_inj.mp q))))
theorem own_start (t v y : Int32) (k : Int) (hy : y.toInt = k) (hk : 0 < k) (h : v = (t &&& (2147483647 : Int32)) % y) : 0 ≤ v.toInt ∧ v.toInt < k := by
  have m := c_mask t 2147483647 31 (by decide) (by decide)
  have e := (c_irem (t &&& (2147483647 : Int32)) y k hy).1 (by omega)
  rw [← h] at e
  rw [e]
  exact ⟨Int.emod_nonneg _ (by omega), Int.emod_lt_of_pos _ hk⟩
theorem ef_rmLaw (m : MethodId) (x0 : Int32) (x1 : Int32) (x2 : Int32) : entryFrame m #[.int x0, .int x1, .int x2] 17 = mkF m 0 #[.val (.int x0), .val (.int x1), .val (.int x2), .unset, .unset, .unset, .unset, .unset, .unset, .unset, .unset, .unset, .unset, .unset, .unset, .unset, .unset] [] := by first | (simp [entryFrame, mkF, argsToLocals, Value.category]; done) | rfl
set_option maxRecDepth 65536 in
set_option maxHeartbeats 40000000 in
theorem rmLaw (l : Launch) (Z : State) (a0 : Array Value) (hw : HW Z a0) (x0 : Int32) (x1 : Int32) (x2 : Int32) (h : Heap) (n0 : Nat) (O : Own n0 h []) :
    Meth l Z x code maxLocals ret tables_1 room_1 #[.int x0, .int x1, .int x2] h n0 (fun v h' => v = some (.int 1)) := by
  refine Meth.of (plainFor_of_name pn_1) (fun m => ef_rmLaw m x0 x1 x2) O ?_
  intro p e m below meth c M FE C J
  change Cx Z "com/example/nisaba/nisaba/tokenizer/DecodingReadPinLaw" "law" code 17 (some .boolean) p m meth c M at C
  clear O
  refine Wk.iloadN (pc' := 1) C at_0 rfl rfl ?_
  refine Wk.ldcInt (z := (2147483647 : Int32)) (pc' := 3) C (w0 hw) at_1 rfl ?_
  refine Wk.iand (pc' := 4) C at_3 rfl ?_
  refine Wk.iconst (z := (5 : Int32)) (pc' := 5) C at_4 rfl rfl ?_
  refine Wk.irem (pc' := 6) C at_5 (by decide) rfl ?_
  refine Wk.istoreNV (fun v5 => #[.val (.int x0), .val (.int x1), .val (.int x2), .val (.int v5), .unset, .unset, .unset, .unset, .unset, .unset, .unset, .unset, .unset, .unset, .unset, .unset, .unset]) (pc' := 7) C at_6 rfl rfl ?_
  intro v5 hv5
  rcases own_five x1 v5 hv5 with hn | hn | hn | hn | hn
  · skip
    subst hn
    refine Wk.iloadN (pc' := 8) C at_7 rfl rfl ?_
    refine Wk.i2b (pc' := 9) C at_8 rfl ?_
    refine Wk.istoreV (fun v6 => #[.val (.int x0), .val (.int x1), .val (.int x2), .val (.int (0 : Int32)), .val (.int v6), .unset, .unset, .unset, .unset, .unset, .unset, .unset, .unset, .unset, .unset, .unset, .unset]) (pc' := 11) C at_9 rfl rfl ?_
    intro v6 hv6
    refine Wk.iloadN (pc' := 12) C at_11 rfl rfl ?_
    refine Wk.bipush (z := (8 : Int32)) (pc' := 14) C at_12 rfl rfl ?_
    refine Wk.iushr (pc' := 15) C at_14 rfl ?_
    refine Wk.i2b (pc' := 16) C at_15 rfl ?_
    refine Wk.istoreV (fun v7 => #[.val (.int x0), .val (.int x1), .val (.int x2), .val (.int (0 : Int32)), .val (.int v6), .val (.int v7), .unset, .unset, .unset, .unset, .unset, .unset, .unset, .unset, .unset, .unset, .unset]) (pc' := 18) C at_16 rfl rfl ?_
    intro v7 hv7
    refine Wk.iloadN (pc' := 19) C at_18 rfl rfl ?_
    refine Wk.bipush (z := (16 : Int32)) (pc' := 21) C at_19 rfl rfl ?_
    refine Wk.iushr (pc' := 22) C at_21 rfl ?_
    refine Wk.i2b (pc' := 23) C at_22 rfl ?_
    refine Wk.istoreV (fun v8 => #[.val (.int x0), .val (.int x1), .val (.int x2), .val (.int (0 : Int32)), .val (.int v6), .val (.int v7), .val (.int v8), .unset, .unset, .unset, .unset, .unset, .unset, .unset, .unset, .unset, .unset]) (pc' := 25) C at_23 rfl rfl ?_
    intro v8 hv8
    refine Wk.iloadN (pc' := 26) C at_25 rfl rfl ?_
    refine Wk.bipush (z := (24 : Int32)) (pc' := 28) C at_26 rfl rfl ?_
    refine Wk.iushr (pc' := 29) C at_28 rfl ?_
    refine Wk.i2b (pc' := 30) C at_29 rfl ?_
    refine Wk.istoreV (fun v9 => #[.val (.int x0), .val (.int x1), .val (.int x2), .val (.int (0 : Int32)), .val (.int v6), .val (.int v7), .val (.int v8), .val (.int v9), .unset, .unset, .unset, .unset, .unset, .unset, .unset, .unset, .unset]) (pc' := 32) C at_30 rfl rfl ?_
    intro v9 hv9
    refine Wk.iloadN (pc' := 33) C at_32 rfl rfl ?_
    refine Wk.if_ne (pcT := 44) (pcF := 36) C at_33 (by decide) (by decide) rfl (fun q => absurd q (by decide)) (fun _ => ?_)
    refine Wk.iconst (z := (0 : Int32)) (pc' := 37) C at_36 rfl rfl ?_
    refine Wk.newarray (pc' := 39) (aty := .byte) (nn := 0) (cap := 0) (d := 0) C (w1 hw) at_37 rfl rfl (by decide) (by decide) (by decide) (by decide) (by decide) rfl ?_
    intro a10
    change Wk p l e _ m _ below meth c _ _ n0 ((a10, ArrC Z .byte 0 (fun _ => 0)) :: []) 1 0 39 #[.val (.int x0), .val (.int x1), .val (.int x2), .val (.int (0 : Int32)), .val (.int v6), .val (.int v7), .val (.int v8), .val (.int v9), .unset, .unset, .unset, .unset, .unset, .unset, .unset, .unset, .unset] [.ref a10]
    refine Wk.astore (Ls' := #[.val (.int x0), .val (.int x1), .val (.int x2), .val (.int (0 : Int32)), .val (.int v6), .val (.int v7), .val (.int v8), .val (.int v9), .val (.ref a10), .unset, .unset, .unset, .unset, .unset, .unset, .unset, .unset]) (pc' := 41) C at_39 rfl rfl rfl ?_
    refine Wk.goto (pc' := 138) C at_41 (by decide) (by decide) ?_
    generalize hf11 : ((fun _ => 0) : Nat → Int32) = f11
    have hb : ∀ j, Bt (f11 j) := by rw [← hf11]; exact bt0
    refine Wk.iloadN (pc' := 139) C at_138 rfl rfl ?_
    refine Wk.ldcInt (z := (2147483647 : Int32)) (pc' := 141) C (w0 hw) at_139 rfl ?_
    refine Wk.iand (pc' := 142) C at_141 rfl ?_
    refine Wk.iloadN (pc' := 143) C at_142 rfl rfl ?_
    refine Wk.iconst (z := (1 : Int32)) (pc' := 144) C at_143 rfl rfl ?_
    refine Wk.iadd (pc' := 145) C at_144 rfl ?_
    refine Wk.irem (pc' := 146) C at_145 (by decide) rfl ?_
    refine Wk.istoreV (fun v12 => #[.val (.int x0), .val (.int x1), .val (.int x2), .val (.int (0 : Int32)), .val (.int v6), .val (.int v7), .val (.int v8), .val (.int v9), .val (.ref a10), .val (.int v12), .unset, .unset, .unset, .unset, .unset, .unset, .unset]) (pc' := 148) C at_146 rfl rfl ?_
    intro v12 hv12
    have hst := own_start x2 v12 _ 1 rfl (by decide) hv12
    obtain ⟨i, hi⟩ : ∃ i : Nat, v12.toInt = (i : Int) := ⟨v12.toInt.toNat, by omega⟩
    have hin : i ≤ 0 := by omega
    have hg0 : v12.toInt = ((min (i + 0) 0 : Nat) : Int) := by rw [hi]; omega
    refine Wk.new (pc' := 151) (ks := ks_0) (vs := [.null, .int (0 : Int32), .null]) C (w2 hw) (w3 hw) (w4 hw) (lays_ks_0 hw) at_148 rfl (by decide) (by decide) rfl ?_
    intro a13
    change Wk p l e _ m _ below meth c _ _ n0 ((a13, ObjC Z "com/example/nisaba/nisaba/tokenizer/Decoding" ks_0 [.null, .int (0 : Int32), .null]) :: (a10, ArrC Z .byte 0 f11) :: []) 2 4 151 #[.val (.int x0), .val (.int x1), .val (.int x2), .val (.int (0 : Int32)), .val (.int v6), .val (.int v7), .val (.int v8), .val (.int v9), .val (.ref a10), .val (.int v12), .unset, .unset, .unset, .unset, .unset, .unset, .unset] [.ref a13]
    refine Wk.dup (pc' := 152) C at_151 rfl rfl ?_
    refine Wk.aload (pc' := 154) C at_152 rfl rfl rfl ?_
    refine Wk.iload (pc' := 156) C at_154 rfl rfl ?_
    refine Wk.callI (pc' := 159) (rm := { frames := 1, cells := 1, slots := 4, locals := 13 }) (W0 := 1) (a := a13) (argsL := [.ref a10, .int v12]) (st := [.ref a13]) C rfl rfl (w5 hw) (w6 hw) (w4 hw) (w7 hw) (by decide) (fun h O => rm1 l Z a0 hw a13 a10 v12 ((a10, ArrC Z .byte 0 f11) :: []) 0 0 i f11 h n0 O rfl hi hin (by decide)) (by decide) (by decide) (by decide) (by decide) at_156 rfl pd_0 rfl rfl rfl rfl ?_
    rintro _ h' ⟨rfl, b14, O'⟩
    refine ⟨_, O', ?_⟩
    change Wk p l e _ m _ below meth c _ _ n0 ((a13, ObjC Z "com/example/nisaba/nisaba/tokenizer/Decoding" ks_0 [.ref a10, .int v12, .ref b14]) :: (a10, ArrC Z .byte 0 f11) :: []) 3 8 159 #[.val (.int x0), .val (.int x1), .val (.int x2), .val (.int (0 : Int32)), .val (.int v6), .val (.int v7), .val (.int v8), .val (.int v9), .val (.ref a10), .val (.int v12), .unset, .unset, .unset, .unset, .unset, .unset, .unset] [.ref a13]
    refine Wk.astore (Ls' := #[.val (.int x0), .val (.int x1), .val (.int x2), .val (.int (0 : Int32)), .val (.int v6), .val (.int v7), .val (.int v8), .val (.int v9), .val (.ref a10), .val (.int v12), .val (.ref a13), .unset, .unset, .unset, .unset, .unset, .unset]) (pc' := 161) C at_159 rfl rfl rfl ?_
    refine Wk.aload (pc' := 163) C at_161 rfl rfl rfl ?_
    refine Wk.callV (pc' := 166) (rm := { frames := 0, cells := 0, slots := 0, locals := 0 }) (W0 := 0) (q := 0) (argsL := []) (st := []) C rfl (w18 hw) (w19 hw) (w21 hw) (w20 hw) (w4 hw) (w22 hw) (by decide) (fun h O => rm3 l Z a0 hw a13 ((a10, ArrC Z .byte 0 f11) :: []) 0 0 (min (i + 0) 0) f11 a10 b14 v12 h n0 O rfl hg0 (Nat.min_le_right _ _) (by decide)) (by decide) (by decide) (by decide) (by decide) at_163 rfl pd_1 rfl rfl rfl rfl ?_
    rintro _ h' ⟨nx15, hnx15, rfl, O'⟩
    refine ⟨_, O', ?_⟩
    have hg1 : nx15.toInt = ((min (i + 1) 0 : Nat) : Int) := by rw [hnx15]; unfold stp; split <;> omega
    change Wk p l e _ m _ below meth c _ _ n0 ((a13, ObjC Z "com/example/nisaba/nisaba/tokenizer/Decoding" ks_0 [.ref a10, .int nx15, .ref b14]) :: (a10, ArrC Z .byte 0 f11) :: []) 3 8 166 #[.val (.int x0), .val (.int x1), .val (.int x2), .val (.int (0 : Int32)), .val (.int v6), .val (.int v7), .val (.int v8), .val (.int v9), .val (.ref a10), .val (.int v12), .val (.ref a13), .unset, .unset, .unset, .unset, .unset, .unset] [.int (Rd f11 0 (min (i + 0) 0))]
    refine Wk.istoreV (fun v16 => #[.val (.int x0), .val (.int x1), .val (.int x2), .val (.int (0 : Int32)), .val (.int v6), .val (.int v7), .val (.int v8), .val (.int v9), .val (.ref a10), .val (.int v12), .val (.ref a13), .val (.int v16), .unset, .unset, .unset, .unset, .unset]) (pc' := 168) C at_166 rfl rfl ?_
    intro v16 hv16
    refine Wk.aload (pc' := 170) C at_168 rfl rfl rfl ?_
    refine Wk.callV (pc' := 173) (rm := { frames := 0, cells := 0, slots := 0, locals := 0 }) (W0 := 0) (q := 0) (argsL := []) (st := []) C rfl (w18 hw) (w19 hw) (w21 hw) (w20 hw) (w4 hw) (w22 hw) (by decide) (fun h O => rm3 l Z a0 hw a13 ((a10, ArrC Z .byte 0 f11) :: []) 0 0 (min (i + 1) 0) f11 a10 b14 nx15 h n0 O rfl hg1 (Nat.min_le_right _ _) (by decide)) (by decide) (by decide) (by decide) (by decide) at_170 rfl pd_1 rfl rfl rfl rfl ?_
    rintro _ h' ⟨nx17, hnx17, rfl, O'⟩
    refine ⟨_, O', ?_⟩
    have hg2 : nx17.toInt = ((min (i + 2) 0 : Nat) : Int) := by rw [hnx17]; unfold stp; split <;> omega
    change Wk p l e _ m _ below meth c _ _ n0 ((a13, ObjC Z "com/example/nisaba/nisaba/tokenizer/Decoding" ks_0 [.ref a10, .int nx17, .ref b14]) :: (a10, ArrC Z .byte 0 f11) :: []) 3 8 173 #[.val (.int x0), .val (.int x1), .val (.int x2), .val (.int (0 : Int32)), .val (.int v6), .val (.int v7), .val (.int v8), .val (.int v9), .val (.ref a10), .val (.int v12), .val (.ref a13), .val (.int v16), .unset, .unset, .unset, .unset, .unset] [.int (Rd f11 0 (min (i + 1) 0))]
    refine Wk.istoreV (fun v18 => #[.val (.int x0), .val (.int x1), .val (.int x2), .val (.int (0 : Int32)), .val (.int v6), .val (.int v7), .val (.int v8), .val (.int v9), .val (.ref a10), .val (.int v12), .val (.ref a13), .val (.int v16), .val (.int v18), .unset, .unset, .unset, .unset]) (pc' := 175) C at_173 rfl rfl ?_
    intro v18 hv18
    refine Wk.aload (pc' := 177) C at_175 rfl rfl rfl ?_
    refine Wk.callV (pc' := 180) (rm := { frames := 0, cells := 0, slots := 0, locals := 0 }) (W0 := 0) (q := 0) (argsL := []) (st := []) C rfl (w18 hw) (w19 hw) (w21 hw) (w20 hw) (w4 hw) (w22 hw) (by decide) (fun h O => rm3 l Z a0 hw a13 ((a10, ArrC Z .byte 0 f11) :: []) 0 0 (min (i + 2) 0) f11 a10 b14 nx17 h n0 O rfl hg2 (Nat.min_le_right _ _) (by decide)) (by decide) (by decide) (by decide) (by decide) at_177 rfl pd_1 rfl rfl rfl rfl ?_
    rintro _ h' ⟨nx19, hnx19, rfl, O'⟩
    refine ⟨_, O', ?_⟩
    have hg3 : nx19.toInt = ((min (i + 3) 0 : Nat) : Int) := by rw [hnx19]; unfold stp; split <;> omega
    change Wk p l e _ m _ below meth c _ _ n0 ((a13, ObjC Z "com/example/nisaba/nisaba/tokenizer/Decoding" ks_0 [.ref a10, .int nx19, .ref b14]) :: (a10, ArrC Z .byte 0 f11) :: []) 3 8 180 #[.val (.int x0), .val (.int x1), .val (.int x2), .val (.int (0 : Int32)), .val (.int v6), .val (.int v7), .val (.int v8), .val (.int v9), .val (.ref a10), .val (.int v12), .val (.ref a13), .val (.int v16), .val (.int v18), .unset, .unset, .unset, .unset] [.int (Rd f11 0 (min (i + 2) 0))]
    refine Wk.istoreV (fun v20 => #[.val (.int x0), .val (.int x1), .val (.int x2), .val (.int (0 : Int32)), .val (.int v6), .val (.int v7), .val (.int v8), .val (.int v9), .val (.ref a10), .val (.int v12), .val (.ref a13), .val (.int v16), .val (.int v18), .val (.int v20), .unset, .unset, .unset]) (pc' := 182) C at_180 rfl rfl ?_
    intro v20 hv20
    refine Wk.aload (pc' := 184) C at_182 rfl rfl rfl ?_
    refine Wk.callV (pc' := 187) (rm := { frames := 0, cells := 0, slots := 0, locals := 0 }) (W0 := 0) (q := 0) (argsL := []) (st := []) C rfl (w18 hw) (w19 hw) (w21 hw) (w20 hw) (w4 hw) (w22 hw) (by decide) (fun h O => rm3 l Z a0 hw a13 ((a10, ArrC Z .byte 0 f11) :: []) 0 0 (min (i + 3) 0) f11 a10 b14 nx19 h n0 O rfl hg3 (Nat.min_le_right _ _) (by decide)) (by decide) (by decide) (by decide) (by decide) at_184 rfl pd_1 rfl rfl rfl rfl ?_
    rintro _ h' ⟨nx21, hnx21, rfl, O'⟩
    refine ⟨_, O', ?_⟩
    have hg4 : nx21.toInt = ((min (i + 4) 0 : Nat) : Int) := by rw [hnx21]; unfold stp; split <;> omega
    change Wk p l e _ m _ below meth c _ _ n0 ((a13, ObjC Z "com/example/nisaba/nisaba/tokenizer/Decoding" ks_0 [.ref a10, .int nx21, .ref b14]) :: (a10, ArrC Z .byte 0 f11) :: []) 3 8 187 #[.val (.int x0), .val (.int x1), .val (.int x2), .val (.int (0 : Int32)), .val (.int v6), .val (.int v7), .val (.int v8), .val (.int v9), .val (.ref a10), .val (.int v12), .val (.ref a13), .val (.int v16), .val (.int v18), .val (.int v20), .unset, .unset, .unset] [.int (Rd f11 0 (min (i + 3) 0))]
    refine Wk.istoreV (fun v22 => #[.val (.int x0), .val (.int x1), .val (.int x2), .val (.int (0 : Int32)), .val (.int v6), .val (.int v7), .val (.int v8), .val (.int v9), .val (.ref a10), .val (.int v12), .val (.ref a13), .val (.int v16), .val (.int v18), .val (.int v20), .val (.int v22), .unset, .unset]) (pc' := 189) C at_187 rfl rfl ?_
    intro v22 hv22
    refine Wk.aload (pc' := 191) C at_189 rfl rfl rfl ?_
    refine Wk.callV (pc' := 194) (rm := { frames := 0, cells := 0, slots := 0, locals := 0 }) (W0 := 0) (q := 0) (argsL := []) (st := []) C rfl (w18 hw) (w19 hw) (w21 hw) (w20 hw) (w4 hw) (w22 hw) (by decide) (fun h O => rm3 l Z a0 hw a13 ((a10, ArrC Z .byte 0 f11) :: []) 0 0 (min (i + 4) 0) f11 a10 b14 nx21 h n0 O rfl hg4 (Nat.min_le_right _ _) (by decide)) (by decide) (by decide) (by decide) (by decide) at_191 rfl pd_1 rfl rfl rfl rfl ?_
    rintro _ h' ⟨nx23, hnx23, rfl, O'⟩
    refine ⟨_, O', ?_⟩
    have hg5 : nx23.toInt = ((min (i + 5) 0 : Nat) : Int) := by rw [hnx23]; unfold stp; split <;> omega
    change Wk p l e _ m _ below meth c _ _ n0 ((a13, ObjC Z "com/example/nisaba/nisaba/tokenizer/Decoding" ks_0 [.ref a10, .int nx23, .ref b14]) :: (a10, ArrC Z .byte 0 f11) :: []) 3 8 194 #[.val (.int x0), .val (.int x1), .val (.int x2), .val (.int (0 : Int32)), .val (.int v6), .val (.int v7), .val (.int v8), .val (.int v9), .val (.ref a10), .val (.int v12), .val (.ref a13), .val (.int v16), .val (.int v18), .val (.int v20), .val (.int v22), .unset, .unset] [.int (Rd f11 0 (min (i + 4) 0))]
    refine Wk.istoreV (fun v24 => #[.val (.int x0), .val (.int x1), .val (.int x2), .val (.int (0 : Int32)), .val (.int v6), .val (.int v7), .val (.int v8), .val (.int v9), .val (.ref a10), .val (.int v12), .val (.ref a13), .val (.int v16), .val (.int v18), .val (.int v20), .val (.int v22), .val (.int v24), .unset]) (pc' := 196) C at_194 rfl rfl ?_
    intro v24 hv24
    refine Wk.aload (pc' := 198) C at_196 rfl rfl rfl ?_
    refine Wk.callV (pc' := 201) (rm := { frames := 0, cells := 0, slots := 0, locals := 0 }) (W0 := 0) (q := 0) (argsL := []) (st := []) C rfl (w18 hw) (w19 hw) (w21 hw) (w20 hw) (w4 hw) (w22 hw) (by decide) (fun h O => rm3 l Z a0 hw a13 ((a10, ArrC Z .byte 0 f11) :: []) 0 0 (min (i + 5) 0) f11 a10 b14 nx23 h n0 O rfl hg5 (Nat.min_le_right _ _) (by decide)) (by decide) (by decide) (by decide) (by decide) at_198 rfl pd_1 rfl rfl rfl rfl ?_
    rintro _ h' ⟨nx25, hnx25, rfl, O'⟩
    refine ⟨_, O', ?_⟩
    have hg6 : nx25.toInt = ((min (i + 6) 0 : Nat) : Int) := by rw [hnx25]; unfold stp; split <;> omega
    change Wk p l e _ m _ below meth c _ _ n0 ((a13, ObjC Z "com/example/nisaba/nisaba/tokenizer/Decoding" ks_0 [.ref a10, .int nx25, .ref b14]) :: (a10, ArrC Z .byte 0 f11) :: []) 3 8 201 #[.val (.int x0), .val (.int x1), .val (.int x2), .val (.int (0 : Int32)), .val (.int v6), .val (.int v7), .val (.int v8), .val (.int v9), .val (.ref a10), .val (.int v12), .val (.ref a13), .val (.int v16), .val (.int v18), .val (.int v20), .val (.int v22), .val (.int v24), .unset] [.int (Rd f11 0 (min (i + 5) 0))]
    refine Wk.istoreV (fun v26 => #[.val (.int x0), .val (.int x1), .val (.int x2), .val (.int (0 : Int32)), .val (.int v6), .val (.int v7), .val (.int v8), .val (.int v9), .val (.ref a10), .val (.int v12), .val (.ref a13), .val (.int v16), .val (.int v18), .val (.int v20), .val (.int v22), .val (.int v24), .val (.int v26)]) (pc' := 203) C at_201 rfl rfl ?_
    intro v26 hv26
    refine Wk.iload (pc' := 205) C at_203 rfl rfl ?_
    refine Wk.aload (pc' := 207) C at_205 rfl rfl rfl ?_
    refine Wk.iload (pc' := 209) C at_207 rfl rfl ?_
    refine Wk.callS (pc' := 212) (rm := { frames := 0, cells := 0, slots := 0, locals := 0 }) (W0 := 1) (argsL := [.ref a10, .int v12]) (st := [.int v16]) C (w23 hw) (w24 hw) (w25 hw) (w26 hw) (by decide) (fun h O => rm4 l Z a0 hw a10 v12 ((a13, ObjC Z "com/example/nisaba/nisaba/tokenizer/Decoding" ks_0 [.ref a10, .int nx25, .ref b14]) :: (a10, ArrC Z .byte 0 f11) :: []) 1 0 i f11 h n0 O rfl hi (by decide)) (by decide) (by decide) (by decide) (by decide) at_209 rfl pd_2 rfl rfl rfl rfl ?_
    rintro _ h' ⟨rfl, O'⟩
    refine ⟨_, O', ?_⟩
    change Wk p l e _ m _ below meth c _ _ n0 ((a13, ObjC Z "com/example/nisaba/nisaba/tokenizer/Decoding" ks_0 [.ref a10, .int nx25, .ref b14]) :: (a10, ArrC Z .byte 0 f11) :: []) 3 8 212 #[.val (.int x0), .val (.int x1), .val (.int x2), .val (.int (0 : Int32)), .val (.int v6), .val (.int v7), .val (.int v8), .val (.int v9), .val (.ref a10), .val (.int v12), .val (.ref a13), .val (.int v16), .val (.int v18), .val (.int v20), .val (.int v22), .val (.int v24), .val (.int v26)] [.int (Ex f11 0 i), .int v16]
    refine Wk.icmp_ne (pcT := 289) (pcF := 215) C at_212 (by decide) (by decide) rfl (fun c27 => (show False from c27 (hv16.trans (own_re hb))).elim) (fun c27 => ?_)
    refine Wk.iload (pc' := 217) C at_215 rfl rfl ?_
    refine Wk.aload (pc' := 219) C at_217 rfl rfl rfl ?_
    refine Wk.iload (pc' := 221) C at_219 rfl rfl ?_
    refine Wk.iconst (z := (1 : Int32)) (pc' := 222) C at_221 rfl rfl ?_
    refine Wk.iadd (pc' := 223) C at_222 rfl ?_
    refine Wk.callS (pc' := 226) (rm := { frames := 0, cells := 0, slots := 0, locals := 0 }) (W0 := 1) (argsL := [.ref a10, .int (v12 + (1 : Int32))]) (st := [.int v18]) C (w23 hw) (w24 hw) (w25 hw) (w26 hw) (by decide) (fun h O => rm4 l Z a0 hw a10 (v12 + (1 : Int32)) ((a13, ObjC Z "com/example/nisaba/nisaba/tokenizer/Decoding" ks_0 [.ref a10, .int nx25, .ref b14]) :: (a10, ArrC Z .byte 0 f11) :: []) 1 0 (i + 1) f11 h n0 O rfl (own_add hi (rfl : (1 : Int32).toInt = ((1 : Nat) : Int)) (by omega) (by omega)) (by decide)) (by decide) (by decide) (by decide) (by decide) at_223 rfl pd_2 rfl rfl rfl rfl ?_
    rintro _ h' ⟨rfl, O'⟩
    refine ⟨_, O', ?_⟩
    change Wk p l e _ m _ below meth c _ _ n0 ((a13, ObjC Z "com/example/nisaba/nisaba/tokenizer/Decoding" ks_0 [.ref a10, .int nx25, .ref b14]) :: (a10, ArrC Z .byte 0 f11) :: []) 3 8 226 #[.val (.int x0), .val (.int x1), .val (.int x2), .val (.int (0 : Int32)), .val (.int v6), .val (.int v7), .val (.int v8), .val (.int v9), .val (.ref a10), .val (.int v12), .val (.ref a13), .val (.int v16), .val (.int v18), .val (.int v20), .val (.int v22), .val (.int v24), .val (.int v26)] [.int (Ex f11 0 (i + 1)), .int v18]
    refine Wk.icmp_ne (pcT := 289) (pcF := 229) C at_226 (by decide) (by decide) rfl (fun c28 => (show False from c28 (hv18.trans (own_re hb))).elim) (fun c28 => ?_)
    refine Wk.iload (pc' := 231) C at_229 rfl rfl ?_
    refine Wk.aload (pc' := 233) C at_231 rfl rfl rfl ?_
    refine Wk.iload (pc' := 235) C at_233 rfl rfl ?_
    refine Wk.iconst (z := (2 : Int32)) (pc' := 236) C at_235 rfl rfl ?_
    refine Wk.iadd (pc' := 237) C at_236 rfl ?_
    refine Wk.callS (pc' := 240) (rm := { frames := 0, cells := 0, slots := 0, locals := 0 }) (W0 := 1) (argsL := [.ref a10, .int (v12 + (2 : Int32))]) (st := [.int v20]) C (w23 hw) (w24 hw) (w25 hw) (w26 hw) (by decide) (fun h O => rm4 l Z a0 hw a10 (v12 + (2 : Int32)) ((a13, ObjC Z "com/example/nisaba/nisaba/tokenizer/Decoding" ks_0 [.ref a10, .int nx25, .ref b14]) :: (a10, ArrC Z .byte 0 f11) :: []) 1 0 (i + 2) f11 h n0 O rfl (own_add hi (rfl : (2 : Int32).toInt = ((2 : Nat) : Int)) (by omega) (by omega)) (by decide)) (by decide) (by decide) (by decide) (by decide) at_237 rfl pd_2 rfl rfl rfl rfl ?_
    rintro _ h' ⟨rfl, O'⟩
    refine ⟨_, O', ?_⟩
    change Wk p l e _ m _ below meth c _ _ n0 ((a13, ObjC Z "com/example/nisaba/nisaba/tokenizer/Decoding" ks_0 [.ref a10, .int nx25, .ref b14]) :: (a10, ArrC Z .byte 0 f11) :: []) 3 8 240 #[.val (.int x0), .val (.int x1), .val (.int x2), .val (.int (0 : Int32)), .val (.int v6), .val (.int v7), .val (.int v8), .val (.int v9), .val (.ref a10), .val (.int v12), .val (.ref a13), .val (.int v16), .val (.int v18), .val (.int v20), .val (.int v22), .val (.int v24), .val (.int v26)] [.int (Ex f11 0 (i + 2)), .int v20]
    refine Wk.icmp_ne (pcT := 289) (pcF := 243) C at_240 (by decide) (by decide) rfl (fun c29 => (show False from c29 (hv20.trans (own_re hb))).elim) (fun c29 => ?_)
    refine Wk.iload (pc' := 245) C at_243 rfl rfl ?_
    refine Wk.aload (pc' := 247) C at_245 rfl rfl rfl ?_
    refine Wk.iload (pc' := 249) C at_247 rfl rfl ?_
    refine Wk.iconst (z := (3 : Int32)) (pc' := 250) C at_249 rfl rfl ?_
    refine Wk.iadd (pc' := 251) C at_250 rfl ?_
    refine Wk.callS (pc' := 254) (rm := { frames := 0, cells := 0, slots := 0, locals := 0 }) (W0 := 1) (argsL := [.ref a10, .int (v12 + (3 : Int32))]) (st := [.int v22]) C (w23 hw) (w24 hw) (w25 hw) (w26 hw) (by decide) (fun h O => rm4 l Z a0 hw a10 (v12 + (3 : Int32)) ((a13, ObjC Z "com/example/nisaba/nisaba/tokenizer/Decoding" ks_0 [.ref a10, .int nx25, .ref b14]) :: (a10, ArrC Z .byte 0 f11) :: []) 1 0 (i + 3) f11 h n0 O rfl (own_add hi (rfl : (3 : Int32).toInt = ((3 : Nat) : Int)) (by omega) (by omega)) (by decide)) (by decide) (by decide) (by decide) (by decide) at_251 rfl pd_2 rfl rfl rfl rfl ?_
    rintro _ h' ⟨rfl, O'⟩
    refine ⟨_, O', ?_⟩
    change Wk p l e _ m _ below meth c _ _ n0 ((a13, ObjC Z "com/example/nisaba/nisaba/tokenizer/Decoding" ks_0 [.ref a10, .int nx25, .ref b14]) :: (a10, ArrC Z .byte 0 f11) :: []) 3 8 254 #[.val (.int x0), .val (.int x1), .val (.int x2), .val (.int (0 : Int32)), .val (.int v6), .val (.int v7), .val (.int v8), .val (.int v9), .val (.ref a10), .val (.int v12), .val (.ref a13), .val (.int v16), .val (.int v18), .val (.int v20), .val (.int v22), .val (.int v24), .val (.int v26)] [.int (Ex f11 0 (i + 3)), .int v22]
    refine Wk.icmp_ne (pcT := 289) (pcF := 257) C at_254 (by decide) (by decide) rfl (fun c30 => (show False from c30 (hv22.trans (own_re hb))).elim) (fun c30 => ?_)
    refine Wk.iload (pc' := 259) C at_257 rfl rfl ?_
    refine Wk.aload (pc' := 261) C at_259 rfl rfl rfl ?_
    refine Wk.iload (pc' := 263) C at_261 rfl rfl ?_
    refine Wk.iconst (z := (4 : Int32)) (pc' := 264) C at_263 rfl rfl ?_
    refine Wk.iadd (pc' := 265) C at_264 rfl ?_
    refine Wk.callS (pc' := 268) (rm := { frames := 0, cells := 0, slots := 0, locals := 0 }) (W0 := 1) (argsL := [.ref a10, .int (v12 + (4 : Int32))]) (st := [.int v24]) C (w23 hw) (w24 hw) (w25 hw) (w26 hw) (by decide) (fun h O => rm4 l Z a0 hw a10 (v12 + (4 : Int32)) ((a13, ObjC Z "com/example/nisaba/nisaba/tokenizer/Decoding" ks_0 [.ref a10, .int nx25, .ref b14]) :: (a10, ArrC Z .byte 0 f11) :: []) 1 0 (i + 4) f11 h n0 O rfl (own_add hi (rfl : (4 : Int32).toInt = ((4 : Nat) : Int)) (by omega) (by omega)) (by decide)) (by decide) (by decide) (by decide) (by decide) at_265 rfl pd_2 rfl rfl rfl rfl ?_
    rintro _ h' ⟨rfl, O'⟩
    refine ⟨_, O', ?_⟩
    change Wk p l e _ m _ below meth c _ _ n0 ((a13, ObjC Z "com/example/nisaba/nisaba/tokenizer/Decoding" ks_0 [.ref a10, .int nx25, .ref b14]) :: (a10, ArrC Z .byte 0 f11) :: []) 3 8 268 #[.val (.int x0), .val (.int x1), .val (.int x2), .val (.int (0 : Int32)), .val (.int v6), .val (.int v7), .val (.int v8), .val (.int v9), .val (.ref a10), .val (.int v12), .val (.ref a13), .val (.int v16), .val (.int v18), .val (.int v20), .val (.int v22), .val (.int v24), .val (.int v26)] [.int (Ex f11 0 (i + 4)), .int v24]
    refine Wk.icmp_ne (pcT := 289) (pcF := 271) C at_268 (by decide) (by decide) rfl (fun c31 => (show False from c31 (hv24.trans (own_re hb))).elim) (fun c31 => ?_)
    refine Wk.iload (pc' := 273) C at_271 rfl rfl ?_
    refine Wk.aload (pc' := 275) C at_273 rfl rfl rfl ?_
    refine Wk.iload (pc' := 277) C at_275 rfl rfl ?_
    refine Wk.iconst (z := (5 : Int32)) (pc' := 278) C at_277 rfl rfl ?_
    refine Wk.iadd (pc' := 279) C at_278 rfl ?_
    refine Wk.callS (pc' := 282) (rm := { frames := 0, cells := 0, slots := 0, locals := 0 }) (W0 := 1) (argsL := [.ref a10, .int (v12 + (5 : Int32))]) (st := [.int v26]) C (w23 hw) (w24 hw) (w25 hw) (w26 hw) (by decide) (fun h O => rm4 l Z a0 hw a10 (v12 + (5 : Int32)) ((a13, ObjC Z "com/example/nisaba/nisaba/tokenizer/Decoding" ks_0 [.ref a10, .int nx25, .ref b14]) :: (a10, ArrC Z .byte 0 f11) :: []) 1 0 (i + 5) f11 h n0 O rfl (own_add hi (rfl : (5 : Int32).toInt = ((5 : Nat) : Int)) (by omega) (by omega)) (by decide)) (by decide) (by decide) (by decide) (by decide) at_279 rfl pd_2 rfl rfl rfl rfl ?_
    rintro _ h' ⟨rfl, O'⟩
    refine ⟨_, O', ?_⟩
    change Wk p l e _ m _ below meth c _ _ n0 ((a13, ObjC Z "com/example/nisaba/nisaba/tokenizer/Decoding" ks_0 [.ref a10, .int nx25, .ref b14]) :: (a10, ArrC Z .byte 0 f11) :: []) 3 8 282 #[.val (.int x0), .val (.int x1), .val (.int x2), .val (.int (0 : Int32)), .val (.int v6), .val (.int v7), .val (.int v8), .val (.int v9), .val (.ref a10), .val (.int v12), .val (.ref a13), .val (.int v16), .val (.int v18), .val (.int v20), .val (.int v22), .val (.int v24), .val (.int v26)] [.int (Ex f11 0 (i + 5)), .int v26]
    refine Wk.icmp_ne (pcT := 289) (pcF := 285) C at_282 (by decide) (by decide) rfl (fun c32 => (show False from c32 (hv26.trans (own_re hb))).elim) (fun c32 => ?_)
    refine Wk.iconst (z := (1 : Int32)) (pc' := 286) C at_285 rfl rfl ?_
    refine Wk.goto (pc' := 290) C at_286 (by decide) (by decide) ?_
    exact Wk.retN C J at_290 (by decide) (by decide) (by simp) rfl (fun h O => rfl)
  · skip
    subst hn
    refine Wk.iloadN (pc' := 8) C at_7 rfl rfl ?_
    refine Wk.i2b (pc' := 9) C at_8 rfl ?_
    refine Wk.istoreV (fun v33 => #[.val (.int x0), .val (.int x1), .val (.int x2), .val (.int (1 : Int32)), .val (.int v33), .unset, .unset, .unset, .unset, .unset, .unset, .unset, .unset, .unset, .unset, .unset, .unset]) (pc' := 11) C at_9 rfl rfl ?_
    intro v33 hv33
    refine Wk.iloadN (pc' := 12) C at_11 rfl rfl ?_
    refine Wk.bipush (z := (8 : Int32)) (pc' := 14) C at_12 rfl rfl ?_
    refine Wk.iushr (pc' := 15) C at_14 rfl ?_
    refine Wk.i2b (pc' := 16) C at_15 rfl ?_
    refine Wk.istoreV (fun v34 => #[.val (.int x0), .val (.int x1), .val (.int x2), .val (.int (1 : Int32)), .val (.int v33), .val (.int v34), .unset, .unset, .unset, .unset, .unset, .unset, .unset, .unset, .unset, .unset, .unset]) (pc' := 18) C at_16 rfl rfl ?_
    intro v34 hv34
    refine Wk.iloadN (pc' := 19) C at_18 rfl rfl ?_
    refine Wk.bipush (z := (16 : Int32)) (pc' := 21) C at_19 rfl rfl ?_
    refine Wk.iushr (pc' := 22) C at_21 rfl ?_
    refine Wk.i2b (pc' := 23) C at_22 rfl ?_
    refine Wk.istoreV (fun v35 => #[.val (.int x0), .val (.int x1), .val (.int x2), .val (.int (1 : Int32)), .val (.int v33), .val (.int v34), .val (.int v35), .unset, .unset, .unset, .unset, .unset, .unset, .unset, .unset, .unset, .unset]) (pc' := 25) C at_23 rfl rfl ?_
    intro v35 hv35
    refine Wk.iloadN (pc' := 26) C at_25 rfl rfl ?_
    refine Wk.bipush (z := (24 : Int32)) (pc' := 28) C at_26 rfl rfl ?_
    refine Wk.iushr (pc' := 29) C at_28 rfl ?_
    refine Wk.i2b (pc' := 30) C at_29 rfl ?_
    refine Wk.istoreV (fun v36 => #[.val (.int x0), .val (.int x1), .val (.int x2), .val (.int (1 : Int32)), .val (.int v33), .val (.int v34), .val (.int v35), .val (.int v36), .unset, .unset, .unset, .unset, .unset, .unset, .unset, .unset, .unset]) (pc' := 32) C at_30 rfl rfl ?_
    intro v36 hv36
    refine Wk.iloadN (pc' := 33) C at_32 rfl rfl ?_
    refine Wk.if_ne (pcT := 44) (pcF := 36) C at_33 (by decide) (by decide) rfl (fun _ => ?_) (fun q => absurd q (by decide))
    refine Wk.iloadN (pc' := 45) C at_44 rfl rfl ?_
    refine Wk.iconst (z := (1 : Int32)) (pc' := 46) C at_45 rfl rfl ?_
    refine Wk.icmp_ne (pcT := 62) (pcF := 49) C at_46 (by decide) (by decide) rfl (fun q => absurd q (by decide)) (fun _ => ?_)
    refine Wk.iconst (z := (1 : Int32)) (pc' := 50) C at_49 rfl rfl ?_
    refine Wk.newarray (pc' := 52) (aty := .byte) (nn := 1) (cap := 1) (d := 0) C (w1 hw) at_50 rfl rfl (by decide) (by decide) (by decide) (by decide) (by decide) rfl ?_
    intro a37
    change Wk p l e _ m _ below meth c _ _ n0 ((a37, ArrC Z .byte 1 (fun _ => 0)) :: []) 1 1 52 #[.val (.int x0), .val (.int x1), .val (.int x2), .val (.int (1 : Int32)), .val (.int v33), .val (.int v34), .val (.int v35), .val (.int v36), .unset, .unset, .unset, .unset, .unset, .unset, .unset, .unset, .unset] [.ref a37]
    refine Wk.dup (pc' := 53) C at_52 rfl rfl ?_
    refine Wk.iconst (z := (0 : Int32)) (pc' := 54) C at_53 rfl rfl ?_
    refine Wk.iload (pc' := 56) C at_54 rfl rfl ?_
    refine Wk.bastore (pc' := 57) (q := 0) (i := 0) C at_56 rfl (by decide) (by decide) rfl ?_
    change Wk p l e _ m _ below meth c _ _ n0 ((a37, ArrC Z .byte 1 (upd (fun _ => 0) 0 (v33.toInt8.toInt32))) :: []) 1 1 57 #[.val (.int x0), .val (.int x1), .val (.int x2), .val (.int (1 : Int32)), .val (.int v33), .val (.int v34), .val (.int v35), .val (.int v36), .unset, .unset, .unset, .unset, .unset, .unset, .unset, .unset, .unset] [.ref a37]
    refine Wk.astore (Ls' := #[.val (.int x0), .val (.int x1), .val (.int x2), .val (.int (1 : Int32)), .val (.int v33), .val (.int v34), .val (.int v35), .val (.int v36), .val (.ref a37), .unset, .unset, .unset, .unset, .unset, .unset, .unset, .unset]) (pc' := 59) C at_57 rfl rfl rfl ?_
    refine Wk.goto (pc' := 138) C at_59 (by decide) (by decide) ?_
    generalize hf38 : ((upd (fun _ => 0) 0 (v33.toInt8.toInt32)) : Nat → Int32) = f38
    have hb : ∀ j, Bt (f38 j) := by rw [← hf38]; exact (upd_rng bt0 (bt8 _))
    refine Wk.iloadN (pc' := 139) C at_138 rfl rfl ?_
    refine Wk.ldcInt (z := (2147483647 : Int32)) (pc' := 141) C (w0 hw) at_139 rfl ?_
    refine Wk.iand (pc' := 142) C at_141 rfl ?_
    refine Wk.iloadN (pc' := 143) C at_142 rfl rfl ?_
    refine Wk.iconst (z := (1 : Int32)) (pc' := 144) C at_143 rfl rfl ?_
    refine Wk.iadd (pc' := 145) C at_144 rfl ?_
    refine Wk.irem (pc' := 146) C at_145 (by decide) rfl ?_
    refine Wk.istoreV (fun v39 => #[.val (.int x0), .val (.int x1), .val (.int x2), .val (.int (1 : Int32)), .val (.int v33), .val (.int v34), .val (.int v35), .val (.int v36), .val (.ref a37), .val (.int v39), .unset, .unset, .unset, .unset, .unset, .unset, .unset]) (pc' := 148) C at_146 rfl rfl ?_
    intro v39 hv39
    have hst := own_start x2 v39 _ 2 rfl (by decide) hv39
    obtain ⟨i, hi⟩ : ∃ i : Nat, v39.toInt = (i : Int) := ⟨v39.toInt.toNat, by omega⟩
    have hin : i ≤ 1 := by omega
    have hg0 : v39.toInt = ((min (i + 0) 1 : Nat) : Int) := by rw [hi]; omega
    refine Wk.new (pc' := 151) (ks := ks_0) (vs := [.null, .int (0 : Int32), .null]) C (w2 hw) (w3 hw) (w4 hw) (lays_ks_0 hw) at_148 rfl (by decide) (by decide) rfl ?_
    intro a40
    change Wk p l e _ m _ below meth c _ _ n0 ((a40, ObjC Z "com/example/nisaba/nisaba/tokenizer/Decoding" ks_0 [.null, .int (0 : Int32), .null]) :: (a37, ArrC Z .byte 1 f38) :: []) 2 5 151 #[.val (.int x0), .val (.int x1), .val (.int x2), .val (.int (1 : Int32)), .val (.int v33), .val (.int v34), .val (.int v35), .val (.int v36), .val (.ref a37), .val (.int v39), .unset, .unset, .unset, .unset, .unset, .unset, .unset] [.ref a40]
    refine Wk.dup (pc' := 152) C at_151 rfl rfl ?_
    refine Wk.aload (pc' := 154) C at_152 rfl rfl rfl ?_
    refine Wk.iload (pc' := 156) C at_154 rfl rfl ?_
    refine Wk.callI (pc' := 159) (rm := { frames := 1, cells := 1, slots := 4, locals := 13 }) (W0 := 1) (a := a40) (argsL := [.ref a37, .int v39]) (st := [.ref a40]) C rfl rfl (w5 hw) (w6 hw) (w4 hw) (w7 hw) (by decide) (fun h O => rm1 l Z a0 hw a40 a37 v39 ((a37, ArrC Z .byte 1 f38) :: []) 0 1 i f38 h n0 O rfl hi hin (by decide)) (by decide) (by decide) (by decide) (by decide) at_156 rfl pd_0 rfl rfl rfl rfl ?_
    rintro _ h' ⟨rfl, b41, O'⟩
    refine ⟨_, O', ?_⟩
    change Wk p l e _ m _ below meth c _ _ n0 ((a40, ObjC Z "com/example/nisaba/nisaba/tokenizer/Decoding" ks_0 [.ref a37, .int v39, .ref b41]) :: (a37, ArrC Z .byte 1 f38) :: []) 3 9 159 #[.val (.int x0), .val (.int x1), .val (.int x2), .val (.int (1 : Int32)), .val (.int v33), .val (.int v34), .val (.int v35), .val (.int v36), .val (.ref a37), .val (.int v39), .unset, .unset, .unset, .unset, .unset, .unset, .unset] [.ref a40]
    refine Wk.astore (Ls' := #[.val (.int x0), .val (.int x1), .val (.int x2), .val (.int (1 : Int32)), .val (.int v33), .val (.int v34), .val (.int v35), .val (.int v36), .val (.ref a37), .val (.int v39), .val (.ref a40), .unset, .unset, .unset, .unset, .unset, .unset]) (pc' := 161) C at_159 rfl rfl rfl ?_
    refine Wk.aload (pc' := 163) C at_161 rfl rfl rfl ?_
    refine Wk.callV (pc' := 166) (rm := { frames := 0, cells := 0, slots := 0, locals := 0 }) (W0 := 0) (q := 0) (argsL := []) (st := []) C rfl (w18 hw) (w19 hw) (w21 hw) (w20 hw) (w4 hw) (w22 hw) (by decide) (fun h O => rm3 l Z a0 hw a40 ((a37, ArrC Z .byte 1 f38) :: []) 0 1 (min (i + 0) 1) f38 a37 b41 v39 h n0 O rfl hg0 (Nat.min_le_right _ _) (by decide)) (by decide) (by decide) (by decide) (by decide) at_163 rfl pd_1 rfl rfl rfl rfl ?_
    rintro _ h' ⟨nx42, hnx42, rfl, O'⟩
    refine ⟨_, O', ?_⟩
    have hg1 : nx42.toInt = ((min (i + 1) 1 : Nat) : Int) := by rw [hnx42]; unfold stp; split <;> omega
    change Wk p l e _ m _ below meth c _ _ n0 ((a40, ObjC Z "com/example/nisaba/nisaba/tokenizer/Decoding" ks_0 [.ref a37, .int nx42, .ref b41]) :: (a37, ArrC Z .byte 1 f38) :: []) 3 9 166 #[.val (.int x0), .val (.int x1), .val (.int x2), .val (.int (1 : Int32)), .val (.int v33), .val (.int v34), .val (.int v35), .val (.int v36), .val (.ref a37), .val (.int v39), .val (.ref a40), .unset, .unset, .unset, .unset, .unset, .unset] [.int (Rd f38 1 (min (i + 0) 1))]
    refine Wk.istoreV (fun v43 => #[.val (.int x0), .val (.int x1), .val (.int x2), .val (.int (1 : Int32)), .val (.int v33), .val (.int v34), .val (.int v35), .val (.int v36), .val (.ref a37), .val (.int v39), .val (.ref a40), .val (.int v43), .unset, .unset, .unset, .unset, .unset]) (pc' := 168) C at_166 rfl rfl ?_
    intro v43 hv43
    refine Wk.aload (pc' := 170) C at_168 rfl rfl rfl ?_
    refine Wk.callV (pc' := 173) (rm := { frames := 0, cells := 0, slots := 0, locals := 0 }) (W0 := 0) (q := 0) (argsL := []) (st := []) C rfl (w18 hw) (w19 hw) (w21 hw) (w20 hw) (w4 hw) (w22 hw) (by decide) (fun h O => rm3 l Z a0 hw a40 ((a37, ArrC Z .byte 1 f38) :: []) 0 1 (min (i + 1) 1) f38 a37 b41 nx42 h n0 O rfl hg1 (Nat.min_le_right _ _) (by decide)) (by decide) (by decide) (by decide) (by decide) at_170 rfl pd_1 rfl rfl rfl rfl ?_
    rintro _ h' ⟨nx44, hnx44, rfl, O'⟩
    refine ⟨_, O', ?_⟩
    have hg2 : nx44.toInt = ((min (i + 2) 1 : Nat) : Int) := by rw [hnx44]; unfold stp; split <;> omega
    change Wk p l e _ m _ below meth c _ _ n0 ((a40, ObjC Z "com/example/nisaba/nisaba/tokenizer/Decoding" ks_0 [.ref a37, .int nx44, .ref b41]) :: (a37, ArrC Z .byte 1 f38) :: []) 3 9 173 #[.val (.int x0), .val (.int x1), .val (.int x2), .val (.int (1 : Int32)), .val (.int v33), .val (.int v34), .val (.int v35), .val (.int v36), .val (.ref a37), .val (.int v39), .val (.ref a40), .val (.int v43), .unset, .unset, .unset, .unset, .unset] [.int (Rd f38 1 (min (i + 1) 1))]
    refine Wk.istoreV (fun v45 => #[.val (.int x0), .val (.int x1), .val (.int x2), .val (.int (1 : Int32)), .val (.int v33), .val (.int v34), .val (.int v35), .val (.int v36), .val (.ref a37), .val (.int v39), .val (.ref a40), .val (.int v43), .val (.int v45), .unset, .unset, .unset, .unset]) (pc' := 175) C at_173 rfl rfl ?_
    intro v45 hv45
    refine Wk.aload (pc' := 177) C at_175 rfl rfl rfl ?_
    refine Wk.callV (pc' := 180) (rm := { frames := 0, cells := 0, slots := 0, locals := 0 }) (W0 := 0) (q := 0) (argsL := []) (st := []) C rfl (w18 hw) (w19 hw) (w21 hw) (w20 hw) (w4 hw) (w22 hw) (by decide) (fun h O => rm3 l Z a0 hw a40 ((a37, ArrC Z .byte 1 f38) :: []) 0 1 (min (i + 2) 1) f38 a37 b41 nx44 h n0 O rfl hg2 (Nat.min_le_right _ _) (by decide)) (by decide) (by decide) (by decide) (by decide) at_177 rfl pd_1 rfl rfl rfl rfl ?_
    rintro _ h' ⟨nx46, hnx46, rfl, O'⟩
    refine ⟨_, O', ?_⟩
    have hg3 : nx46.toInt = ((min (i + 3) 1 : Nat) : Int) := by rw [hnx46]; unfold stp; split <;> omega
    change Wk p l e _ m _ below meth c _ _ n0 ((a40, ObjC Z "com/example/nisaba/nisaba/tokenizer/Decoding" ks_0 [.ref a37, .int nx46, .ref b41]) :: (a37, ArrC Z .byte 1 f38) :: []) 3 9 180 #[.val (.int x0), .val (.int x1), .val (.int x2), .val (.int (1 : Int32)), .val (.int v33), .val (.int v34), .val (.int v35), .val (.int v36), .val (.ref a37), .val (.int v39), .val (.ref a40), .val (.int v43), .val (.int v45), .unset, .unset, .unset, .unset] [.int (Rd f38 1 (min (i + 2) 1))]
    refine Wk.istoreV (fun v47 => #[.val (.int x0), .val (.int x1), .val (.int x2), .val (.int (1 : Int32)), .val (.int v33), .val (.int v34), .val (.int v35), .val (.int v36), .val (.ref a37), .val (.int v39), .val (.ref a40), .val (.int v43), .val (.int v45), .val (.int v47), .unset, .unset, .unset]) (pc' := 182) C at_180 rfl rfl ?_
    intro v47 hv47
    refine Wk.aload (pc' := 184) C at_182 rfl rfl rfl ?_
    refine Wk.callV (pc' := 187) (rm := { frames := 0, cells := 0, slots := 0, locals := 0 }) (W0 := 0) (q := 0) (argsL := []) (st := []) C rfl (w18 hw) (w19 hw) (w21 hw) (w20 hw) (w4 hw) (w22 hw) (by decide) (fun h O => rm3 l Z a0 hw a40 ((a37, ArrC Z .byte 1 f38) :: []) 0 1 (min (i + 3) 1) f38 a37 b41 nx46 h n0 O rfl hg3 (Nat.min_le_right _ _) (by decide)) (by decide) (by decide) (by decide) (by decide) at_184 rfl pd_1 rfl rfl rfl rfl ?_
    rintro _ h' ⟨nx48, hnx48, rfl, O'⟩
    refine ⟨_, O', ?_⟩
    have hg4 : nx48.toInt = ((min (i + 4) 1 : Nat) : Int) := by rw [hnx48]; unfold stp; split <;> omega
    change Wk p l e _ m _ below meth c _ _ n0 ((a40, ObjC Z "com/example/nisaba/nisaba/tokenizer/Decoding" ks_0 [.ref a37, .int nx48, .ref b41]) :: (a37, ArrC Z .byte 1 f38) :: []) 3 9 187 #[.val (.int x0), .val (.int x1), .val (.int x2), .val (.int (1 : Int32)), .val (.int v33), .val (.int v34), .val (.int v35), .val (.int v36), .val (.ref a37), .val (.int v39), .val (.ref a40), .val (.int v43), .val (.int v45), .val (.int v47), .unset, .unset, .unset] [.int (Rd f38 1 (min (i + 3) 1))]
    refine Wk.istoreV (fun v49 => #[.val (.int x0), .val (.int x1), .val (.int x2), .val (.int (1 : Int32)), .val (.int v33), .val (.int v34), .val (.int v35), .val (.int v36), .val (.ref a37), .val (.int v39), .val (.ref a40), .val (.int v43), .val (.int v45), .val (.int v47), .val (.int v49), .unset, .unset]) (pc' := 189) C at_187 rfl rfl ?_
    intro v49 hv49
    refine Wk.aload (pc' := 191) C at_189 rfl rfl rfl ?_
    refine Wk.callV (pc' := 194) (rm := { frames := 0, cells := 0, slots := 0, locals := 0 }) (W0 := 0) (q := 0) (argsL := []) (st := []) C rfl (w18 hw) (w19 hw) (w21 hw) (w20 hw) (w4 hw) (w22 hw) (by decide) (fun h O => rm3 l Z a0 hw a40 ((a37, ArrC Z .byte 1 f38) :: []) 0 1 (min (i + 4) 1) f38 a37 b41 nx48 h n0 O rfl hg4 (Nat.min_le_right _ _) (by decide)) (by decide) (by decide) (by decide) (by decide) at_191 rfl pd_1 rfl rfl rfl rfl ?_
    rintro _ h' ⟨nx50, hnx50, rfl, O'⟩
    refine ⟨_, O', ?_⟩
    have hg5 : nx50.toInt = ((min (i + 5) 1 : Nat) : Int) := by rw [hnx50]; unfold stp; split <;> omega
    change Wk p l e _ m _ below meth c _ _ n0 ((a40, ObjC Z "com/example/nisaba/nisaba/tokenizer/Decoding" ks_0 [.ref a37, .int nx50, .ref b41]) :: (a37, ArrC Z .byte 1 f38) :: []) 3 9 194 #[.val (.int x0), .val (.int x1), .val (.int x2), .val (.int (1 : Int32)), .val (.int v33), .val (.int v34), .val (.int v35), .val (.int v36), .val (.ref a37), .val (.int v39), .val (.ref a40), .val (.int v43), .val (.int v45), .val (.int v47), .val (.int v49), .unset, .unset] [.int (Rd f38 1 (min (i + 4) 1))]
    refine Wk.istoreV (fun v51 => #[.val (.int x0), .val (.int x1), .val (.int x2), .val (.int (1 : Int32)), .val (.int v33), .val (.int v34), .val (.int v35), .val (.int v36), .val (.ref a37), .val (.int v39), .val (.ref a40), .val (.int v43), .val (.int v45), .val (.int v47), .val (.int v49), .val (.int v51), .unset]) (pc' := 196) C at_194 rfl rfl ?_
    intro v51 hv51
    refine Wk.aload (pc' := 198) C at_196 rfl rfl rfl ?_
    refine Wk.callV (pc' := 201) (rm := { frames := 0, cells := 0, slots := 0, locals := 0 }) (W0 := 0) (q := 0) (argsL := []) (st := []) C rfl (w18 hw) (w19 hw) (w21 hw) (w20 hw) (w4 hw) (w22 hw) (by decide) (fun h O => rm3 l Z a0 hw a40 ((a37, ArrC Z .byte 1 f38) :: []) 0 1 (min (i + 5) 1) f38 a37 b41 nx50 h n0 O rfl hg5 (Nat.min_le_right _ _) (by decide)) (by decide) (by decide) (by decide) (by decide) at_198 rfl pd_1 rfl rfl rfl rfl ?_
    rintro _ h' ⟨nx52, hnx52, rfl, O'⟩
    refine ⟨_, O', ?_⟩
    have hg6 : nx52.toInt = ((min (i + 6) 1 : Nat) : Int) := by rw [hnx52]; unfold stp; split <;> omega
    change Wk p l e _ m _ below meth c _ _ n0 ((a40, ObjC Z "com/example/nisaba/nisaba/tokenizer/Decoding" ks_0 [.ref a37, .int nx52, .ref b41]) :: (a37, ArrC Z .byte 1 f38) :: []) 3 9 201 #[.val (.int x0), .val (.int x1), .val (.int x2), .val (.int (1 : Int32)), .val (.int v33), .val (.int v34), .val (.int v35), .val (.int v36), .val (.ref a37), .val (.int v39), .val (.ref a40), .val (.int v43), .val (.int v45), .val (.int v47), .val (.int v49), .val (.int v51), .unset] [.int (Rd f38 1 (min (i + 5) 1))]
    refine Wk.istoreV (fun v53 => #[.val (.int x0), .val (.int x1), .val (.int x2), .val (.int (1 : Int32)), .val (.int v33), .val (.int v34), .val (.int v35), .val (.int v36), .val (.ref a37), .val (.int v39), .val (.ref a40), .val (.int v43), .val (.int v45), .val (.int v47), .val (.int v49), .val (.int v51), .val (.int v53)]) (pc' := 203) C at_201 rfl rfl ?_
    intro v53 hv53
    refine Wk.iload (pc' := 205) C at_203 rfl rfl ?_
    refine Wk.aload (pc' := 207) C at_205 rfl rfl rfl ?_
    refine Wk.iload (pc' := 209) C at_207 rfl rfl ?_
    refine Wk.callS (pc' := 212) (rm := { frames := 0, cells := 0, slots := 0, locals := 0 }) (W0 := 1) (argsL := [.ref a37, .int v39]) (st := [.int v43]) C (w23 hw) (w24 hw) (w25 hw) (w26 hw) (by decide) (fun h O => rm4 l Z a0 hw a37 v39 ((a40, ObjC Z "com/example/nisaba/nisaba/tokenizer/Decoding" ks_0 [.ref a37, .int nx52, .ref b41]) :: (a37, ArrC Z .byte 1 f38) :: []) 1 1 i f38 h n0 O rfl hi (by decide)) (by decide) (by decide) (by decide) (by decide) at_209 rfl pd_2 rfl rfl rfl rfl ?_
    rintro _ h' ⟨rfl, O'⟩
    refine ⟨_, O', ?_⟩
    change Wk p l e _ m _ below meth c _ _ n0 ((a40, ObjC Z "com/example/nisaba/nisaba/tokenizer/Decoding" ks_0 [.ref a37, .int nx52, .ref b41]) :: (a37, ArrC Z .byte 1 f38) :: []) 3 9 212 #[.val (.int x0), .val (.int x1), .val (.int x2), .val (.int (1 : Int32)), .val (.int v33), .val (.int v34), .val (.int v35), .val (.int v36), .val (.ref a37), .val (.int v39), .val (.ref a40), .val (.int v43), .val (.int v45), .val (.int v47), .val (.int v49), .val (.int v51), .val (.int v53)] [.int (Ex f38 1 i), .int v43]
    refine Wk.icmp_ne (pcT := 289) (pcF := 215) C at_212 (by decide) (by decide) rfl (fun c54 => (show False from c54 (hv43.trans (own_re hb))).elim) (fun c54 => ?_)
    refine Wk.iload (pc' := 217) C at_215 rfl rfl ?_
    refine Wk.aload (pc' := 219) C at_217 rfl rfl rfl ?_
    refine Wk.iload (pc' := 221) C at_219 rfl rfl ?_
    refine Wk.iconst (z := (1 : Int32)) (pc' := 222) C at_221 rfl rfl ?_
    refine Wk.iadd (pc' := 223) C at_222 rfl ?_
    refine Wk.callS (pc' := 226) (rm := { frames := 0, cells := 0, slots := 0, locals := 0 }) (W0 := 1) (argsL := [.ref a37, .int (v39 + (1 : Int32))]) (st := [.int v45]) C (w23 hw) (w24 hw) (w25 hw) (w26 hw) (by decide) (fun h O => rm4 l Z a0 hw a37 (v39 + (1 : Int32)) ((a40, ObjC Z "com/example/nisaba/nisaba/tokenizer/Decoding" ks_0 [.ref a37, .int nx52, .ref b41]) :: (a37, ArrC Z .byte 1 f38) :: []) 1 1 (i + 1) f38 h n0 O rfl (own_add hi (rfl : (1 : Int32).toInt = ((1 : Nat) : Int)) (by omega) (by omega)) (by decide)) (by decide) (by decide) (by decide) (by decide) at_223 rfl pd_2 rfl rfl rfl rfl ?_
    rintro _ h' ⟨rfl, O'⟩
    refine ⟨_, O', ?_⟩
    change Wk p l e _ m _ below meth c _ _ n0 ((a40, ObjC Z "com/example/nisaba/nisaba/tokenizer/Decoding" ks_0 [.ref a37, .int nx52, .ref b41]) :: (a37, ArrC Z .byte 1 f38) :: []) 3 9 226 #[.val (.int x0), .val (.int x1), .val (.int x2), .val (.int (1 : Int32)), .val (.int v33), .val (.int v34), .val (.int v35), .val (.int v36), .val (.ref a37), .val (.int v39), .val (.ref a40), .val (.int v43), .val (.int v45), .val (.int v47), .val (.int v49), .val (.int v51), .val (.int v53)] [.int (Ex f38 1 (i + 1)), .int v45]
    refine Wk.icmp_ne (pcT := 289) (pcF := 229) C at_226 (by decide) (by decide) rfl (fun c55 => (show False from c55 (hv45.trans (own_re hb))).elim) (fun c55 => ?_)
    refine Wk.iload (pc' := 231) C at_229 rfl rfl ?_
    refine Wk.aload (pc' := 233) C at_231 rfl rfl rfl ?_
    refine Wk.iload (pc' := 235) C at_233 rfl rfl ?_
    refine Wk.iconst (z := (2 : Int32)) (pc' := 236) C at_235 rfl rfl ?_
    refine Wk.iadd (pc' := 237) C at_236 rfl ?_
    refine Wk.callS (pc' := 240) (rm := { frames := 0, cells := 0, slots := 0, locals := 0 }) (W0 := 1) (argsL := [.ref a37, .int (v39 + (2 : Int32))]) (st := [.int v47]) C (w23 hw) (w24 hw) (w25 hw) (w26 hw) (by decide) (fun h O => rm4 l Z a0 hw a37 (v39 + (2 : Int32)) ((a40, ObjC Z "com/example/nisaba/nisaba/tokenizer/Decoding" ks_0 [.ref a37, .int nx52, .ref b41]) :: (a37, ArrC Z .byte 1 f38) :: []) 1 1 (i + 2) f38 h n0 O rfl (own_add hi (rfl : (2 : Int32).toInt = ((2 : Nat) : Int)) (by omega) (by omega)) (by decide)) (by decide) (by decide) (by decide) (by decide) at_237 rfl pd_2 rfl rfl rfl rfl ?_
    rintro _ h' ⟨rfl, O'⟩
    refine ⟨_, O', ?_⟩
    change Wk p l e _ m _ below meth c _ _ n0 ((a40, ObjC Z "com/example/nisaba/nisaba/tokenizer/Decoding" ks_0 [.ref a37, .int nx52, .ref b41]) :: (a37, ArrC Z .byte 1 f38) :: []) 3 9 240 #[.val (.int x0), .val (.int x1), .val (.int x2), .val (.int (1 : Int32)), .val (.int v33), .val (.int v34), .val (.int v35), .val (.int v36), .val (.ref a37), .val (.int v39), .val (.ref a40), .val (.int v43), .val (.int v45), .val (.int v47), .val (.int v49), .val (.int v51), .val (.int v53)] [.int (Ex f38 1 (i + 2)), .int v47]
    refine Wk.icmp_ne (pcT := 289) (pcF := 243) C at_240 (by decide) (by decide) rfl (fun c56 => (show False from c56 (hv47.trans (own_re hb))).elim) (fun c56 => ?_)
    refine Wk.iload (pc' := 245) C at_243 rfl rfl ?_
    refine Wk.aload (pc' := 247) C at_245 rfl rfl rfl ?_
    refine Wk.iload (pc' := 249) C at_247 rfl rfl ?_
    refine Wk.iconst (z := (3 : Int32)) (pc' := 250) C at_249 rfl rfl ?_
    refine Wk.iadd (pc' := 251) C at_250 rfl ?_
    refine Wk.callS (pc' := 254) (rm := { frames := 0, cells := 0, slots := 0, locals := 0 }) (W0 := 1) (argsL := [.ref a37, .int (v39 + (3 : Int32))]) (st := [.int v49]) C (w23 hw) (w24 hw) (w25 hw) (w26 hw) (by decide) (fun h O => rm4 l Z a0 hw a37 (v39 + (3 : Int32)) ((a40, ObjC Z "com/example/nisaba/nisaba/tokenizer/Decoding" ks_0 [.ref a37, .int nx52, .ref b41]) :: (a37, ArrC Z .byte 1 f38) :: []) 1 1 (i + 3) f38 h n0 O rfl (own_add hi (rfl : (3 : Int32).toInt = ((3 : Nat) : Int)) (by omega) (by omega)) (by decide)) (by decide) (by decide) (by decide) (by decide) at_251 rfl pd_2 rfl rfl rfl rfl ?_
    rintro _ h' ⟨rfl, O'⟩
    refine ⟨_, O', ?_⟩
    change Wk p l e _ m _ below meth c _ _ n0 ((a40, ObjC Z "com/example/nisaba/nisaba/tokenizer/Decoding" ks_0 [.ref a37, .int nx52, .ref b41]) :: (a37, ArrC Z .byte 1 f38) :: []) 3 9 254 #[.val (.int x0), .val (.int x1), .val (.int x2), .val (.int (1 : Int32)), .val (.int v33), .val (.int v34), .val (.int v35), .val (.int v36), .val (.ref a37), .val (.int v39), .val (.ref a40), .val (.int v43), .val (.int v45), .val (.int v47), .val (.int v49), .val (.int v51), .val (.int v53)] [.int (Ex f38 1 (i + 3)), .int v49]
    refine Wk.icmp_ne (pcT := 289) (pcF := 257) C at_254 (by decide) (by decide) rfl (fun c57 => (show False from c57 (hv49.trans (own_re hb))).elim) (fun c57 => ?_)
    refine Wk.iload (pc' := 259) C at_257 rfl rfl ?_
    refine Wk.aload (pc' := 261) C at_259 rfl rfl rfl ?_
    refine Wk.iload (pc' := 263) C at_261 rfl rfl ?_
    refine Wk.iconst (z := (4 : Int32)) (pc' := 264) C at_263 rfl rfl ?_
    refine Wk.iadd (pc' := 265) C at_264 rfl ?_
    refine Wk.callS (pc' := 268) (rm := { frames := 0, cells := 0, slots := 0, locals := 0 }) (W0 := 1) (argsL := [.ref a37, .int (v39 + (4 : Int32))]) (st := [.int v51]) C (w23 hw) (w24 hw) (w25 hw) (w26 hw) (by decide) (fun h O => rm4 l Z a0 hw a37 (v39 + (4 : Int32)) ((a40, ObjC Z "com/example/nisaba/nisaba/tokenizer/Decoding" ks_0 [.ref a37, .int nx52, .ref b41]) :: (a37, ArrC Z .byte 1 f38) :: []) 1 1 (i + 4) f38 h n0 O rfl (own_add hi (rfl : (4 : Int32).toInt = ((4 : Nat) : Int)) (by omega) (by omega)) (by decide)) (by decide) (by decide) (by decide) (by decide) at_265 rfl pd_2 rfl rfl rfl rfl ?_
    rintro _ h' ⟨rfl, O'⟩
    refine ⟨_, O', ?_⟩
    change Wk p l e _ m _ below meth c _ _ n0 ((a40, ObjC Z "com/example/nisaba/nisaba/tokenizer/Decoding" ks_0 [.ref a37, .int nx52, .ref b41]) :: (a37, ArrC Z .byte 1 f38) :: []) 3 9 268 #[.val (.int x0), .val (.int x1), .val (.int x2), .val (.int (1 : Int32)), .val (.int v33), .val (.int v34), .val (.int v35), .val (.int v36), .val (.ref a37), .val (.int v39), .val (.ref a40), .val (.int v43), .val (.int v45), .val (.int v47), .val (.int v49), .val (.int v51), .val (.int v53)] [.int (Ex f38 1 (i + 4)), .int v51]
    refine Wk.icmp_ne (pcT := 289) (pcF := 271) C at_268 (by decide) (by decide) rfl (fun c58 => (show False from c58 (hv51.trans (own_re hb))).elim) (fun c58 => ?_)
    refine Wk.iload (pc' := 273) C at_271 rfl rfl ?_
    refine Wk.aload (pc' := 275) C at_273 rfl rfl rfl ?_
    refine Wk.iload (pc' := 277) C at_275 rfl rfl ?_
    refine Wk.iconst (z := (5 : Int32)) (pc' := 278) C at_277 rfl rfl ?_
    refine Wk.iadd (pc' := 279) C at_278 rfl ?_
    refine Wk.callS (pc' := 282) (rm := { frames := 0, cells := 0, slots := 0, locals := 0 }) (W0 := 1) (argsL := [.ref a37, .int (v39 + (5 : Int32))]) (st := [.int v53]) C (w23 hw) (w24 hw) (w25 hw) (w26 hw) (by decide) (fun h O => rm4 l Z a0 hw a37 (v39 + (5 : Int32)) ((a40, ObjC Z "com/example/nisaba/nisaba/tokenizer/Decoding" ks_0 [.ref a37, .int nx52, .ref b41]) :: (a37, ArrC Z .byte 1 f38) :: []) 1 1 (i + 5) f38 h n0 O rfl (own_add hi (rfl : (5 : Int32).toInt = ((5 : Nat) : Int)) (by omega) (by omega)) (by decide)) (by decide) (by decide) (by decide) (by decide) at_279 rfl pd_2 rfl rfl rfl rfl ?_
    rintro _ h' ⟨rfl, O'⟩
    refine ⟨_, O', ?_⟩
    change Wk p l e _ m _ below meth c _ _ n0 ((a40, ObjC Z "com/example/nisaba/nisaba/tokenizer/Decoding" ks_0 [.ref a37, .int nx52, .ref b41]) :: (a37, ArrC Z .byte 1 f38) :: []) 3 9 282 #[.val (.int x0), .val (.int x1), .val (.int x2), .val (.int (1 : Int32)), .val (.int v33), .val (.int v34), .val (.int v35), .val (.int v36), .val (.ref a37), .val (.int v39), .val (.ref a40), .val (.int v43), .val (.int v45), .val (.int v47), .val (.int v49), .val (.int v51), .val (.int v53)] [.int (Ex f38 1 (i + 5)), .int v53]
    refine Wk.icmp_ne (pcT := 289) (pcF := 285) C at_282 (by decide) (by decide) rfl (fun c59 => (show False from c59 (hv53.trans (own_re hb))).elim) (fun c59 => ?_)
    refine Wk.iconst (z := (1 : Int32)) (pc' := 286) C at_285 rfl rfl ?_
    refine Wk.goto (pc' := 290) C at_286 (by decide) (by decide) ?_
    exact Wk.retN C J at_290 (by decide) (by decide) (by simp) rfl (fun h O => rfl)
  · skip
    subst hn
    refine Wk.iloadN (pc' := 8) C at_7 rfl rfl ?_
    refine Wk.i2b (pc' := 9) C at_8 rfl ?_
    refine Wk.istoreV (fun v60 => #[.val (.int x0), .val (.int x1), .val (.int x2), .val (.int (2 : Int32)), .val (.int v60), .unset, .unset, .unset, .unset, .unset, .unset, .unset, .unset, .unset, .unset, .unset, .unset]) (pc' := 11) C at_9 rfl rfl ?_
    intro v60 hv60
    refine Wk.iloadN (pc' := 12) C at_11 rfl rfl ?_
    refine Wk.bipush (z := (8 : Int32)) (pc' := 14) C at_12 rfl rfl ?_
    refine Wk.iushr (pc' := 15) C at_14 rfl ?_
    refine Wk.i2b (pc' := 16) C at_15 rfl ?_
    refine Wk.istoreV (fun v61 => #[.val (.int x0), .val (.int x1), .val (.int x2), .val (.int (2 : Int32)), .val (.int v60), .val (.int v61), .unset, .unset, .unset, .unset, .unset, .unset, .unset, .unset, .unset, .unset, .unset]) (pc' := 18) C at_16 rfl rfl ?_
    intro v61 hv61
    refine Wk.iloadN (pc' := 19) C at_18 rfl rfl ?_
    refine Wk.bipush (z := (16 : Int32)) (pc' := 21) C at_19 rfl rfl ?_
    refine Wk.iushr (pc' := 22) C at_21 rfl ?_
    refine Wk.i2b (pc' := 23) C at_22 rfl ?_
    refine Wk.istoreV (fun v62 => #[.val (.int x0), .val (.int x1), .val (.int x2), .val (.int (2 : Int32)), .val (.int v60), .val (.int v61), .val (.int v62), .unset, .unset, .unset, .unset, .unset, .unset, .unset, .unset, .unset, .unset]) (pc' := 25) C at_23 rfl rfl ?_
    intro v62 hv62
    refine Wk.iloadN (pc' := 26) C at_25 rfl rfl ?_
    refine Wk.bipush (z := (24 : Int32)) (pc' := 28) C at_26 rfl rfl ?_
    refine Wk.iushr (pc' := 29) C at_28 rfl ?_
    refine Wk.i2b (pc' := 30) C at_29 rfl ?_
    refine Wk.istoreV (fun v63 => #[.val (.int x0), .val (.int x1), .val (.int x2), .val (.int (2 : Int32)), .val (.int v60), .val (.int v61), .val (.int v62), .val (.int v63), .unset, .unset, .unset, .unset, .unset, .unset, .unset, .unset, .unset]) (pc' := 32) C at_30 rfl rfl ?_
    intro v63 hv63
    refine Wk.iloadN (pc' := 33) C at_32 rfl rfl ?_
    refine Wk.if_ne (pcT := 44) (pcF := 36) C at_33 (by decide) (by decide) rfl (fun _ => ?_) (fun q => absurd q (by decide))
    refine Wk.iloadN (pc' := 45) C at_44 rfl rfl ?_
    refine Wk.iconst (z := (1 : Int32)) (pc' := 46) C at_45 rfl rfl ?_
    refine Wk.icmp_ne (pcT := 62) (pcF := 49) C at_46 (by decide) (by decide) rfl (fun _ => ?_) (fun q => absurd q (by decide))
    refine Wk.iloadN (pc' := 63) C at_62 rfl rfl ?_
    refine Wk.iconst (z := (2 : Int32)) (pc' := 64) C at_63 rfl rfl ?_
    refine Wk.icmp_ne (pcT := 85) (pcF := 67) C at_64 (by decide) (by decide) rfl (fun q => absurd q (by decide)) (fun _ => ?_)
    refine Wk.iconst (z := (2 : Int32)) (pc' := 68) C at_67 rfl rfl ?_
    refine Wk.newarray (pc' := 70) (aty := .byte) (nn := 2) (cap := 2) (d := 0) C (w1 hw) at_68 rfl rfl (by decide) (by decide) (by decide) (by decide) (by decide) rfl ?_
    intro a64
    change Wk p l e _ m _ below meth c _ _ n0 ((a64, ArrC Z .byte 2 (fun _ => 0)) :: []) 1 2 70 #[.val (.int x0), .val (.int x1), .val (.int x2), .val (.int (2 : Int32)), .val (.int v60), .val (.int v61), .val (.int v62), .val (.int v63), .unset, .unset, .unset, .unset, .unset, .unset, .unset, .unset, .unset] [.ref a64]
    refine Wk.dup (pc' := 71) C at_70 rfl rfl ?_
    refine Wk.iconst (z := (0 : Int32)) (pc' := 72) C at_71 rfl rfl ?_
    refine Wk.iload (pc' := 74) C at_72 rfl rfl ?_
    refine Wk.bastore (pc' := 75) (q := 0) (i := 0) C at_74 rfl (by decide) (by decide) rfl ?_
    change Wk p l e _ m _ below meth c _ _ n0 ((a64, ArrC Z .byte 2 (upd (fun _ => 0) 0 (v60.toInt8.toInt32))) :: []) 1 2 75 #[.val (.int x0), .val (.int x1), .val (.int x2), .val (.int (2 : Int32)), .val (.int v60), .val (.int v61), .val (.int v62), .val (.int v63), .unset, .unset, .unset, .unset, .unset, .unset, .unset, .unset, .unset] [.ref a64]
    refine Wk.dup (pc' := 76) C at_75 rfl rfl ?_
    refine Wk.iconst (z := (1 : Int32)) (pc' := 77) C at_76 rfl rfl ?_
    refine Wk.iload (pc' := 79) C at_77 rfl rfl ?_
    refine Wk.bastore (pc' := 80) (q := 0) (i := 1) C at_79 rfl (by decide) (by decide) rfl ?_
    change Wk p l e _ m _ below meth c _ _ n0 ((a64, ArrC Z .byte 2 (upd (upd (fun _ => 0) 0 (v60.toInt8.toInt32)) 1 (v61.toInt8.toInt32))) :: []) 1 2 80 #[.val (.int x0), .val (.int x1), .val (.int x2), .val (.int (2 : Int32)), .val (.int v60), .val (.int v61), .val (.int v62), .val (.int v63), .unset, .unset, .unset, .unset, .unset, .unset, .unset, .unset, .unset] [.ref a64]
    refine Wk.astore (Ls' := #[.val (.int x0), .val (.int x1), .val (.int x2), .val (.int (2 : Int32)), .val (.int v60), .val (.int v61), .val (.int v62), .val (.int v63), .val (.ref a64), .unset, .unset, .unset, .unset, .unset, .unset, .unset, .unset]) (pc' := 82) C at_80 rfl rfl rfl ?_
    refine Wk.goto (pc' := 138) C at_82 (by decide) (by decide) ?_
    generalize hf65 : ((upd (upd (fun _ => 0) 0 (v60.toInt8.toInt32)) 1 (v61.toInt8.toInt32)) : Nat → Int32) = f65
    have hb : ∀ j, Bt (f65 j) := by rw [← hf65]; exact (upd_rng (upd_rng bt0 (bt8 _)) (bt8 _))
    refine Wk.iloadN (pc' := 139) C at_138 rfl rfl ?_
    refine Wk.ldcInt (z := (2147483647 : Int32)) (pc' := 141) C (w0 hw) at_139 rfl ?_
    refine Wk.iand (pc' := 142) C at_141 rfl ?_
    refine Wk.iloadN (pc' := 143) C at_142 rfl rfl ?_
    refine Wk.iconst (z := (1 : Int32)) (pc' := 144) C at_143 rfl rfl ?_
    refine Wk.iadd (pc' := 145) C at_144 rfl ?_
    refine Wk.irem (pc' := 146) C at_145 (by decide) rfl ?_
    refine Wk.istoreV (fun v66 => #[.val (.int x0), .val (.int x1), .val (.int x2), .val (.int (2 : Int32)), .val (.int v60), .val (.int v61), .val (.int v62), .val (.int v63), .val (.ref a64), .val (.int v66), .unset, .unset, .unset, .unset, .unset, .unset, .unset]) (pc' := 148) C at_146 rfl rfl ?_
    intro v66 hv66
    have hst := own_start x2 v66 _ 3 rfl (by decide) hv66
    obtain ⟨i, hi⟩ : ∃ i : Nat, v66.toInt = (i : Int) := ⟨v66.toInt.toNat, by omega⟩
    have hin : i ≤ 2 := by omega
    have hg0 : v66.toInt = ((min (i + 0) 2 : Nat) : Int) := by rw [hi]; omega
    refine Wk.new (pc' := 151) (ks := ks_0) (vs := [.null, .int (0 : Int32), .null]) C (w2 hw) (w3 hw) (w4 hw) (lays_ks_0 hw) at_148 rfl (by decide) (by decide) rfl ?_
    intro a67
    change Wk p l e _ m _ below meth c _ _ n0 ((a67, ObjC Z "com/example/nisaba/nisaba/tokenizer/Decoding" ks_0 [.null, .int (0 : Int32), .null]) :: (a64, ArrC Z .byte 2 f65) :: []) 2 6 151 #[.val (.int x0), .val (.int x1), .val (.int x2), .val (.int (2 : Int32)), .val (.int v60), .val (.int v61), .val (.int v62), .val (.int v63), .val (.ref a64), .val (.int v66), .unset, .unset, .unset, .unset, .unset, .unset, .unset] [.ref a67]
    refine Wk.dup (pc' := 152) C at_151 rfl rfl ?_
    refine Wk.aload (pc' := 154) C at_152 rfl rfl rfl ?_
    refine Wk.iload (pc' := 156) C at_154 rfl rfl ?_
    refine Wk.callI (pc' := 159) (rm := { frames := 1, cells := 1, slots := 4, locals := 13 }) (W0 := 1) (a := a67) (argsL := [.ref a64, .int v66]) (st := [.ref a67]) C rfl rfl (w5 hw) (w6 hw) (w4 hw) (w7 hw) (by decide) (fun h O => rm1 l Z a0 hw a67 a64 v66 ((a64, ArrC Z .byte 2 f65) :: []) 0 2 i f65 h n0 O rfl hi hin (by decide)) (by decide) (by decide) (by decide) (by decide) at_156 rfl pd_0 rfl rfl rfl rfl ?_
    rintro _ h' ⟨rfl, b68, O'⟩
    refine ⟨_, O', ?_⟩
    change Wk p l e _ m _ below meth c _ _ n0 ((a67, ObjC Z "com/example/nisaba/nisaba/tokenizer/Decoding" ks_0 [.ref a64, .int v66, .ref b68]) :: (a64, ArrC Z .byte 2 f65) :: []) 3 10 159 #[.val (.int x0), .val (.int x1), .val (.int x2), .val (.int (2 : Int32)), .val (.int v60), .val (.int v61), .val (.int v62), .val (.int v63), .val (.ref a64), .val (.int v66), .unset, .unset, .unset, .unset, .unset, .unset, .unset] [.ref a67]
    refine Wk.astore (Ls' := #[.val (.int x0), .val (.int x1), .val (.int x2), .val (.int (2 : Int32)), .val (.int v60), .val (.int v61), .val (.int v62), .val (.int v63), .val (.ref a64), .val (.int v66), .val (.ref a67), .unset, .unset, .unset, .unset, .unset, .unset]) (pc' := 161) C at_159 rfl rfl rfl ?_
    refine Wk.aload (pc' := 163) C at_161 rfl rfl rfl ?_
    refine Wk.callV (pc' := 166) (rm := { frames := 0, cells := 0, slots := 0, locals := 0 }) (W0 := 0) (q := 0) (argsL := []) (st := []) C rfl (w18 hw) (w19 hw) (w21 hw) (w20 hw) (w4 hw) (w22 hw) (by decide) (fun h O => rm3 l Z a0 hw a67 ((a64, ArrC Z .byte 2 f65) :: []) 0 2 (min (i + 0) 2) f65 a64 b68 v66 h n0 O rfl hg0 (Nat.min_le_right _ _) (by decide)) (by decide) (by decide) (by decide) (by decide) at_163 rfl pd_1 rfl rfl rfl rfl ?_
    rintro _ h' ⟨nx69, hnx69, rfl, O'⟩
    refine ⟨_, O', ?_⟩
    have hg1 : nx69.toInt = ((min (i + 1) 2 : Nat) : Int) := by rw [hnx69]; unfold stp; split <;> omega
    change Wk p l e _ m _ below meth c _ _ n0 ((a67, ObjC Z "com/example/nisaba/nisaba/tokenizer/Decoding" ks_0 [.ref a64, .int nx69, .ref b68]) :: (a64, ArrC Z .byte 2 f65) :: []) 3 10 166 #[.val (.int x0), .val (.int x1), .val (.int x2), .val (.int (2 : Int32)), .val (.int v60), .val (.int v61), .val (.int v62), .val (.int v63), .val (.ref a64), .val (.int v66), .val (.ref a67), .unset, .unset, .unset, .unset, .unset, .unset] [.int (Rd f65 2 (min (i + 0) 2))]
    refine Wk.istoreV (fun v70 => #[.val (.int x0), .val (.int x1), .val (.int x2), .val (.int (2 : Int32)), .val (.int v60), .val (.int v61), .val (.int v62), .val (.int v63), .val (.ref a64), .val (.int v66), .val (.ref a67), .val (.int v70), .unset, .unset, .unset, .unset, .unset]) (pc' := 168) C at_166 rfl rfl ?_
    intro v70 hv70
    refine Wk.aload (pc' := 170) C at_168 rfl rfl rfl ?_
    refine Wk.callV (pc' := 173) (rm := { frames := 0, cells := 0, slots := 0, locals := 0 }) (W0 := 0) (q := 0) (argsL := []) (st := []) C rfl (w18 hw) (w19 hw) (w21 hw) (w20 hw) (w4 hw) (w22 hw) (by decide) (fun h O => rm3 l Z a0 hw a67 ((a64, ArrC Z .byte 2 f65) :: []) 0 2 (min (i + 1) 2) f65 a64 b68 nx69 h n0 O rfl hg1 (Nat.min_le_right _ _) (by decide)) (by decide) (by decide) (by decide) (by decide) at_170 rfl pd_1 rfl rfl rfl rfl ?_
    rintro _ h' ⟨nx71, hnx71, rfl, O'⟩
    refine ⟨_, O', ?_⟩
    have hg2 : nx71.toInt = ((min (i + 2) 2 : Nat) : Int) := by rw [hnx71]; unfold stp; split <;> omega
    change Wk p l e _ m _ below meth c _ _ n0 ((a67, ObjC Z "com/example/nisaba/nisaba/tokenizer/Decoding" ks_0 [.ref a64, .int nx71, .ref b68]) :: (a64, ArrC Z .byte 2 f65) :: []) 3 10 173 #[.val (.int x0), .val (.int x1), .val (.int x2), .val (.int (2 : Int32)), .val (.int v60), .val (.int v61), .val (.int v62), .val (.int v63), .val (.ref a64), .val (.int v66), .val (.ref a67), .val (.int v70), .unset, .unset, .unset, .unset, .unset] [.int (Rd f65 2 (min (i + 1) 2))]
    refine Wk.istoreV (fun v72 => #[.val (.int x0), .val (.int x1), .val (.int x2), .val (.int (2 : Int32)), .val (.int v60), .val (.int v61), .val (.int v62), .val (.int v63), .val (.ref a64), .val (.int v66), .val (.ref a67), .val (.int v70), .val (.int v72), .unset, .unset, .unset, .unset]) (pc' := 175) C at_173 rfl rfl ?_
    intro v72 hv72
    refine Wk.aload (pc' := 177) C at_175 rfl rfl rfl ?_
    refine Wk.callV (pc' := 180) (rm := { frames := 0, cells := 0, slots := 0, locals := 0 }) (W0 := 0) (q := 0) (argsL := []) (st := []) C rfl (w18 hw) (w19 hw) (w21 hw) (w20 hw) (w4 hw) (w22 hw) (by decide) (fun h O => rm3 l Z a0 hw a67 ((a64, ArrC Z .byte 2 f65) :: []) 0 2 (min (i + 2) 2) f65 a64 b68 nx71 h n0 O rfl hg2 (Nat.min_le_right _ _) (by decide)) (by decide) (by decide) (by decide) (by decide) at_177 rfl pd_1 rfl rfl rfl rfl ?_
    rintro _ h' ⟨nx73, hnx73, rfl, O'⟩
    refine ⟨_, O', ?_⟩
    have hg3 : nx73.toInt = ((min (i + 3) 2 : Nat) : Int) := by rw [hnx73]; unfold stp; split <;> omega
    change Wk p l e _ m _ below meth c _ _ n0 ((a67, ObjC Z "com/example/nisaba/nisaba/tokenizer/Decoding" ks_0 [.ref a64, .int nx73, .ref b68]) :: (a64, ArrC Z .byte 2 f65) :: []) 3 10 180 #[.val (.int x0), .val (.int x1), .val (.int x2), .val (.int (2 : Int32)), .val (.int v60), .val (.int v61), .val (.int v62), .val (.int v63), .val (.ref a64), .val (.int v66), .val (.ref a67), .val (.int v70), .val (.int v72), .unset, .unset, .unset, .unset] [.int (Rd f65 2 (min (i + 2) 2))]
    refine Wk.istoreV (fun v74 => #[.val (.int x0), .val (.int x1), .val (.int x2), .val (.int (2 : Int32)), .val (.int v60), .val (.int v61), .val (.int v62), .val (.int v63), .val (.ref a64), .val (.int v66), .val (.ref a67), .val (.int v70), .val (.int v72), .val (.int v74), .unset, .unset, .unset]) (pc' := 182) C at_180 rfl rfl ?_
    intro v74 hv74
    refine Wk.aload (pc' := 184) C at_182 rfl rfl rfl ?_
    refine Wk.callV (pc' := 187) (rm := { frames := 0, cells := 0, slots := 0, locals := 0 }) (W0 := 0) (q := 0) (argsL := []) (st := []) C rfl (w18 hw) (w19 hw) (w21 hw) (w20 hw) (w4 hw) (w22 hw) (by decide) (fun h O => rm3 l Z a0 hw a67 ((a64, ArrC Z .byte 2 f65) :: []) 0 2 (min (i + 3) 2) f65 a64 b68 nx73 h n0 O rfl hg3 (Nat.min_le_right _ _) (by decide)) (by decide) (by decide) (by decide) (by decide) at_184 rfl pd_1 rfl rfl rfl rfl ?_
    rintro _ h' ⟨nx75, hnx75, rfl, O'⟩
    refine ⟨_, O', ?_⟩
    have hg4 : nx75.toInt = ((min (i + 4) 2 : Nat) : Int) := by rw [hnx75]; unfold stp; split <;> omega
    change Wk p l e _ m _ below meth c _ _ n0 ((a67, ObjC Z "com/example/nisaba/nisaba/tokenizer/Decoding" ks_0 [.ref a64, .int nx75, .ref b68]) :: (a64, ArrC Z .byte 2 f65) :: []) 3 10 187 #[.val (.int x0), .val (.int x1), .val (.int x2), .val (.int (2 : Int32)), .val (.int v60), .val (.int v61), .val (.int v62), .val (.int v63), .val (.ref a64), .val (.int v66), .val (.ref a67), .val (.int v70), .val (.int v72), .val (.int v74), .unset, .unset, .unset] [.int (Rd f65 2 (min (i + 3) 2))]
    refine Wk.istoreV (fun v76 => #[.val (.int x0), .val (.int x1), .val (.int x2), .val (.int (2 : Int32)), .val (.int v60), .val (.int v61), .val (.int v62), .val (.int v63), .val (.ref a64), .val (.int v66), .val (.ref a67), .val (.int v70), .val (.int v72), .val (.int v74), .val (.int v76), .unset, .unset]) (pc' := 189) C at_187 rfl rfl ?_
    intro v76 hv76
    refine Wk.aload (pc' := 191) C at_189 rfl rfl rfl ?_
    refine Wk.callV (pc' := 194) (rm := { frames := 0, cells := 0, slots := 0, locals := 0 }) (W0 := 0) (q := 0) (argsL := []) (st := []) C rfl (w18 hw) (w19 hw) (w21 hw) (w20 hw) (w4 hw) (w22 hw) (by decide) (fun h O => rm3 l Z a0 hw a67 ((a64, ArrC Z .byte 2 f65) :: []) 0 2 (min (i + 4) 2) f65 a64 b68 nx75 h n0 O rfl hg4 (Nat.min_le_right _ _) (by decide)) (by decide) (by decide) (by decide) (by decide) at_191 rfl pd_1 rfl rfl rfl rfl ?_
    rintro _ h' ⟨nx77, hnx77, rfl, O'⟩
    refine ⟨_, O', ?_⟩
    have hg5 : nx77.toInt = ((min (i + 5) 2 : Nat) : Int) := by rw [hnx77]; unfold stp; split <;> omega
    change Wk p l e _ m _ below meth c _ _ n0 ((a67, ObjC Z "com/example/nisaba/nisaba/tokenizer/Decoding" ks_0 [.ref a64, .int nx77, .ref b68]) :: (a64, ArrC Z .byte 2 f65) :: []) 3 10 194 #[.val (.int x0), .val (.int x1), .val (.int x2), .val (.int (2 : Int32)), .val (.int v60), .val (.int v61), .val (.int v62), .val (.int v63), .val (.ref a64), .val (.int v66), .val (.ref a67), .val (.int v70), .val (.int v72), .val (.int v74), .val (.int v76), .unset, .unset] [.int (Rd f65 2 (min (i + 4) 2))]
    refine Wk.istoreV (fun v78 => #[.val (.int x0), .val (.int x1), .val (.int x2), .val (.int (2 : Int32)), .val (.int v60), .val (.int v61), .val (.int v62), .val (.int v63), .val (.ref a64), .val (.int v66), .val (.ref a67), .val (.int v70), .val (.int v72), .val (.int v74), .val (.int v76), .val (.int v78), .unset]) (pc' := 196) C at_194 rfl rfl ?_
    intro v78 hv78
    refine Wk.aload (pc' := 198) C at_196 rfl rfl rfl ?_
    refine Wk.callV (pc' := 201) (rm := { frames := 0, cells := 0, slots := 0, locals := 0 }) (W0 := 0) (q := 0) (argsL := []) (st := []) C rfl (w18 hw) (w19 hw) (w21 hw) (w20 hw) (w4 hw) (w22 hw) (by decide) (fun h O => rm3 l Z a0 hw a67 ((a64, ArrC Z .byte 2 f65) :: []) 0 2 (min (i + 5) 2) f65 a64 b68 nx77 h n0 O rfl hg5 (Nat.min_le_right _ _) (by decide)) (by decide) (by decide) (by decide) (by decide) at_198 rfl pd_1 rfl rfl rfl rfl ?_
    rintro _ h' ⟨nx79, hnx79, rfl, O'⟩
    refine ⟨_, O', ?_⟩
    have hg6 : nx79.toInt = ((min (i + 6) 2 : Nat) : Int) := by rw [hnx79]; unfold stp; split <;> omega
    change Wk p l e _ m _ below meth c _ _ n0 ((a67, ObjC Z "com/example/nisaba/nisaba/tokenizer/Decoding" ks_0 [.ref a64, .int nx79, .ref b68]) :: (a64, ArrC Z .byte 2 f65) :: []) 3 10 201 #[.val (.int x0), .val (.int x1), .val (.int x2), .val (.int (2 : Int32)), .val (.int v60), .val (.int v61), .val (.int v62), .val (.int v63), .val (.ref a64), .val (.int v66), .val (.ref a67), .val (.int v70), .val (.int v72), .val (.int v74), .val (.int v76), .val (.int v78), .unset] [.int (Rd f65 2 (min (i + 5) 2))]
    refine Wk.istoreV (fun v80 => #[.val (.int x0), .val (.int x1), .val (.int x2), .val (.int (2 : Int32)), .val (.int v60), .val (.int v61), .val (.int v62), .val (.int v63), .val (.ref a64), .val (.int v66), .val (.ref a67), .val (.int v70), .val (.int v72), .val (.int v74), .val (.int v76), .val (.int v78), .val (.int v80)]) (pc' := 203) C at_201 rfl rfl ?_
    intro v80 hv80
    refine Wk.iload (pc' := 205) C at_203 rfl rfl ?_
    refine Wk.aload (pc' := 207) C at_205 rfl rfl rfl ?_
    refine Wk.iload (pc' := 209) C at_207 rfl rfl ?_
    refine Wk.callS (pc' := 212) (rm := { frames := 0, cells := 0, slots := 0, locals := 0 }) (W0 := 1) (argsL := [.ref a64, .int v66]) (st := [.int v70]) C (w23 hw) (w24 hw) (w25 hw) (w26 hw) (by decide) (fun h O => rm4 l Z a0 hw a64 v66 ((a67, ObjC Z "com/example/nisaba/nisaba/tokenizer/Decoding" ks_0 [.ref a64, .int nx79, .ref b68]) :: (a64, ArrC Z .byte 2 f65) :: []) 1 2 i f65 h n0 O rfl hi (by decide)) (by decide) (by decide) (by decide) (by decide) at_209 rfl pd_2 rfl rfl rfl rfl ?_
    rintro _ h' ⟨rfl, O'⟩
    refine ⟨_, O', ?_⟩
    change Wk p l e _ m _ below meth c _ _ n0 ((a67, ObjC Z "com/example/nisaba/nisaba/tokenizer/Decoding" ks_0 [.ref a64, .int nx79, .ref b68]) :: (a64, ArrC Z .byte 2 f65) :: []) 3 10 212 #[.val (.int x0), .val (.int x1), .val (.int x2), .val (.int (2 : Int32)), .val (.int v60), .val (.int v61), .val (.int v62), .val (.int v63), .val (.ref a64), .val (.int v66), .val (.ref a67), .val (.int v70), .val (.int v72), .val (.int v74), .val (.int v76), .val (.int v78), .val (.int v80)] [.int (Ex f65 2 i), .int v70]
    refine Wk.icmp_ne (pcT := 289) (pcF := 215) C at_212 (by decide) (by decide) rfl (fun c81 => (show False from c81 (hv70.trans (own_re hb))).elim) (fun c81 => ?_)
    refine Wk.iload (pc' := 217) C at_215 rfl rfl ?_
    refine Wk.aload (pc' := 219) C at_217 rfl rfl rfl ?_
    refine Wk.iload (pc' := 221) C at_219 rfl rfl ?_
    refine Wk.iconst (z := (1 : Int32)) (pc' := 222) C at_221 rfl rfl ?_
    refine Wk.iadd (pc' := 223) C at_222 rfl ?_
    refine Wk.callS (pc' := 226) (rm := { frames := 0, cells := 0, slots := 0, locals := 0 }) (W0 := 1) (argsL := [.ref a64, .int (v66 + (1 : Int32))]) (st := [.int v72]) C (w23 hw) (w24 hw) (w25 hw) (w26 hw) (by decide) (fun h O => rm4 l Z a0 hw a64 (v66 + (1 : Int32)) ((a67, ObjC Z "com/example/nisaba/nisaba/tokenizer/Decoding" ks_0 [.ref a64, .int nx79, .ref b68]) :: (a64, ArrC Z .byte 2 f65) :: []) 1 2 (i + 1) f65 h n0 O rfl (own_add hi (rfl : (1 : Int32).toInt = ((1 : Nat) : Int)) (by omega) (by omega)) (by decide)) (by decide) (by decide) (by decide) (by decide) at_223 rfl pd_2 rfl rfl rfl rfl ?_
    rintro _ h' ⟨rfl, O'⟩
    refine ⟨_, O', ?_⟩
    change Wk p l e _ m _ below meth c _ _ n0 ((a67, ObjC Z "com/example/nisaba/nisaba/tokenizer/Decoding" ks_0 [.ref a64, .int nx79, .ref b68]) :: (a64, ArrC Z .byte 2 f65) :: []) 3 10 226 #[.val (.int x0), .val (.int x1), .val (.int x2), .val (.int (2 : Int32)), .val (.int v60), .val (.int v61), .val (.int v62), .val (.int v63), .val (.ref a64), .val (.int v66), .val (.ref a67), .val (.int v70), .val (.int v72), .val (.int v74), .val (.int v76), .val (.int v78), .val (.int v80)] [.int (Ex f65 2 (i + 1)), .int v72]
    refine Wk.icmp_ne (pcT := 289) (pcF := 229) C at_226 (by decide) (by decide) rfl (fun c82 => (show False from c82 (hv72.trans (own_re hb))).elim) (fun c82 => ?_)
    refine Wk.iload (pc' := 231) C at_229 rfl rfl ?_
    refine Wk.aload (pc' := 233) C at_231 rfl rfl rfl ?_
    refine Wk.iload (pc' := 235) C at_233 rfl rfl ?_
    refine Wk.iconst (z := (2 : Int32)) (pc' := 236) C at_235 rfl rfl ?_
    refine Wk.iadd (pc' := 237) C at_236 rfl ?_
    refine Wk.callS (pc' := 240) (rm := { frames := 0, cells := 0, slots := 0, locals := 0 }) (W0 := 1) (argsL := [.ref a64, .int (v66 + (2 : Int32))]) (st := [.int v74]) C (w23 hw) (w24 hw) (w25 hw) (w26 hw) (by decide) (fun h O => rm4 l Z a0 hw a64 (v66 + (2 : Int32)) ((a67, ObjC Z "com/example/nisaba/nisaba/tokenizer/Decoding" ks_0 [.ref a64, .int nx79, .ref b68]) :: (a64, ArrC Z .byte 2 f65) :: []) 1 2 (i + 2) f65 h n0 O rfl (own_add hi (rfl : (2 : Int32).toInt = ((2 : Nat) : Int)) (by omega) (by omega)) (by decide)) (by decide) (by decide) (by decide) (by decide) at_237 rfl pd_2 rfl rfl rfl rfl ?_
    rintro _ h' ⟨rfl, O'⟩
    refine ⟨_, O', ?_⟩
    change Wk p l e _ m _ below meth c _ _ n0 ((a67, ObjC Z "com/example/nisaba/nisaba/tokenizer/Decoding" ks_0 [.ref a64, .int nx79, .ref b68]) :: (a64, ArrC Z .byte 2 f65) :: []) 3 10 240 #[.val (.int x0), .val (.int x1), .val (.int x2), .val (.int (2 : Int32)), .val (.int v60), .val (.int v61), .val (.int v62), .val (.int v63), .val (.ref a64), .val (.int v66), .val (.ref a67), .val (.int v70), .val (.int v72), .val (.int v74), .val (.int v76), .val (.int v78), .val (.int v80)] [.int (Ex f65 2 (i + 2)), .int v74]
    refine Wk.icmp_ne (pcT := 289) (pcF := 243) C at_240 (by decide) (by decide) rfl (fun c83 => (show False from c83 (hv74.trans (own_re hb))).elim) (fun c83 => ?_)
    refine Wk.iload (pc' := 245) C at_243 rfl rfl ?_
    refine Wk.aload (pc' := 247) C at_245 rfl rfl rfl ?_
    refine Wk.iload (pc' := 249) C at_247 rfl rfl ?_
    refine Wk.iconst (z := (3 : Int32)) (pc' := 250) C at_249 rfl rfl ?_
    refine Wk.iadd (pc' := 251) C at_250 rfl ?_
    refine Wk.callS (pc' := 254) (rm := { frames := 0, cells := 0, slots := 0, locals := 0 }) (W0 := 1) (argsL := [.ref a64, .int (v66 + (3 : Int32))]) (st := [.int v76]) C (w23 hw) (w24 hw) (w25 hw) (w26 hw) (by decide) (fun h O => rm4 l Z a0 hw a64 (v66 + (3 : Int32)) ((a67, ObjC Z "com/example/nisaba/nisaba/tokenizer/Decoding" ks_0 [.ref a64, .int nx79, .ref b68]) :: (a64, ArrC Z .byte 2 f65) :: []) 1 2 (i + 3) f65 h n0 O rfl (own_add hi (rfl : (3 : Int32).toInt = ((3 : Nat) : Int)) (by omega) (by omega)) (by decide)) (by decide) (by decide) (by decide) (by decide) at_251 rfl pd_2 rfl rfl rfl rfl ?_
    rintro _ h' ⟨rfl, O'⟩
    refine ⟨_, O', ?_⟩
    change Wk p l e _ m _ below meth c _ _ n0 ((a67, ObjC Z "com/example/nisaba/nisaba/tokenizer/Decoding" ks_0 [.ref a64, .int nx79, .ref b68]) :: (a64, ArrC Z .byte 2 f65) :: []) 3 10 254 #[.val (.int x0), .val (.int x1), .val (.int x2), .val (.int (2 : Int32)), .val (.int v60), .val (.int v61), .val (.int v62), .val (.int v63), .val (.ref a64), .val (.int v66), .val (.ref a67), .val (.int v70), .val (.int v72), .val (.int v74), .val (.int v76), .val (.int v78), .val (.int v80)] [.int (Ex f65 2 (i + 3)), .int v76]
    refine Wk.icmp_ne (pcT := 289) (pcF := 257) C at_254 (by decide) (by decide) rfl (fun c84 => (show False from c84 (hv76.trans (own_re hb))).elim) (fun c84 => ?_)
    refine Wk.iload (pc' := 259) C at_257 rfl rfl ?_
    refine Wk.aload (pc' := 261) C at_259 rfl rfl rfl ?_
    refine Wk.iload (pc' := 263) C at_261 rfl rfl ?_
    refine Wk.iconst (z := (4 : Int32)) (pc' := 264) C at_263 rfl rfl ?_
    refine Wk.iadd (pc' := 265) C at_264 rfl ?_
    refine Wk.callS (pc' := 268) (rm := { frames := 0, cells := 0, slots := 0, locals := 0 }) (W0 := 1) (argsL := [.ref a64, .int (v66 + (4 : Int32))]) (st := [.int v78]) C (w23 hw) (w24 hw) (w25 hw) (w26 hw) (by decide) (fun h O => rm4 l Z a0 hw a64 (v66 + (4 : Int32)) ((a67, ObjC Z "com/example/nisaba/nisaba/tokenizer/Decoding" ks_0 [.ref a64, .int nx79, .ref b68]) :: (a64, ArrC Z .byte 2 f65) :: []) 1 2 (i + 4) f65 h n0 O rfl (own_add hi (rfl : (4 : Int32).toInt = ((4 : Nat) : Int)) (by omega) (by omega)) (by decide)) (by decide) (by decide) (by decide) (by decide) at_265 rfl pd_2 rfl rfl rfl rfl ?_
    rintro _ h' ⟨rfl, O'⟩
    refine ⟨_, O', ?_⟩
    change Wk p l e _ m _ below meth c _ _ n0 ((a67, ObjC Z "com/example/nisaba/nisaba/tokenizer/Decoding" ks_0 [.ref a64, .int nx79, .ref b68]) :: (a64, ArrC Z .byte 2 f65) :: []) 3 10 268 #[.val (.int x0), .val (.int x1), .val (.int x2), .val (.int (2 : Int32)), .val (.int v60), .val (.int v61), .val (.int v62), .val (.int v63), .val (.ref a64), .val (.int v66), .val (.ref a67), .val (.int v70), .val (.int v72), .val (.int v74), .val (.int v76), .val (.int v78), .val (.int v80)] [.int (Ex f65 2 (i + 4)), .int v78]
    refine Wk.icmp_ne (pcT := 289) (pcF := 271) C at_268 (by decide) (by decide) rfl (fun c85 => (show False from c85 (hv78.trans (own_re hb))).elim) (fun c85 => ?_)
    refine Wk.iload (pc' := 273) C at_271 rfl rfl ?_
    refine Wk.aload (pc' := 275) C at_273 rfl rfl rfl ?_
    refine Wk.iload (pc' := 277) C at_275 rfl rfl ?_
    refine Wk.iconst (z := (5 : Int32)) (pc' := 278) C at_277 rfl rfl ?_
    refine Wk.iadd (pc' := 279) C at_278 rfl ?_
    refine Wk.callS (pc' := 282) (rm := { frames := 0, cells := 0, slots := 0, locals := 0 }) (W0 := 1) (argsL := [.ref a64, .int (v66 + (5 : Int32))]) (st := [.int v80]) C (w23 hw) (w24 hw) (w25 hw) (w26 hw) (by decide) (fun h O => rm4 l Z a0 hw a64 (v66 + (5 : Int32)) ((a67, ObjC Z "com/example/nisaba/nisaba/tokenizer/Decoding" ks_0 [.ref a64, .int nx79, .ref b68]) :: (a64, ArrC Z .byte 2 f65) :: []) 1 2 (i + 5) f65 h n0 O rfl (own_add hi (rfl : (5 : Int32).toInt = ((5 : Nat) : Int)) (by omega) (by omega)) (by decide)) (by decide) (by decide) (by decide) (by decide) at_279 rfl pd_2 rfl rfl rfl rfl ?_
    rintro _ h' ⟨rfl, O'⟩
    refine ⟨_, O', ?_⟩
    change Wk p l e _ m _ below meth c _ _ n0 ((a67, ObjC Z "com/example/nisaba/nisaba/tokenizer/Decoding" ks_0 [.ref a64, .int nx79, .ref b68]) :: (a64, ArrC Z .byte 2 f65) :: []) 3 10 282 #[.val (.int x0), .val (.int x1), .val (.int x2), .val (.int (2 : Int32)), .val (.int v60), .val (.int v61), .val (.int v62), .val (.int v63), .val (.ref a64), .val (.int v66), .val (.ref a67), .val (.int v70), .val (.int v72), .val (.int v74), .val (.int v76), .val (.int v78), .val (.int v80)] [.int (Ex f65 2 (i + 5)), .int v80]
    refine Wk.icmp_ne (pcT := 289) (pcF := 285) C at_282 (by decide) (by decide) rfl (fun c86 => (show False from c86 (hv80.trans (own_re hb))).elim) (fun c86 => ?_)
    refine Wk.iconst (z := (1 : Int32)) (pc' := 286) C at_285 rfl rfl ?_
    refine Wk.goto (pc' := 290) C at_286 (by decide) (by decide) ?_
    exact Wk.retN C J at_290 (by decide) (by decide) (by simp) rfl (fun h O => rfl)
  · skip
    subst hn
    refine Wk.iloadN (pc' := 8) C at_7 rfl rfl ?_
    refine Wk.i2b (pc' := 9) C at_8 rfl ?_
    refine Wk.istoreV (fun v87 => #[.val (.int x0), .val (.int x1), .val (.int x2), .val (.int (3 : Int32)), .val (.int v87), .unset, .unset, .unset, .unset, .unset, .unset, .unset, .unset, .unset, .unset, .unset, .unset]) (pc' := 11) C at_9 rfl rfl ?_
    intro v87 hv87
    refine Wk.iloadN (pc' := 12) C at_11 rfl rfl ?_
    refine Wk.bipush (z := (8 : Int32)) (pc' := 14) C at_12 rfl rfl ?_
    refine Wk.iushr (pc' := 15) C at_14 rfl ?_
    refine Wk.i2b (pc' := 16) C at_15 rfl ?_
    refine Wk.istoreV (fun v88 => #[.val (.int x0), .val (.int x1), .val (.int x2), .val (.int (3 : Int32)), .val (.int v87), .val (.int v88), .unset, .unset, .unset, .unset, .unset, .unset, .unset, .unset, .unset, .unset, .unset]) (pc' := 18) C at_16 rfl rfl ?_
    intro v88 hv88
    refine Wk.iloadN (pc' := 19) C at_18 rfl rfl ?_
    refine Wk.bipush (z := (16 : Int32)) (pc' := 21) C at_19 rfl rfl ?_
    refine Wk.iushr (pc' := 22) C at_21 rfl ?_
    refine Wk.i2b (pc' := 23) C at_22 rfl ?_
    refine Wk.istoreV (fun v89 => #[.val (.int x0), .val (.int x1), .val (.int x2), .val (.int (3 : Int32)), .val (.int v87), .val (.int v88), .val (.int v89), .unset, .unset, .unset, .unset, .unset, .unset, .unset, .unset, .unset, .unset]) (pc' := 25) C at_23 rfl rfl ?_
    intro v89 hv89
    refine Wk.iloadN (pc' := 26) C at_25 rfl rfl ?_
    refine Wk.bipush (z := (24 : Int32)) (pc' := 28) C at_26 rfl rfl ?_
    refine Wk.iushr (pc' := 29) C at_28 rfl ?_
    refine Wk.i2b (pc' := 30) C at_29 rfl ?_
    refine Wk.istoreV (fun v90 => #[.val (.int x0), .val (.int x1), .val (.int x2), .val (.int (3 : Int32)), .val (.int v87), .val (.int v88), .val (.int v89), .val (.int v90), .unset, .unset, .unset, .unset, .unset, .unset, .unset, .unset, .unset]) (pc' := 32) C at_30 rfl rfl ?_
    intro v90 hv90
    refine Wk.iloadN (pc' := 33) C at_32 rfl rfl ?_
    refine Wk.if_ne (pcT := 44) (pcF := 36) C at_33 (by decide) (by decide) rfl (fun _ => ?_) (fun q => absurd q (by decide))
    refine Wk.iloadN (pc' := 45) C at_44 rfl rfl ?_
    refine Wk.iconst (z := (1 : Int32)) (pc' := 46) C at_45 rfl rfl ?_
    refine Wk.icmp_ne (pcT := 62) (pcF := 49) C at_46 (by decide) (by decide) rfl (fun _ => ?_) (fun q => absurd q (by decide))
    refine Wk.iloadN (pc' := 63) C at_62 rfl rfl ?_
    refine Wk.iconst (z := (2 : Int32)) (pc' := 64) C at_63 rfl rfl ?_
    refine Wk.icmp_ne (pcT := 85) (pcF := 67) C at_64 (by decide) (by decide) rfl (fun _ => ?_) (fun q => absurd q (by decide))
    refine Wk.iloadN (pc' := 86) C at_85 rfl rfl ?_
    refine Wk.iconst (z := (3 : Int32)) (pc' := 87) C at_86 rfl rfl ?_
    refine Wk.icmp_ne (pcT := 113) (pcF := 90) C at_87 (by decide) (by decide) rfl (fun q => absurd q (by decide)) (fun _ => ?_)
    refine Wk.iconst (z := (3 : Int32)) (pc' := 91) C at_90 rfl rfl ?_
    refine Wk.newarray (pc' := 93) (aty := .byte) (nn := 3) (cap := 3) (d := 0) C (w1 hw) at_91 rfl rfl (by decide) (by decide) (by decide) (by decide) (by decide) rfl ?_
    intro a91
    change Wk p l e _ m _ below meth c _ _ n0 ((a91, ArrC Z .byte 3 (fun _ => 0)) :: []) 1 3 93 #[.val (.int x0), .val (.int x1), .val (.int x2), .val (.int (3 : Int32)), .val (.int v87), .val (.int v88), .val (.int v89), .val (.int v90), .unset, .unset, .unset, .unset, .unset, .unset, .unset, .unset, .unset] [.ref a91]
    refine Wk.dup (pc' := 94) C at_93 rfl rfl ?_
    refine Wk.iconst (z := (0 : Int32)) (pc' := 95) C at_94 rfl rfl ?_
    refine Wk.iload (pc' := 97) C at_95 rfl rfl ?_
    refine Wk.bastore (pc' := 98) (q := 0) (i := 0) C at_97 rfl (by decide) (by decide) rfl ?_
    change Wk p l e _ m _ below meth c _ _ n0 ((a91, ArrC Z .byte 3 (upd (fun _ => 0) 0 (v87.toInt8.toInt32))) :: []) 1 3 98 #[.val (.int x0), .val (.int x1), .val (.int x2), .val (.int (3 : Int32)), .val (.int v87), .val (.int v88), .val (.int v89), .val (.int v90), .unset, .unset, .unset, .unset, .unset, .unset, .unset, .unset, .unset] [.ref a91]
    refine Wk.dup (pc' := 99) C at_98 rfl rfl ?_
    refine Wk.iconst (z := (1 : Int32)) (pc' := 100) C at_99 rfl rfl ?_
    refine Wk.iload (pc' := 102) C at_100 rfl rfl ?_
    refine Wk.bastore (pc' := 103) (q := 0) (i := 1) C at_102 rfl (by decide) (by decide) rfl ?_
    change Wk p l e _ m _ below meth c _ _ n0 ((a91, ArrC Z .byte 3 (upd (upd (fun _ => 0) 0 (v87.toInt8.toInt32)) 1 (v88.toInt8.toInt32))) :: []) 1 3 103 #[.val (.int x0), .val (.int x1), .val (.int x2), .val (.int (3 : Int32)), .val (.int v87), .val (.int v88), .val (.int v89), .val (.int v90), .unset, .unset, .unset, .unset, .unset, .unset, .unset, .unset, .unset] [.ref a91]
    refine Wk.dup (pc' := 104) C at_103 rfl rfl ?_
    refine Wk.iconst (z := (2 : Int32)) (pc' := 105) C at_104 rfl rfl ?_
    refine Wk.iload (pc' := 107) C at_105 rfl rfl ?_
    refine Wk.bastore (pc' := 108) (q := 0) (i := 2) C at_107 rfl (by decide) (by decide) rfl ?_
    change Wk p l e _ m _ below meth c _ _ n0 ((a91, ArrC Z .byte 3 (upd (upd (upd (fun _ => 0) 0 (v87.toInt8.toInt32)) 1 (v88.toInt8.toInt32)) 2 (v89.toInt8.toInt32))) :: []) 1 3 108 #[.val (.int x0), .val (.int x1), .val (.int x2), .val (.int (3 : Int32)), .val (.int v87), .val (.int v88), .val (.int v89), .val (.int v90), .unset, .unset, .unset, .unset, .unset, .unset, .unset, .unset, .unset] [.ref a91]
    refine Wk.astore (Ls' := #[.val (.int x0), .val (.int x1), .val (.int x2), .val (.int (3 : Int32)), .val (.int v87), .val (.int v88), .val (.int v89), .val (.int v90), .val (.ref a91), .unset, .unset, .unset, .unset, .unset, .unset, .unset, .unset]) (pc' := 110) C at_108 rfl rfl rfl ?_
    refine Wk.goto (pc' := 138) C at_110 (by decide) (by decide) ?_
    generalize hf92 : ((upd (upd (upd (fun _ => 0) 0 (v87.toInt8.toInt32)) 1 (v88.toInt8.toInt32)) 2 (v89.toInt8.toInt32)) : Nat → Int32) = f92
    have hb : ∀ j, Bt (f92 j) := by rw [← hf92]; exact (upd_rng (upd_rng (upd_rng bt0 (bt8 _)) (bt8 _)) (bt8 _))
    refine Wk.iloadN (pc' := 139) C at_138 rfl rfl ?_
    refine Wk.ldcInt (z := (2147483647 : Int32)) (pc' := 141) C (w0 hw) at_139 rfl ?_
    refine Wk.iand (pc' := 142) C at_141 rfl ?_
    refine Wk.iloadN (pc' := 143) C at_142 rfl rfl ?_
    refine Wk.iconst (z := (1 : Int32)) (pc' := 144) C at_143 rfl rfl ?_
    refine Wk.iadd (pc' := 145) C at_144 rfl ?_
    refine Wk.irem (pc' := 146) C at_145 (by decide) rfl ?_
    refine Wk.istoreV (fun v93 => #[.val (.int x0), .val (.int x1), .val (.int x2), .val (.int (3 : Int32)), .val (.int v87), .val (.int v88), .val (.int v89), .val (.int v90), .val (.ref a91), .val (.int v93), .unset, .unset, .unset, .unset, .unset, .unset, .unset]) (pc' := 148) C at_146 rfl rfl ?_
    intro v93 hv93
    have hst := own_start x2 v93 _ 4 rfl (by decide) hv93
    obtain ⟨i, hi⟩ : ∃ i : Nat, v93.toInt = (i : Int) := ⟨v93.toInt.toNat, by omega⟩
    have hin : i ≤ 3 := by omega
    have hg0 : v93.toInt = ((min (i + 0) 3 : Nat) : Int) := by rw [hi]; omega
    refine Wk.new (pc' := 151) (ks := ks_0) (vs := [.null, .int (0 : Int32), .null]) C (w2 hw) (w3 hw) (w4 hw) (lays_ks_0 hw) at_148 rfl (by decide) (by decide) rfl ?_
    intro a94
    change Wk p l e _ m _ below meth c _ _ n0 ((a94, ObjC Z "com/example/nisaba/nisaba/tokenizer/Decoding" ks_0 [.null, .int (0 : Int32), .null]) :: (a91, ArrC Z .byte 3 f92) :: []) 2 7 151 #[.val (.int x0), .val (.int x1), .val (.int x2), .val (.int (3 : Int32)), .val (.int v87), .val (.int v88), .val (.int v89), .val (.int v90), .val (.ref a91), .val (.int v93), .unset, .unset, .unset, .unset, .unset, .unset, .unset] [.ref a94]
    refine Wk.dup (pc' := 152) C at_151 rfl rfl ?_
    refine Wk.aload (pc' := 154) C at_152 rfl rfl rfl ?_
    refine Wk.iload (pc' := 156) C at_154 rfl rfl ?_
    refine Wk.callI (pc' := 159) (rm := { frames := 1, cells := 1, slots := 4, locals := 13 }) (W0 := 1) (a := a94) (argsL := [.ref a91, .int v93]) (st := [.ref a94]) C rfl rfl (w5 hw) (w6 hw) (w4 hw) (w7 hw) (by decide) (fun h O => rm1 l Z a0 hw a94 a91 v93 ((a91, ArrC Z .byte 3 f92) :: []) 0 3 i f92 h n0 O rfl hi hin (by decide)) (by decide) (by decide) (by decide) (by decide) at_156 rfl pd_0 rfl rfl rfl rfl ?_
    rintro _ h' ⟨rfl, b95, O'⟩
    refine ⟨_, O', ?_⟩
    change Wk p l e _ m _ below meth c _ _ n0 ((a94, ObjC Z "com/example/nisaba/nisaba/tokenizer/Decoding" ks_0 [.ref a91, .int v93, .ref b95]) :: (a91, ArrC Z .byte 3 f92) :: []) 3 11 159 #[.val (.int x0), .val (.int x1), .val (.int x2), .val (.int (3 : Int32)), .val (.int v87), .val (.int v88), .val (.int v89), .val (.int v90), .val (.ref a91), .val (.int v93), .unset, .unset, .unset, .unset, .unset, .unset, .unset] [.ref a94]
    refine Wk.astore (Ls' := #[.val (.int x0), .val (.int x1), .val (.int x2), .val (.int (3 : Int32)), .val (.int v87), .val (.int v88), .val (.int v89), .val (.int v90), .val (.ref a91), .val (.int v93), .val (.ref a94), .unset, .unset, .unset, .unset, .unset, .unset]) (pc' := 161) C at_159 rfl rfl rfl ?_
    refine Wk.aload (pc' := 163) C at_161 rfl rfl rfl ?_
    refine Wk.callV (pc' := 166) (rm := { frames := 0, cells := 0, slots := 0, locals := 0 }) (W0 := 0) (q := 0) (argsL := []) (st := []) C rfl (w18 hw) (w19 hw) (w21 hw) (w20 hw) (w4 hw) (w22 hw) (by decide) (fun h O => rm3 l Z a0 hw a94 ((a91, ArrC Z .byte 3 f92) :: []) 0 3 (min (i + 0) 3) f92 a91 b95 v93 h n0 O rfl hg0 (Nat.min_le_right _ _) (by decide)) (by decide) (by decide) (by decide) (by decide) at_163 rfl pd_1 rfl rfl rfl rfl ?_
    rintro _ h' ⟨nx96, hnx96, rfl, O'⟩
    refine ⟨_, O', ?_⟩
    have hg1 : nx96.toInt = ((min (i + 1) 3 : Nat) : Int) := by rw [hnx96]; unfold stp; split <;> omega
    change Wk p l e _ m _ below meth c _ _ n0 ((a94, ObjC Z "com/example/nisaba/nisaba/tokenizer/Decoding" ks_0 [.ref a91, .int nx96, .ref b95]) :: (a91, ArrC Z .byte 3 f92) :: []) 3 11 166 #[.val (.int x0), .val (.int x1), .val (.int x2), .val (.int (3 : Int32)), .val (.int v87), .val (.int v88), .val (.int v89), .val (.int v90), .val (.ref a91), .val (.int v93), .val (.ref a94), .unset, .unset, .unset, .unset, .unset, .unset] [.int (Rd f92 3 (min (i + 0) 3))]
    refine Wk.istoreV (fun v97 => #[.val (.int x0), .val (.int x1), .val (.int x2), .val (.int (3 : Int32)), .val (.int v87), .val (.int v88), .val (.int v89), .val (.int v90), .val (.ref a91), .val (.int v93), .val (.ref a94), .val (.int v97), .unset, .unset, .unset, .unset, .unset]) (pc' := 168) C at_166 rfl rfl ?_
    intro v97 hv97
    refine Wk.aload (pc' := 170) C at_168 rfl rfl rfl ?_
    refine Wk.callV (pc' := 173) (rm := { frames := 0, cells := 0, slots := 0, locals := 0 }) (W0 := 0) (q := 0) (argsL := []) (st := []) C rfl (w18 hw) (w19 hw) (w21 hw) (w20 hw) (w4 hw) (w22 hw) (by decide) (fun h O => rm3 l Z a0 hw a94 ((a91, ArrC Z .byte 3 f92) :: []) 0 3 (min (i + 1) 3) f92 a91 b95 nx96 h n0 O rfl hg1 (Nat.min_le_right _ _) (by decide)) (by decide) (by decide) (by decide) (by decide) at_170 rfl pd_1 rfl rfl rfl rfl ?_
    rintro _ h' ⟨nx98, hnx98, rfl, O'⟩
    refine ⟨_, O', ?_⟩
    have hg2 : nx98.toInt = ((min (i + 2) 3 : Nat) : Int) := by rw [hnx98]; unfold stp; split <;> omega
    change Wk p l e _ m _ below meth c _ _ n0 ((a94, ObjC Z "com/example/nisaba/nisaba/tokenizer/Decoding" ks_0 [.ref a91, .int nx98, .ref b95]) :: (a91, ArrC Z .byte 3 f92) :: []) 3 11 173 #[.val (.int x0), .val (.int x1), .val (.int x2), .val (.int (3 : Int32)), .val (.int v87), .val (.int v88), .val (.int v89), .val (.int v90), .val (.ref a91), .val (.int v93), .val (.ref a94), .val (.int v97), .unset, .unset, .unset, .unset, .unset] [.int (Rd f92 3 (min (i + 1) 3))]
    refine Wk.istoreV (fun v99 => #[.val (.int x0), .val (.int x1), .val (.int x2), .val (.int (3 : Int32)), .val (.int v87), .val (.int v88), .val (.int v89), .val (.int v90), .val (.ref a91), .val (.int v93), .val (.ref a94), .val (.int v97), .val (.int v99), .unset, .unset, .unset, .unset]) (pc' := 175) C at_173 rfl rfl ?_
    intro v99 hv99
    refine Wk.aload (pc' := 177) C at_175 rfl rfl rfl ?_
    refine Wk.callV (pc' := 180) (rm := { frames := 0, cells := 0, slots := 0, locals := 0 }) (W0 := 0) (q := 0) (argsL := []) (st := []) C rfl (w18 hw) (w19 hw) (w21 hw) (w20 hw) (w4 hw) (w22 hw) (by decide) (fun h O => rm3 l Z a0 hw a94 ((a91, ArrC Z .byte 3 f92) :: []) 0 3 (min (i + 2) 3) f92 a91 b95 nx98 h n0 O rfl hg2 (Nat.min_le_right _ _) (by decide)) (by decide) (by decide) (by decide) (by decide) at_177 rfl pd_1 rfl rfl rfl rfl ?_
    rintro _ h' ⟨nx100, hnx100, rfl, O'⟩
    refine ⟨_, O', ?_⟩
    have hg3 : nx100.toInt = ((min (i + 3) 3 : Nat) : Int) := by rw [hnx100]; unfold stp; split <;> omega
    change Wk p l e _ m _ below meth c _ _ n0 ((a94, ObjC Z "com/example/nisaba/nisaba/tokenizer/Decoding" ks_0 [.ref a91, .int nx100, .ref b95]) :: (a91, ArrC Z .byte 3 f92) :: []) 3 11 180 #[.val (.int x0), .val (.int x1), .val (.int x2), .val (.int (3 : Int32)), .val (.int v87), .val (.int v88), .val (.int v89), .val (.int v90), .val (.ref a91), .val (.int v93), .val (.ref a94), .val (.int v97), .val (.int v99), .unset, .unset, .unset, .unset] [.int (Rd f92 3 (min (i + 2) 3))]
    refine Wk.istoreV (fun v101 => #[.val (.int x0), .val (.int x1), .val (.int x2), .val (.int (3 : Int32)), .val (.int v87), .val (.int v88), .val (.int v89), .val (.int v90), .val (.ref a91), .val (.int v93), .val (.ref a94), .val (.int v97), .val (.int v99), .val (.int v101), .unset, .unset, .unset]) (pc' := 182) C at_180 rfl rfl ?_
    intro v101 hv101
    refine Wk.aload (pc' := 184) C at_182 rfl rfl rfl ?_
    refine Wk.callV (pc' := 187) (rm := { frames := 0, cells := 0, slots := 0, locals := 0 }) (W0 := 0) (q := 0) (argsL := []) (st := []) C rfl (w18 hw) (w19 hw) (w21 hw) (w20 hw) (w4 hw) (w22 hw) (by decide) (fun h O => rm3 l Z a0 hw a94 ((a91, ArrC Z .byte 3 f92) :: []) 0 3 (min (i + 3) 3) f92 a91 b95 nx100 h n0 O rfl hg3 (Nat.min_le_right _ _) (by decide)) (by decide) (by decide) (by decide) (by decide) at_184 rfl pd_1 rfl rfl rfl rfl ?_
    rintro _ h' ⟨nx102, hnx102, rfl, O'⟩
    refine ⟨_, O', ?_⟩
    have hg4 : nx102.toInt = ((min (i + 4) 3 : Nat) : Int) := by rw [hnx102]; unfold stp; split <;> omega
    change Wk p l e _ m _ below meth c _ _ n0 ((a94, ObjC Z "com/example/nisaba/nisaba/tokenizer/Decoding" ks_0 [.ref a91, .int nx102, .ref b95]) :: (a91, ArrC Z .byte 3 f92) :: []) 3 11 187 #[.val (.int x0), .val (.int x1), .val (.int x2), .val (.int (3 : Int32)), .val (.int v87), .val (.int v88), .val (.int v89), .val (.int v90), .val (.ref a91), .val (.int v93), .val (.ref a94), .val (.int v97), .val (.int v99), .val (.int v101), .unset, .unset, .unset] [.int (Rd f92 3 (min (i + 3) 3))]
    refine Wk.istoreV (fun v103 => #[.val (.int x0), .val (.int x1), .val (.int x2), .val (.int (3 : Int32)), .val (.int v87), .val (.int v88), .val (.int v89), .val (.int v90), .val (.ref a91), .val (.int v93), .val (.ref a94), .val (.int v97), .val (.int v99), .val (.int v101), .val (.int v103), .unset, .unset]) (pc' := 189) C at_187 rfl rfl ?_
    intro v103 hv103
    refine Wk.aload (pc' := 191) C at_189 rfl rfl rfl ?_
    refine Wk.callV (pc' := 194) (rm := { frames := 0, cells := 0, slots := 0, locals := 0 }) (W0 := 0) (q := 0) (argsL := []) (st := []) C rfl (w18 hw) (w19 hw) (w21 hw) (w20 hw) (w4 hw) (w22 hw) (by decide) (fun h O => rm3 l Z a0 hw a94 ((a91, ArrC Z .byte 3 f92) :: []) 0 3 (min (i + 4) 3) f92 a91 b95 nx102 h n0 O rfl hg4 (Nat.min_le_right _ _) (by decide)) (by decide) (by decide) (by decide) (by decide) at_191 rfl pd_1 rfl rfl rfl rfl ?_
    rintro _ h' ⟨nx104, hnx104, rfl, O'⟩
    refine ⟨_, O', ?_⟩
    have hg5 : nx104.toInt = ((min (i + 5) 3 : Nat) : Int) := by rw [hnx104]; unfold stp; split <;> omega
    change Wk p l e _ m _ below meth c _ _ n0 ((a94, ObjC Z "com/example/nisaba/nisaba/tokenizer/Decoding" ks_0 [.ref a91, .int nx104, .ref b95]) :: (a91, ArrC Z .byte 3 f92) :: []) 3 11 194 #[.val (.int x0), .val (.int x1), .val (.int x2), .val (.int (3 : Int32)), .val (.int v87), .val (.int v88), .val (.int v89), .val (.int v90), .val (.ref a91), .val (.int v93), .val (.ref a94), .val (.int v97), .val (.int v99), .val (.int v101), .val (.int v103), .unset, .unset] [.int (Rd f92 3 (min (i + 4) 3))]
    refine Wk.istoreV (fun v105 => #[.val (.int x0), .val (.int x1), .val (.int x2), .val (.int (3 : Int32)), .val (.int v87), .val (.int v88), .val (.int v89), .val (.int v90), .val (.ref a91), .val (.int v93), .val (.ref a94), .val (.int v97), .val (.int v99), .val (.int v101), .val (.int v103), .val (.int v105), .unset]) (pc' := 196) C at_194 rfl rfl ?_
    intro v105 hv105
    refine Wk.aload (pc' := 198) C at_196 rfl rfl rfl ?_
    refine Wk.callV (pc' := 201) (rm := { frames := 0, cells := 0, slots := 0, locals := 0 }) (W0 := 0) (q := 0) (argsL := []) (st := []) C rfl (w18 hw) (w19 hw) (w21 hw) (w20 hw) (w4 hw) (w22 hw) (by decide) (fun h O => rm3 l Z a0 hw a94 ((a91, ArrC Z .byte 3 f92) :: []) 0 3 (min (i + 5) 3) f92 a91 b95 nx104 h n0 O rfl hg5 (Nat.min_le_right _ _) (by decide)) (by decide) (by decide) (by decide) (by decide) at_198 rfl pd_1 rfl rfl rfl rfl ?_
    rintro _ h' ⟨nx106, hnx106, rfl, O'⟩
    refine ⟨_, O', ?_⟩
    have hg6 : nx106.toInt = ((min (i + 6) 3 : Nat) : Int) := by rw [hnx106]; unfold stp; split <;> omega
    change Wk p l e _ m _ below meth c _ _ n0 ((a94, ObjC Z "com/example/nisaba/nisaba/tokenizer/Decoding" ks_0 [.ref a91, .int nx106, .ref b95]) :: (a91, ArrC Z .byte 3 f92) :: []) 3 11 201 #[.val (.int x0), .val (.int x1), .val (.int x2), .val (.int (3 : Int32)), .val (.int v87), .val (.int v88), .val (.int v89), .val (.int v90), .val (.ref a91), .val (.int v93), .val (.ref a94), .val (.int v97), .val (.int v99), .val (.int v101), .val (.int v103), .val (.int v105), .unset] [.int (Rd f92 3 (min (i + 5) 3))]
    refine Wk.istoreV (fun v107 => #[.val (.int x0), .val (.int x1), .val (.int x2), .val (.int (3 : Int32)), .val (.int v87), .val (.int v88), .val (.int v89), .val (.int v90), .val (.ref a91), .val (.int v93), .val (.ref a94), .val (.int v97), .val (.int v99), .val (.int v101), .val (.int v103), .val (.int v105), .val (.int v107)]) (pc' := 203) C at_201 rfl rfl ?_
    intro v107 hv107
    refine Wk.iload (pc' := 205) C at_203 rfl rfl ?_
    refine Wk.aload (pc' := 207) C at_205 rfl rfl rfl ?_
    refine Wk.iload (pc' := 209) C at_207 rfl rfl ?_
    refine Wk.callS (pc' := 212) (rm := { frames := 0, cells := 0, slots := 0, locals := 0 }) (W0 := 1) (argsL := [.ref a91, .int v93]) (st := [.int v97]) C (w23 hw) (w24 hw) (w25 hw) (w26 hw) (by decide) (fun h O => rm4 l Z a0 hw a91 v93 ((a94, ObjC Z "com/example/nisaba/nisaba/tokenizer/Decoding" ks_0 [.ref a91, .int nx106, .ref b95]) :: (a91, ArrC Z .byte 3 f92) :: []) 1 3 i f92 h n0 O rfl hi (by decide)) (by decide) (by decide) (by decide) (by decide) at_209 rfl pd_2 rfl rfl rfl rfl ?_
    rintro _ h' ⟨rfl, O'⟩
    refine ⟨_, O', ?_⟩
    change Wk p l e _ m _ below meth c _ _ n0 ((a94, ObjC Z "com/example/nisaba/nisaba/tokenizer/Decoding" ks_0 [.ref a91, .int nx106, .ref b95]) :: (a91, ArrC Z .byte 3 f92) :: []) 3 11 212 #[.val (.int x0), .val (.int x1), .val (.int x2), .val (.int (3 : Int32)), .val (.int v87), .val (.int v88), .val (.int v89), .val (.int v90), .val (.ref a91), .val (.int v93), .val (.ref a94), .val (.int v97), .val (.int v99), .val (.int v101), .val (.int v103), .val (.int v105), .val (.int v107)] [.int (Ex f92 3 i), .int v97]
    refine Wk.icmp_ne (pcT := 289) (pcF := 215) C at_212 (by decide) (by decide) rfl (fun c108 => (show False from c108 (hv97.trans (own_re hb))).elim) (fun c108 => ?_)
    refine Wk.iload (pc' := 217) C at_215 rfl rfl ?_
    refine Wk.aload (pc' := 219) C at_217 rfl rfl rfl ?_
    refine Wk.iload (pc' := 221) C at_219 rfl rfl ?_
    refine Wk.iconst (z := (1 : Int32)) (pc' := 222) C at_221 rfl rfl ?_
    refine Wk.iadd (pc' := 223) C at_222 rfl ?_
    refine Wk.callS (pc' := 226) (rm := { frames := 0, cells := 0, slots := 0, locals := 0 }) (W0 := 1) (argsL := [.ref a91, .int (v93 + (1 : Int32))]) (st := [.int v99]) C (w23 hw) (w24 hw) (w25 hw) (w26 hw) (by decide) (fun h O => rm4 l Z a0 hw a91 (v93 + (1 : Int32)) ((a94, ObjC Z "com/example/nisaba/nisaba/tokenizer/Decoding" ks_0 [.ref a91, .int nx106, .ref b95]) :: (a91, ArrC Z .byte 3 f92) :: []) 1 3 (i + 1) f92 h n0 O rfl (own_add hi (rfl : (1 : Int32).toInt = ((1 : Nat) : Int)) (by omega) (by omega)) (by decide)) (by decide) (by decide) (by decide) (by decide) at_223 rfl pd_2 rfl rfl rfl rfl ?_
    rintro _ h' ⟨rfl, O'⟩
    refine ⟨_, O', ?_⟩
    change Wk p l e _ m _ below meth c _ _ n0 ((a94, ObjC Z "com/example/nisaba/nisaba/tokenizer/Decoding" ks_0 [.ref a91, .int nx106, .ref b95]) :: (a91, ArrC Z .byte 3 f92) :: []) 3 11 226 #[.val (.int x0), .val (.int x1), .val (.int x2), .val (.int (3 : Int32)), .val (.int v87), .val (.int v88), .val (.int v89), .val (.int v90), .val (.ref a91), .val (.int v93), .val (.ref a94), .val (.int v97), .val (.int v99), .val (.int v101), .val (.int v103), .val (.int v105), .val (.int v107)] [.int (Ex f92 3 (i + 1)), .int v99]
    refine Wk.icmp_ne (pcT := 289) (pcF := 229) C at_226 (by decide) (by decide) rfl (fun c109 => (show False from c109 (hv99.trans (own_re hb))).elim) (fun c109 => ?_)
    refine Wk.iload (pc' := 231) C at_229 rfl rfl ?_
    refine Wk.aload (pc' := 233) C at_231 rfl rfl rfl ?_
    refine Wk.iload (pc' := 235) C at_233 rfl rfl ?_
    refine Wk.iconst (z := (2 : Int32)) (pc' := 236) C at_235 rfl rfl ?_
    refine Wk.iadd (pc' := 237) C at_236 rfl ?_
    refine Wk.callS (pc' := 240) (rm := { frames := 0, cells := 0, slots := 0, locals := 0 }) (W0 := 1) (argsL := [.ref a91, .int (v93 + (2 : Int32))]) (st := [.int v101]) C (w23 hw) (w24 hw) (w25 hw) (w26 hw) (by decide) (fun h O => rm4 l Z a0 hw a91 (v93 + (2 : Int32)) ((a94, ObjC Z "com/example/nisaba/nisaba/tokenizer/Decoding" ks_0 [.ref a91, .int nx106, .ref b95]) :: (a91, ArrC Z .byte 3 f92) :: []) 1 3 (i + 2) f92 h n0 O rfl (own_add hi (rfl : (2 : Int32).toInt = ((2 : Nat) : Int)) (by omega) (by omega)) (by decide)) (by decide) (by decide) (by decide) (by decide) at_237 rfl pd_2 rfl rfl rfl rfl ?_
    rintro _ h' ⟨rfl, O'⟩
    refine ⟨_, O', ?_⟩
    change Wk p l e _ m _ below meth c _ _ n0 ((a94, ObjC Z "com/example/nisaba/nisaba/tokenizer/Decoding" ks_0 [.ref a91, .int nx106, .ref b95]) :: (a91, ArrC Z .byte 3 f92) :: []) 3 11 240 #[.val (.int x0), .val (.int x1), .val (.int x2), .val (.int (3 : Int32)), .val (.int v87), .val (.int v88), .val (.int v89), .val (.int v90), .val (.ref a91), .val (.int v93), .val (.ref a94), .val (.int v97), .val (.int v99), .val (.int v101), .val (.int v103), .val (.int v105), .val (.int v107)] [.int (Ex f92 3 (i + 2)), .int v101]
    refine Wk.icmp_ne (pcT := 289) (pcF := 243) C at_240 (by decide) (by decide) rfl (fun c110 => (show False from c110 (hv101.trans (own_re hb))).elim) (fun c110 => ?_)
    refine Wk.iload (pc' := 245) C at_243 rfl rfl ?_
    refine Wk.aload (pc' := 247) C at_245 rfl rfl rfl ?_
    refine Wk.iload (pc' := 249) C at_247 rfl rfl ?_
    refine Wk.iconst (z := (3 : Int32)) (pc' := 250) C at_249 rfl rfl ?_
    refine Wk.iadd (pc' := 251) C at_250 rfl ?_
    refine Wk.callS (pc' := 254) (rm := { frames := 0, cells := 0, slots := 0, locals := 0 }) (W0 := 1) (argsL := [.ref a91, .int (v93 + (3 : Int32))]) (st := [.int v103]) C (w23 hw) (w24 hw) (w25 hw) (w26 hw) (by decide) (fun h O => rm4 l Z a0 hw a91 (v93 + (3 : Int32)) ((a94, ObjC Z "com/example/nisaba/nisaba/tokenizer/Decoding" ks_0 [.ref a91, .int nx106, .ref b95]) :: (a91, ArrC Z .byte 3 f92) :: []) 1 3 (i + 3) f92 h n0 O rfl (own_add hi (rfl : (3 : Int32).toInt = ((3 : Nat) : Int)) (by omega) (by omega)) (by decide)) (by decide) (by decide) (by decide) (by decide) at_251 rfl pd_2 rfl rfl rfl rfl ?_
    rintro _ h' ⟨rfl, O'⟩
    refine ⟨_, O', ?_⟩
    change Wk p l e _ m _ below meth c _ _ n0 ((a94, ObjC Z "com/example/nisaba/nisaba/tokenizer/Decoding" ks_0 [.ref a91, .int nx106, .ref b95]) :: (a91, ArrC Z .byte 3 f92) :: []) 3 11 254 #[.val (.int x0), .val (.int x1), .val (.int x2), .val (.int (3 : Int32)), .val (.int v87), .val (.int v88), .val (.int v89), .val (.int v90), .val (.ref a91), .val (.int v93), .val (.ref a94), .val (.int v97), .val (.int v99), .val (.int v101), .val (.int v103), .val (.int v105), .val (.int v107)] [.int (Ex f92 3 (i + 3)), .int v103]
    refine Wk.icmp_ne (pcT := 289) (pcF := 257) C at_254 (by decide) (by decide) rfl (fun c111 => (show False from c111 (hv103.trans (own_re hb))).elim) (fun c111 => ?_)
    refine Wk.iload (pc' := 259) C at_257 rfl rfl ?_
    refine Wk.aload (pc' := 261) C at_259 rfl rfl rfl ?_
    refine Wk.iload (pc' := 263) C at_261 rfl rfl ?_
    refine Wk.iconst (z := (4 : Int32)) (pc' := 264) C at_263 rfl rfl ?_
    refine Wk.iadd (pc' := 265) C at_264 rfl ?_
    refine Wk.callS (pc' := 268) (rm := { frames := 0, cells := 0, slots := 0, locals := 0 }) (W0 := 1) (argsL := [.ref a91, .int (v93 + (4 : Int32))]) (st := [.int v105]) C (w23 hw) (w24 hw) (w25 hw) (w26 hw) (by decide) (fun h O => rm4 l Z a0 hw a91 (v93 + (4 : Int32)) ((a94, ObjC Z "com/example/nisaba/nisaba/tokenizer/Decoding" ks_0 [.ref a91, .int nx106, .ref b95]) :: (a91, ArrC Z .byte 3 f92) :: []) 1 3 (i + 4) f92 h n0 O rfl (own_add hi (rfl : (4 : Int32).toInt = ((4 : Nat) : Int)) (by omega) (by omega)) (by decide)) (by decide) (by decide) (by decide) (by decide) at_265 rfl pd_2 rfl rfl rfl rfl ?_
    rintro _ h' ⟨rfl, O'⟩
    refine ⟨_, O', ?_⟩
    change Wk p l e _ m _ below meth c _ _ n0 ((a94, ObjC Z "com/example/nisaba/nisaba/tokenizer/Decoding" ks_0 [.ref a91, .int nx106, .ref b95]) :: (a91, ArrC Z .byte 3 f92) :: []) 3 11 268 #[.val (.int x0), .val (.int x1), .val (.int x2), .val (.int (3 : Int32)), .val (.int v87), .val (.int v88), .val (.int v89), .val (.int v90), .val (.ref a91), .val (.int v93), .val (.ref a94), .val (.int v97), .val (.int v99), .val (.int v101), .val (.int v103), .val (.int v105), .val (.int v107)] [.int (Ex f92 3 (i + 4)), .int v105]
    refine Wk.icmp_ne (pcT := 289) (pcF := 271) C at_268 (by decide) (by decide) rfl (fun c112 => (show False from c112 (hv105.trans (own_re hb))).elim) (fun c112 => ?_)
    refine Wk.iload (pc' := 273) C at_271 rfl rfl ?_
    refine Wk.aload (pc' := 275) C at_273 rfl rfl rfl ?_
    refine Wk.iload (pc' := 277) C at_275 rfl rfl ?_
    refine Wk.iconst (z := (5 : Int32)) (pc' := 278) C at_277 rfl rfl ?_
    refine Wk.iadd (pc' := 279) C at_278 rfl ?_
    refine Wk.callS (pc' := 282) (rm := { frames := 0, cells := 0, slots := 0, locals := 0 }) (W0 := 1) (argsL := [.ref a91, .int (v93 + (5 : Int32))]) (st := [.int v107]) C (w23 hw) (w24 hw) (w25 hw) (w26 hw) (by decide) (fun h O => rm4 l Z a0 hw a91 (v93 + (5 : Int32)) ((a94, ObjC Z "com/example/nisaba/nisaba/tokenizer/Decoding" ks_0 [.ref a91, .int nx106, .ref b95]) :: (a91, ArrC Z .byte 3 f92) :: []) 1 3 (i + 5) f92 h n0 O rfl (own_add hi (rfl : (5 : Int32).toInt = ((5 : Nat) : Int)) (by omega) (by omega)) (by decide)) (by decide) (by decide) (by decide) (by decide) at_279 rfl pd_2 rfl rfl rfl rfl ?_
    rintro _ h' ⟨rfl, O'⟩
    refine ⟨_, O', ?_⟩
    change Wk p l e _ m _ below meth c _ _ n0 ((a94, ObjC Z "com/example/nisaba/nisaba/tokenizer/Decoding" ks_0 [.ref a91, .int nx106, .ref b95]) :: (a91, ArrC Z .byte 3 f92) :: []) 3 11 282 #[.val (.int x0), .val (.int x1), .val (.int x2), .val (.int (3 : Int32)), .val (.int v87), .val (.int v88), .val (.int v89), .val (.int v90), .val (.ref a91), .val (.int v93), .val (.ref a94), .val (.int v97), .val (.int v99), .val (.int v101), .val (.int v103), .val (.int v105), .val (.int v107)] [.int (Ex f92 3 (i + 5)), .int v107]
    refine Wk.icmp_ne (pcT := 289) (pcF := 285) C at_282 (by decide) (by decide) rfl (fun c113 => (show False from c113 (hv107.trans (own_re hb))).elim) (fun c113 => ?_)
    refine Wk.iconst (z := (1 : Int32)) (pc' := 286) C at_285 rfl rfl ?_
    refine Wk.goto (pc' := 290) C at_286 (by decide) (by decide) ?_
    exact Wk.retN C J at_290 (by decide) (by decide) (by simp) rfl (fun h O => rfl)
  · skip
    subst hn
    refine Wk.iloadN (pc' := 8) C at_7 rfl rfl ?_
    refine Wk.i2b (pc' := 9) C at_8 rfl ?_
    refine Wk.istoreV (fun v114 => #[.val (.int x0), .val (.int x1), .val (.int x2), .val (.int (4 : Int32)), .val (.int v114), .unset, .unset, .unset, .unset, .unset, .unset, .unset, .unset, .unset, .unset, .unset, .unset]) (pc' := 11) C at_9 rfl rfl ?_
    intro v114 hv114
    refine Wk.iloadN (pc' := 12) C at_11 rfl rfl ?_
    refine Wk.bipush (z := (8 : Int32)) (pc' := 14) C at_12 rfl rfl ?_
    refine Wk.iushr (pc' := 15) C at_14 rfl ?_
    refine Wk.i2b (pc' := 16) C at_15 rfl ?_
    refine Wk.istoreV (fun v115 => #[.val (.int x0), .val (.int x1), .val (.int x2), .val (.int (4 : Int32)), .val (.int v114), .val (.int v115), .unset, .unset, .unset, .unset, .unset, .unset, .unset, .unset, .unset, .unset, .unset]) (pc' := 18) C at_16 rfl rfl ?_
    intro v115 hv115
    refine Wk.iloadN (pc' := 19) C at_18 rfl rfl ?_
    refine Wk.bipush (z := (16 : Int32)) (pc' := 21) C at_19 rfl rfl ?_
    refine Wk.iushr (pc' := 22) C at_21 rfl ?_
    refine Wk.i2b (pc' := 23) C at_22 rfl ?_
    refine Wk.istoreV (fun v116 => #[.val (.int x0), .val (.int x1), .val (.int x2), .val (.int (4 : Int32)), .val (.int v114), .val (.int v115), .val (.int v116), .unset, .unset, .unset, .unset, .unset, .unset, .unset, .unset, .unset, .unset]) (pc' := 25) C at_23 rfl rfl ?_
    intro v116 hv116
    refine Wk.iloadN (pc' := 26) C at_25 rfl rfl ?_
    refine Wk.bipush (z := (24 : Int32)) (pc' := 28) C at_26 rfl rfl ?_
    refine Wk.iushr (pc' := 29) C at_28 rfl ?_
    refine Wk.i2b (pc' := 30) C at_29 rfl ?_
    refine Wk.istoreV (fun v117 => #[.val (.int x0), .val (.int x1), .val (.int x2), .val (.int (4 : Int32)), .val (.int v114), .val (.int v115), .val (.int v116), .val (.int v117), .unset, .unset, .unset, .unset, .unset, .unset, .unset, .unset, .unset]) (pc' := 32) C at_30 rfl rfl ?_
    intro v117 hv117
    refine Wk.iloadN (pc' := 33) C at_32 rfl rfl ?_
    refine Wk.if_ne (pcT := 44) (pcF := 36) C at_33 (by decide) (by decide) rfl (fun _ => ?_) (fun q => absurd q (by decide))
    refine Wk.iloadN (pc' := 45) C at_44 rfl rfl ?_
    refine Wk.iconst (z := (1 : Int32)) (pc' := 46) C at_45 rfl rfl ?_
    refine Wk.icmp_ne (pcT := 62) (pcF := 49) C at_46 (by decide) (by decide) rfl (fun _ => ?_) (fun q => absurd q (by decide))
    refine Wk.iloadN (pc' := 63) C at_62 rfl rfl ?_
    refine Wk.iconst (z := (2 : Int32)) (pc' := 64) C at_63 rfl rfl ?_
    refine Wk.icmp_ne (pcT := 85) (pcF := 67) C at_64 (by decide) (by decide) rfl (fun _ => ?_) (fun q => absurd q (by decide))
    refine Wk.iloadN (pc' := 86) C at_85 rfl rfl ?_
    refine Wk.iconst (z := (3 : Int32)) (pc' := 87) C at_86 rfl rfl ?_
    refine Wk.icmp_ne (pcT := 113) (pcF := 90) C at_87 (by decide) (by decide) rfl (fun _ => ?_) (fun q => absurd q (by decide))
    refine Wk.iconst (z := (4 : Int32)) (pc' := 114) C at_113 rfl rfl ?_
    refine Wk.newarray (pc' := 116) (aty := .byte) (nn := 4) (cap := 4) (d := 0) C (w1 hw) at_114 rfl rfl (by decide) (by decide) (by decide) (by decide) (by decide) rfl ?_
    intro a118
    change Wk p l e _ m _ below meth c _ _ n0 ((a118, ArrC Z .byte 4 (fun _ => 0)) :: []) 1 4 116 #[.val (.int x0), .val (.int x1), .val (.int x2), .val (.int (4 : Int32)), .val (.int v114), .val (.int v115), .val (.int v116), .val (.int v117), .unset, .unset, .unset, .unset, .unset, .unset, .unset, .unset, .unset] [.ref a118]
    refine Wk.dup (pc' := 117) C at_116 rfl rfl ?_
    refine Wk.iconst (z := (0 : Int32)) (pc' := 118) C at_117 rfl rfl ?_
    refine Wk.iload (pc' := 120) C at_118 rfl rfl ?_
    refine Wk.bastore (pc' := 121) (q := 0) (i := 0) C at_120 rfl (by decide) (by decide) rfl ?_
    change Wk p l e _ m _ below meth c _ _ n0 ((a118, ArrC Z .byte 4 (upd (fun _ => 0) 0 (v114.toInt8.toInt32))) :: []) 1 4 121 #[.val (.int x0), .val (.int x1), .val (.int x2), .val (.int (4 : Int32)), .val (.int v114), .val (.int v115), .val (.int v116), .val (.int v117), .unset, .unset, .unset, .unset, .unset, .unset, .unset, .unset, .unset] [.ref a118]
    refine Wk.dup (pc' := 122) C at_121 rfl rfl ?_
    refine Wk.iconst (z := (1 : Int32)) (pc' := 123) C at_122 rfl rfl ?_
    refine Wk.iload (pc' := 125) C at_123 rfl rfl ?_
    refine Wk.bastore (pc' := 126) (q := 0) (i := 1) C at_125 rfl (by decide) (by decide) rfl ?_
    change Wk p l e _ m _ below meth c _ _ n0 ((a118, ArrC Z .byte 4 (upd (upd (fun _ => 0) 0 (v114.toInt8.toInt32)) 1 (v115.toInt8.toInt32))) :: []) 1 4 126 #[.val (.int x0), .val (.int x1), .val (.int x2), .val (.int (4 : Int32)), .val (.int v114), .val (.int v115), .val (.int v116), .val (.int v117), .unset, .unset, .unset, .unset, .unset, .unset, .unset, .unset, .unset] [.ref a118]
    refine Wk.dup (pc' := 127) C at_126 rfl rfl ?_
    refine Wk.iconst (z := (2 : Int32)) (pc' := 128) C at_127 rfl rfl ?_
    refine Wk.iload (pc' := 130) C at_128 rfl rfl ?_
    refine Wk.bastore (pc' := 131) (q := 0) (i := 2) C at_130 rfl (by decide) (by decide) rfl ?_
    change Wk p l e _ m _ below meth c _ _ n0 ((a118, ArrC Z .byte 4 (upd (upd (upd (fun _ => 0) 0 (v114.toInt8.toInt32)) 1 (v115.toInt8.toInt32)) 2 (v116.toInt8.toInt32))) :: []) 1 4 131 #[.val (.int x0), .val (.int x1), .val (.int x2), .val (.int (4 : Int32)), .val (.int v114), .val (.int v115), .val (.int v116), .val (.int v117), .unset, .unset, .unset, .unset, .unset, .unset, .unset, .unset, .unset] [.ref a118]
    refine Wk.dup (pc' := 132) C at_131 rfl rfl ?_
    refine Wk.iconst (z := (3 : Int32)) (pc' := 133) C at_132 rfl rfl ?_
    refine Wk.iload (pc' := 135) C at_133 rfl rfl ?_
    refine Wk.bastore (pc' := 136) (q := 0) (i := 3) C at_135 rfl (by decide) (by decide) rfl ?_
    change Wk p l e _ m _ below meth c _ _ n0 ((a118, ArrC Z .byte 4 (upd (upd (upd (upd (fun _ => 0) 0 (v114.toInt8.toInt32)) 1 (v115.toInt8.toInt32)) 2 (v116.toInt8.toInt32)) 3 (v117.toInt8.toInt32))) :: []) 1 4 136 #[.val (.int x0), .val (.int x1), .val (.int x2), .val (.int (4 : Int32)), .val (.int v114), .val (.int v115), .val (.int v116), .val (.int v117), .unset, .unset, .unset, .unset, .unset, .unset, .unset, .unset, .unset] [.ref a118]
    refine Wk.astore (Ls' := #[.val (.int x0), .val (.int x1), .val (.int x2), .val (.int (4 : Int32)), .val (.int v114), .val (.int v115), .val (.int v116), .val (.int v117), .val (.ref a118), .unset, .unset, .unset, .unset, .unset, .unset, .unset, .unset]) (pc' := 138) C at_136 rfl rfl rfl ?_
    generalize hf119 : ((upd (upd (upd (upd (fun _ => 0) 0 (v114.toInt8.toInt32)) 1 (v115.toInt8.toInt32)) 2 (v116.toInt8.toInt32)) 3 (v117.toInt8.toInt32)) : Nat → Int32) = f119
    have hb : ∀ j, Bt (f119 j) := by rw [← hf119]; exact (upd_rng (upd_rng (upd_rng (upd_rng bt0 (bt8 _)) (bt8 _)) (bt8 _)) (bt8 _))
    refine Wk.iloadN (pc' := 139) C at_138 rfl rfl ?_
    refine Wk.ldcInt (z := (2147483647 : Int32)) (pc' := 141) C (w0 hw) at_139 rfl ?_
    refine Wk.iand (pc' := 142) C at_141 rfl ?_
    refine Wk.iloadN (pc' := 143) C at_142 rfl rfl ?_
    refine Wk.iconst (z := (1 : Int32)) (pc' := 144) C at_143 rfl rfl ?_
    refine Wk.iadd (pc' := 145) C at_144 rfl ?_
    refine Wk.irem (pc' := 146) C at_145 (by decide) rfl ?_
    refine Wk.istoreV (fun v120 => #[.val (.int x0), .val (.int x1), .val (.int x2), .val (.int (4 : Int32)), .val (.int v114), .val (.int v115), .val (.int v116), .val (.int v117), .val (.ref a118), .val (.int v120), .unset, .unset, .unset, .unset, .unset, .unset, .unset]) (pc' := 148) C at_146 rfl rfl ?_
    intro v120 hv120
    have hst := own_start x2 v120 _ 5 rfl (by decide) hv120
    obtain ⟨i, hi⟩ : ∃ i : Nat, v120.toInt = (i : Int) := ⟨v120.toInt.toNat, by omega⟩
    have hin : i ≤ 4 := by omega
    have hg0 : v120.toInt = ((min (i + 0) 4 : Nat) : Int) := by rw [hi]; omega
    refine Wk.new (pc' := 151) (ks := ks_0) (vs := [.null, .int (0 : Int32), .null]) C (w2 hw) (w3 hw) (w4 hw) (lays_ks_0 hw) at_148 rfl (by decide) (by decide) rfl ?_
    intro a121
    change Wk p l e _ m _ below meth c _ _ n0 ((a121, ObjC Z "com/example/nisaba/nisaba/tokenizer/Decoding" ks_0 [.null, .int (0 : Int32), .null]) :: (a118, ArrC Z .byte 4 f119) :: []) 2 8 151 #[.val (.int x0), .val (.int x1), .val (.int x2), .val (.int (4 : Int32)), .val (.int v114), .val (.int v115), .val (.int v116), .val (.int v117), .val (.ref a118), .val (.int v120), .unset, .unset, .unset, .unset, .unset, .unset, .unset] [.ref a121]
    refine Wk.dup (pc' := 152) C at_151 rfl rfl ?_
    refine Wk.aload (pc' := 154) C at_152 rfl rfl rfl ?_
    refine Wk.iload (pc' := 156) C at_154 rfl rfl ?_
    refine Wk.callI (pc' := 159) (rm := { frames := 1, cells := 1, slots := 4, locals := 13 }) (W0 := 1) (a := a121) (argsL := [.ref a118, .int v120]) (st := [.ref a121]) C rfl rfl (w5 hw) (w6 hw) (w4 hw) (w7 hw) (by decide) (fun h O => rm1 l Z a0 hw a121 a118 v120 ((a118, ArrC Z .byte 4 f119) :: []) 0 4 i f119 h n0 O rfl hi hin (by decide)) (by decide) (by decide) (by decide) (by decide) at_156 rfl pd_0 rfl rfl rfl rfl ?_
    rintro _ h' ⟨rfl, b122, O'⟩
    refine ⟨_, O', ?_⟩
    change Wk p l e _ m _ below meth c _ _ n0 ((a121, ObjC Z "com/example/nisaba/nisaba/tokenizer/Decoding" ks_0 [.ref a118, .int v120, .ref b122]) :: (a118, ArrC Z .byte 4 f119) :: []) 3 12 159 #[.val (.int x0), .val (.int x1), .val (.int x2), .val (.int (4 : Int32)), .val (.int v114), .val (.int v115), .val (.int v116), .val (.int v117), .val (.ref a118), .val (.int v120), .unset, .unset, .unset, .unset, .unset, .unset, .unset] [.ref a121]
    refine Wk.astore (Ls' := #[.val (.int x0), .val (.int x1), .val (.int x2), .val (.int (4 : Int32)), .val (.int v114), .val (.int v115), .val (.int v116), .val (.int v117), .val (.ref a118), .val (.int v120), .val (.ref a121), .unset, .unset, .unset, .unset, .unset, .unset]) (pc' := 161) C at_159 rfl rfl rfl ?_
    refine Wk.aload (pc' := 163) C at_161 rfl rfl rfl ?_
    refine Wk.callV (pc' := 166) (rm := { frames := 0, cells := 0, slots := 0, locals := 0 }) (W0 := 0) (q := 0) (argsL := []) (st := []) C rfl (w18 hw) (w19 hw) (w21 hw) (w20 hw) (w4 hw) (w22 hw) (by decide) (fun h O => rm3 l Z a0 hw a121 ((a118, ArrC Z .byte 4 f119) :: []) 0 4 (min (i + 0) 4) f119 a118 b122 v120 h n0 O rfl hg0 (Nat.min_le_right _ _) (by decide)) (by decide) (by decide) (by decide) (by decide) at_163 rfl pd_1 rfl rfl rfl rfl ?_
    rintro _ h' ⟨nx123, hnx123, rfl, O'⟩
    refine ⟨_, O', ?_⟩
    have hg1 : nx123.toInt = ((min (i + 1) 4 : Nat) : Int) := by rw [hnx123]; unfold stp; split <;> omega
    change Wk p l e _ m _ below meth c _ _ n0 ((a121, ObjC Z "com/example/nisaba/nisaba/tokenizer/Decoding" ks_0 [.ref a118, .int nx123, .ref b122]) :: (a118, ArrC Z .byte 4 f119) :: []) 3 12 166 #[.val (.int x0), .val (.int x1), .val (.int x2), .val (.int (4 : Int32)), .val (.int v114), .val (.int v115), .val (.int v116), .val (.int v117), .val (.ref a118), .val (.int v120), .val (.ref a121), .unset, .unset, .unset, .unset, .unset, .unset] [.int (Rd f119 4 (min (i + 0) 4))]
    refine Wk.istoreV (fun v124 => #[.val (.int x0), .val (.int x1), .val (.int x2), .val (.int (4 : Int32)), .val (.int v114), .val (.int v115), .val (.int v116), .val (.int v117), .val (.ref a118), .val (.int v120), .val (.ref a121), .val (.int v124), .unset, .unset, .unset, .unset, .unset]) (pc' := 168) C at_166 rfl rfl ?_
    intro v124 hv124
    refine Wk.aload (pc' := 170) C at_168 rfl rfl rfl ?_
    refine Wk.callV (pc' := 173) (rm := { frames := 0, cells := 0, slots := 0, locals := 0 }) (W0 := 0) (q := 0) (argsL := []) (st := []) C rfl (w18 hw) (w19 hw) (w21 hw) (w20 hw) (w4 hw) (w22 hw) (by decide) (fun h O => rm3 l Z a0 hw a121 ((a118, ArrC Z .byte 4 f119) :: []) 0 4 (min (i + 1) 4) f119 a118 b122 nx123 h n0 O rfl hg1 (Nat.min_le_right _ _) (by decide)) (by decide) (by decide) (by decide) (by decide) at_170 rfl pd_1 rfl rfl rfl rfl ?_
    rintro _ h' ⟨nx125, hnx125, rfl, O'⟩
    refine ⟨_, O', ?_⟩
    have hg2 : nx125.toInt = ((min (i + 2) 4 : Nat) : Int) := by rw [hnx125]; unfold stp; split <;> omega
    change Wk p l e _ m _ below meth c _ _ n0 ((a121, ObjC Z "com/example/nisaba/nisaba/tokenizer/Decoding" ks_0 [.ref a118, .int nx125, .ref b122]) :: (a118, ArrC Z .byte 4 f119) :: []) 3 12 173 #[.val (.int x0), .val (.int x1), .val (.int x2), .val (.int (4 : Int32)), .val (.int v114), .val (.int v115), .val (.int v116), .val (.int v117), .val (.ref a118), .val (.int v120), .val (.ref a121), .val (.int v124), .unset, .unset, .unset, .unset, .unset] [.int (Rd f119 4 (min (i + 1) 4))]
    refine Wk.istoreV (fun v126 => #[.val (.int x0), .val (.int x1), .val (.int x2), .val (.int (4 : Int32)), .val (.int v114), .val (.int v115), .val (.int v116), .val (.int v117), .val (.ref a118), .val (.int v120), .val (.ref a121), .val (.int v124), .val (.int v126), .unset, .unset, .unset, .unset]) (pc' := 175) C at_173 rfl rfl ?_
    intro v126 hv126
    refine Wk.aload (pc' := 177) C at_175 rfl rfl rfl ?_
    refine Wk.callV (pc' := 180) (rm := { frames := 0, cells := 0, slots := 0, locals := 0 }) (W0 := 0) (q := 0) (argsL := []) (st := []) C rfl (w18 hw) (w19 hw) (w21 hw) (w20 hw) (w4 hw) (w22 hw) (by decide) (fun h O => rm3 l Z a0 hw a121 ((a118, ArrC Z .byte 4 f119) :: []) 0 4 (min (i + 2) 4) f119 a118 b122 nx125 h n0 O rfl hg2 (Nat.min_le_right _ _) (by decide)) (by decide) (by decide) (by decide) (by decide) at_177 rfl pd_1 rfl rfl rfl rfl ?_
    rintro _ h' ⟨nx127, hnx127, rfl, O'⟩
    refine ⟨_, O', ?_⟩
    have hg3 : nx127.toInt = ((min (i + 3) 4 : Nat) : Int) := by rw [hnx127]; unfold stp; split <;> omega
    change Wk p l e _ m _ below meth c _ _ n0 ((a121, ObjC Z "com/example/nisaba/nisaba/tokenizer/Decoding" ks_0 [.ref a118, .int nx127, .ref b122]) :: (a118, ArrC Z .byte 4 f119) :: []) 3 12 180 #[.val (.int x0), .val (.int x1), .val (.int x2), .val (.int (4 : Int32)), .val (.int v114), .val (.int v115), .val (.int v116), .val (.int v117), .val (.ref a118), .val (.int v120), .val (.ref a121), .val (.int v124), .val (.int v126), .unset, .unset, .unset, .unset] [.int (Rd f119 4 (min (i + 2) 4))]
    refine Wk.istoreV (fun v128 => #[.val (.int x0), .val (.int x1), .val (.int x2), .val (.int (4 : Int32)), .val (.int v114), .val (.int v115), .val (.int v116), .val (.int v117), .val (.ref a118), .val (.int v120), .val (.ref a121), .val (.int v124), .val (.int v126), .val (.int v128), .unset, .unset, .unset]) (pc' := 182) C at_180 rfl rfl ?_
    intro v128 hv128
    refine Wk.aload (pc' := 184) C at_182 rfl rfl rfl ?_
    refine Wk.callV (pc' := 187) (rm := { frames := 0, cells := 0, slots := 0, locals := 0 }) (W0 := 0) (q := 0) (argsL := []) (st := []) C rfl (w18 hw) (w19 hw) (w21 hw) (w20 hw) (w4 hw) (w22 hw) (by decide) (fun h O => rm3 l Z a0 hw a121 ((a118, ArrC Z .byte 4 f119) :: []) 0 4 (min (i + 3) 4) f119 a118 b122 nx127 h n0 O rfl hg3 (Nat.min_le_right _ _) (by decide)) (by decide) (by decide) (by decide) (by decide) at_184 rfl pd_1 rfl rfl rfl rfl ?_
    rintro _ h' ⟨nx129, hnx129, rfl, O'⟩
    refine ⟨_, O', ?_⟩
    have hg4 : nx129.toInt = ((min (i + 4) 4 : Nat) : Int) := by rw [hnx129]; unfold stp; split <;> omega
    change Wk p l e _ m _ below meth c _ _ n0 ((a121, ObjC Z "com/example/nisaba/nisaba/tokenizer/Decoding" ks_0 [.ref a118, .int nx129, .ref b122]) :: (a118, ArrC Z .byte 4 f119) :: []) 3 12 187 #[.val (.int x0), .val (.int x1), .val (.int x2), .val (.int (4 : Int32)), .val (.int v114), .val (.int v115), .val (.int v116), .val (.int v117), .val (.ref a118), .val (.int v120), .val (.ref a121), .val (.int v124), .val (.int v126), .val (.int v128), .unset, .unset, .unset] [.int (Rd f119 4 (min (i + 3) 4))]
    refine Wk.istoreV (fun v130 => #[.val (.int x0), .val (.int x1), .val (.int x2), .val (.int (4 : Int32)), .val (.int v114), .val (.int v115), .val (.int v116), .val (.int v117), .val (.ref a118), .val (.int v120), .val (.ref a121), .val (.int v124), .val (.int v126), .val (.int v128), .val (.int v130), .unset, .unset]) (pc' := 189) C at_187 rfl rfl ?_
    intro v130 hv130
    refine Wk.aload (pc' := 191) C at_189 rfl rfl rfl ?_
    refine Wk.callV (pc' := 194) (rm := { frames := 0, cells := 0, slots := 0, locals := 0 }) (W0 := 0) (q := 0) (argsL := []) (st := []) C rfl (w18 hw) (w19 hw) (w21 hw) (w20 hw) (w4 hw) (w22 hw) (by decide) (fun h O => rm3 l Z a0 hw a121 ((a118, ArrC Z .byte 4 f119) :: []) 0 4 (min (i + 4) 4) f119 a118 b122 nx129 h n0 O rfl hg4 (Nat.min_le_right _ _) (by decide)) (by decide) (by decide) (by decide) (by decide) at_191 rfl pd_1 rfl rfl rfl rfl ?_
    rintro _ h' ⟨nx131, hnx131, rfl, O'⟩
    refine ⟨_, O', ?_⟩
    have hg5 : nx131.toInt = ((min (i + 5) 4 : Nat) : Int) := by rw [hnx131]; unfold stp; split <;> omega
    change Wk p l e _ m _ below meth c _ _ n0 ((a121, ObjC Z "com/example/nisaba/nisaba/tokenizer/Decoding" ks_0 [.ref a118, .int nx131, .ref b122]) :: (a118, ArrC Z .byte 4 f119) :: []) 3 12 194 #[.val (.int x0), .val (.int x1), .val (.int x2), .val (.int (4 : Int32)), .val (.int v114), .val (.int v115), .val (.int v116), .val (.int v117), .val (.ref a118), .val (.int v120), .val (.ref a121), .val (.int v124), .val (.int v126), .val (.int v128), .val (.int v130), .unset, .unset] [.int (Rd f119 4 (min (i + 4) 4))]
    refine Wk.istoreV (fun v132 => #[.val (.int x0), .val (.int x1), .val (.int x2), .val (.int (4 : Int32)), .val (.int v114), .val (.int v115), .val (.int v116), .val (.int v117), .val (.ref a118), .val (.int v120), .val (.ref a121), .val (.int v124), .val (.int v126), .val (.int v128), .val (.int v130), .val (.int v132), .unset]) (pc' := 196) C at_194 rfl rfl ?_
    intro v132 hv132
    refine Wk.aload (pc' := 198) C at_196 rfl rfl rfl ?_
    refine Wk.callV (pc' := 201) (rm := { frames := 0, cells := 0, slots := 0, locals := 0 }) (W0 := 0) (q := 0) (argsL := []) (st := []) C rfl (w18 hw) (w19 hw) (w21 hw) (w20 hw) (w4 hw) (w22 hw) (by decide) (fun h O => rm3 l Z a0 hw a121 ((a118, ArrC Z .byte 4 f119) :: []) 0 4 (min (i + 5) 4) f119 a118 b122 nx131 h n0 O rfl hg5 (Nat.min_le_right _ _) (by decide)) (by decide) (by decide) (by decide) (by decide) at_198 rfl pd_1 rfl rfl rfl rfl ?_
    rintro _ h' ⟨nx133, hnx133, rfl, O'⟩
    refine ⟨_, O', ?_⟩
    have hg6 : nx133.toInt = ((min (i + 6) 4 : Nat) : Int) := by rw [hnx133]; unfold stp; split <;> omega
    change Wk p l e _ m _ below meth c _ _ n0 ((a121, ObjC Z "com/example/nisaba/nisaba/tokenizer/Decoding" ks_0 [.ref a118, .int nx133, .ref b122]) :: (a118, ArrC Z .byte 4 f119) :: []) 3 12 201 #[.val (.int x0), .val (.int x1), .val (.int x2), .val (.int (4 : Int32)), .val (.int v114), .val (.int v115), .val (.int v116), .val (.int v117), .val (.ref a118), .val (.int v120), .val (.ref a121), .val (.int v124), .val (.int v126), .val (.int v128), .val (.int v130), .val (.int v132), .unset] [.int (Rd f119 4 (min (i + 5) 4))]
    refine Wk.istoreV (fun v134 => #[.val (.int x0), .val (.int x1), .val (.int x2), .val (.int (4 : Int32)), .val (.int v114), .val (.int v115), .val (.int v116), .val (.int v117), .val (.ref a118), .val (.int v120), .val (.ref a121), .val (.int v124), .val (.int v126), .val (.int v128), .val (.int v130), .val (.int v132), .val (.int v134)]) (pc' := 203) C at_201 rfl rfl ?_
    intro v134 hv134
    refine Wk.iload (pc' := 205) C at_203 rfl rfl ?_
    refine Wk.aload (pc' := 207) C at_205 rfl rfl rfl ?_
    refine Wk.iload (pc' := 209) C at_207 rfl rfl ?_
    refine Wk.callS (pc' := 212) (rm := { frames := 0, cells := 0, slots := 0, locals := 0 }) (W0 := 1) (argsL := [.ref a118, .int v120]) (st := [.int v124]) C (w23 hw) (w24 hw) (w25 hw) (w26 hw) (by decide) (fun h O => rm4 l Z a0 hw a118 v120 ((a121, ObjC Z "com/example/nisaba/nisaba/tokenizer/Decoding" ks_0 [.ref a118, .int nx133, .ref b122]) :: (a118, ArrC Z .byte 4 f119) :: []) 1 4 i f119 h n0 O rfl hi (by decide)) (by decide) (by decide) (by decide) (by decide) at_209 rfl pd_2 rfl rfl rfl rfl ?_
    rintro _ h' ⟨rfl, O'⟩
    refine ⟨_, O', ?_⟩
    change Wk p l e _ m _ below meth c _ _ n0 ((a121, ObjC Z "com/example/nisaba/nisaba/tokenizer/Decoding" ks_0 [.ref a118, .int nx133, .ref b122]) :: (a118, ArrC Z .byte 4 f119) :: []) 3 12 212 #[.val (.int x0), .val (.int x1), .val (.int x2), .val (.int (4 : Int32)), .val (.int v114), .val (.int v115), .val (.int v116), .val (.int v117), .val (.ref a118), .val (.int v120), .val (.ref a121), .val (.int v124), .val (.int v126), .val (.int v128), .val (.int v130), .val (.int v132), .val (.int v134)] [.int (Ex f119 4 i), .int v124]
    refine Wk.icmp_ne (pcT := 289) (pcF := 215) C at_212 (by decide) (by decide) rfl (fun c135 => (show False from c135 (hv124.trans (own_re hb))).elim) (fun c135 => ?_)
    refine Wk.iload (pc' := 217) C at_215 rfl rfl ?_
    refine Wk.aload (pc' := 219) C at_217 rfl rfl rfl ?_
    refine Wk.iload (pc' := 221) C at_219 rfl rfl ?_
    refine Wk.iconst (z := (1 : Int32)) (pc' := 222) C at_221 rfl rfl ?_
    refine Wk.iadd (pc' := 223) C at_222 rfl ?_
    refine Wk.callS (pc' := 226) (rm := { frames := 0, cells := 0, slots := 0, locals := 0 }) (W0 := 1) (argsL := [.ref a118, .int (v120 + (1 : Int32))]) (st := [.int v126]) C (w23 hw) (w24 hw) (w25 hw) (w26 hw) (by decide) (fun h O => rm4 l Z a0 hw a118 (v120 + (1 : Int32)) ((a121, ObjC Z "com/example/nisaba/nisaba/tokenizer/Decoding" ks_0 [.ref a118, .int nx133, .ref b122]) :: (a118, ArrC Z .byte 4 f119) :: []) 1 4 (i + 1) f119 h n0 O rfl (own_add hi (rfl : (1 : Int32).toInt = ((1 : Nat) : Int)) (by omega) (by omega)) (by decide)) (by decide) (by decide) (by decide) (by decide) at_223 rfl pd_2 rfl rfl rfl rfl ?_
    rintro _ h' ⟨rfl, O'⟩
    refine ⟨_, O', ?_⟩
    change Wk p l e _ m _ below meth c _ _ n0 ((a121, ObjC Z "com/example/nisaba/nisaba/tokenizer/Decoding" ks_0 [.ref a118, .int nx133, .ref b122]) :: (a118, ArrC Z .byte 4 f119) :: []) 3 12 226 #[.val (.int x0), .val (.int x1), .val (.int x2), .val (.int (4 : Int32)), .val (.int v114), .val (.int v115), .val (.int v116), .val (.int v117), .val (.ref a118), .val (.int v120), .val (.ref a121), .val (.int v124), .val (.int v126), .val (.int v128), .val (.int v130), .val (.int v132), .val (.int v134)] [.int (Ex f119 4 (i + 1)), .int v126]
    refine Wk.icmp_ne (pcT := 289) (pcF := 229) C at_226 (by decide) (by decide) rfl (fun c136 => (show False from c136 (hv126.trans (own_re hb))).elim) (fun c136 => ?_)
    refine Wk.iload (pc' := 231) C at_229 rfl rfl ?_
    refine Wk.aload (pc' := 233) C at_231 rfl rfl rfl ?_
    refine Wk.iload (pc' := 235) C at_233 rfl rfl ?_
    refine Wk.iconst (z := (2 : Int32)) (pc' := 236) C at_235 rfl rfl ?_
    refine Wk.iadd (pc' := 237) C at_236 rfl ?_
    refine Wk.callS (pc' := 240) (rm := { frames := 0, cells := 0, slots := 0, locals := 0 }) (W0 := 1) (argsL := [.ref a118, .int (v120 + (2 : Int32))]) (st := [.int v128]) C (w23 hw) (w24 hw) (w25 hw) (w26 hw) (by decide) (fun h O => rm4 l Z a0 hw a118 (v120 + (2 : Int32)) ((a121, ObjC Z "com/example/nisaba/nisaba/tokenizer/Decoding" ks_0 [.ref a118, .int nx133, .ref b122]) :: (a118, ArrC Z .byte 4 f119) :: []) 1 4 (i + 2) f119 h n0 O rfl (own_add hi (rfl : (2 : Int32).toInt = ((2 : Nat) : Int)) (by omega) (by omega)) (by decide)) (by decide) (by decide) (by decide) (by decide) at_237 rfl pd_2 rfl rfl rfl rfl ?_
    rintro _ h' ⟨rfl, O'⟩
    refine ⟨_, O', ?_⟩
    change Wk p l e _ m _ below meth c _ _ n0 ((a121, ObjC Z "com/example/nisaba/nisaba/tokenizer/Decoding" ks_0 [.ref a118, .int nx133, .ref b122]) :: (a118, ArrC Z .byte 4 f119) :: []) 3 12 240 #[.val (.int x0), .val (.int x1), .val (.int x2), .val (.int (4 : Int32)), .val (.int v114), .val (.int v115), .val (.int v116), .val (.int v117), .val (.ref a118), .val (.int v120), .val (.ref a121), .val (.int v124), .val (.int v126), .val (.int v128), .val (.int v130), .val (.int v132), .val (.int v134)] [.int (Ex f119 4 (i + 2)), .int v128]
    refine Wk.icmp_ne (pcT := 289) (pcF := 243) C at_240 (by decide) (by decide) rfl (fun c137 => (show False from c137 (hv128.trans (own_re hb))).elim) (fun c137 => ?_)
    refine Wk.iload (pc' := 245) C at_243 rfl rfl ?_
    refine Wk.aload (pc' := 247) C at_245 rfl rfl rfl ?_
    refine Wk.iload (pc' := 249) C at_247 rfl rfl ?_
    refine Wk.iconst (z := (3 : Int32)) (pc' := 250) C at_249 rfl rfl ?_
    refine Wk.iadd (pc' := 251) C at_250 rfl ?_
    refine Wk.callS (pc' := 254) (rm := { frames := 0, cells := 0, slots := 0, locals := 0 }) (W0 := 1) (argsL := [.ref a118, .int (v120 + (3 : Int32))]) (st := [.int v130]) C (w23 hw) (w24 hw) (w25 hw) (w26 hw) (by decide) (fun h O => rm4 l Z a0 hw a118 (v120 + (3 : Int32)) ((a121, ObjC Z "com/example/nisaba/nisaba/tokenizer/Decoding" ks_0 [.ref a118, .int nx133, .ref b122]) :: (a118, ArrC Z .byte 4 f119) :: []) 1 4 (i + 3) f119 h n0 O rfl (own_add hi (rfl : (3 : Int32).toInt = ((3 : Nat) : Int)) (by omega) (by omega)) (by decide)) (by decide) (by decide) (by decide) (by decide) at_251 rfl pd_2 rfl rfl rfl rfl ?_
    rintro _ h' ⟨rfl, O'⟩
    refine ⟨_, O', ?_⟩
    change Wk p l e _ m _ below meth c _ _ n0 ((a121, ObjC Z "com/example/nisaba/nisaba/tokenizer/Decoding" ks_0 [.ref a118, .int nx133, .ref b122]) :: (a118, ArrC Z .byte 4 f119) :: []) 3 12 254 #[.val (.int x0), .val (.int x1), .val (.int x2), .val (.int (4 : Int32)), .val (.int v114), .val (.int v115), .val (.int v116), .val (.int v117), .val (.ref a118), .val (.int v120), .val (.ref a121), .val (.int v124), .val (.int v126), .val (.int v128), .val (.int v130), .val (.int v132), .val (.int v134)] [.int (Ex f119 4 (i + 3)), .int v130]
    refine Wk.icmp_ne (pcT := 289) (pcF := 257) C at_254 (by decide) (by decide) rfl (fun c138 => (show False from c138 (hv130.trans (own_re hb))).elim) (fun c138 => ?_)
    refine Wk.iload (pc' := 259) C at_257 rfl rfl ?_
    refine Wk.aload (pc' := 261) C at_259 rfl rfl rfl ?_
    refine Wk.iload (pc' := 263) C at_261 rfl rfl ?_
    refine Wk.iconst (z := (4 : Int32)) (pc' := 264) C at_263 rfl rfl ?_
    refine Wk.iadd (pc' := 265) C at_264 rfl ?_
    refine Wk.callS (pc' := 268) (rm := { frames := 0, cells := 0, slots := 0, locals := 0 }) (W0 := 1) (argsL := [.ref a118, .int (v120 + (4 : Int32))]) (st := [.int v132]) C (w23 hw) (w24 hw) (w25 hw) (w26 hw) (by decide) (fun h O => rm4 l Z a0 hw a118 (v120 + (4 : Int32)) ((a121, ObjC Z "com/example/nisaba/nisaba/tokenizer/Decoding" ks_0 [.ref a118, .int nx133, .ref b122]) :: (a118, ArrC Z .byte 4 f119) :: []) 1 4 (i + 4) f119 h n0 O rfl (own_add hi (rfl : (4 : Int32).toInt = ((4 : Nat) : Int)) (by omega) (by omega)) (by decide)) (by decide) (by decide) (by decide) (by decide) at_265 rfl pd_2 rfl rfl rfl rfl ?_
    rintro _ h' ⟨rfl, O'⟩
    refine ⟨_, O', ?_⟩
    change Wk p l e _ m _ below meth c _ _ n0 ((a121, ObjC Z "com/example/nisaba/nisaba/tokenizer/Decoding" ks_0 [.ref a118, .int nx133, .ref b122]) :: (a118, ArrC Z .byte 4 f119) :: []) 3 12 268 #[.val (.int x0), .val (.int x1), .val (.int x2), .val (.int (4 : Int32)), .val (.int v114), .val (.int v115), .val (.int v116), .val (.int v117), .val (.ref a118), .val (.int v120), .val (.ref a121), .val (.int v124), .val (.int v126), .val (.int v128), .val (.int v130), .val (.int v132), .val (.int v134)] [.int (Ex f119 4 (i + 4)), .int v132]
    refine Wk.icmp_ne (pcT := 289) (pcF := 271) C at_268 (by decide) (by decide) rfl (fun c139 => (show False from c139 (hv132.trans (own_re hb))).elim) (fun c139 => ?_)
    refine Wk.iload (pc' := 273) C at_271 rfl rfl ?_
    refine Wk.aload (pc' := 275) C at_273 rfl rfl rfl ?_
    refine Wk.iload (pc' := 277) C at_275 rfl rfl ?_
    refine Wk.iconst (z := (5 : Int32)) (pc' := 278) C at_277 rfl rfl ?_
    refine Wk.iadd (pc' := 279) C at_278 rfl ?_
    refine Wk.callS (pc' := 282) (rm := { frames := 0, cells := 0, slots := 0, locals := 0 }) (W0 := 1) (argsL := [.ref a118, .int (v120 + (5 : Int32))]) (st := [.int v134]) C (w23 hw) (w24 hw) (w25 hw) (w26 hw) (by decide) (fun h O => rm4 l Z a0 hw a118 (v120 + (5 : Int32)) ((a121, ObjC Z "com/example/nisaba/nisaba/tokenizer/Decoding" ks_0 [.ref a118, .int nx133, .ref b122]) :: (a118, ArrC Z .byte 4 f119) :: []) 1 4 (i + 5) f119 h n0 O rfl (own_add hi (rfl : (5 : Int32).toInt = ((5 : Nat) : Int)) (by omega) (by omega)) (by decide)) (by decide) (by decide) (by decide) (by decide) at_279 rfl pd_2 rfl rfl rfl rfl ?_
    rintro _ h' ⟨rfl, O'⟩
    refine ⟨_, O', ?_⟩
    change Wk p l e _ m _ below meth c _ _ n0 ((a121, ObjC Z "com/example/nisaba/nisaba/tokenizer/Decoding" ks_0 [.ref a118, .int nx133, .ref b122]) :: (a118, ArrC Z .byte 4 f119) :: []) 3 12 282 #[.val (.int x0), .val (.int x1), .val (.int x2), .val (.int (4 : Int32)), .val (.int v114), .val (.int v115), .val (.int v116), .val (.int v117), .val (.ref a118), .val (.int v120), .val (.ref a121), .val (.int v124), .val (.int v126), .val (.int v128), .val (.int v130), .val (.int v132), .val (.int v134)] [.int (Ex f119 4 (i + 5)), .int v134]
    refine Wk.icmp_ne (pcT := 289) (pcF := 285) C at_282 (by decide) (by decide) rfl (fun c140 => (show False from c140 (hv134.trans (own_re hb))).elim) (fun c140 => ?_)
    refine Wk.iconst (z := (1 : Int32)) (pc' := 286) C at_285 rfl rfl ?_
    refine Wk.goto (pc' := 290) C at_286 (by decide) (by decide) ?_
    exact Wk.retN C J at_290 (by decide) (by decide) (by simp) rfl (fun h O => rfl)
set_option maxRecDepth 65536 in
set_option maxHeartbeats 40000000 in
theorem comes_1 {Post : Tables → Env → Array Value → State → Outcome → State → Prop} (hpost : ∀ tb e args s v u, (limb_1_1.after args s (.returned v) u = true ∧ limb_1_2.after args s (.returned v) u = true ∧ True) → FrameEnd s (.returned v) u (Jvm.fieldLocs frame_1_writes args s ++ Jvm.arrayLocs frame_1_arrays args s ++ Jvm.staticLocs frame_1_statics s) 16 128 → Post tb e args s (.returned v) u) :
    ArmFor flags0 classFile x code maxLocals ret World_1 tables_1 room_1 Calls_1 rest_1 Pre_1 Post := by
  intro l hfl _ _ p e ha hc hk s m args below hf hA hF happ hP
  obtain ⟨hcalls, hrest, hpre⟩ := hP
  obtain ⟨-, -, -, hnamed, -, -, -, hat⟩ := (Spec.applies_iff hf).mp happ
  obtain ⟨hg, hn⟩ := and_e (Cond.before_iff.mp (show (Jvm.Cond.and given_1 narrow_1).before args s = true from hpre))
  obtain ⟨hcount, hr0⟩ := and_e hg
  obtain ⟨hi0, hr1⟩ := and_e hr0
  obtain ⟨hi1, hr2⟩ := and_e hr1
  have hi2 := hr2
  obtain ⟨w0, w1, w2, rfl⟩ : ∃ w0 w1 w2 : Value, args = #[w0, w1, w2] := by
    have hs : args.size = 3 := by simpa [Cond.value, given_1] using hcount
    obtain ⟨L⟩ := args
    match L, hs with
    | [w0, w1, w2], _ => exact ⟨w0, w1, w2, rfl⟩
  have hw : HW s _ := fun d (hd : d ∈ tables_1) => atoms_spec (ws := Jvm.Cond.code x code maxLocals ret :: tables_1) hat d (List.mem_cons_of_mem _ hd)
  obtain ⟨i0, e0⟩ := is_v hi0
  obtain rfl : w0 = (.int i0) := Option.some.inj e0
  obtain ⟨i1, e1⟩ := is_v hi1
  obtain rfl : w1 = (.int i1) := Option.some.inj e1
  obtain ⟨i2, e2⟩ := is_v hi2
  obtain rfl : w2 = (.int i2) := Option.some.inj e2
  obtain ⟨n, o, h1, h2, h3, _, L, rfl, ⟨rfl, -, N⟩, hq⟩ := rmLaw l s _ hw i0 i1 i2 s.heap s.heap.size (Own.nil (Nat.le_refl _)) p e ha hc hk s m _ below hf ((Spec.applies_iff_loose hf).mp happ).1 ⟨rfl, State.Warmed39.refl s, rfl⟩ trivial
  refine ⟨n, _, h1, h2, h3, hpost _ _ _ _ _ _ ⟨Cond.after_iff.mpr rfl, Cond.after_iff.mpr (eq_i res_at (Term.int_eval (1)) rfl), trivial⟩ ⟨hq.1, hq.2.1, (hq.2.2.sift fun y hy => Or.inr (N y hy)).mono (by decide) (by decide)⟩⟩
theorem main_1_1 : Claimed_1_1 := comes_1 fun _ _ _ _ _ _ h hF => ⟨h.1, hF⟩
theorem main_1_2 : Claimed_1_2 := comes_1 fun _ _ _ _ _ _ h hF => ⟨h.2.1, hF⟩
end Jvm.Pilot.@@N@@
namespace Jvm.Pilot.@@N@@
open Jvm Jvm.ClassFile Sem Op Lib Jvm.Free Jvm.Stand Jvm.Pilot.@@N@@.Jvm.D
/-! MADE BY PROGRAM (witnessworld.py) out of the Statement's table words and the real class files: 11 classes; the members and pool entries that the words name. The judged class is class 1, her method 1. -/
namespace start1
open Jvm.ClassFile
def u (s : String) : CpInfo := .utf8 (stringToUtf16 s)
/-- a pool by its gaps: so many unusable entries, then the entry; so many at the end -/
def gap : Nat → List CpInfo → List CpInfo
  | 0, r => r
  | n + 1, r => .unusable :: gap n r
def poolList (es : List (Nat × CpInfo)) (last : Nat) : List CpInfo := es.foldr (fun e r => gap e.1 (e.2 :: r)) (gap last [])
def pool (es : List (Nat × CpInfo)) (last : Nat) : Array CpInfo := ⟨poolList es last⟩
def fileOf (pool : Array CpInfo) (this : Nat) (attrs : Array Attribute := #[]) (ms : Array MethodInfo := #[]) (fl : Nat := 33) (sup : Nat := 0) (ifs : Array Nat := #[]) (fds : Array FieldInfo := #[]) : ClassFile where
  minorVersion := 0
  majorVersion := 65
  constantPool := pool
  accessFlags := fl
  thisClass := this
  superClass := sup
  interfaces := ifs
  fields := fds
  methods := ms
  attributes := attrs
def plain (name : String) (sup : Option ClassId) : Class where
  name := name
  kind := .ordinary
  loader := none
  accessFlags := 33
  super := sup
  interfaces := #[]
  cf := none
  fields := #[]
  methods := #[]
  instanceTypes := #[]
  staticTypes := #[]
  resolved := #[]
  callSites := []
  init := .initialized
  statics := none
  mirror := none

def pool0 : Array CpInfo := pool [(5, u "<init>"), (0, u "()V"), (1, .class_ 10), (1, u "java/lang/Object")] 113

def k0c0 : Code := { maxStack := 0, maxLocals := 1, code := object_method_1_code, exceptionTable := #[], attributes := #[] }
def k0m0 : Method := { name := "<init>", desc := "()V", sig := { parameters := [], returnType := none }, accessFlags := 1, code := some k0c0 }
/-- java/lang/Object -/
def k0 : Class := { plain "java/lang/Object" none with
  accessFlags := 33
  interfaces := #[]
  cf := some (fileOf pool0 8 #[] #[{ accessFlags := 1, nameIndex := 5, descriptorIndex := 6, attributes := #[] }] 33 0 #[] #[])
  fields := #[]
  methods := #[k0m0]
  instanceTypes := #[]
  staticTypes := #[]
  resolved := Array.replicate 124 none
  statics := none }

def pool1 : Array CpInfo := pool [(2, .class_ 4), (1, u "java/lang/Object"), (0, u "<init>"), (0, u "()V"), (0, .integer 2147483647), (0, .class_ 9), (0, u "com/example/nisaba/nisaba/tokenizer/Decoding"), (0, .methodref 8 11), (0, .nameAndType 5 12), (0, u "([BI)V"), (0, .methodref 8 14), (0, .nameAndType 15 16), (0, u "read"), (0, u "()I"), (0, .methodref 18 19), (0, .class_ 20), (0, .nameAndType 21 22), (0, u "com/example/nisaba/nisaba/tokenizer/DecodingReadPinLaw"), (0, u "expected"), (0, u "([BI)I"), (2, u "law"), (0, u "(III)Z")] 5

def k1m0 : Method := { name := "<init>", desc := "()V", sig := { parameters := [], returnType := none }, accessFlags := 1, code := none }
def k1c1 : Code := { maxStack := 4, maxLocals := 17, code := code, exceptionTable := #[], attributes := #[] }
def k1m1 : Method := { name := "law", desc := "(III)Z", sig := { parameters := [.int, .int, .int], returnType := some .boolean }, accessFlags := 9, code := some k1c1 }
def k1c2 : Code := { maxStack := 2, maxLocals := 3, code := method_3_code, exceptionTable := #[], attributes := #[] }
def k1m2 : Method := { name := "expected", desc := "([BI)I", sig := { parameters := [(.array .byte), .int], returnType := some .int }, accessFlags := 10, code := some k1c2 }
/-- com/example/nisaba/nisaba/tokenizer/DecodingReadPinLaw -/
def k1 : Class := { plain "com/example/nisaba/nisaba/tokenizer/DecodingReadPinLaw" (some 0) with
  accessFlags := 49
  interfaces := #[]
  cf := some (fileOf pool1 18 #[] #[{ accessFlags := 1, nameIndex := 5, descriptorIndex := 6, attributes := #[] }, { accessFlags := 9, nameIndex := 25, descriptorIndex := 26, attributes := #[] }, { accessFlags := 10, nameIndex := 21, descriptorIndex := 22, attributes := #[] }] 49 2 #[] #[])
  fields := #[]
  methods := #[k1m0, k1m1, k1m2]
  instanceTypes := #[]
  staticTypes := #[]
  resolved := Array.replicate 32 none
  statics := none }

def pool2 : Array CpInfo := pool [(1, .methodref 2 3), (0, .class_ 4), (0, .nameAndType 5 6), (0, u "java/lang/Object"), (0, u "<init>"), (0, u "()V"), (0, .fieldref 8 9), (0, .class_ 10), (0, .nameAndType 11 12), (0, u "com/example/nisaba/nisaba/tokenizer/Decoding"), (0, u "input"), (0, u "[B"), (0, .fieldref 8 14), (0, .nameAndType 15 16), (0, u "next"), (0, u "I"), (0, .fieldref 8 18), (0, .nameAndType 19 20), (0, u "text"), (0, u "[C"), (2, u "length"), (27, u "END_OF_QUEUE"), (2, u "REPLACEMENT_CHARACTER"), (0, u "C"), (0, u "([BI)V"), (2, u "read"), (0, u "()I")] 6

def k2c0 : Code := { maxStack := 3, maxLocals := 3, code := prog_95_method_1_code, exceptionTable := #[], attributes := #[] }
def k2m0 : Method := { name := "<init>", desc := "([BI)V", sig := { parameters := [(.array .byte), .int], returnType := none }, accessFlags := 0, code := some k2c0 }
def k2c1 : Code := { maxStack := 5, maxLocals := 1, code := prog_95_method_2_code, exceptionTable := #[], attributes := #[] }
def k2m1 : Method := { name := "read", desc := "()I", sig := { parameters := [], returnType := some .int }, accessFlags := 0, code := some k2c1 }
/-- com/example/nisaba/nisaba/tokenizer/Decoding -/
def k2 : Class := { plain "com/example/nisaba/nisaba/tokenizer/Decoding" (some 0) with
  accessFlags := 48
  interfaces := #[]
  cf := some (fileOf pool2 8 #[] #[{ accessFlags := 0, nameIndex := 5, descriptorIndex := 56, attributes := #[] }, { accessFlags := 0, nameIndex := 59, descriptorIndex := 60, attributes := #[] }] 48 2 #[] #[{ accessFlags := 24, nameIndex := 51, descriptorIndex := 16, attributes := #[] }, { accessFlags := 26, nameIndex := 54, descriptorIndex := 55, attributes := #[] }, { accessFlags := 18, nameIndex := 11, descriptorIndex := 12, attributes := #[] }, { accessFlags := 2, nameIndex := 15, descriptorIndex := 16, attributes := #[] }, { accessFlags := 18, nameIndex := 19, descriptorIndex := 20, attributes := #[] }, { accessFlags := 2, nameIndex := 23, descriptorIndex := 16, attributes := #[] }])
  fields := #[{ name := "END_OF_QUEUE", type := .int, accessFlags := 24, slot := 0, constantValue := 0 }, { name := "REPLACEMENT_CHARACTER", type := .char, accessFlags := 26, slot := 1, constantValue := 0 }, { name := "input", type := (.array .byte), accessFlags := 18, slot := 0, constantValue := 0 }, { name := "next", type := .int, accessFlags := 2, slot := 1, constantValue := 0 }, { name := "text", type := (.array .char), accessFlags := 18, slot := 2, constantValue := 0 }, { name := "length", type := .int, accessFlags := 2, slot := 3, constantValue := 0 }]
  methods := #[k2m0, k2m1]
  instanceTypes := #[(.array .byte), .int, (.array .char), .int]
  staticTypes := #[.int, .char]
  resolved := Array.replicate 67 none
  statics := none }

def pool3 : Array CpInfo := pool [(1, u "java/lang/Cloneable"), (0, .class_ 1), (0, u "java/lang/Object"), (0, .class_ 3)] 3

/-- java/lang/Cloneable -/
def k3 : Class := { plain "java/lang/Cloneable" (some 0) with
  accessFlags := 1537
  interfaces := #[]
  cf := some (fileOf pool3 2 #[] #[] 1537 4 #[] #[])
  fields := #[]
  methods := #[]
  instanceTypes := #[]
  staticTypes := #[]
  resolved := Array.replicate 8 none
  statics := none }

def pool4 : Array CpInfo := pool [(1, u "java/io/Serializable"), (0, .class_ 1), (0, u "java/lang/Object"), (0, .class_ 3)] 3

/-- java/io/Serializable -/
def k4 : Class := { plain "java/io/Serializable" (some 0) with
  accessFlags := 1537
  interfaces := #[]
  cf := some (fileOf pool4 2 #[] #[] 1537 4 #[] #[])
  fields := #[]
  methods := #[]
  instanceTypes := #[]
  staticTypes := #[]
  resolved := Array.replicate 8 none
  statics := none }

/-- the primitive byte -/
def k5 : Class := { plain "byte" none with kind := .primitive 'B', accessFlags := 0x411 }
/-- [B -/
def k6 : Class := { plain "[B" (some 0) with kind := .array 5 .byte, interfaces := #[3, 4], accessFlags := 1041 }

/-- the primitive char -/
def k7 : Class := { plain "char" none with kind := .primitive 'C', accessFlags := 0x411 }
/-- [C -/
def k8 : Class := { plain "[C" (some 0) with kind := .array 7 .char, interfaces := #[3, 4], accessFlags := 1041 }

/-- the primitive int -/
def k9 : Class := { plain "int" none with kind := .primitive 'I', accessFlags := 0x411 }
/-- [I -/
def k10 : Class := { plain "[I" (some 0) with kind := .array 9 .int, interfaces := #[3, 4], accessFlags := 1041 }

def heap : Heap := #[]
def classes : Array Class := #[k0, k1, k2, k3, k4, k5, k6, k7, k8, k9, k10]
def interned : List (Array UInt16 × Addr) := []
def slotsUsed : Nat := 0
def theMethod : MethodId := ⟨1, 1⟩
def args0 : Array Value := #[.int 3, .int 200, .int 3]
def aboutOver (below : List Frame) : State where
  vm := { classes := classes, interned := interned.toArray }
  heap := heap
  slotsUsed := slotsUsed
  threads := #[{ frames := .invoking theMethod args0 :: below }]
def below0 : List Frame := [.native { method := ⟨0, 0⟩, args := #[] }]
def about1 : State := aboutOver below0
def p0 : Program := .bare "" "" ""
def e0 : Env := launch0.env 0 0 0
theorem w_frames : about1.frames = Frame.invoking theMethod args0 :: below0 := rfl
set_option maxRecDepth 65536 in
theorem w_args : argsFit about1.vm theMethod args0 = true := by decide +kernel
set_option maxRecDepth 65536 in
theorem w_heap : heapFits about1 = true := by decide +kernel
set_option maxRecDepth 65536 in
theorem w_runnable : about1.curStatus? = some .runnable := by decide +kernel
set_option maxRecDepth 65536 in
theorem w_alone : about1.alone = true := by decide +kernel
set_option maxRecDepth 65536 in
theorem w_named : about1.methodNamed? x = some theMethod := by decide +kernel
set_option maxRecDepth 65536 in
theorem w_hears : about1.hears theMethod below0 = true := by decide +kernel
set_option maxRecDepth 65536 in
theorem w_ripe : about1.ripe theMethod args0 below0 = true := by decide +kernel
theorem w_running : about1.status = .running := rfl
set_option maxRecDepth 65536 in
theorem w_room : about1.hasRoom e0.platform room_1 = true :=
  launch0.hasRoom_least _ room_1 (by decide +kernel) (by decide +kernel) (by decide +kernel) (by decide +kernel) (by decide +kernel) (by decide +kernel)
theorem allAtoms_all (ts : List Jvm.Cond) (a : Array Jvm.Value) (st : Jvm.State) : (allAtoms ts).before a st = ts.all (fun c => c.before a st) := by
  induction ts with
  | nil => rfl
  | cons c t ih =>
    show (Jvm.Cond.and c (allAtoms t)).before a st = _
    rw [Jvm.Cond.before_and, ih, List.all_cons]
def words1 : List Jvm.Cond := Jvm.Cond.code x code maxLocals ret :: tables_1
/-- a 'code' word, met by the world's own term for the bytes: nothing is compared byte by byte -/
theorem code_word {y : MethodName} {bytes : ByteArray} {mx : Nat} {rt : Option FieldType} {a : Array Value} {s : State} {m : MethodId} {meth : Method} {c : Code} (h1 : s.methodNamed? y = some m) (h2 : s.vm.method? m = some meth) (h3 : meth.code = some c) (h4 : c.code = bytes)
    (h5 : (c.maxLocals == mx && c.exceptionTable.isEmpty && decide (c.maxStack ≤ mostOperands) && decide (meth.sig.returnType = rt) && !meth.locks && decide (parseMethodDescriptor y.desc = some meth.sig)) = true) : (Jvm.Cond.code y bytes mx rt).before a s = true := by
  simp only [Bool.and_eq_true, beq_iff_eq, Bool.not_eq_true', decide_eq_true_eq] at h5
  obtain ⟨⟨⟨⟨⟨g1, g2⟩, g3⟩, g4⟩, g5⟩, g6⟩ := h5
  simp [Cond.before, Cond.holds, Cond.value, h1, h2, h3, h4, g1, g2, g3, g4, g5, g6]
def isCode : Jvm.Cond → Bool
  | .code _ _ _ _ => true
  | _ => false
theorem all_split {L : List Jvm.Cond} {P : Jvm.Cond → Bool} (h1 : L.all (fun c => isCode c || P c) = true) (h2 : ∀ c ∈ L.filter isCode, P c = true) : L.all P = true := by
  refine List.all_eq_true.mpr fun c hc => ?_
  have h := List.all_eq_true.mp h1 c hc
  rcases Bool.eq_false_or_eq_true (isCode c) with hi | hi
  · exact h2 c (List.mem_filter.mpr ⟨hc, hi⟩)
  · simpa [hi] using h
set_option maxRecDepth 65536 in
theorem w_c0 : (Jvm.Cond.code x code maxLocals ret).before args0 about1 = true := code_word (m := ⟨1, 1⟩) (meth := k1m1) (c := k1c1) (by decide +kernel) rfl rfl rfl (by decide +kernel)
set_option maxRecDepth 65536 in
theorem w_c1 : (Jvm.Cond.code ({ cls := "com/example/nisaba/nisaba/tokenizer/Decoding", name := "<init>", desc := "([BI)V" } : Jvm.MethodName) prog_95_method_1_code (3 : Nat) (Option.none : Option Jvm.ClassFile.FieldType)).before args0 about1 = true := code_word (m := ⟨2, 0⟩) (meth := k2m0) (c := k2c0) (by decide +kernel) rfl rfl rfl (by decide +kernel)
set_option maxRecDepth 65536 in
theorem w_c2 : (Jvm.Cond.code ({ cls := "java/lang/Object", name := "<init>", desc := "()V" } : Jvm.MethodName) object_method_1_code (1 : Nat) (Option.none : Option Jvm.ClassFile.FieldType)).before args0 about1 = true := code_word (m := ⟨0, 0⟩) (meth := k0m0) (c := k0c0) (by decide +kernel) rfl rfl rfl (by decide +kernel)
set_option maxRecDepth 65536 in
theorem w_c3 : (Jvm.Cond.code ({ cls := "com/example/nisaba/nisaba/tokenizer/Decoding", name := "read", desc := "()I" } : Jvm.MethodName) prog_95_method_2_code (1 : Nat) (Option.some Jvm.ClassFile.FieldType.int)).before args0 about1 = true := code_word (m := ⟨2, 1⟩) (meth := k2m1) (c := k2c1) (by decide +kernel) rfl rfl rfl (by decide +kernel)
set_option maxRecDepth 65536 in
theorem w_c4 : (Jvm.Cond.code ({ cls := "com/example/nisaba/nisaba/tokenizer/DecodingReadPinLaw", name := "expected", desc := "([BI)I" } : Jvm.MethodName) method_3_code (3 : Nat) (Option.some Jvm.ClassFile.FieldType.int)).before args0 about1 = true := code_word (m := ⟨1, 2⟩) (meth := k1m2) (c := k1c2) (by decide +kernel) rfl rfl rfl (by decide +kernel)
def codes1 : List Jvm.Cond := [Jvm.Cond.code x code maxLocals ret, Jvm.Cond.code ({ cls := "com/example/nisaba/nisaba/tokenizer/Decoding", name := "<init>", desc := "([BI)V" } : Jvm.MethodName) prog_95_method_1_code (3 : Nat) (Option.none : Option Jvm.ClassFile.FieldType), Jvm.Cond.code ({ cls := "java/lang/Object", name := "<init>", desc := "()V" } : Jvm.MethodName) object_method_1_code (1 : Nat) (Option.none : Option Jvm.ClassFile.FieldType), Jvm.Cond.code ({ cls := "com/example/nisaba/nisaba/tokenizer/Decoding", name := "read", desc := "()I" } : Jvm.MethodName) prog_95_method_2_code (1 : Nat) (Option.some Jvm.ClassFile.FieldType.int), Jvm.Cond.code ({ cls := "com/example/nisaba/nisaba/tokenizer/DecodingReadPinLaw", name := "expected", desc := "([BI)I" } : Jvm.MethodName) method_3_code (3 : Nat) (Option.some Jvm.ClassFile.FieldType.int)]
set_option maxRecDepth 65536 in
theorem codes_eq : words1.filter isCode = codes1 := rfl
theorem w_codes : ∀ c ∈ words1.filter isCode, c.before args0 about1 = true := by
  rw [codes_eq]
  intro c hc
  simp only [codes1, List.mem_cons, List.not_mem_nil, or_false] at hc
  rcases hc with rfl | rfl | rfl | rfl | rfl
  · exact w_c0
  · exact w_c1
  · exact w_c2
  · exact w_c3
  · exact w_c4
set_option maxRecDepth 65536 in
theorem w_t1 : (words1.take 24).all (fun c => isCode c || c.before args0 about1) = true := by decide +kernel
set_option maxRecDepth 65536 in
theorem w_t2 : (words1.drop 24).all (fun c => isCode c || c.before args0 about1) = true := by decide +kernel
theorem w_tables : (allAtoms (Jvm.Cond.code x code maxLocals ret :: tables_1)).before args0 about1 = true := by
  rw [allAtoms_all]
  show words1.all (fun c => c.before args0 about1) = true
  refine all_split ?_ w_codes
  rw [← List.take_append_drop 24 words1, List.all_append, w_t1, w_t2]
  rfl
set_option maxRecDepth 65536 in
theorem w_case : (Jvm.Cond.and given_1 narrow_1).before args0 about1 = true := by decide +kernel
theorem w_applies : (headSpec (Jvm.Cond.code x code maxLocals ret :: tables_1) room_1).applies x e0.platform about1 = true :=
  (Spec.applies_iff w_frames).mpr ⟨w_running, w_runnable, w_alone, w_named, w_hears, w_ripe, w_room, w_tables⟩
theorem atStart : AtStart classFile x code maxLocals ret World_1 tables_1 room_1 Calls_1 rest_1 Pre_1 launch0 p0 e0 about1 theMethod args0 below0 :=
  ⟨lists_1, trivial, launch0.admits_env _ _ _, launch0.least_env, fairChoices_fair.cas, fairChoices_fair.clock, w_frames, w_args, w_heap, w_applies, trivial, trivial, w_case⟩
end start1
theorem witness_1 : WitnessClaimed_1 := ⟨start1.p0, start1.e0, start1.about1, start1.theMethod, start1.args0, start1.below0, start1.atStart⟩
end Jvm.Pilot.@@N@@
