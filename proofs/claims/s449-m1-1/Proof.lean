import JvmDerived
import JvmDerived.Pilot.@@N@@Statement
import JvmDerived.Pilot.@@N@@Code
set_option linter.unusedVariables false
set_option linter.unusedSimpArgs false
namespace Jvm.RoadKit
open Sem ClassFile Op Lib Jvm.Stand Jvm.Free Jvm.LawKit
section New
variable {p : Program} {l : Launch} {e : Env} {R : Room} {s : State} {m : MethodId} {args : Array Value} {below : List Frame} {meth : Method} {c : Code} {T : State} {locs : List Loc} {cells slots : Nat}
theorem retI (X : Stand p l e R s m args below meth c T locs cells slots) (hx : p.tables.exec = Jvm.exec) {pc : Nat} {Ls : Array Slot} {z : Int32} {rest : List Value} (hret : meth.sig.returnType = some .int) (hd : decode c.code pc = .ok (.ireturn, 1)) {fs : List Frame}
    (hl : ∀ (f : JFrame) (acts : List Action), f.method = m → f.locked = none → f.entered = [] → (doReturn e (T.setTop f) acts (some (.int z))).1 = T.setFrames fs) : Steps p.tables e below (T.setTop (mkF m pc Ls (.int z :: rest))) (T.setFrames fs) :=
  retOut X hx hret rfl (Or.inl ⟨rfl, Or.inl rfl, z, rfl⟩) hd hl
end New
end Jvm.RoadKit
namespace Jvm.Pilot.@@N@@
open Jvm Jvm.ClassFile Sem Op Lib Jvm.Free Jvm.Stand Jvm.LawKit Jvm.RoadKit Bundle Jvm.Pilot.@@N@@.Jvm.D
section OwnKit
variable {p : Program} {l : Launch} {e : Env} {R : Room} {m : MethodId} {args : Array Value} {below : List Frame} {meth : Method} {c : Code} {M : State → Heap → Prop} {P : State → Prop} {n0 : Nat} {Z : State} {a0 : Array Value} {own name : String} {bytes : ByteArray} {maxL : Nat} {ret : Option FieldType} {L : List (Addr × (Cell → Prop))} {k n pc pc' : Nat} {Ls Ls' : Array Slot} {st : List Value}
/-! what is known of the heap: a list of the own cells, each with what it holds -/
def Hs (h : Heap) (a : Addr) (φ : Cell → Prop) : Prop := ∃ c : Cell, h[a]? = some c ∧ φ c
def Own (n0 : Nat) (h : Heap) (L : List (Addr × (Cell → Prop))) : Prop := n0 ≤ h.size ∧ (∀ (i j : Nat) x y, L[i]? = some x → L[j]? = some y → x.1 = y.1 → i = j) ∧ ∀ (i : Nat) x, L[i]? = some x → n0 ≤ x.1 ∧ Hs h x.1 x.2
theorem Own.nil {h : Heap} (q : n0 ≤ h.size) : Own n0 h [] := ⟨q, fun i j x y hx => by simp at hx, fun i x hx => by simp at hx⟩
theorem Own.lt {h : Heap} (O : Own n0 h L) {i : Nat} {x : Addr × (Cell → Prop)} (hi : L[i]? = some x) : x.1 < h.size := by
  obtain ⟨c, h1, -⟩ := (O.2.2 i x hi).2
  exact (Array.getElem?_eq_some_iff.mp h1).1
theorem Own.ext {h h' : Heap} (O : Own n0 h L) (E : Ext h h') : Own n0 h' L :=
  ⟨Nat.le_trans O.1 E.1, O.2.1, fun i x hx => ⟨(O.2.2 i x hx).1, by obtain ⟨c, h1, h2⟩ := (O.2.2 i x hx).2; exact ⟨c, E.2 _ _ h1, h2⟩⟩⟩
theorem Own.cons {h h' : Heap} {φ : Cell → Prop} (O : Own n0 h L) (E : Ext h h') (F : Hs h' h.size φ) : Own n0 h' ((h.size, φ) :: L) := by
  have O' := O.ext E
  refine ⟨O'.1, fun i j x y hx hy e => ?_, fun i x hx => ?_⟩
  · match i, j with
    | 0, 0 => rfl
    | 0, j + 1 =>
      simp only [List.getElem?_cons_zero, Option.some.injEq] at hx
      simp only [List.getElem?_cons_succ] at hy
      subst hx; exact absurd e (Nat.ne_of_gt (O.lt hy))
    | i + 1, 0 =>
      simp only [List.getElem?_cons_zero, Option.some.injEq] at hy
      simp only [List.getElem?_cons_succ] at hx
      subst hy; exact absurd e (Nat.ne_of_lt (O.lt hx))
    | i + 1, j + 1 =>
      simp only [List.getElem?_cons_succ] at hx hy
      rw [O.2.1 i j x y hx hy e]
  · match i with
    | 0 =>
      simp only [List.getElem?_cons_zero, Option.some.injEq] at hx
      subst hx; exact ⟨O.1, F⟩
    | i + 1 =>
      simp only [List.getElem?_cons_succ] at hx
      exact O'.2.2 i x hx
theorem Own.set {h h' : Heap} {i : Nat} {a : Addr} {φ φ' : Cell → Prop} (O : Own n0 h L) (hi : L[i]? = some (a, φ)) (hs : h.size ≤ h'.size) (ho : ∀ (b : Addr) (c : Cell), b ≠ a → h[b]? = some c → h'[b]? = some c) (F : Hs h' a φ') : Own n0 h' (L.set i (a, φ')) := by
  have key : ∀ j x, (L.set i (a, φ'))[j]? = some x → (j = i ∧ x = (a, φ')) ∨ (j ≠ i ∧ L[j]? = some x) := by
    intro j x hx
    rw [List.getElem?_set] at hx
    by_cases q : i = j
    · rw [if_pos q] at hx
      split at hx
      · exact Or.inl ⟨q.symm, (Option.some.inj hx).symm⟩
      · cases hx
    · rw [if_neg q] at hx; exact Or.inr ⟨fun e => q e.symm, hx⟩
  refine ⟨Nat.le_trans O.1 hs, fun j j' x y hx hy e => ?_, fun j x hx => ?_⟩
  · rcases key j x hx with ⟨rfl, rfl⟩ | ⟨q1, q2⟩ <;> rcases key j' y hy with ⟨rfl, rfl⟩ | ⟨r1, r2⟩
    · rfl
    · exact O.2.1 _ _ _ _ hi r2 e
    · exact O.2.1 _ _ _ _ q2 hi e
    · exact O.2.1 _ _ _ _ q2 r2 e
  · rcases key j x hx with ⟨rfl, rfl⟩ | ⟨q1, q2⟩
    · exact ⟨(O.2.2 _ _ hi).1, F⟩
    · obtain ⟨c, h1, h2⟩ := (O.2.2 _ _ q2).2
      exact ⟨(O.2.2 _ _ q2).1, c, ho _ _ (fun e => q1 (O.2.1 _ _ _ _ q2 hi e)) h1, h2⟩
theorem Own.wr {h h' : Heap} {i sl : Nat} {v : Value} {a : Addr} {φ φ' : Cell → Prop} (O : Own n0 h L) (Wh : Wr h h' a sl v) (hi : L[i]? = some (a, φ)) (hφ : ∀ c : Cell, φ c → sl < c.slots.size → φ' (c.setSlot sl v)) : Own n0 h' (L.set i (a, φ')) := by
  obtain ⟨c, h1, h2⟩ := (O.2.2 _ _ hi).2
  have hsl : sl < c.slots.size := by
    obtain ⟨cell, g1, -, g3, -⟩ := Wh
    cases h1.symm.trans g1; exact g3
  refine O.set hi (Nat.le_of_eq Wh.size.symm) (fun b cb hb hc => ?_) ?_
  · obtain ⟨c', e1, -, -, -, e5, -⟩ := wr_at Wh hc
    rw [e5 hb] at e1; exact e1
  · obtain ⟨c', e1, -, -, -, -, -, e7⟩ := wr_at Wh h1
    exact ⟨c', e1, by rw [(e7 rfl).1]; exact hφ c h2 hsl⟩
theorem Own.re {h : Heap} {L' : List (Addr × (Cell → Prop))} (O : Own n0 h L) (f : Nat → Nat) (hf : ∀ j x, L'[j]? = some x → L[f j]? = some x) (hinj : ∀ i j, i < L'.length → j < L'.length → f i = f j → i = j) : Own n0 h L' :=
  ⟨O.1, fun i j x y hx hy e => hinj i j (List.getElem?_eq_some_iff.mp hx).1 (List.getElem?_eq_some_iff.mp hy).1 (O.2.1 _ _ _ _ (hf i x hx) (hf j y hy) e), fun i x hx => O.2.2 _ _ (hf i x hx)⟩
theorem Own.front {h : Heap} (O : Own n0 h L) (i : Nat) {x : Addr × (Cell → Prop)} (hi : L[i]? = some x) : Own n0 h (x :: L.eraseIdx i) := by
  refine O.re (fun j => match j with | 0 => i | j + 1 => if j < i then j else j + 1) (fun j y hy => ?_) (fun j j' _ _ e => ?_)
  · match j with
    | 0 => simp only [List.getElem?_cons_zero, Option.some.injEq] at hy; subst hy; exact hi
    | j + 1 =>
      simp only [List.getElem?_cons_succ, List.getElem?_eraseIdx] at hy
      dsimp only
      split at hy
      · rename_i q; rw [if_pos q]; exact hy
      · rename_i q; rw [if_neg q]; exact hy
  · match j, j' with
    | 0, 0 => rfl
    | 0, j' + 1 => dsimp only at e; split at e <;> omega
    | j + 1, 0 => dsimp only at e; split at e <;> omega
    | j + 1, j' + 1 => dsimp only at e; split at e <;> split at e <;> omega
theorem Own.imp {h : Heap} {i : Nat} {a : Addr} {φ φ' : Cell → Prop} (O : Own n0 h L) (hi : L[i]? = some (a, φ)) (q : ∀ c, φ c → φ' c) : Own n0 h (L.set i (a, φ')) :=
  O.set hi (Nat.le_refl _) (fun _ _ _ r => r) (by obtain ⟨c, h1, h2⟩ := (O.2.2 _ _ hi).2; exact ⟨c, h1, q c h2⟩)
theorem Own.drop {h : Heap} (O : Own n0 h L) (i : Nat) : Own n0 h (L.eraseIdx i) := by
  refine O.re (fun j => if j < i then j else j + 1) (fun j y hy => ?_) (fun j j' _ _ e => ?_)
  · rw [List.getElem?_eraseIdx] at hy
    split at hy
    · rename_i q; show L[if j < i then j else j + 1]? = _; rw [if_pos q]; exact hy
    · rename_i q; show L[if j < i then j else j + 1]? = _; rw [if_neg q]; exact hy
  · split at e <;> split at e <;> omega
theorem Own.tail {h : Heap} {x : Addr × (Cell → Prop)} (O : Own n0 h (x :: L)) : Own n0 h L :=
  O.re (fun j => j + 1) (fun j y hy => by simpa using hy) (fun i j _ _ e => by omega)
theorem Own.ne {h : Heap} {i j : Nat} {a b : Addr} {φ ψ : Cell → Prop} (O : Own n0 h L) (hi : L[i]? = some (a, φ)) (hj : L[j]? = some (b, ψ)) (q : i ≠ j) : a ≠ b := fun e => q (O.2.1 _ _ _ _ hi hj e)
/-! arrays of ints, bytes, chars ..: n places, the i-th holds f i -/
def upd (f : Nat → Int32) (i : Nat) (v : Int32) : Nat → Int32 := fun j => if j = i then v else f j
theorem upd_hit (f : Nat → Int32) (i : Nat) (v : Int32) : upd f i v i = v := if_pos rfl
theorem upd_miss (f : Nat → Int32) {i j : Nat} (v : Int32) (q : j ≠ i) : upd f i v j = f j := if_neg q
def ExaC (Z : State) (C : String) (cell : Cell) : Prop := ∃ k : Class, Z.vm.findClass C = some cell.cls ∧ Z.vm.classes[cell.cls]? = some k ∧ cell.vm.isStatics = false ∧ (k.kind = .ordinary → cell.slots.size = k.instanceTypes.size)
def ArrC (Z : State) (ty : FieldType) (n : Nat) (f : Nat → Int32) (c : Cell) : Prop := Z.isArrayOf c ty ∧ c.vm ≠ .unknown ∧ c.slots.size = n ∧ (∀ i, i < n → c.slots[i]? = some (.int (f i))) ∧ (∀ i, i < n → fits ty (.int (f i)) = true) ∧ ExaC Z ("[" ++ ty.toString) c
theorem ArrC.congr {ty : FieldType} {f g : Nat → Int32} {c : Cell} (A : ArrC Z ty n f c) (q : ∀ i, i < n → f i = g i) : ArrC Z ty n g c := ⟨A.1, A.2.1, A.2.2.1, fun i hi => by rw [← q i hi]; exact A.2.2.2.1 i hi, fun i hi => by rw [← q i hi]; exact A.2.2.2.2.1 i hi, A.2.2.2.2.2⟩
theorem ArrC.set {ty : FieldType} {f : Nat → Int32} {c : Cell} {i : Nat} {v : Int32} (A : ArrC Z ty n f c) (hi : i < n) (hv : fits ty (.int v) = true) : ArrC Z ty n (upd f i v) (c.setSlot i (.int v)) := by
  obtain ⟨A1, A2, hs, A4, A5, k, x1, x2, x3, x4⟩ := A
  refine ⟨A1, A2, (sz_set c i _).trans hs, fun j hj => ?_, fun j hj => ?_, k, x1, x2, x3, fun q => (sz_set c i _).trans (x4 q)⟩
  · by_cases q : j = i
    · subst q; rw [upd_hit]; simp [Cell.setSlot, hs, hi]
    · rw [upd_miss _ _ q, ← A4 j hj]
      show (c.slots.setIfInBounds i _)[j]? = _
      exact Array.getElem?_setIfInBounds_ne (Ne.symm q)
  · by_cases q : j = i
    · subst q; rw [upd_hit]; exact hv
    · rw [upd_miss _ _ q]; exact A5 j hj
/-! objects: class C; the fields ks (owner, name, descriptor, type) hold vs -/
def FldC (Z : State) (C n d : String) (v : Value) (cell : Cell) : Prop := ∃ (cf : ClassId) (k : Class) (i : Nat) (f : Field), Z.fieldFound? C n d = some (cf, k, i, f) ∧ f.isStatic = false ∧ cell.vm ≠ .unknown ∧ cell.vm.isStatics = false ∧ Z.vm.assignable cell.cls cf = true ∧ cell.slots[f.slot]? = some v
def ObjC (Z : State) (C : String) (ks : List (String × String × String × FieldType)) (vs : List Value) (c : Cell) : Prop := ExaC Z C c ∧ ∀ (i : Nat) kk v, ks[i]? = some kk → vs[i]? = some v → FldC Z kk.1 kk.2.1 kk.2.2.1 v c
theorem fld_of {h : Heap} {a : Addr} {C nm d : String} {v : Value} {c : Cell} (h1 : h[a]? = some c) (F : FldC Z C nm d v c) : Fld Z h a C nm d v := by
  obtain ⟨cf, k, i, f, r⟩ := F; exact ⟨c, cf, k, i, f, h1, r⟩
theorem of_fld {h : Heap} {a : Addr} {C nm d : String} {v : Value} {c : Cell} (h1 : h[a]? = some c) (F : Fld Z h a C nm d v) : FldC Z C nm d v c := by
  obtain ⟨c', cf, k, i, f, h2, r⟩ := F
  cases h1.symm.trans h2; exact ⟨cf, k, i, f, r⟩
theorem exa_of {h : Heap} {a : Addr} {C : String} {c : Cell} (h1 : h[a]? = some c) (F : ExaC Z C c) : Exa Z h a C := by
  obtain ⟨k, r⟩ := F; exact ⟨c, k, h1, r⟩
theorem of_exa {h : Heap} {a : Addr} {C : String} {c : Cell} (h1 : h[a]? = some c) (F : Exa Z h a C) : ExaC Z C c := by
  obtain ⟨c', k, h2, r⟩ := F
  cases h1.symm.trans h2; exact ⟨k, r⟩
def Lays (Z : State) (a0 : Array Value) (C : String) (ks : List (String × String × String × FieldType)) : Prop := (∀ kk ∈ ks, Laid Z a0 C kk.1 kk.2.1 kk.2.2.1 ∧ parseFieldDescriptor kk.2.2.1 = some kk.2.2.2) ∧ (ks.map (fun kk => kk.2.1)).Nodup
theorem Lays.ne {C : String} {ks : List (String × String × String × FieldType)} (H : Lays Z a0 C ks) {i j : Nat} {x y : String × String × String × FieldType} (hx : ks[i]? = some x) (hy : ks[j]? = some y) (q : i ≠ j) : Jvm.RoadKit.slotOf Z x.1 x.2.1 x.2.2.1 ≠ Jvm.RoadKit.slotOf Z y.1 y.2.1 y.2.2.1 := by
  have h1 := H.1 x (List.mem_of_getElem? hx)
  have h2 := H.1 y (List.mem_of_getElem? hy)
  refine slot_ne h1.1 h2.1 (fun e => q ?_) h1.2 h2.2
  have hi : i < (ks.map (fun kk => kk.2.1)).length := by rw [List.length_map]; exact (List.getElem?_eq_some_iff.mp hx).1
  exact (List.getElem?_inj hi H.2).mp (by rw [List.getElem?_map, List.getElem?_map, hx, hy]; exact congrArg some e)
theorem ObjC.set {C : String} {ks : List (String × String × String × FieldType)} {vs : List Value} {c : Cell} {j : Nat} {kk : String × String × String × FieldType} {v : Value} (A : ObjC Z C ks vs c) (H : Lays Z a0 C ks) (hj : ks[j]? = some kk) (hv : j < vs.length) (hsl : Jvm.RoadKit.slotOf Z kk.1 kk.2.1 kk.2.2.1 < c.slots.size) : ObjC Z C ks (vs.set j v) (c.setSlot (Jvm.RoadKit.slotOf Z kk.1 kk.2.1 kk.2.2.1) v) := by
  obtain ⟨⟨k, e1, e2, e3, e4⟩, F⟩ := A
  refine ⟨⟨k, e1, e2, e3, fun q => (sz_set c _ _).trans (e4 q)⟩, fun i kk' w hk hw => ?_⟩
  rw [List.getElem?_set] at hw
  by_cases q : j = i
  · subst q
    rw [if_pos rfl, if_pos hv] at hw
    cases hj.symm.trans hk
    cases hw
    obtain ⟨v0, hv0⟩ : ∃ v0, vs[j]? = some v0 := ⟨_, List.getElem?_eq_getElem hv⟩
    obtain ⟨cf, kc, ii, f, f1, f2, f3, f4, f5, -⟩ := F j kk v0 hj hv0
    have es : Jvm.RoadKit.slotOf Z kk.1 kk.2.1 kk.2.2.1 = f.slot := by simp [Jvm.RoadKit.slotOf, f1]
    rw [es] at hsl ⊢
    exact ⟨cf, kc, ii, f, f1, f2, f3, f4, f5, by simp [Cell.setSlot, hsl]⟩
  · rw [if_neg q] at hw
    obtain ⟨cf, kc, ii, f, f1, f2, f3, f4, f5, f6⟩ := F i kk' w hk hw
    refine ⟨cf, kc, ii, f, f1, f2, f3, f4, f5, ?_⟩
    have es : Jvm.RoadKit.slotOf Z kk'.1 kk'.2.1 kk'.2.2.1 = f.slot := by simp [Jvm.RoadKit.slotOf, f1]
    have hne := H.ne hk hj (Ne.symm q)
    rw [es] at hne
    rw [← f6]
    exact Array.getElem?_setIfInBounds_ne (Ne.symm hne)
/-! a walk: from every state that stands at pc with these locals and this stack, the end P is reached -/
def Wk (p : Program) (l : Launch) (e : Env) (R : Room) (m : MethodId) (args : Array Value) (below : List Frame) (meth : Method) (c : Code) (M : State → Heap → Prop) (P : State → Prop) (n0 : Nat) (L : List (Addr × (Cell → Prop))) (k n pc : Nat) (Ls : Array Slot) (st : List Value) : Prop :=
  ∀ s T locs, Stand p l e R s m args below meth c T locs k n → M s T.heap → Fr n0 locs → Own n0 T.heap L → ∃ t, Steps p.tables e below (T.setTop (mkF m pc Ls st)) t ∧ P t
def Cx (Z : State) (own name : String) (bytes : ByteArray) (maxL : Nat) (ret : Option FieldType) (p : Program) (m : MethodId) (meth : Method) (c : Code) (M : State → Heap → Prop) : Prop :=
  p.tables.exec = Jvm.exec ∧ c.code = bytes ∧ c.maxLocals = maxL ∧ meth.sig.returnType = ret ∧ meth.locks = false ∧ meth.name = name ∧ (∀ s h, M s h → Z.Warmed39 s.vm ∧ s.vm.findClass own = some m.cls) ∧ ∀ (s : State) (h h' : Heap), h.size ≤ h'.size → M s h → M s h'
theorem Wk.via {st' : List Value} (W : Wk p l e R m args below meth c M P n0 L k n pc' Ls' st') (hs : ∀ (s T : State) (locs : List Loc), Stand p l e R s m args below meth c T locs k n → M s T.heap → Own n0 T.heap L → ∀ t, Steps p.tables e below (T.setTop (mkF m pc' Ls' st')) t → Steps p.tables e below (T.setTop (mkF m pc Ls st)) t) : Wk p l e R m args below meth c M P n0 L k n pc Ls st := by
  intro s T locs X hM hF hO
  obtain ⟨t, h1, h2⟩ := W s T locs X hM hF hO
  exact ⟨t, hs s T locs X hM hO t h1, h2⟩
theorem Wk.more {k' n' : Nat} (W : Wk p l e R m args below meth c M P n0 L k' n' pc Ls st) (hk : k ≤ k') (hn : n ≤ n') : Wk p l e R m args below meth c M P n0 L k n pc Ls st :=
  fun s T locs X hM hF hO => W s T locs (X.more hk hn) hM hF hO
theorem Wk.recast {L' : List (Addr × (Cell → Prop))} (W : Wk p l e R m args below meth c M P n0 L' k n pc Ls st) (q : ∀ h, Own n0 h L → Own n0 h L') : Wk p l e R m args below meth c M P n0 L k n pc Ls st :=
  fun s T locs X hM hF hO => W s T locs X hM hF (q _ hO)
theorem Wk.know {B : Prop} (q : ∀ h, Own n0 h L → B) (W : B → Wk p l e R m args below meth c M P n0 L k n pc Ls st) : Wk p l e R m args below meth c M P n0 L k n pc Ls st :=
  fun s T locs X hM hF hO => W (q _ hO) s T locs X hM hF hO
theorem Wk.cast {Ls2 : Array Slot} {st2 : List Value} (W : Wk p l e R m args below meth c M P n0 L k n pc Ls2 st2) (q : Ls = Ls2) (r : st = st2) : Wk p l e R m args below meth c M P n0 L k n pc Ls st := by subst q r; exact W
theorem Wk.iload {i : Nat} {v : Int32} (C : Cx Z own name bytes maxL ret p m meth c M) (hd : decode bytes pc = .ok (.iload i, 2)) (hl : Ls[i]? = some (.val (.int v))) (hp : pc' = pc + 2) (W : Wk p l e R m args below meth c M P n0 L k n pc' Ls (.int v :: st)) : Wk p l e R m args below meth c M P n0 L k n pc Ls (st) := by
  subst hp
  exact W.via fun s T locs X hM hO t h1 => XS.iload X.here C.1 rfl (hb C.2.1 hd) hl h1
theorem Wk.iloadN {i : Fin 4} {v : Int32} (C : Cx Z own name bytes maxL ret p m meth c M) (hd : decode bytes pc = .ok (.iload_n i, 1)) (hl : Ls[i.val]? = some (.val (.int v))) (hp : pc' = pc + 1) (W : Wk p l e R m args below meth c M P n0 L k n pc' Ls (.int v :: st)) : Wk p l e R m args below meth c M P n0 L k n pc Ls (st) := by
  subst hp
  exact W.via fun s T locs X hM hO t h1 => XS.iloadN X.here C.1 rfl (hb C.2.1 hd) hl h1
theorem Wk.lload {i : Nat} {v : Int64} (C : Cx Z own name bytes maxL ret p m meth c M) (hd : decode bytes pc = .ok (.lload i, 2)) (hl : Ls[i]? = some (.val (.long v))) (hp : pc' = pc + 2) (W : Wk p l e R m args below meth c M P n0 L k n pc' Ls (.long v :: st)) : Wk p l e R m args below meth c M P n0 L k n pc Ls (st) := by
  subst hp
  exact W.via fun s T locs X hM hO t h1 => XS.lload X.here C.1 rfl (hb C.2.1 hd) hl h1
theorem Wk.lloadN {i : Fin 4} {v : Int64} (C : Cx Z own name bytes maxL ret p m meth c M) (hd : decode bytes pc = .ok (.lload_n i, 1)) (hl : Ls[i.val]? = some (.val (.long v))) (hp : pc' = pc + 1) (W : Wk p l e R m args below meth c M P n0 L k n pc' Ls (.long v :: st)) : Wk p l e R m args below meth c M P n0 L k n pc Ls (st) := by
  subst hp
  exact W.via fun s T locs X hM hO t h1 => XS.lloadN X.here C.1 rfl (hb C.2.1 hd) hl h1
theorem Wk.aload {i : Nat} {v : Value} (C : Cx Z own name bytes maxL ret p m meth c M) (hd : decode bytes pc = .ok (.aload i, 2)) (hl : Ls[i]? = some (.val v)) (hr : v.isRef = true) (hp : pc' = pc + 2) (W : Wk p l e R m args below meth c M P n0 L k n pc' Ls (v :: st)) : Wk p l e R m args below meth c M P n0 L k n pc Ls (st) := by
  subst hp
  exact W.via fun s T locs X hM hO t h1 => XS.aload X.here C.1 rfl (hb C.2.1 hd) hl hr h1
theorem Wk.aloadN {i : Fin 4} {v : Value} (C : Cx Z own name bytes maxL ret p m meth c M) (hd : decode bytes pc = .ok (.aload_n i, 1)) (hl : Ls[i.val]? = some (.val v)) (hr : v.isRef = true) (hp : pc' = pc + 1) (W : Wk p l e R m args below meth c M P n0 L k n pc' Ls (v :: st)) : Wk p l e R m args below meth c M P n0 L k n pc Ls (st) := by
  subst hp
  exact W.via fun s T locs X hM hO t h1 => XS.aloadN X.here C.1 rfl (hb C.2.1 hd) hl hr h1
theorem Wk.istore {i : Nat} {x : Int32} (C : Cx Z own name bytes maxL ret p m meth c M) (hd : decode bytes pc = .ok (.istore i, 2)) (hl : storeLocals Ls i (.int x) = some Ls') (hp : pc' = pc + 2) (W : Wk p l e R m args below meth c M P n0 L k n pc' Ls' (st)) : Wk p l e R m args below meth c M P n0 L k n pc Ls (.int x :: st) := by
  subst hp
  exact W.via fun s T locs X hM hO t h1 => XS.istore X.here C.1 rfl (hb C.2.1 hd) rfl hl h1
theorem Wk.istoreV {i : Nat} {x : Int32} (F : Int32 → Array Slot) (C : Cx Z own name bytes maxL ret p m meth c M) (hd : decode bytes pc = .ok (.istore i, 2)) (hl : storeLocals Ls i (.int x) = some (F x)) (hp : pc' = pc + 2) (W : ∀ v : Int32, v = x → Wk p l e R m args below meth c M P n0 L k n pc' (F v) (st)) : Wk p l e R m args below meth c M P n0 L k n pc Ls (.int x :: st) := Wk.istore C hd hl hp (W x rfl)
theorem Wk.istoreN {i : Fin 4} {x : Int32} (C : Cx Z own name bytes maxL ret p m meth c M) (hd : decode bytes pc = .ok (.istore_n i, 1)) (hl : storeLocals Ls i.val (.int x) = some Ls') (hp : pc' = pc + 1) (W : Wk p l e R m args below meth c M P n0 L k n pc' Ls' (st)) : Wk p l e R m args below meth c M P n0 L k n pc Ls (.int x :: st) := by
  subst hp
  exact W.via fun s T locs X hM hO t h1 => XS.istoreN X.here C.1 rfl (hb C.2.1 hd) rfl hl h1
theorem Wk.istoreNV {i : Fin 4} {x : Int32} (F : Int32 → Array Slot) (C : Cx Z own name bytes maxL ret p m meth c M) (hd : decode bytes pc = .ok (.istore_n i, 1)) (hl : storeLocals Ls i.val (.int x) = some (F x)) (hp : pc' = pc + 1) (W : ∀ v : Int32, v = x → Wk p l e R m args below meth c M P n0 L k n pc' (F v) (st)) : Wk p l e R m args below meth c M P n0 L k n pc Ls (.int x :: st) := Wk.istoreN C hd hl hp (W x rfl)
theorem Wk.lstore {i : Nat} {x : Int64} (C : Cx Z own name bytes maxL ret p m meth c M) (hd : decode bytes pc = .ok (.lstore i, 2)) (hl : storeLocals Ls i (.long x) = some Ls') (hp : pc' = pc + 2) (W : Wk p l e R m args below meth c M P n0 L k n pc' Ls' (st)) : Wk p l e R m args below meth c M P n0 L k n pc Ls (.long x :: st) := by
  subst hp
  exact W.via fun s T locs X hM hO t h1 => XS.lstore X.here C.1 rfl (hb C.2.1 hd) rfl hl h1
theorem Wk.lstoreV {i : Nat} {x : Int64} (F : Int64 → Array Slot) (C : Cx Z own name bytes maxL ret p m meth c M) (hd : decode bytes pc = .ok (.lstore i, 2)) (hl : storeLocals Ls i (.long x) = some (F x)) (hp : pc' = pc + 2) (W : ∀ v : Int64, v = x → Wk p l e R m args below meth c M P n0 L k n pc' (F v) (st)) : Wk p l e R m args below meth c M P n0 L k n pc Ls (.long x :: st) := Wk.lstore C hd hl hp (W x rfl)
theorem Wk.lstoreN {i : Fin 4} {x : Int64} (C : Cx Z own name bytes maxL ret p m meth c M) (hd : decode bytes pc = .ok (.lstore_n i, 1)) (hl : storeLocals Ls i.val (.long x) = some Ls') (hp : pc' = pc + 1) (W : Wk p l e R m args below meth c M P n0 L k n pc' Ls' (st)) : Wk p l e R m args below meth c M P n0 L k n pc Ls (.long x :: st) := by
  subst hp
  exact W.via fun s T locs X hM hO t h1 => XS.lstoreN X.here C.1 rfl (hb C.2.1 hd) rfl hl h1
theorem Wk.lstoreNV {i : Fin 4} {x : Int64} (F : Int64 → Array Slot) (C : Cx Z own name bytes maxL ret p m meth c M) (hd : decode bytes pc = .ok (.lstore_n i, 1)) (hl : storeLocals Ls i.val (.long x) = some (F x)) (hp : pc' = pc + 1) (W : ∀ v : Int64, v = x → Wk p l e R m args below meth c M P n0 L k n pc' (F v) (st)) : Wk p l e R m args below meth c M P n0 L k n pc Ls (.long x :: st) := Wk.lstoreN C hd hl hp (W x rfl)
theorem Wk.astore {i : Nat} {x : Value} (C : Cx Z own name bytes maxL ret p m meth c M) (hd : decode bytes pc = .ok (.astore i, 2)) (hr : x.isRef = true) (hl : storeLocals Ls i x = some Ls') (hp : pc' = pc + 2) (W : Wk p l e R m args below meth c M P n0 L k n pc' Ls' (st)) : Wk p l e R m args below meth c M P n0 L k n pc Ls (x :: st) := by
  subst hp
  exact W.via fun s T locs X hM hO t h1 => XS.astore X.here C.1 rfl (hb C.2.1 hd) rfl hr hl h1
theorem Wk.astoreN {i : Fin 4} {x : Value} (C : Cx Z own name bytes maxL ret p m meth c M) (hd : decode bytes pc = .ok (.astore_n i, 1)) (hr : x.isRef = true) (hl : storeLocals Ls i.val x = some Ls') (hp : pc' = pc + 1) (W : Wk p l e R m args below meth c M P n0 L k n pc' Ls' (st)) : Wk p l e R m args below meth c M P n0 L k n pc Ls (x :: st) := by
  subst hp
  exact W.via fun s T locs X hM hO t h1 => XS.astoreN X.here C.1 rfl (hb C.2.1 hd) rfl hr hl h1
theorem Wk.iinc {i : Nat} {cst : Int} {x z : Int32} (C : Cx Z own name bytes maxL ret p m meth c M) (hd : decode bytes pc = .ok (.iinc i cst, 3)) (hl : Ls[i]? = some (.val (.int x))) (hz : x + Int32.ofInt cst = z) (hl' : storeLocals Ls i (.int z) = some Ls') (hp : pc' = pc + 3) (W : Wk p l e R m args below meth c M P n0 L k n pc' Ls' (st)) : Wk p l e R m args below meth c M P n0 L k n pc Ls (st) := by
  subst hp
  exact W.via fun s T locs X hM hO t h1 => XS.iinc X.here C.1 rfl (hb C.2.1 hd) hl (by rw [hz]; exact hl') h1
theorem Wk.iconst {i : Int} {z : Int32} (C : Cx Z own name bytes maxL ret p m meth c M) (hd : decode bytes pc = .ok (.iconst i, 1)) (hz : Int32.ofInt i = z) (hp : pc' = pc + 1) (W : Wk p l e R m args below meth c M P n0 L k n pc' Ls (.int z :: st)) : Wk p l e R m args below meth c M P n0 L k n pc Ls (st) := by
  subst hp
  subst hz
  exact W.via fun s T locs X hM hO t h1 => XS.iconst X.here C.1 rfl (hb C.2.1 hd) h1
theorem Wk.bipush {i : Int} {z : Int32} (C : Cx Z own name bytes maxL ret p m meth c M) (hd : decode bytes pc = .ok (.bipush i, 2)) (hz : (Int8.ofInt i).toInt32 = z) (hp : pc' = pc + 2) (W : Wk p l e R m args below meth c M P n0 L k n pc' Ls (.int z :: st)) : Wk p l e R m args below meth c M P n0 L k n pc Ls (st) := by
  subst hp
  subst hz
  exact W.via fun s T locs X hM hO t h1 => XS.bipush X.here C.1 rfl (hb C.2.1 hd) h1
theorem Wk.sipush {i : Int} {z : Int32} (C : Cx Z own name bytes maxL ret p m meth c M) (hd : decode bytes pc = .ok (.sipush i, 3)) (hz : (Int16.ofInt i).toInt32 = z) (hp : pc' = pc + 3) (W : Wk p l e R m args below meth c M P n0 L k n pc' Ls (.int z :: st)) : Wk p l e R m args below meth c M P n0 L k n pc Ls (st) := by
  subst hp
  subst hz
  exact W.via fun s T locs X hM hO t h1 => XS.sipush X.here C.1 rfl (hb C.2.1 hd) h1
theorem Wk.lconst {i : Fin 2} {z : Int64} (C : Cx Z own name bytes maxL ret p m meth c M) (hd : decode bytes pc = .ok (.lconst i, 1)) (hz : Int64.ofNat i = z) (hp : pc' = pc + 1) (W : Wk p l e R m args below meth c M P n0 L k n pc' Ls (.long z :: st)) : Wk p l e R m args below meth c M P n0 L k n pc Ls (st) := by
  subst hp
  subst hz
  exact W.via fun s T locs X hM hO t h1 => XS.lconst X.here C.1 rfl (hb C.2.1 hd) h1
theorem Wk.aconstNull (C : Cx Z own name bytes maxL ret p m meth c M) (hd : decode bytes pc = .ok (.aconst_null, 1)) (hp : pc' = pc + 1) (W : Wk p l e R m args below meth c M P n0 L k n pc' Ls (.null :: st)) : Wk p l e R m args below meth c M P n0 L k n pc Ls (st) := by
  subst hp
  exact W.via fun s T locs X hM hO t h1 => XS.aconstNull X.here C.1 rfl (hb C.2.1 hd) h1
theorem Wk.ldcInt {i : Nat} {z : Int32} (C : Cx Z own name bytes maxL ret p m meth c M) (w : (Cond.constant own i z).before a0 Z = true) (hd : decode bytes pc = .ok (.ldc i, 2)) (hp : pc' = pc + 2) (W : Wk p l e R m args below meth c M P n0 L k n pc' Ls (.int z :: st)) : Wk p l e R m args below meth c M P n0 L k n pc Ls (st) := by
  subst hp
  exact W.via fun s T locs X hM hO t h1 => X.ldcInt C.1 (C.2.2.2.2.2.2.1 _ _ hM).2 (mvT (C.2.2.2.2.2.2.1 _ _ hM).1 w) (g := mkF m pc Ls st) rfl (hb C.2.1 hd) t h1
theorem Wk.ldcwInt {i : Nat} {z : Int32} (C : Cx Z own name bytes maxL ret p m meth c M) (w : (Cond.constant own i z).before a0 Z = true) (hd : decode bytes pc = .ok (.ldc_w i, 3)) (hp : pc' = pc + 3) (W : Wk p l e R m args below meth c M P n0 L k n pc' Ls (.int z :: st)) : Wk p l e R m args below meth c M P n0 L k n pc Ls (st) := by
  subst hp
  exact W.via fun s T locs X hM hO t h1 => X.ldcwInt C.1 (C.2.2.2.2.2.2.1 _ _ hM).2 (mvT (C.2.2.2.2.2.2.1 _ _ hM).1 w) (g := mkF m pc Ls st) rfl (hb C.2.1 hd) t h1
theorem Wk.ldc2Long {i : Nat} {z : Int64} (C : Cx Z own name bytes maxL ret p m meth c M) (w : (Cond.constantLong own i z).before a0 Z = true) (hd : decode bytes pc = .ok (.ldc2_w i, 3)) (hp : pc' = pc + 3) (W : Wk p l e R m args below meth c M P n0 L k n pc' Ls (.long z :: st)) : Wk p l e R m args below meth c M P n0 L k n pc Ls (st) := by
  subst hp
  exact W.via fun s T locs X hM hO t h1 => X.ldc2Long C.1 (C.2.2.2.2.2.2.1 _ _ hM).2 (mvT (C.2.2.2.2.2.2.1 _ _ hM).1 w) (g := mkF m pc Ls st) rfl (hb C.2.1 hd) t h1
theorem Wk.iadd {x y : Int32} (C : Cx Z own name bytes maxL ret p m meth c M) (hd : decode bytes pc = .ok (.iadd, 1)) (hp : pc' = pc + 1) (W : Wk p l e R m args below meth c M P n0 L k n pc' Ls (.int (x + y) :: st)) : Wk p l e R m args below meth c M P n0 L k n pc Ls (.int y :: .int x :: st) := by
  subst hp
  exact W.via fun s T locs X hM hO t h1 => XS.iadd X.here C.1 rfl (hb C.2.1 hd) rfl h1
theorem Wk.isub {x y : Int32} (C : Cx Z own name bytes maxL ret p m meth c M) (hd : decode bytes pc = .ok (.isub, 1)) (hp : pc' = pc + 1) (W : Wk p l e R m args below meth c M P n0 L k n pc' Ls (.int (x - y) :: st)) : Wk p l e R m args below meth c M P n0 L k n pc Ls (.int y :: .int x :: st) := by
  subst hp
  exact W.via fun s T locs X hM hO t h1 => XS.isub X.here C.1 rfl (hb C.2.1 hd) rfl h1
theorem Wk.imul {x y : Int32} (C : Cx Z own name bytes maxL ret p m meth c M) (hd : decode bytes pc = .ok (.imul, 1)) (hp : pc' = pc + 1) (W : Wk p l e R m args below meth c M P n0 L k n pc' Ls (.int (x * y) :: st)) : Wk p l e R m args below meth c M P n0 L k n pc Ls (.int y :: .int x :: st) := by
  subst hp
  exact W.via fun s T locs X hM hO t h1 => XS.imul X.here C.1 rfl (hb C.2.1 hd) rfl h1
theorem Wk.iand {x y : Int32} (C : Cx Z own name bytes maxL ret p m meth c M) (hd : decode bytes pc = .ok (.iand, 1)) (hp : pc' = pc + 1) (W : Wk p l e R m args below meth c M P n0 L k n pc' Ls (.int (x &&& y) :: st)) : Wk p l e R m args below meth c M P n0 L k n pc Ls (.int y :: .int x :: st) := by
  subst hp
  exact W.via fun s T locs X hM hO t h1 => XS.iand X.here C.1 rfl (hb C.2.1 hd) rfl h1
theorem Wk.ior {x y : Int32} (C : Cx Z own name bytes maxL ret p m meth c M) (hd : decode bytes pc = .ok (.ior, 1)) (hp : pc' = pc + 1) (W : Wk p l e R m args below meth c M P n0 L k n pc' Ls (.int (x ||| y) :: st)) : Wk p l e R m args below meth c M P n0 L k n pc Ls (.int y :: .int x :: st) := by
  subst hp
  exact W.via fun s T locs X hM hO t h1 => XS.ior X.here C.1 rfl (hb C.2.1 hd) rfl h1
theorem Wk.ixor {x y : Int32} (C : Cx Z own name bytes maxL ret p m meth c M) (hd : decode bytes pc = .ok (.ixor, 1)) (hp : pc' = pc + 1) (W : Wk p l e R m args below meth c M P n0 L k n pc' Ls (.int (x ^^^ y) :: st)) : Wk p l e R m args below meth c M P n0 L k n pc Ls (.int y :: .int x :: st) := by
  subst hp
  exact W.via fun s T locs X hM hO t h1 => XS.ixor X.here C.1 rfl (hb C.2.1 hd) rfl h1
theorem Wk.ishl {x y : Int32} (C : Cx Z own name bytes maxL ret p m meth c M) (hd : decode bytes pc = .ok (.ishl, 1)) (hp : pc' = pc + 1) (W : Wk p l e R m args below meth c M P n0 L k n pc' Ls (.int (x <<< (y &&& 31)) :: st)) : Wk p l e R m args below meth c M P n0 L k n pc Ls (.int y :: .int x :: st) := by
  subst hp
  exact W.via fun s T locs X hM hO t h1 => XS.ishl X.here C.1 rfl (hb C.2.1 hd) rfl h1
theorem Wk.ishr {x y : Int32} (C : Cx Z own name bytes maxL ret p m meth c M) (hd : decode bytes pc = .ok (.ishr, 1)) (hp : pc' = pc + 1) (W : Wk p l e R m args below meth c M P n0 L k n pc' Ls (.int (x >>> (y &&& 31)) :: st)) : Wk p l e R m args below meth c M P n0 L k n pc Ls (.int y :: .int x :: st) := by
  subst hp
  exact W.via fun s T locs X hM hO t h1 => XS.ishr X.here C.1 rfl (hb C.2.1 hd) rfl h1
theorem Wk.iushr {x y : Int32} (C : Cx Z own name bytes maxL ret p m meth c M) (hd : decode bytes pc = .ok (.iushr, 1)) (hp : pc' = pc + 1) (W : Wk p l e R m args below meth c M P n0 L k n pc' Ls (.int ((x.toUInt32 >>> (y &&& 31).toUInt32).toInt32) :: st)) : Wk p l e R m args below meth c M P n0 L k n pc Ls (.int y :: .int x :: st) := by
  subst hp
  exact W.via fun s T locs X hM hO t h1 => XS.iushr X.here C.1 rfl (hb C.2.1 hd) rfl h1
theorem Wk.irem {x y : Int32} (C : Cx Z own name bytes maxL ret p m meth c M) (hd : decode bytes pc = .ok (.irem, 1)) (hy : y ≠ 0) (hp : pc' = pc + 1) (W : Wk p l e R m args below meth c M P n0 L k n pc' Ls (.int (x % y) :: st)) : Wk p l e R m args below meth c M P n0 L k n pc Ls (.int y :: .int x :: st) := by
  subst hp
  exact W.via fun s T locs X hM hO t h1 => iremM X C.1 rfl (hb C.2.1 hd) rfl hy h1
theorem Wk.idiv {x y : Int32} (C : Cx Z own name bytes maxL ret p m meth c M) (hd : decode bytes pc = .ok (.idiv, 1)) (hy : y ≠ 0) (hp : pc' = pc + 1) (W : Wk p l e R m args below meth c M P n0 L k n pc' Ls (.int (x / y) :: st)) : Wk p l e R m args below meth c M P n0 L k n pc Ls (.int y :: .int x :: st) := by
  subst hp
  exact W.via fun s T locs X hM hO t h1 => XS.idiv X.here C.1 rfl (hb C.2.1 hd) rfl hy h1
theorem Wk.ladd {x y : Int64} (C : Cx Z own name bytes maxL ret p m meth c M) (hd : decode bytes pc = .ok (.ladd, 1)) (hp : pc' = pc + 1) (W : Wk p l e R m args below meth c M P n0 L k n pc' Ls (.long (x + y) :: st)) : Wk p l e R m args below meth c M P n0 L k n pc Ls (.long y :: .long x :: st) := by
  subst hp
  exact W.via fun s T locs X hM hO t h1 => XS.ladd X.here C.1 rfl (hb C.2.1 hd) rfl h1
theorem Wk.lsub {x y : Int64} (C : Cx Z own name bytes maxL ret p m meth c M) (hd : decode bytes pc = .ok (.lsub, 1)) (hp : pc' = pc + 1) (W : Wk p l e R m args below meth c M P n0 L k n pc' Ls (.long (x - y) :: st)) : Wk p l e R m args below meth c M P n0 L k n pc Ls (.long y :: .long x :: st) := by
  subst hp
  exact W.via fun s T locs X hM hO t h1 => XS.lsub X.here C.1 rfl (hb C.2.1 hd) rfl h1
theorem Wk.lmul {x y : Int64} (C : Cx Z own name bytes maxL ret p m meth c M) (hd : decode bytes pc = .ok (.lmul, 1)) (hp : pc' = pc + 1) (W : Wk p l e R m args below meth c M P n0 L k n pc' Ls (.long (x * y) :: st)) : Wk p l e R m args below meth c M P n0 L k n pc Ls (.long y :: .long x :: st) := by
  subst hp
  exact W.via fun s T locs X hM hO t h1 => XS.lmul X.here C.1 rfl (hb C.2.1 hd) rfl h1
theorem Wk.land {x y : Int64} (C : Cx Z own name bytes maxL ret p m meth c M) (hd : decode bytes pc = .ok (.land, 1)) (hp : pc' = pc + 1) (W : Wk p l e R m args below meth c M P n0 L k n pc' Ls (.long (x &&& y) :: st)) : Wk p l e R m args below meth c M P n0 L k n pc Ls (.long y :: .long x :: st) := by
  subst hp
  exact W.via fun s T locs X hM hO t h1 => XS.land X.here C.1 rfl (hb C.2.1 hd) rfl h1
theorem Wk.lor {x y : Int64} (C : Cx Z own name bytes maxL ret p m meth c M) (hd : decode bytes pc = .ok (.lor, 1)) (hp : pc' = pc + 1) (W : Wk p l e R m args below meth c M P n0 L k n pc' Ls (.long (x ||| y) :: st)) : Wk p l e R m args below meth c M P n0 L k n pc Ls (.long y :: .long x :: st) := by
  subst hp
  exact W.via fun s T locs X hM hO t h1 => XS.lor X.here C.1 rfl (hb C.2.1 hd) rfl h1
theorem Wk.lxor {x y : Int64} (C : Cx Z own name bytes maxL ret p m meth c M) (hd : decode bytes pc = .ok (.lxor, 1)) (hp : pc' = pc + 1) (W : Wk p l e R m args below meth c M P n0 L k n pc' Ls (.long (x ^^^ y) :: st)) : Wk p l e R m args below meth c M P n0 L k n pc Ls (.long y :: .long x :: st) := by
  subst hp
  exact W.via fun s T locs X hM hO t h1 => XS.lxor X.here C.1 rfl (hb C.2.1 hd) rfl h1
theorem Wk.lshl {x : Int64} {y : Int32} (C : Cx Z own name bytes maxL ret p m meth c M) (hd : decode bytes pc = .ok (.lshl, 1)) (hp : pc' = pc + 1) (W : Wk p l e R m args below meth c M P n0 L k n pc' Ls (.long (x <<< (y &&& 0x3f).toInt64) :: st)) : Wk p l e R m args below meth c M P n0 L k n pc Ls (.int y :: .long x :: st) := by
  subst hp
  exact W.via fun s T locs X hM hO t h1 => XS.lshl X.here C.1 rfl (hb C.2.1 hd) rfl h1
theorem Wk.lshr {x : Int64} {y : Int32} (C : Cx Z own name bytes maxL ret p m meth c M) (hd : decode bytes pc = .ok (.lshr, 1)) (hp : pc' = pc + 1) (W : Wk p l e R m args below meth c M P n0 L k n pc' Ls (.long (x >>> (y &&& 0x3f).toInt64) :: st)) : Wk p l e R m args below meth c M P n0 L k n pc Ls (.int y :: .long x :: st) := by
  subst hp
  exact W.via fun s T locs X hM hO t h1 => XS.lshr X.here C.1 rfl (hb C.2.1 hd) rfl h1
theorem Wk.lushr {x : Int64} {y : Int32} (C : Cx Z own name bytes maxL ret p m meth c M) (hd : decode bytes pc = .ok (.lushr, 1)) (hp : pc' = pc + 1) (W : Wk p l e R m args below meth c M P n0 L k n pc' Ls (.long ((x.toUInt64 >>> (y &&& 0x3f).toInt64.toUInt64).toInt64) :: st)) : Wk p l e R m args below meth c M P n0 L k n pc Ls (.int y :: .long x :: st) := by
  subst hp
  exact W.via fun s T locs X hM hO t h1 => XS.lushr X.here C.1 rfl (hb C.2.1 hd) rfl h1
theorem Wk.lrem {x y : Int64} (C : Cx Z own name bytes maxL ret p m meth c M) (hd : decode bytes pc = .ok (.lrem, 1)) (hy : y ≠ 0) (hp : pc' = pc + 1) (W : Wk p l e R m args below meth c M P n0 L k n pc' Ls (.long (x % y) :: st)) : Wk p l e R m args below meth c M P n0 L k n pc Ls (.long y :: .long x :: st) := by
  subst hp
  exact W.via fun s T locs X hM hO t h1 => XS.lrem X.here C.1 rfl (hb C.2.1 hd) rfl hy (by rw [lrem_mod]; exact h1)
theorem Wk.i2b {x : Int32} (C : Cx Z own name bytes maxL ret p m meth c M) (hd : decode bytes pc = .ok (.i2b, 1)) (hp : pc' = pc + 1) (W : Wk p l e R m args below meth c M P n0 L k n pc' Ls (.int (x.toInt8.toInt32) :: st)) : Wk p l e R m args below meth c M P n0 L k n pc Ls (.int x :: st) := by
  subst hp
  exact W.via fun s T locs X hM hO t h1 => XS.i2b X.here C.1 rfl (hb C.2.1 hd) rfl h1
theorem Wk.i2c {x : Int32} (C : Cx Z own name bytes maxL ret p m meth c M) (hd : decode bytes pc = .ok (.i2c, 1)) (hp : pc' = pc + 1) (W : Wk p l e R m args below meth c M P n0 L k n pc' Ls (.int (x.toUInt32.toUInt16.toUInt32.toInt32) :: st)) : Wk p l e R m args below meth c M P n0 L k n pc Ls (.int x :: st) := by
  subst hp
  exact W.via fun s T locs X hM hO t h1 => XS.i2c X.here C.1 rfl (hb C.2.1 hd) rfl h1
theorem Wk.i2s {x : Int32} (C : Cx Z own name bytes maxL ret p m meth c M) (hd : decode bytes pc = .ok (.i2s, 1)) (hp : pc' = pc + 1) (W : Wk p l e R m args below meth c M P n0 L k n pc' Ls (.int (x.toInt16.toInt32) :: st)) : Wk p l e R m args below meth c M P n0 L k n pc Ls (.int x :: st) := by
  subst hp
  exact W.via fun s T locs X hM hO t h1 => XS.i2s X.here C.1 rfl (hb C.2.1 hd) rfl h1
theorem Wk.i2l {x : Int32} (C : Cx Z own name bytes maxL ret p m meth c M) (hd : decode bytes pc = .ok (.i2l, 1)) (hp : pc' = pc + 1) (W : Wk p l e R m args below meth c M P n0 L k n pc' Ls (.long (x.toInt64) :: st)) : Wk p l e R m args below meth c M P n0 L k n pc Ls (.int x :: st) := by
  subst hp
  exact W.via fun s T locs X hM hO t h1 => XS.i2l X.here C.1 rfl (hb C.2.1 hd) rfl h1
theorem Wk.l2i {x : Int64} (C : Cx Z own name bytes maxL ret p m meth c M) (hd : decode bytes pc = .ok (.l2i, 1)) (hp : pc' = pc + 1) (W : Wk p l e R m args below meth c M P n0 L k n pc' Ls (.int (x.toInt32) :: st)) : Wk p l e R m args below meth c M P n0 L k n pc Ls (.long x :: st) := by
  subst hp
  exact W.via fun s T locs X hM hO t h1 => XS.l2i X.here C.1 rfl (hb C.2.1 hd) rfl h1
theorem Wk.lneg {x : Int64} (C : Cx Z own name bytes maxL ret p m meth c M) (hd : decode bytes pc = .ok (.lneg, 1)) (hp : pc' = pc + 1) (W : Wk p l e R m args below meth c M P n0 L k n pc' Ls (.long (-x) :: st)) : Wk p l e R m args below meth c M P n0 L k n pc Ls (.long x :: st) := by
  subst hp
  exact W.via fun s T locs X hM hO t h1 => XS.lneg X.here C.1 rfl (hb C.2.1 hd) rfl h1
theorem Wk.ineg {x : Int32} (C : Cx Z own name bytes maxL ret p m meth c M) (hd : decode bytes pc = .ok (.ineg, 1)) (hp : pc' = pc + 1) (W : Wk p l e R m args below meth c M P n0 L k n pc' Ls (.int (-x) :: st)) : Wk p l e R m args below meth c M P n0 L k n pc Ls (.int x :: st) := by
  subst hp
  exact W.via fun s T locs X hM hO t h1 => XS.ineg X.here C.1 rfl (hb C.2.1 hd) rfl h1
theorem Wk.dup {x : Value} (C : Cx Z own name bytes maxL ret p m meth c M) (hd : decode bytes pc = .ok (.dup, 1)) (hc : x.category = 1) (hp : pc' = pc + 1) (W : Wk p l e R m args below meth c M P n0 L k n pc' Ls (x :: x :: st)) : Wk p l e R m args below meth c M P n0 L k n pc Ls (x :: st) := by
  subst hp
  exact W.via fun s T locs X hM hO t h1 => XS.dup X.here C.1 rfl (hb C.2.1 hd) rfl hc h1
theorem Wk.pop {x : Value} (C : Cx Z own name bytes maxL ret p m meth c M) (hd : decode bytes pc = .ok (.pop, 1)) (hc : x.category = 1) (hp : pc' = pc + 1) (W : Wk p l e R m args below meth c M P n0 L k n pc' Ls (st)) : Wk p l e R m args below meth c M P n0 L k n pc Ls (x :: st) := by
  subst hp
  exact W.via fun s T locs X hM hO t h1 => XS.pop X.here C.1 rfl (hb C.2.1 hd) rfl hc h1
theorem Wk.dupX1 {x y : Value} (C : Cx Z own name bytes maxL ret p m meth c M) (hd : decode bytes pc = .ok (.dup_x1, 1)) (hc : x.category = 1) (hc' : y.category = 1) (hp : pc' = pc + 1) (W : Wk p l e R m args below meth c M P n0 L k n pc' Ls (x :: y :: x :: st)) : Wk p l e R m args below meth c M P n0 L k n pc Ls (x :: y :: st) := by
  subst hp
  exact W.via fun s T locs X hM hO t h1 => XS.dupX1 X.here C.1 rfl (hb C.2.1 hd) rfl hc hc' h1
theorem Wk.dup2 {x y : Value} (C : Cx Z own name bytes maxL ret p m meth c M) (hd : decode bytes pc = .ok (.dup2, 1)) (hc : x.category = 1) (hc' : y.category = 1) (hp : pc' = pc + 1) (W : Wk p l e R m args below meth c M P n0 L k n pc' Ls (x :: y :: x :: y :: st)) : Wk p l e R m args below meth c M P n0 L k n pc Ls (x :: y :: st) := by
  subst hp
  exact W.via fun s T locs X hM hO t h1 => Jvm.Free.XT.dup2 X.here C.1 rfl (hb C.2.1 hd) rfl hc hc' h1
theorem Wk.goto {o : Int} (C : Cx Z own name bytes maxL ret p m meth c M) (hd : decode bytes pc = .ok (.goto o, 3)) (ho : 0 ≤ (pc : Int) + o) (hp : ((pc : Int) + o).toNat = pc') (W : Wk p l e R m args below meth c M P n0 L k n pc' Ls (st)) : Wk p l e R m args below meth c M P n0 L k n pc Ls (st) :=
  W.via fun s T locs X hM hO t h1 => XS.goto X.here C.1 rfl (pc0 := pc) rfl (hb C.2.1 hd) ho hp h1
theorem Wk.icmp_lt {x y : Int32} {o : Int} {pcT pcF : Nat} (C : Cx Z own name bytes maxL ret p m meth c M) (hd : decode bytes pc = .ok (.if_icmp .lt o, 3)) (ho : 0 ≤ (pc : Int) + o) (hp : ((pc : Int) + o).toNat = pcT) (hp' : pcF = pc + 3) (hT : x < y → Wk p l e R m args below meth c M P n0 L k n pcT Ls (st)) (hF : ¬ x < y → Wk p l e R m args below meth c M P n0 L k n pcF Ls (st)) : Wk p l e R m args below meth c M P n0 L k n pc Ls (.int y :: .int x :: st) := by
  subst hp'
  by_cases h : x < y
  · exact (hT h).via fun s T locs X hM hO t h1 => XS.icmpYes X.here C.1 rfl (pc0 := pc) rfl (hb C.2.1 hd) rfl (tlt h).1 ho hp h1
  · exact (hF h).via fun s T locs X hM hO t h1 => XS.icmpNo X.here C.1 rfl (hb C.2.1 hd) rfl (flt h).1 h1
theorem Wk.if_lt {x : Int32} {o : Int} {pcT pcF : Nat} (C : Cx Z own name bytes maxL ret p m meth c M) (hd : decode bytes pc = .ok (.ifCond .lt o, 3)) (ho : 0 ≤ (pc : Int) + o) (hp : ((pc : Int) + o).toNat = pcT) (hp' : pcF = pc + 3) (hT : x < 0 → Wk p l e R m args below meth c M P n0 L k n pcT Ls (st)) (hF : ¬ x < 0 → Wk p l e R m args below meth c M P n0 L k n pcF Ls (st)) : Wk p l e R m args below meth c M P n0 L k n pc Ls (.int x :: st) := by
  subst hp'
  by_cases h : x < 0
  · exact (hT h).via fun s T locs X hM hO t h1 => XS.ifYes X.here C.1 rfl (pc0 := pc) rfl (hb C.2.1 hd) rfl ((if0 _ _).trans (tlt h).1) ho hp h1
  · exact (hF h).via fun s T locs X hM hO t h1 => XS.ifNo X.here C.1 rfl (hb C.2.1 hd) rfl ((if0 _ _).trans (flt h).1) h1
theorem Wk.lcmp_lt {x y : Int64} {o : Int} {pc1 pcT pcF : Nat} (C : Cx Z own name bytes maxL ret p m meth c M) (hd0 : decode bytes pc = .ok (.lcmp, 1)) (hp1 : pc1 = pc + 1) (hd : decode bytes pc1 = .ok (.ifCond .lt o, 3)) (ho : 0 ≤ (pc1 : Int) + o) (hp : ((pc1 : Int) + o).toNat = pcT) (hp' : pcF = pc1 + 3) (hT : x < y → Wk p l e R m args below meth c M P n0 L k n pcT Ls (st)) (hF : ¬ x < y → Wk p l e R m args below meth c M P n0 L k n pcF Ls (st)) : Wk p l e R m args below meth c M P n0 L k n pc Ls (.long y :: .long x :: st) := by
  subst hp1
  have W1 : Wk p l e R m args below meth c M P n0 L k n (pc + 1) Ls (.int (lcmpW x y) :: st) := Wk.if_lt C hd ho hp hp' (fun h => hT ((lw_lt x y).mp h)) (fun h => hF (fun q => h ((lw_lt x y).mpr q)))
  exact W1.via fun s T locs X hM hO t h1 => XS.lcmp X.here C.1 rfl (hb C.2.1 hd0) rfl h1
theorem Wk.icmp_ge {x y : Int32} {o : Int} {pcT pcF : Nat} (C : Cx Z own name bytes maxL ret p m meth c M) (hd : decode bytes pc = .ok (.if_icmp .ge o, 3)) (ho : 0 ≤ (pc : Int) + o) (hp : ((pc : Int) + o).toNat = pcT) (hp' : pcF = pc + 3) (hT : ¬ x < y → Wk p l e R m args below meth c M P n0 L k n pcT Ls (st)) (hF : x < y → Wk p l e R m args below meth c M P n0 L k n pcF Ls (st)) : Wk p l e R m args below meth c M P n0 L k n pc Ls (.int y :: .int x :: st) := by
  subst hp'
  by_cases h : x < y
  · exact (hF h).via fun s T locs X hM hO t h1 => XS.icmpNo X.here C.1 rfl (hb C.2.1 hd) rfl (tlt h).2.1 h1
  · exact (hT h).via fun s T locs X hM hO t h1 => XS.icmpYes X.here C.1 rfl (pc0 := pc) rfl (hb C.2.1 hd) rfl (flt h).2.1 ho hp h1
theorem Wk.if_ge {x : Int32} {o : Int} {pcT pcF : Nat} (C : Cx Z own name bytes maxL ret p m meth c M) (hd : decode bytes pc = .ok (.ifCond .ge o, 3)) (ho : 0 ≤ (pc : Int) + o) (hp : ((pc : Int) + o).toNat = pcT) (hp' : pcF = pc + 3) (hT : ¬ x < 0 → Wk p l e R m args below meth c M P n0 L k n pcT Ls (st)) (hF : x < 0 → Wk p l e R m args below meth c M P n0 L k n pcF Ls (st)) : Wk p l e R m args below meth c M P n0 L k n pc Ls (.int x :: st) := by
  subst hp'
  by_cases h : x < 0
  · exact (hF h).via fun s T locs X hM hO t h1 => XS.ifNo X.here C.1 rfl (hb C.2.1 hd) rfl ((if0 _ _).trans (tlt h).2.1) h1
  · exact (hT h).via fun s T locs X hM hO t h1 => XS.ifYes X.here C.1 rfl (pc0 := pc) rfl (hb C.2.1 hd) rfl ((if0 _ _).trans (flt h).2.1) ho hp h1
theorem Wk.lcmp_ge {x y : Int64} {o : Int} {pc1 pcT pcF : Nat} (C : Cx Z own name bytes maxL ret p m meth c M) (hd0 : decode bytes pc = .ok (.lcmp, 1)) (hp1 : pc1 = pc + 1) (hd : decode bytes pc1 = .ok (.ifCond .ge o, 3)) (ho : 0 ≤ (pc1 : Int) + o) (hp : ((pc1 : Int) + o).toNat = pcT) (hp' : pcF = pc1 + 3) (hT : ¬ x < y → Wk p l e R m args below meth c M P n0 L k n pcT Ls (st)) (hF : x < y → Wk p l e R m args below meth c M P n0 L k n pcF Ls (st)) : Wk p l e R m args below meth c M P n0 L k n pc Ls (.long y :: .long x :: st) := by
  subst hp1
  have W1 : Wk p l e R m args below meth c M P n0 L k n (pc + 1) Ls (.int (lcmpW x y) :: st) := Wk.if_ge C hd ho hp hp' (fun h => hT (fun q => h ((lw_lt x y).mpr q))) (fun h => hF ((lw_lt x y).mp h))
  exact W1.via fun s T locs X hM hO t h1 => XS.lcmp X.here C.1 rfl (hb C.2.1 hd0) rfl h1
theorem Wk.icmp_gt {x y : Int32} {o : Int} {pcT pcF : Nat} (C : Cx Z own name bytes maxL ret p m meth c M) (hd : decode bytes pc = .ok (.if_icmp .gt o, 3)) (ho : 0 ≤ (pc : Int) + o) (hp : ((pc : Int) + o).toNat = pcT) (hp' : pcF = pc + 3) (hT : y < x → Wk p l e R m args below meth c M P n0 L k n pcT Ls (st)) (hF : ¬ y < x → Wk p l e R m args below meth c M P n0 L k n pcF Ls (st)) : Wk p l e R m args below meth c M P n0 L k n pc Ls (.int y :: .int x :: st) := by
  subst hp'
  by_cases h : y < x
  · exact (hT h).via fun s T locs X hM hO t h1 => XS.icmpYes X.here C.1 rfl (pc0 := pc) rfl (hb C.2.1 hd) rfl (tlt h).2.2.1 ho hp h1
  · exact (hF h).via fun s T locs X hM hO t h1 => XS.icmpNo X.here C.1 rfl (hb C.2.1 hd) rfl (flt h).2.2.1 h1
theorem Wk.if_gt {x : Int32} {o : Int} {pcT pcF : Nat} (C : Cx Z own name bytes maxL ret p m meth c M) (hd : decode bytes pc = .ok (.ifCond .gt o, 3)) (ho : 0 ≤ (pc : Int) + o) (hp : ((pc : Int) + o).toNat = pcT) (hp' : pcF = pc + 3) (hT : 0 < x → Wk p l e R m args below meth c M P n0 L k n pcT Ls (st)) (hF : ¬ 0 < x → Wk p l e R m args below meth c M P n0 L k n pcF Ls (st)) : Wk p l e R m args below meth c M P n0 L k n pc Ls (.int x :: st) := by
  subst hp'
  by_cases h : 0 < x
  · exact (hT h).via fun s T locs X hM hO t h1 => XS.ifYes X.here C.1 rfl (pc0 := pc) rfl (hb C.2.1 hd) rfl ((if0 _ _).trans (tlt h).2.2.1) ho hp h1
  · exact (hF h).via fun s T locs X hM hO t h1 => XS.ifNo X.here C.1 rfl (hb C.2.1 hd) rfl ((if0 _ _).trans (flt h).2.2.1) h1
theorem Wk.lcmp_gt {x y : Int64} {o : Int} {pc1 pcT pcF : Nat} (C : Cx Z own name bytes maxL ret p m meth c M) (hd0 : decode bytes pc = .ok (.lcmp, 1)) (hp1 : pc1 = pc + 1) (hd : decode bytes pc1 = .ok (.ifCond .gt o, 3)) (ho : 0 ≤ (pc1 : Int) + o) (hp : ((pc1 : Int) + o).toNat = pcT) (hp' : pcF = pc1 + 3) (hT : y < x → Wk p l e R m args below meth c M P n0 L k n pcT Ls (st)) (hF : ¬ y < x → Wk p l e R m args below meth c M P n0 L k n pcF Ls (st)) : Wk p l e R m args below meth c M P n0 L k n pc Ls (.long y :: .long x :: st) := by
  subst hp1
  have W1 : Wk p l e R m args below meth c M P n0 L k n (pc + 1) Ls (.int (lcmpW x y) :: st) := Wk.if_gt C hd ho hp hp' (fun h => hT ((lw_gt x y).mp h)) (fun h => hF (fun q => h ((lw_gt x y).mpr q)))
  exact W1.via fun s T locs X hM hO t h1 => XS.lcmp X.here C.1 rfl (hb C.2.1 hd0) rfl h1
theorem Wk.icmp_le {x y : Int32} {o : Int} {pcT pcF : Nat} (C : Cx Z own name bytes maxL ret p m meth c M) (hd : decode bytes pc = .ok (.if_icmp .le o, 3)) (ho : 0 ≤ (pc : Int) + o) (hp : ((pc : Int) + o).toNat = pcT) (hp' : pcF = pc + 3) (hT : ¬ y < x → Wk p l e R m args below meth c M P n0 L k n pcT Ls (st)) (hF : y < x → Wk p l e R m args below meth c M P n0 L k n pcF Ls (st)) : Wk p l e R m args below meth c M P n0 L k n pc Ls (.int y :: .int x :: st) := by
  subst hp'
  by_cases h : y < x
  · exact (hF h).via fun s T locs X hM hO t h1 => XS.icmpNo X.here C.1 rfl (hb C.2.1 hd) rfl (tlt h).2.2.2 h1
  · exact (hT h).via fun s T locs X hM hO t h1 => XS.icmpYes X.here C.1 rfl (pc0 := pc) rfl (hb C.2.1 hd) rfl (flt h).2.2.2 ho hp h1
theorem Wk.if_le {x : Int32} {o : Int} {pcT pcF : Nat} (C : Cx Z own name bytes maxL ret p m meth c M) (hd : decode bytes pc = .ok (.ifCond .le o, 3)) (ho : 0 ≤ (pc : Int) + o) (hp : ((pc : Int) + o).toNat = pcT) (hp' : pcF = pc + 3) (hT : ¬ 0 < x → Wk p l e R m args below meth c M P n0 L k n pcT Ls (st)) (hF : 0 < x → Wk p l e R m args below meth c M P n0 L k n pcF Ls (st)) : Wk p l e R m args below meth c M P n0 L k n pc Ls (.int x :: st) := by
  subst hp'
  by_cases h : 0 < x
  · exact (hF h).via fun s T locs X hM hO t h1 => XS.ifNo X.here C.1 rfl (hb C.2.1 hd) rfl ((if0 _ _).trans (tlt h).2.2.2) h1
  · exact (hT h).via fun s T locs X hM hO t h1 => XS.ifYes X.here C.1 rfl (pc0 := pc) rfl (hb C.2.1 hd) rfl ((if0 _ _).trans (flt h).2.2.2) ho hp h1
theorem Wk.lcmp_le {x y : Int64} {o : Int} {pc1 pcT pcF : Nat} (C : Cx Z own name bytes maxL ret p m meth c M) (hd0 : decode bytes pc = .ok (.lcmp, 1)) (hp1 : pc1 = pc + 1) (hd : decode bytes pc1 = .ok (.ifCond .le o, 3)) (ho : 0 ≤ (pc1 : Int) + o) (hp : ((pc1 : Int) + o).toNat = pcT) (hp' : pcF = pc1 + 3) (hT : ¬ y < x → Wk p l e R m args below meth c M P n0 L k n pcT Ls (st)) (hF : y < x → Wk p l e R m args below meth c M P n0 L k n pcF Ls (st)) : Wk p l e R m args below meth c M P n0 L k n pc Ls (.long y :: .long x :: st) := by
  subst hp1
  have W1 : Wk p l e R m args below meth c M P n0 L k n (pc + 1) Ls (.int (lcmpW x y) :: st) := Wk.if_le C hd ho hp hp' (fun h => hT (fun q => h ((lw_gt x y).mpr q))) (fun h => hF ((lw_gt x y).mp h))
  exact W1.via fun s T locs X hM hO t h1 => XS.lcmp X.here C.1 rfl (hb C.2.1 hd0) rfl h1
theorem Wk.icmp_eq {x y : Int32} {o : Int} {pcT pcF : Nat} (C : Cx Z own name bytes maxL ret p m meth c M) (hd : decode bytes pc = .ok (.if_icmp .eq o, 3)) (ho : 0 ≤ (pc : Int) + o) (hp : ((pc : Int) + o).toNat = pcT) (hp' : pcF = pc + 3) (hT : x = y → Wk p l e R m args below meth c M P n0 L k n pcT Ls (st)) (hF : ¬ x = y → Wk p l e R m args below meth c M P n0 L k n pcF Ls (st)) : Wk p l e R m args below meth c M P n0 L k n pc Ls (.int y :: .int x :: st) := by
  subst hp'
  by_cases h : x = y
  · exact (hT h).via fun s T locs X hM hO t h1 => XS.icmpYes X.here C.1 rfl (pc0 := pc) rfl (hb C.2.1 hd) rfl (teq h).1 ho hp h1
  · exact (hF h).via fun s T locs X hM hO t h1 => XS.icmpNo X.here C.1 rfl (hb C.2.1 hd) rfl (feq h).1 h1
theorem Wk.if_eq {x : Int32} {o : Int} {pcT pcF : Nat} (C : Cx Z own name bytes maxL ret p m meth c M) (hd : decode bytes pc = .ok (.ifCond .eq o, 3)) (ho : 0 ≤ (pc : Int) + o) (hp : ((pc : Int) + o).toNat = pcT) (hp' : pcF = pc + 3) (hT : x = 0 → Wk p l e R m args below meth c M P n0 L k n pcT Ls (st)) (hF : ¬ x = 0 → Wk p l e R m args below meth c M P n0 L k n pcF Ls (st)) : Wk p l e R m args below meth c M P n0 L k n pc Ls (.int x :: st) := by
  subst hp'
  by_cases h : x = 0
  · exact (hT h).via fun s T locs X hM hO t h1 => XS.ifYes X.here C.1 rfl (pc0 := pc) rfl (hb C.2.1 hd) rfl ((if0 _ _).trans (teq h).1) ho hp h1
  · exact (hF h).via fun s T locs X hM hO t h1 => XS.ifNo X.here C.1 rfl (hb C.2.1 hd) rfl ((if0 _ _).trans (feq h).1) h1
theorem Wk.lcmp_eq {x y : Int64} {o : Int} {pc1 pcT pcF : Nat} (C : Cx Z own name bytes maxL ret p m meth c M) (hd0 : decode bytes pc = .ok (.lcmp, 1)) (hp1 : pc1 = pc + 1) (hd : decode bytes pc1 = .ok (.ifCond .eq o, 3)) (ho : 0 ≤ (pc1 : Int) + o) (hp : ((pc1 : Int) + o).toNat = pcT) (hp' : pcF = pc1 + 3) (hT : x = y → Wk p l e R m args below meth c M P n0 L k n pcT Ls (st)) (hF : ¬ x = y → Wk p l e R m args below meth c M P n0 L k n pcF Ls (st)) : Wk p l e R m args below meth c M P n0 L k n pc Ls (.long y :: .long x :: st) := by
  subst hp1
  have W1 : Wk p l e R m args below meth c M P n0 L k n (pc + 1) Ls (.int (lcmpW x y) :: st) := Wk.if_eq C hd ho hp hp' (fun h => hT ((lw_eq x y).mp h)) (fun h => hF (fun q => h ((lw_eq x y).mpr q)))
  exact W1.via fun s T locs X hM hO t h1 => XS.lcmp X.here C.1 rfl (hb C.2.1 hd0) rfl h1
theorem Wk.icmp_ne {x y : Int32} {o : Int} {pcT pcF : Nat} (C : Cx Z own name bytes maxL ret p m meth c M) (hd : decode bytes pc = .ok (.if_icmp .ne o, 3)) (ho : 0 ≤ (pc : Int) + o) (hp : ((pc : Int) + o).toNat = pcT) (hp' : pcF = pc + 3) (hT : ¬ x = y → Wk p l e R m args below meth c M P n0 L k n pcT Ls (st)) (hF : x = y → Wk p l e R m args below meth c M P n0 L k n pcF Ls (st)) : Wk p l e R m args below meth c M P n0 L k n pc Ls (.int y :: .int x :: st) := by
  subst hp'
  by_cases h : x = y
  · exact (hF h).via fun s T locs X hM hO t h1 => XS.icmpNo X.here C.1 rfl (hb C.2.1 hd) rfl (teq h).2 h1
  · exact (hT h).via fun s T locs X hM hO t h1 => XS.icmpYes X.here C.1 rfl (pc0 := pc) rfl (hb C.2.1 hd) rfl (feq h).2 ho hp h1
theorem Wk.if_ne {x : Int32} {o : Int} {pcT pcF : Nat} (C : Cx Z own name bytes maxL ret p m meth c M) (hd : decode bytes pc = .ok (.ifCond .ne o, 3)) (ho : 0 ≤ (pc : Int) + o) (hp : ((pc : Int) + o).toNat = pcT) (hp' : pcF = pc + 3) (hT : ¬ x = 0 → Wk p l e R m args below meth c M P n0 L k n pcT Ls (st)) (hF : x = 0 → Wk p l e R m args below meth c M P n0 L k n pcF Ls (st)) : Wk p l e R m args below meth c M P n0 L k n pc Ls (.int x :: st) := by
  subst hp'
  by_cases h : x = 0
  · exact (hF h).via fun s T locs X hM hO t h1 => XS.ifNo X.here C.1 rfl (hb C.2.1 hd) rfl ((if0 _ _).trans (teq h).2) h1
  · exact (hT h).via fun s T locs X hM hO t h1 => XS.ifYes X.here C.1 rfl (pc0 := pc) rfl (hb C.2.1 hd) rfl ((if0 _ _).trans (feq h).2) ho hp h1
theorem Wk.lcmp_ne {x y : Int64} {o : Int} {pc1 pcT pcF : Nat} (C : Cx Z own name bytes maxL ret p m meth c M) (hd0 : decode bytes pc = .ok (.lcmp, 1)) (hp1 : pc1 = pc + 1) (hd : decode bytes pc1 = .ok (.ifCond .ne o, 3)) (ho : 0 ≤ (pc1 : Int) + o) (hp : ((pc1 : Int) + o).toNat = pcT) (hp' : pcF = pc1 + 3) (hT : ¬ x = y → Wk p l e R m args below meth c M P n0 L k n pcT Ls (st)) (hF : x = y → Wk p l e R m args below meth c M P n0 L k n pcF Ls (st)) : Wk p l e R m args below meth c M P n0 L k n pc Ls (.long y :: .long x :: st) := by
  subst hp1
  have W1 : Wk p l e R m args below meth c M P n0 L k n (pc + 1) Ls (.int (lcmpW x y) :: st) := Wk.if_ne C hd ho hp hp' (fun h => hT (fun q => h ((lw_eq x y).mpr q))) (fun h => hF ((lw_eq x y).mp h))
  exact W1.via fun s T locs X hM hO t h1 => XS.lcmp X.here C.1 rfl (hb C.2.1 hd0) rfl h1
theorem Wk.ifnullYes {o : Int} (C : Cx Z own name bytes maxL ret p m meth c M) (hd : decode bytes pc = .ok (.ifnull o, 3)) (ho : 0 ≤ (pc : Int) + o) (hp : ((pc : Int) + o).toNat = pc') (W : Wk p l e R m args below meth c M P n0 L k n pc' Ls (st)) : Wk p l e R m args below meth c M P n0 L k n pc Ls (.null :: st) :=
  W.via fun s T locs X hM hO t h1 => XS.ifnullYes X.here C.1 rfl (pc0 := pc) rfl (hb C.2.1 hd) rfl ho hp h1
theorem Wk.ifnullNo {b : Addr} {o : Int} (C : Cx Z own name bytes maxL ret p m meth c M) (hd : decode bytes pc = .ok (.ifnull o, 3)) (hp : pc' = pc + 3) (W : Wk p l e R m args below meth c M P n0 L k n pc' Ls (st)) : Wk p l e R m args below meth c M P n0 L k n pc Ls (.ref b :: st) := by
  subst hp
  exact W.via fun s T locs X hM hO t h1 => XS.ifnullNo X.here C.1 rfl (hb C.2.1 hd) rfl h1
theorem Wk.ifnonnullYes {b : Addr} {o : Int} (C : Cx Z own name bytes maxL ret p m meth c M) (hd : decode bytes pc = .ok (.ifnonnull o, 3)) (ho : 0 ≤ (pc : Int) + o) (hp : ((pc : Int) + o).toNat = pc') (W : Wk p l e R m args below meth c M P n0 L k n pc' Ls (st)) : Wk p l e R m args below meth c M P n0 L k n pc Ls (.ref b :: st) :=
  W.via fun s T locs X hM hO t h1 => XS.ifnonnullYes X.here C.1 rfl (pc0 := pc) rfl (hb C.2.1 hd) rfl ho hp h1
theorem Wk.ifnonnullNo {o : Int} (C : Cx Z own name bytes maxL ret p m meth c M) (hd : decode bytes pc = .ok (.ifnonnull o, 3)) (hp : pc' = pc + 3) (W : Wk p l e R m args below meth c M P n0 L k n pc' Ls (st)) : Wk p l e R m args below meth c M P n0 L k n pc Ls (.null :: st) := by
  subst hp
  exact W.via fun s T locs X hM hO t h1 => XS.ifnonnullNo X.here C.1 rfl (hb C.2.1 hd) rfl h1
theorem Wk.acmp {cd : ACond} {x y : Value} {o : Int} {same : Bool} (C : Cx Z own name bytes maxL ret p m meth c M) (hd : decode bytes pc = .ok (.if_acmp cd o, 3)) (h1 : x.isRef = true) (h2 : y.isRef = true) (hq : decide (x = y) = same) (ho : 0 ≤ (pc : Int) + o) (hp : pc' = if acV cd same = true then ((pc : Int) + o).toNat else pc + 3) (W : Wk p l e R m args below meth c M P n0 L k n pc' Ls (st)) : Wk p l e R m args below meth c M P n0 L k n pc Ls (y :: x :: st) :=
  W.via fun s T locs X hM hO t r => Jvm.RoadKit.acmp (g := mkF m pc Ls (y :: x :: st)) X C.1 rfl h1 h2 (pc0 := pc) rfl (hb C.2.1 hd) rfl hq ho hp r
theorem Wk.join0 {pcj : Nat} (Lj : Array Slot) (sj : List Value) (J : Wk p l e R m args below meth c M P n0 L k n pcj Lj (sj)) (K : Wk p l e R m args below meth c M P n0 L k n pcj Lj (sj) → Wk p l e R m args below meth c M P n0 L k n pc Ls (st)) : Wk p l e R m args below meth c M P n0 L k n pc Ls (st) := K J
theorem Wk.join1 {pcj : Nat} {A0 : Type} (F : A0 → Array Slot) (G : A0 → List Value) (E0 : A0) (J : ∀ v0, v0 = E0 → Wk p l e R m args below meth c M P n0 L k n pcj (F v0) (G v0)) (K : (∀ v0, v0 = E0 → Wk p l e R m args below meth c M P n0 L k n pcj (F v0) (G v0)) → Wk p l e R m args below meth c M P n0 L k n pc Ls (st)) : Wk p l e R m args below meth c M P n0 L k n pc Ls (st) := K J
theorem Wk.join2 {pcj : Nat} {A0 A1 : Type} (F : A0 → A1 → Array Slot) (G : A0 → A1 → List Value) (E0 : A0) (E1 : A1) (J : ∀ v0 v1, v0 = E0 → v1 = E1 → Wk p l e R m args below meth c M P n0 L k n pcj (F v0 v1) (G v0 v1)) (K : (∀ v0 v1, v0 = E0 → v1 = E1 → Wk p l e R m args below meth c M P n0 L k n pcj (F v0 v1) (G v0 v1)) → Wk p l e R m args below meth c M P n0 L k n pc Ls (st)) : Wk p l e R m args below meth c M P n0 L k n pc Ls (st) := K J
theorem Wk.join3 {pcj : Nat} {A0 A1 A2 : Type} (F : A0 → A1 → A2 → Array Slot) (G : A0 → A1 → A2 → List Value) (E0 : A0) (E1 : A1) (E2 : A2) (J : ∀ v0 v1 v2, v0 = E0 → v1 = E1 → v2 = E2 → Wk p l e R m args below meth c M P n0 L k n pcj (F v0 v1 v2) (G v0 v1 v2)) (K : (∀ v0 v1 v2, v0 = E0 → v1 = E1 → v2 = E2 → Wk p l e R m args below meth c M P n0 L k n pcj (F v0 v1 v2) (G v0 v1 v2)) → Wk p l e R m args below meth c M P n0 L k n pc Ls (st)) : Wk p l e R m args below meth c M P n0 L k n pc Ls (st) := K J
theorem Wk.join4 {pcj : Nat} {A0 A1 A2 A3 : Type} (F : A0 → A1 → A2 → A3 → Array Slot) (G : A0 → A1 → A2 → A3 → List Value) (E0 : A0) (E1 : A1) (E2 : A2) (E3 : A3) (J : ∀ v0 v1 v2 v3, v0 = E0 → v1 = E1 → v2 = E2 → v3 = E3 → Wk p l e R m args below meth c M P n0 L k n pcj (F v0 v1 v2 v3) (G v0 v1 v2 v3)) (K : (∀ v0 v1 v2 v3, v0 = E0 → v1 = E1 → v2 = E2 → v3 = E3 → Wk p l e R m args below meth c M P n0 L k n pcj (F v0 v1 v2 v3) (G v0 v1 v2 v3)) → Wk p l e R m args below meth c M P n0 L k n pc Ls (st)) : Wk p l e R m args below meth c M P n0 L k n pc Ls (st) := K J
theorem Wk.ind {A : Type} (μ : A → Nat) (F : A → Array Slot) (H : A → List (Addr × (Cell → Prop))) (I : A → Prop) (step : ∀ a, I a → (∀ b, I b → μ b < μ a → Wk p l e R m args below meth c M P n0 (H b) k n pc (F b) (st)) → Wk p l e R m args below meth c M P n0 (H a) k n pc (F a) (st)) (a : A) (ha : I a) : Wk p l e R m args below meth c M P n0 (H a) k n pc (F a) (st) := by
  have key : ∀ (N : Nat) (a : A), μ a < N → I a → Wk p l e R m args below meth c M P n0 (H a) k n pc (F a) (st) := by
    intro N
    induction N with
    | zero => intro a h; exact absurd h (Nat.not_lt_zero _)
    | succ N ih => intro a h hI; exact step a hI fun b hb hlt => ih b (by omega) hb
  exact key _ a (Nat.lt_succ_self _) ha
theorem idx_of {j : Int32} {i nn : Nat} (hj : j.toInt = (i : Int)) (hi : i < nn) : ¬ (j < 0 ∨ nn ≤ j.toNatClampNeg) ∧ j.toNatClampNeg = i := by
  have e : j.toNatClampNeg = i := by show j.toInt.toNat = i; omega
  refine ⟨fun q => ?_, e⟩
  rcases q with q | q
  · rw [Int32.lt_iff_toInt_lt] at q
    have : (0 : Int32).toInt = 0 := rfl
    omega
  · omega
theorem Wk.iaload {a : Addr} {j : Int32} {q i nn : Nat} {f : Nat → Int32} (C : Cx Z own name bytes maxL ret p m meth c M) (hd : decode bytes pc = .ok (.iaload, 1)) (hL : L[q]? = some (a, ArrC Z .int nn f)) (hj : j.toInt = (i : Int)) (hi : i < nn) (hp : pc' = pc + 1) (W : Wk p l e R m args below meth c M P n0 L k n pc' Ls (.int (f i) :: st)) : Wk p l e R m args below meth c M P n0 L k n pc Ls (.int j :: .ref a :: st) := by
  subst hp
  refine W.via fun s T locs X hM hO t r => ?_
  obtain ⟨cl, g1, g2, g3, g4, g5, -⟩ := (hO.2.2 _ _ hL).2
  obtain ⟨b1, b2⟩ := idx_of hj hi
  rw [← g4] at b1
  exact X.iaload C.1 (j := j) (v := .int (f i)) g1 (State.isArrayOf_alike (C.2.2.2.2.2.2.1 _ _ hM).1.alike g2) g3 b1 (by rw [b2]; exact g5 i hi) (g := mkF m pc Ls (.int j :: .ref a :: st)) rfl rfl (hb C.2.1 hd) t r
theorem Wk.baload {a : Addr} {j : Int32} {q i nn : Nat} {f : Nat → Int32} (C : Cx Z own name bytes maxL ret p m meth c M) (hd : decode bytes pc = .ok (.baload, 1)) (hL : L[q]? = some (a, ArrC Z .byte nn f)) (hj : j.toInt = (i : Int)) (hi : i < nn) (hp : pc' = pc + 1) (W : Wk p l e R m args below meth c M P n0 L k n pc' Ls (.int (f i) :: st)) : Wk p l e R m args below meth c M P n0 L k n pc Ls (.int j :: .ref a :: st) := by
  subst hp
  refine W.via fun s T locs X hM hO t r => ?_
  obtain ⟨cl, g1, g2, g3, g4, g5, -⟩ := (hO.2.2 _ _ hL).2
  obtain ⟨b1, b2⟩ := idx_of hj hi
  rw [← g4] at b1
  exact X.baloadBytes C.1 (j := j) (v := .int (f i)) g1 (State.isArrayOf_alike (C.2.2.2.2.2.2.1 _ _ hM).1.alike g2) g3 b1 (by rw [b2]; exact g5 i hi) (g := mkF m pc Ls (.int j :: .ref a :: st)) rfl rfl (hb C.2.1 hd) t r
theorem Wk.caload {a : Addr} {j : Int32} {q i nn : Nat} {f : Nat → Int32} (C : Cx Z own name bytes maxL ret p m meth c M) (hd : decode bytes pc = .ok (.caload, 1)) (hL : L[q]? = some (a, ArrC Z .char nn f)) (hj : j.toInt = (i : Int)) (hi : i < nn) (hp : pc' = pc + 1) (W : Wk p l e R m args below meth c M P n0 L k n pc' Ls (.int (f i) :: st)) : Wk p l e R m args below meth c M P n0 L k n pc Ls (.int j :: .ref a :: st) := by
  subst hp
  refine W.via fun s T locs X hM hO t r => ?_
  obtain ⟨cl, g1, g2, g3, g4, g5, -⟩ := (hO.2.2 _ _ hL).2
  obtain ⟨b1, b2⟩ := idx_of hj hi
  rw [← g4] at b1
  exact X.caload C.1 (j := j) (v := .int (f i)) g1 (State.isArrayOf_alike (C.2.2.2.2.2.2.1 _ _ hM).1.alike g2) g3 b1 (by rw [b2]; exact g5 i hi) (g := mkF m pc Ls (.int j :: .ref a :: st)) rfl rfl (hb C.2.1 hd) t r
theorem Wk.arraylength {a : Addr} {q nn : Nat} {ty : FieldType} {z : Int32} {φ : Cell → Prop} (C : Cx Z own name bytes maxL ret p m meth c M) (hd : decode bytes pc = .ok (.arraylength, 1)) (hL : L[q]? = some (a, φ)) (hφ : ∀ c, φ c → Z.isArrayOf c ty ∧ c.slots.size = nn) (hz : nn.toInt32 = z) (hp : pc' = pc + 1) (W : Wk p l e R m args below meth c M P n0 L k n pc' Ls (.int z :: st)) : Wk p l e R m args below meth c M P n0 L k n pc Ls (.ref a :: st) := by
  subst hp hz
  refine W.via fun s T locs X hM hO t r => ?_
  obtain ⟨cl, g1, g2⟩ := (hO.2.2 _ _ hL).2
  obtain ⟨g3, g4⟩ := hφ cl g2
  subst g4
  exact X.arraylength C.1 g1 (State.isArrayOf_alike (C.2.2.2.2.2.2.1 _ _ hM).1.alike g3) (g := mkF m pc Ls (.ref a :: st)) rfl rfl (hb C.2.1 hd) t r
theorem Wk.iastore {a : Addr} {j x : Int32} {q i nn : Nat} {f : Nat → Int32} (C : Cx Z own name bytes maxL ret p m meth c M) (hd : decode bytes pc = .ok (.iastore, 1)) (hL : L[q]? = some (a, ArrC Z .int nn f)) (hj : j.toInt = (i : Int)) (hi : i < nn) (hp : pc' = pc + 1) (W : Wk p l e R m args below meth c M P n0 (L.set q (a, ArrC Z .int nn (upd f i (x)))) k n pc' Ls (st)) : Wk p l e R m args below meth c M P n0 L k n pc Ls (.int x :: .int j :: .ref a :: st) := by
  subst hp
  intro s T locs X hM hF hO
  obtain ⟨h0, cl, g1, g2, g3, g4, -⟩ := hO.2.2 _ _ hL
  obtain ⟨b1, b2⟩ := idx_of hj hi
  rw [← g4] at b1
  obtain ⟨T', h', X', e', Wh, stp⟩ := stI X C.1 (C.2.2.2.2.2.2.1 _ _ hM).1 rfl ⟨g1, g2, g3⟩ (j := j) b1 (g := mkF m pc Ls (.int x :: .int j :: .ref a :: st)) rfl rfl (hb C.2.1 hd)
  rw [b2] at Wh
  subst e'
  obtain ⟨t, r1, r2⟩ := W s T' _ X' (C.2.2.2.2.2.2.2 s _ _ (Nat.le_of_eq Wh.size.symm) hM) (Fr.snoc X' hF h0) (hO.wr Wh hL (φ' := ArrC Z .int nn (upd f i (x))) fun c hc _ => hc.set hi rfl)
  exact ⟨t, stp t r1, r2⟩
theorem Wk.bastore {a : Addr} {j x : Int32} {q i nn : Nat} {f : Nat → Int32} (C : Cx Z own name bytes maxL ret p m meth c M) (hd : decode bytes pc = .ok (.bastore, 1)) (hL : L[q]? = some (a, ArrC Z .byte nn f)) (hj : j.toInt = (i : Int)) (hi : i < nn) (hp : pc' = pc + 1) (W : Wk p l e R m args below meth c M P n0 (L.set q (a, ArrC Z .byte nn (upd f i (x.toInt8.toInt32)))) k n pc' Ls (st)) : Wk p l e R m args below meth c M P n0 L k n pc Ls (.int x :: .int j :: .ref a :: st) := by
  subst hp
  intro s T locs X hM hF hO
  obtain ⟨h0, cl, g1, g2, g3, g4, -⟩ := hO.2.2 _ _ hL
  obtain ⟨b1, b2⟩ := idx_of hj hi
  rw [← g4] at b1
  obtain ⟨T', h', X', e', Wh, stp⟩ := stB X C.1 (C.2.2.2.2.2.2.1 _ _ hM).1 rfl ⟨g1, g2, g3⟩ (j := j) b1 (g := mkF m pc Ls (.int x :: .int j :: .ref a :: st)) rfl rfl (hb C.2.1 hd)
  rw [b2] at Wh
  subst e'
  obtain ⟨t, r1, r2⟩ := W s T' _ X' (C.2.2.2.2.2.2.2 s _ _ (Nat.le_of_eq Wh.size.symm) hM) (Fr.snoc X' hF h0) (hO.wr Wh hL (φ' := ArrC Z .byte nn (upd f i (x.toInt8.toInt32))) fun c hc _ => hc.set hi (fits_nar_byte x))
  exact ⟨t, stp t r1, r2⟩
theorem Wk.castore {a : Addr} {j x : Int32} {q i nn : Nat} {f : Nat → Int32} (C : Cx Z own name bytes maxL ret p m meth c M) (hd : decode bytes pc = .ok (.castore, 1)) (hL : L[q]? = some (a, ArrC Z .char nn f)) (hj : j.toInt = (i : Int)) (hi : i < nn) (hp : pc' = pc + 1) (W : Wk p l e R m args below meth c M P n0 (L.set q (a, ArrC Z .char nn (upd f i (nar .char x)))) k n pc' Ls (st)) : Wk p l e R m args below meth c M P n0 L k n pc Ls (.int x :: .int j :: .ref a :: st) := by
  subst hp
  intro s T locs X hM hF hO
  obtain ⟨h0, cl, g1, g2, g3, g4, -⟩ := hO.2.2 _ _ hL
  obtain ⟨b1, b2⟩ := idx_of hj hi
  rw [← g4] at b1
  obtain ⟨T', h', X', e', Wh, stp⟩ := stC X C.1 (C.2.2.2.2.2.2.1 _ _ hM).1 rfl ⟨g1, g2, g3⟩ (j := j) b1 (g := mkF m pc Ls (.int x :: .int j :: .ref a :: st)) rfl rfl (hb C.2.1 hd)
  rw [b2] at Wh
  subst e'
  obtain ⟨t, r1, r2⟩ := W s T' _ X' (C.2.2.2.2.2.2.2 s _ _ (Nat.le_of_eq Wh.size.symm) hM) (Fr.snoc X' hF h0) (hO.wr Wh hL (φ' := ArrC Z .char nn (upd f i (nar .char x))) fun c hc _ => hc.set hi (fits_nar_char x))
  exact ⟨t, stp t r1, r2⟩
theorem Wk.newarray {aty : ArrayType} {z : Int32} {nn cap : Nat} {d : Int32} (C : Cx Z own name bytes maxL ret p m meth c M) (w : (Cond.arrayClass (newarray.typeOf aty)).before a0 Z = true) (hd : decode bytes pc = .ok (.newarray aty, 2)) (hdv : defaultValue (newarray.typeOf aty) = .int d) (hfd : fits (newarray.typeOf aty) (.int d) = true) (hz : z.toInt = (nn : Int)) (hcap : nn ≤ cap) (hb8 : cap * 8 ≤ 536870912) (hk : k + 1 ≤ R.cells) (hn : n + cap ≤ R.slots) (hp : pc' = pc + 2)
    (W : ∀ a : Addr, Wk p l e R m args below meth c M P n0 ((a, ArrC Z (newarray.typeOf aty) nn (fun _ => d)) :: L) (k + 1) (n + cap) pc' Ls (.ref a :: st)) : Wk p l e R m args below meth c M P n0 L k n pc Ls (.int z :: st) := by
  subst hp
  intro s T locs X hM hF hO
  have ez : z.toNatClampNeg = nn := by show z.toInt.toNat = nn; omega
  have nz : ¬ z < 0 := fun q => by
    rw [Int32.lt_iff_toInt_lt] at q
    have : (0 : Int32).toInt = 0 := rfl
    omega
  obtain ⟨T', h', cA, X', e', E, A, Ex, stp⟩ := newPE X C.1 (C.2.2.2.2.2.2.1 _ _ hM).1 w rfl (g := mkF m pc Ls (.int z :: st)) rfl (hb C.2.1 hd) rfl nz (cap := cap) (by rw [ez]; exact hcap) hb8 hk hn (ad := "[" ++ (newarray.typeOf aty).toString) rfl
  subst e'
  obtain ⟨t, r1, r2⟩ := W T.heap.size s T' _ X' (C.2.2.2.2.2.2.2 s _ _ E.1 hM) hF (hO.cons E ⟨_, A.1, A.2.1, A.2.2, (sz_new _ _ _).trans ez, fun i hi => by
    show (Array.replicate z.toNatClampNeg (defaultValue (newarray.typeOf aty)))[i]? = _
    rw [ez, hdv]; simp [hi], fun _ _ => hfd, of_exa A.1 Ex⟩)
  exact ⟨t, stp t r1, r2⟩
def AnyC : Cell → Prop := fun _ => True
theorem Wk.anewarray {C' : String} {index : Nat} {z : Int32} {nn cap : Nat} (C : Cx Z own name bytes maxL ret p m meth c M) (w1 : (Cond.classLink own index C').before a0 Z = true) (w2 : (Cond.arrayOver (.object C')).before a0 Z = true) (hd : decode bytes pc = .ok (.anewarray index, 3)) (hz : z.toInt = (nn : Int)) (hcap : nn ≤ cap) (hb8 : cap * 8 ≤ 536870912) (hk : k + 1 ≤ R.cells) (hn : n + cap ≤ R.slots) (hp : pc' = pc + 3)
    (W : ∀ a : Addr, Wk p l e R m args below meth c M P n0 ((a, AnyC) :: L) (k + 1) (n + cap) pc' Ls (.ref a :: st)) : Wk p l e R m args below meth c M P n0 L k n pc Ls (.int z :: st) := by
  subst hp
  intro s T locs X hM hF hO
  have ez : z.toNatClampNeg = nn := by show z.toInt.toNat = nn; omega
  have nz : ¬ z < 0 := fun q => by
    rw [Int32.lt_iff_toInt_lt] at q
    have : (0 : Int32).toInt = 0 := rfl
    omega
  obtain ⟨T', h', cA, X', e', E, A, -, stp⟩ := newR X C.1 (C.2.2.2.2.2.2.1 _ _ hM).1 (C.2.2.2.2.2.2.1 _ _ hM).2 w1 w2 rfl (g := mkF m pc Ls (.int z :: st)) rfl (hb C.2.1 hd) rfl nz (cap := cap) (by rw [ez]; exact hcap) hb8 hk hn
  subst e'
  obtain ⟨t, r1, r2⟩ := W T.heap.size s T' _ X' (C.2.2.2.2.2.2.2 s _ _ E.1 hM) hF (hO.cons E ⟨_, A.1, trivial⟩)
  exact ⟨t, stp t r1, r2⟩
theorem Wk.new {C' : String} {index nf : Nat} {ks : List (String × String × String × FieldType)} {vs : List Value} (C : Cx Z own name bytes maxL ret p m meth c M) (w : (Cond.classLink own index C').before a0 Z = true) (wi : (Cond.instantiable C' nf).before a0 Z = true) (wz : (Cond.initialized C').before a0 Z = true) (H : Lays Z a0 C' ks) (hd : decode bytes pc = .ok (.new index, 3)) (hv : vs = ks.map (fun kk => defaultValue kk.2.2.2)) (hk : k + 1 ≤ R.cells) (hn : n + nf ≤ R.slots) (hp : pc' = pc + 3)
    (W : ∀ a : Addr, Wk p l e R m args below meth c M P n0 ((a, ObjC Z C' ks vs) :: L) (k + 1) (n + nf) pc' Ls (.ref a :: st)) : Wk p l e R m args below meth c M P n0 L k n pc Ls (st) := by
  subst hp hv
  intro s T locs X hM hF hO
  obtain ⟨T', h', X', e', E, A, D, -, stp⟩ := newO X C.1 (C.2.2.2.2.2.2.1 _ _ hM).1 (C.2.2.2.2.2.2.1 _ _ hM).2 w wi wz rfl (g := mkF m pc Ls st) rfl (hb C.2.1 hd) hk hn
  subst e'
  obtain ⟨cl, kc, g1, -⟩ := id A
  obtain ⟨t, r1, r2⟩ := W T.heap.size s T' _ X' (C.2.2.2.2.2.2.2 s _ _ E.1 hM) hF (hO.cons E ⟨cl, g1, of_exa g1 A, fun i kk v hkk hvv => by
    rw [List.getElem?_map, hkk] at hvv
    cases hvv
    have q := H.1 kk (List.mem_of_getElem? hkk)
    exact of_fld g1 (D q.1 q.2)⟩)
  exact ⟨t, stp t r1, r2⟩
theorem Wk.getfield {C' O nm d host : String} {ty : FieldType} {index i q : Nat} {a : Addr} {ks : List (String × String × String × FieldType)} {vs : List Value} {v : Value} (C : Cx Z own name bytes maxL ret p m meth c M) (w : (Cond.fieldLink own index O nm d).before a0 Z = true ∨ (Cond.fieldLinkNest own index O nm d host).before a0 Z = true) (hd : decode bytes pc = .ok (.getfield index, 3)) (hL : L[q]? = some (a, ObjC Z C' ks vs)) (hk : ks[i]? = some (O, nm, d, ty)) (hv : vs[i]? = some v) (hp : pc' = pc + 3)
    (W : Wk p l e R m args below meth c M P n0 L k n pc' Ls (v :: st)) : Wk p l e R m args below meth c M P n0 L k n pc Ls (.ref a :: st) := by
  subst hp
  intro s T locs X hM hF hO
  obtain ⟨h0, cl, g1, g2, g3⟩ := hO.2.2 _ _ hL
  obtain ⟨T', X', e', stp⟩ := getF X C.1 (C.2.2.2.2.2.2.1 _ _ hM).1 (C.2.2.2.2.2.2.1 _ _ hM).2 w Via.refl rfl (fld_of g1 (g3 i _ v hk hv)) (g := mkF m pc Ls (.ref a :: st)) rfl rfl (hb C.2.1 hd)
  rw [← e'] at hM hO
  obtain ⟨t, r1, r2⟩ := W s T' _ X' hM hF hO
  exact ⟨t, stp t r1, r2⟩
theorem Wk.putfield {C' O nm d host : String} {ty : FieldType} {index i q nf : Nat} {a : Addr} {ks : List (String × String × String × FieldType)} {vs : List Value} {v : Value} (C : Cx Z own name bytes maxL ret p m meth c M) (w : (Cond.fieldLink own index O nm d).before a0 Z = true ∨ (Cond.fieldLinkNest own index O nm d host).before a0 Z = true) (H : Lays Z a0 C' ks) (hlay : (Cond.lays C' O nm d).before a0 Z = true ∨ ((Cond.laysFinal C' O nm d).before a0 Z = true ∧ own = O ∧ name = "<init>")) (wi : (Cond.instantiable C' nf).before a0 Z = true) (hd : decode bytes pc = .ok (.putfield index, 3)) (hL : L[q]? = some (a, ObjC Z C' ks vs)) (hk : ks[i]? = some (O, nm, d, ty)) (hv : i < vs.length) (hnar : narrow ty v = v) (hfit : fits ty v = true) (hp : pc' = pc + 3)
    (W : Wk p l e R m args below meth c M P n0 (L.set q (a, ObjC Z C' ks (vs.set i v))) k n pc' Ls (st)) : Wk p l e R m args below meth c M P n0 L k n pc Ls (v :: .ref a :: st) := by
  subst hp
  intro s T locs X hM hF hO
  obtain ⟨h0, cl, g1, g2, g3⟩ := hO.2.2 _ _ hL
  obtain ⟨v0, hv0⟩ : ∃ v0, vs[i]? = some v0 := ⟨_, List.getElem?_eq_getElem hv⟩
  have hpf : parseFieldDescriptor d = some ty := (H.1 (O, nm, d, ty) (List.mem_of_getElem? hk)).2
  obtain ⟨T', h', X', e', Wh, stp⟩ := putF (own := own) (R0 := O) (O := O) (n := nm) (d := d) (host := host) (C := C') (kk := nf) (v := v) (old := v0) X C.1 (C.2.2.2.2.2.2.1 _ _ hM).1 (C.2.2.2.2.2.2.1 _ _ hM).2 w Via.refl rfl (fld_of g1 (g3 i _ v0 hk hv0)) (exa_of g1 g2) (hlay.imp id fun q => ⟨q.1, q.2.1, C.2.2.2.2.2.1.trans q.2.2⟩) wi (ty := ty) hpf hnar hfit (g := mkF m pc Ls (v :: .ref a :: st)) rfl rfl (hb C.2.1 hd)
  subst e'
  have hset : ∀ c, ObjC Z C' ks vs c → Jvm.RoadKit.slotOf Z O nm d < c.slots.size → ObjC Z C' ks (vs.set i v) (c.setSlot (Jvm.RoadKit.slotOf Z O nm d) v) := fun c hc hsl => ObjC.set (kk := (O, nm, d, ty)) hc H hk hv hsl
  obtain ⟨t, r1, r2⟩ := W s T' _ X' (C.2.2.2.2.2.2.2 s _ _ (Nat.le_of_eq Wh.size.symm) hM) (Fr.snoc X' hF h0) (hO.wr Wh hL hset)
  exact ⟨t, stp t r1, r2⟩
/-! the end: v is returned, Q holds of it and of the heap -/
def Pend (below : List Frame) (FE : Outcome → State → List Loc → Prop) (n0 : Nat) (Q : Option Value → Heap → Prop) (t : State) : Prop := ∃ v L, t.status = .running ∧ Ended t below (.returned v) ∧ Q v t.heap ∧ Fr n0 L ∧ FE (.returned v) t L
def Ok (M : State → Heap → Prop) (FE : Outcome → State → List Loc → Prop) (K N : Nat) : Prop := ∀ (s t : State) (L : List Loc) (k n : Nat) (v : Option Value), M s t.heap → s.WarmedH t.vm → s.sameButNew ({ t with vm := s.vm } : State) L k n → k ≤ K → n ≤ N → FE (.returned v) t L
theorem Wk.retI {z : Int32} {FE : Outcome → State → List Loc → Prop} {Q : Option Value → Heap → Prop} {K N : Nat} (C : Cx Z own name bytes maxL (some .int) p m meth c M) (J : Ok M FE K N) (hd : decode bytes pc = .ok (.ireturn, 1)) (hk : k ≤ K) (hn : n ≤ N) (hq : ∀ h, Own n0 h L → Q (some (.int z)) h) : Wk p l e R m args below meth c M (Pend below FE n0 Q) n0 L k n pc Ls (.int z :: st) := by
  intro s T locs X hM hF hO
  obtain ⟨fs, hr, hrun, hended, hW, hsame⟩ := X.leave (v := some (.int z)) (fun h => by rw [C.2.2.2.1] at h; cases h) C.2.2.2.2.1
  exact ⟨_, Jvm.RoadKit.retI X C.1 C.2.2.2.1 (hb C.2.1 hd) hr, _, locs, hrun, hended, hq _ hO, hF, J s _ locs k n _ hM hW hsame hk hn⟩
theorem Wk.retN {z z' : Int32} {ty : FieldType} {FE : Outcome → State → List Loc → Prop} {Q : Option Value → Heap → Prop} {K N : Nat} (C : Cx Z own name bytes maxL (some ty) p m meth c M) (J : Ok M FE K N) (hd : decode bytes pc = .ok (.ireturn, 1)) (hk : k ≤ K) (hn : n ≤ N) (ht : ty = .boolean ∨ ty = .byte ∨ ty = .char ∨ ty = .short) (hz : nar ty z = z') (hq : ∀ h, Own n0 h L → Q (some (.int z')) h) : Wk p l e R m args below meth c M (Pend below FE n0 Q) n0 L k n pc Ls (.int z :: st) := by
  subst hz
  intro s T locs X hM hF hO
  obtain ⟨fs, hr, hrun, hended, hW, hsame⟩ := X.leave (v := some (.int (nar ty z))) (fun h => by rw [C.2.2.2.1] at h; cases h) C.2.2.2.2.1
  exact ⟨_, Jvm.RoadKit.retN X C.1 C.2.2.2.1 ht (hb C.2.1 hd) hr, _, locs, hrun, hended, hq _ hO, hF, J s _ locs k n _ hM hW hsame hk hn⟩
theorem Wk.retL {z : Int64} {FE : Outcome → State → List Loc → Prop} {Q : Option Value → Heap → Prop} {K N : Nat} (C : Cx Z own name bytes maxL (some .long) p m meth c M) (J : Ok M FE K N) (hd : decode bytes pc = .ok (.lreturn, 1)) (hk : k ≤ K) (hn : n ≤ N) (hq : ∀ h, Own n0 h L → Q (some (.long z)) h) : Wk p l e R m args below meth c M (Pend below FE n0 Q) n0 L k n pc Ls (.long z :: []) := by
  intro s T locs X hM hF hO
  obtain ⟨fs, hr, hrun, hended, hW, hsame⟩ := X.leave (v := some (.long z)) (fun h => by rw [C.2.2.2.1] at h; cases h) C.2.2.2.2.1
  exact ⟨_, X.lreturnOut C.1 C.2.2.2.1 (hb C.2.1 hd) hr, _, locs, hrun, hended, hq _ hO, hF, J s _ locs k n _ hM hW hsame hk hn⟩
theorem Wk.retA {z : Value} {ty : FieldType} {FE : Outcome → State → List Loc → Prop} {Q : Option Value → Heap → Prop} {K N : Nat} (C : Cx Z own name bytes maxL (some ty) p m meth c M) (J : Ok M FE K N) (hd : decode bytes pc = .ok (.areturn, 1)) (hk : k ≤ K) (hn : n ≤ N) (hz : z.isRef = true) (ht : ty.isReference = true) (hq : ∀ h, Own n0 h L → Q (some z) h) : Wk p l e R m args below meth c M (Pend below FE n0 Q) n0 L k n pc Ls (z :: []) := by
  intro s T locs X hM hF hO
  obtain ⟨fs, hr, hrun, hended, hW, hsame⟩ := X.leave (v := some z) (fun h => by rw [C.2.2.2.1] at h; cases h) C.2.2.2.2.1
  exact ⟨_, X.areturnOut C.1 hz C.2.2.2.1 ht (hb C.2.1 hd) hr, _, locs, hrun, hended, hq _ hO, hF, J s _ locs k n _ hM hW hsame hk hn⟩
theorem Wk.retV {FE : Outcome → State → List Loc → Prop} {Q : Option Value → Heap → Prop} {K N : Nat} (C : Cx Z own name bytes maxL none p m meth c M) (J : Ok M FE K N) (hd : decode bytes pc = .ok (.return_, 1)) (hk : k ≤ K) (hn : n ≤ N) (hq : ∀ h, Own n0 h L → Q none h) : Wk p l e R m args below meth c M (Pend below FE n0 Q) n0 L k n pc Ls ([]) := by
  intro s T locs X hM hF hO
  obtain ⟨fs, hr, hrun, hended, hW, hsame⟩ := X.leave (v := none) (fun h => by rfl) C.2.2.2.2.1
  exact ⟨_, X.returnOut C.1 C.2.2.2.1 (hb C.2.1 hd) hr, _, locs, hrun, hended, hq _ hO, hF, J s _ locs k n _ hM hW hsame hk hn⟩
/-- a method's contract: called with as' over the heap h it returns, and Q holds -/
def Meth (l : Launch) (Z : State) (y : MethodName) (bytes : ByteArray) (maxL : Nat) (ret : Option FieldType) (ws : List Jvm.Cond) (rm : Room) (as' : Array Value) (h : Heap) (n0 : Nat) (Q : Option Value → Heap → Prop) : Prop :=
  MetFree l y (head1 (Jvm.Cond.code y bytes maxL ret :: ws) rm) (fun a U => a = as' ∧ Z.Warmed39 U.vm ∧ U.heap = h) (fun _ _ _ _ _ => True) (fun _ U o U' => ∃ v L, o = .returned v ∧ (Q v U'.heap ∧ h.size ≤ U'.heap.size ∧ Fr n0 L) ∧ FrameEnd U o U' L rm.cells rm.slots)
theorem Meth.of {y : MethodName} {ws : List Jvm.Cond} {rm : Room} {as' : Array Value} {h : Heap} {Q : Option Value → Heap → Prop} (hp : plainFor y = true) (hE : ∀ m, entryFrame m as' maxL = mkF m 0 Ls []) (hO : Own n0 h L)
    (body : ∀ (p : Program) (e : Env) (m : MethodId) (below : List Frame) (meth : Method) (c : Code) (M : State → Heap → Prop) (FE : Outcome → State → List Loc → Prop), Cx Z y.cls y.name bytes maxL ret p m meth c M → Ok M FE rm.cells rm.slots → Wk p l e rm m as' below meth c M (Pend below FE n0 Q) n0 L 0 0 0 Ls []) :
    Meth l Z y bytes maxL ret ws rm as' h n0 Q := by
  refine MetFree.of_bodySF hp hisR ?_
  intro p e s m args below meth c s₁ Bd hml0 hP hK
  obtain ⟨rfl, hZ, hh⟩ := hP
  have hnm := (name_of_methodNamed Bd.named Bd.method).1
  have e0 : s₁.heap = h := by rw [← hh, Bd.state]; rfl
  have CC : Cx Z y.cls y.name bytes maxL ret p m meth c (fun s' _ => s' = s) := ⟨Bd.exec, Bd.bytes, hml0, Bd.returns, Bd.notSynchronized, hnm, fun s' _ q => by subst q; exact ⟨hZ, findClass_of_methodNamed Bd.named⟩, fun _ _ _ _ q => q⟩
  have JJ : Ok (fun s' _ => s' = s) (fun o t L => FrameEnd s o t L rm.cells rm.slots) rm.cells rm.slots := fun s' t L k n v q hW hs hk hn => by subst q; exact ⟨⟨_, rfl⟩, hW, hs.mono hk hn⟩
  obtain ⟨t, r1, v, Lo, r2, r3, r4, r5, r6⟩ := body p e m below meth c _ _ CC JJ s s₁ [] (Stand.of_body Bd) rfl (Fr.nil n0) (by rw [e0]; exact hO)
  refine ⟨t, .returned v, castTop (hE m) r1, r2, r3, v, Lo, rfl, ⟨r4, ?_, r5⟩, r6⟩
  rw [← hh]; exact r6.2.2.2.1
theorem Wk.callS {y : MethodName} {bytes' : ByteArray} {maxL' : Nat} {ret' : Option FieldType} {index W0 : Nat} {rm : Room} {Q : Option Value → Heap → Prop} {argsL st0 : List Value} {ps : List FieldType} {rt : Option FieldType} (C : Cx Z own name bytes maxL ret p m meth c M) (w1 : (Jvm.Cond.methodLink own index y).before a0 Z = true) (w2 : (Jvm.Cond.static y).before a0 Z = true) (w3 : (Jvm.Cond.initialized y.cls).before a0 Z = true) (w4 : (Jvm.Cond.code y bytes' maxL' ret').before a0 Z = true) (hy : y.cls ≠ "java/lang/invoke/MethodHandle" ∧ y.cls ≠ "java/lang/invoke/VarHandle")
    (hM : ∀ h, Own n0 h L → Meth l Z y bytes' maxL' ret' [] rm argsL.toArray h n0 Q) (hf : rm.frames + 1 ≤ R.frames) (hl : W0 + (maxL' + 11) + rm.locals ≤ R.locals) (hk : k + rm.cells ≤ R.cells) (hn : n + rm.slots ≤ R.slots) (hd : decode bytes pc = .ok (.invokestatic index, 3)) (hsz : Ls.size = maxL) (hpd : parseMethodDescriptor y.desc = some ⟨ps, rt⟩) (hlen : argsL.length = ps.length) (hst : st0 = argsL.reverse ++ st) (hW : (st.map fun v => v.category).sum = W0) (hp : pc' = pc + 3)
    (W : ∀ v h', Q v h' → ∃ L', Own n0 h' L' ∧ Wk p l e R m args below meth c M P n0 L' (k + rm.cells) (n + rm.slots) pc' Ls (v.toList ++ st)) : Wk p l e R m args below meth c M P n0 L k n pc Ls (st0) := by
  subst hp hst
  intro s T locs X hMs hF hO
  obtain ⟨hZ, hown⟩ := C.2.2.2.2.2.2.1 _ _ hMs
  obtain ⟨_, _, ⟨T1, L1, k1, n1⟩, -, X', ⟨Lc, hQ, l1, y1, z1⟩, stp⟩ := Jvm.LawKit.callS X C.1 (y := y) hown (mvT hZ w1) (mvT hZ w2) (mvT hZ w3) (mvT hZ w4) hy (backOf (W := W0) (Q := fun v h' L => Q v h' ∧ T.heap.size ≤ h'.size ∧ Fr n0 L) (hM _ hO) hZ w4 w3 hf hl) (g := mkF m pc Ls (argsL.reverse ++ st)) rfl (hsz.trans C.2.2.1.symm) (argsL := argsL) (rest := st) (lenOf hpd hlen) rfl (by show 2 * 0 + _ ≤ _; omega) (hb C.2.1 hd) (fun _ _ => ⟨rfl, rfl, hk, hn⟩)
  dsimp only [Pt.U, Pt.locs, Pt.cells, Pt.slots] at X' l1 y1 z1 stp hQ
  subst l1 y1 z1
  obtain ⟨hQ1, hQ2, hQ3⟩ := hQ
  obtain ⟨L', O', W'⟩ := W _ _ hQ1
  obtain ⟨t, r1, r2⟩ := W' s T1 _ X' (C.2.2.2.2.2.2.2 s _ _ hQ2 hMs) (Fr.app hF hQ3) O'
  exact ⟨t, stp t r1, r2⟩
theorem Wk.callI {y : MethodName} {bytes' : ByteArray} {maxL' : Nat} {ret' : Option FieldType} {index W0 : Nat} {rm : Room} {Q : Option Value → Heap → Prop} {a : Addr} {argsL st0 : List Value} {ps : List FieldType} {rt : Option FieldType} (C : Cx Z own name bytes maxL ret p m meth c M) (hret' : ret' = none) (hy1 : y.name = "<init>") (w1 : (Jvm.Cond.methodLink own index y).before a0 Z = true) (w2 : (Jvm.Cond.instanceMethod y).before a0 Z = true) (w3 : (Jvm.Cond.initialized y.cls).before a0 Z = true) (w4 : (Jvm.Cond.code y bytes' maxL' ret').before a0 Z = true) (hy : y.cls ≠ "java/lang/invoke/MethodHandle" ∧ y.cls ≠ "java/lang/invoke/VarHandle")
    (hM : ∀ h, Own n0 h L → Meth l Z y bytes' maxL' ret' [] rm (.ref a :: argsL).toArray h n0 Q) (hf : rm.frames + 1 ≤ R.frames) (hl : W0 + (maxL' + 11) + rm.locals ≤ R.locals) (hk : k + rm.cells ≤ R.cells) (hn : n + rm.slots ≤ R.slots) (hd : decode bytes pc = .ok (.invokespecial index, 3)) (hsz : Ls.size = maxL) (hpd : parseMethodDescriptor y.desc = some ⟨ps, rt⟩) (hlen : argsL.length = ps.length) (hst : st0 = argsL.reverse ++ .ref a :: st) (hW : (st.map fun v => v.category).sum = W0) (hp : pc' = pc + 3)
    (W : ∀ v h', Q v h' → ∃ L', Own n0 h' L' ∧ Wk p l e R m args below meth c M P n0 L' (k + rm.cells) (n + rm.slots) pc' Ls (v.toList ++ st)) : Wk p l e R m args below meth c M P n0 L k n pc Ls (st0) := by
  subst hp hst
  intro s T locs X hMs hF hO
  subst hret'
  obtain ⟨hZ, hown⟩ := C.2.2.2.2.2.2.1 _ _ hMs
  obtain ⟨_, _, ⟨T1, L1, k1, n1⟩, -, X', ⟨Lc, hQ, l1, y1, z1⟩, stp⟩ := X.specialBack C.1 (y := y) hy1 hown (mvT hZ w1) (mvT hZ w2) (mvT hZ w4) hy (backOf (W := W0) (Q := fun v h' L => Q v h' ∧ T.heap.size ≤ h'.size ∧ Fr n0 L) (hM _ hO) hZ w4 w3 hf hl) (g := mkF m pc Ls (argsL.reverse ++ .ref a :: st)) rfl (hsz.trans C.2.2.1.symm) (Steps.refl _) (a := a) (argsL := argsL) (rest := st) (lenOf hpd hlen) rfl (by show 2 * 0 + _ ≤ _; omega) (hb C.2.1 hd) (fun _ _ => ⟨rfl, rfl, hk, hn⟩)
  dsimp only [Pt.U, Pt.locs, Pt.cells, Pt.slots] at X' l1 y1 z1 stp hQ
  subst l1 y1 z1
  obtain ⟨hQ1, hQ2, hQ3⟩ := hQ
  obtain ⟨L', O', W'⟩ := W _ _ hQ1
  obtain ⟨t, r1, r2⟩ := W' s T1 _ X' (C.2.2.2.2.2.2.2 s _ _ hQ2 hMs) (Fr.app hF hQ3) O'
  exact ⟨t, stp.trans r1, r2⟩
theorem Wk.callV {y : MethodName} {C' : String} {bytes' : ByteArray} {maxL' : Nat} {ret' : Option FieldType} {index W0 q : Nat} {rm : Room} {Q : Option Value → Heap → Prop} {a : Addr} {ks : List (String × String × String × FieldType)} {vs : List Value} {argsL st0 : List Value} {ps : List FieldType} {rt : Option FieldType} (C : Cx Z own name bytes maxL ret p m meth c M) (hL : L[q]? = some (a, ObjC Z C' ks vs)) (w1 : (Jvm.Cond.methodLink own index y).before a0 Z = true) (w5 : (Jvm.Cond.declares y).before a0 Z = true) (w6 : (Jvm.Cond.selects C' y y).before a0 Z = true) (w2 : (Jvm.Cond.instanceMethod y).before a0 Z = true) (w3 : (Jvm.Cond.initialized y.cls).before a0 Z = true) (w4 : (Jvm.Cond.code y bytes' maxL' ret').before a0 Z = true) (hy : y.cls ≠ "java/lang/invoke/MethodHandle" ∧ y.cls ≠ "java/lang/invoke/VarHandle")
    (hM : ∀ h, Own n0 h L → Meth l Z y bytes' maxL' ret' [] rm (.ref a :: argsL).toArray h n0 Q) (hf : rm.frames + 1 ≤ R.frames) (hl : W0 + (maxL' + 11) + rm.locals ≤ R.locals) (hk : k + rm.cells ≤ R.cells) (hn : n + rm.slots ≤ R.slots) (hd : decode bytes pc = .ok (.invokevirtual index, 3)) (hsz : Ls.size = maxL) (hpd : parseMethodDescriptor y.desc = some ⟨ps, rt⟩) (hlen : argsL.length = ps.length) (hst : st0 = argsL.reverse ++ .ref a :: st) (hW : (st.map fun v => v.category).sum = W0) (hp : pc' = pc + 3)
    (W : ∀ v h', Q v h' → ∃ L', Own n0 h' L' ∧ Wk p l e R m args below meth c M P n0 L' (k + rm.cells) (n + rm.slots) pc' Ls (v.toList ++ st)) : Wk p l e R m args below meth c M P n0 L k n pc Ls (st0) := by
  subst hp hst
  intro s T locs X hMs hF hO
  obtain ⟨hZ, hown⟩ := C.2.2.2.2.2.2.1 _ _ hMs
  obtain ⟨h0, cl, g1, g2, g3⟩ := hO.2.2 _ _ hL
  obtain ⟨cq, kq, qa, qb, qc⟩ := isOf hZ rfl (exa_of g1 g2)
  obtain ⟨_, _, ⟨T1, L1, k1, n1⟩, -, X', ⟨Lc, hQ, l1, y1, z1⟩, stp⟩ := X.virtualBack C.1 (y := y) (z := y) hown (mvT hZ w1) (mvT hZ w5) (notFace_of_selects (args := #[]) (mvT hZ w6)) (mvT hZ w6) (mvT hZ w2) hy (backOf (W := W0) (Q := fun v h' L => Q v h' ∧ T.heap.size ≤ h'.size ∧ Fr n0 L) (hM _ hO) hZ w4 w3 hf hl) qa qc (g := mkF m pc Ls (argsL.reverse ++ .ref a :: st)) rfl (hsz.trans C.2.2.1.symm) (Steps.refl _) (argsL := argsL) (rest := st) (lenOf hpd hlen) rfl (by show 2 * 0 + _ ≤ _; omega) (hb C.2.1 hd) (fun _ _ => ⟨rfl, rfl, hk, hn⟩)
  dsimp only [Pt.U, Pt.locs, Pt.cells, Pt.slots] at X' l1 y1 z1 stp hQ
  subst l1 y1 z1
  obtain ⟨hQ1, hQ2, hQ3⟩ := hQ
  obtain ⟨L', O', W'⟩ := W _ _ hQ1
  obtain ⟨t, r1, r2⟩ := W' s T1 _ X' (C.2.2.2.2.2.2.2 s _ _ hQ2 hMs) (Fr.app hF hQ3) O'
  exact ⟨t, stp.trans r1, r2⟩
end OwnKit
abbrev HW (Z : State) (a0 : Array Value) : Prop := ∀ d ∈ tables_1, d.before a0 Z = true
theorem w0 {Z : State} {a0 : Array Value} (hw : HW Z a0) : (Jvm.Cond.constant "com/example/onlyonce/onlyonce/PartitionerMurmur2PinLaw" (8 : Nat) (2147483647 : Int32)).before a0 Z = true := hw _ (List.mem_of_getElem? (i := 0) rfl)
theorem w1 {Z : State} {a0 : Array Value} (hw : HW Z a0) : (Jvm.Cond.arrayClass Jvm.ClassFile.FieldType.byte).before a0 Z = true := hw _ (List.mem_of_getElem? (i := 1) rfl)
theorem w2 {Z : State} {a0 : Array Value} (hw : HW Z a0) : (Jvm.Cond.methodLink "com/example/onlyonce/onlyonce/PartitionerMurmur2PinLaw" (9 : Nat) ({ cls := "com/example/onlyonce/onlyonce/PartitionerMurmur2PinLaw", name := "put", desc := "([BII)V" } : Jvm.MethodName)).before a0 Z = true := hw _ (List.mem_of_getElem? (i := 2) rfl)
theorem w3 {Z : State} {a0 : Array Value} (hw : HW Z a0) : (Jvm.Cond.static ({ cls := "com/example/onlyonce/onlyonce/PartitionerMurmur2PinLaw", name := "put", desc := "([BII)V" } : Jvm.MethodName)).before a0 Z = true := hw _ (List.mem_of_getElem? (i := 3) rfl)
theorem w4 {Z : State} {a0 : Array Value} (hw : HW Z a0) : (Jvm.Cond.initialized "com/example/onlyonce/onlyonce/PartitionerMurmur2PinLaw").before a0 Z = true := hw _ (List.mem_of_getElem? (i := 4) rfl)
theorem w5 {Z : State} {a0 : Array Value} (hw : HW Z a0) : (Jvm.Cond.code ({ cls := "com/example/onlyonce/onlyonce/PartitionerMurmur2PinLaw", name := "put", desc := "([BII)V" } : Jvm.MethodName) method_2_code (3 : Nat) (Option.none : Option Jvm.ClassFile.FieldType)).before a0 Z = true := hw _ (List.mem_of_getElem? (i := 5) rfl)
theorem w6 {Z : State} {a0 : Array Value} (hw : HW Z a0) : (Jvm.Cond.constant "com/example/onlyonce/onlyonce/PartitionerMurmur2PinLaw" (7 : Nat) (1540483477 : Int32)).before a0 Z = true := hw _ (List.mem_of_getElem? (i := 6) rfl)
theorem w7 {Z : State} {a0 : Array Value} (hw : HW Z a0) : (Jvm.Cond.constant "com/example/onlyonce/onlyonce/PartitionerMurmur2PinLaw" (15 : Nat) (-1756908916 : Int32)).before a0 Z = true := hw _ (List.mem_of_getElem? (i := 7) rfl)
theorem w8 {Z : State} {a0 : Array Value} (hw : HW Z a0) : (Jvm.Cond.methodLink "com/example/onlyonce/onlyonce/PartitionerMurmur2PinLaw" (20 : Nat) ({ cls := "com/example/onlyonce/onlyonce/Partitioner", name := "murmur2", desc := "([B)I" } : Jvm.MethodName)).before a0 Z = true := hw _ (List.mem_of_getElem? (i := 8) rfl)
theorem w9 {Z : State} {a0 : Array Value} (hw : HW Z a0) : (Jvm.Cond.static ({ cls := "com/example/onlyonce/onlyonce/Partitioner", name := "murmur2", desc := "([B)I" } : Jvm.MethodName)).before a0 Z = true := hw _ (List.mem_of_getElem? (i := 9) rfl)
theorem w10 {Z : State} {a0 : Array Value} (hw : HW Z a0) : (Jvm.Cond.initialized "com/example/onlyonce/onlyonce/Partitioner").before a0 Z = true := hw _ (List.mem_of_getElem? (i := 10) rfl)
theorem w11 {Z : State} {a0 : Array Value} (hw : HW Z a0) : (Jvm.Cond.code ({ cls := "com/example/onlyonce/onlyonce/Partitioner", name := "murmur2", desc := "([B)I" } : Jvm.MethodName) prog_55_method_3_code (6 : Nat) (Option.some Jvm.ClassFile.FieldType.int)).before a0 Z = true := hw _ (List.mem_of_getElem? (i := 11) rfl)
theorem w12 {Z : State} {a0 : Array Value} (hw : HW Z a0) : (Jvm.Cond.constant "com/example/onlyonce/onlyonce/Partitioner" (23 : Nat) (-1756908916 : Int32)).before a0 Z = true := hw _ (List.mem_of_getElem? (i := 12) rfl)
theorem w13 {Z : State} {a0 : Array Value} (hw : HW Z a0) : (Jvm.Cond.constant "com/example/onlyonce/onlyonce/Partitioner" (24 : Nat) (1540483477 : Int32)).before a0 Z = true := hw _ (List.mem_of_getElem? (i := 13) rfl)
theorem w14 {Z : State} {a0 : Array Value} (hw : HW Z a0) : (Jvm.Cond.methodLink "com/example/onlyonce/onlyonce/PartitionerMurmur2PinLaw" (16 : Nat) ({ cls := "com/example/onlyonce/onlyonce/PartitionerMurmur2PinLaw", name := "mixK", desc := "(I)I" } : Jvm.MethodName)).before a0 Z = true := hw _ (List.mem_of_getElem? (i := 14) rfl)
theorem w15 {Z : State} {a0 : Array Value} (hw : HW Z a0) : (Jvm.Cond.static ({ cls := "com/example/onlyonce/onlyonce/PartitionerMurmur2PinLaw", name := "mixK", desc := "(I)I" } : Jvm.MethodName)).before a0 Z = true := hw _ (List.mem_of_getElem? (i := 15) rfl)
theorem w16 {Z : State} {a0 : Array Value} (hw : HW Z a0) : (Jvm.Cond.code ({ cls := "com/example/onlyonce/onlyonce/PartitionerMurmur2PinLaw", name := "mixK", desc := "(I)I" } : Jvm.MethodName) method_3_code (3 : Nat) (Option.some Jvm.ClassFile.FieldType.int)).before a0 Z = true := hw _ (List.mem_of_getElem? (i := 16) rfl)
theorem d1_0 : decode method_2_code 0 = .ok (.iload_n 1, 1) := by decide +kernel
theorem d1_1 : decode method_2_code 1 = .ok (.aload_n 0, 1) := by decide +kernel
theorem d1_2 : decode method_2_code 2 = .ok (.arraylength, 1) := by decide +kernel
theorem d1_3 : decode method_2_code 3 = .ok (.if_icmp .ge 8, 3) := by decide +kernel
theorem d1_6 : decode method_2_code 6 = .ok (.aload_n 0, 1) := by decide +kernel
theorem d1_7 : decode method_2_code 7 = .ok (.iload_n 1, 1) := by decide +kernel
theorem d1_8 : decode method_2_code 8 = .ok (.iload_n 2, 1) := by decide +kernel
theorem d1_9 : decode method_2_code 9 = .ok (.i2b, 1) := by decide +kernel
theorem d1_10 : decode method_2_code 10 = .ok (.bastore, 1) := by decide +kernel
theorem d1_11 : decode method_2_code 11 = .ok (.return_, 1) := by decide +kernel
theorem d2_0 : decode prog_55_method_3_code 0 = .ok (.aload_n 0, 1) := by decide +kernel
theorem d2_1 : decode prog_55_method_3_code 1 = .ok (.arraylength, 1) := by decide +kernel
theorem d2_2 : decode prog_55_method_3_code 2 = .ok (.istore_n 1, 1) := by decide +kernel
theorem d2_3 : decode prog_55_method_3_code 3 = .ok (.ldc 23, 2) := by decide +kernel
theorem d2_5 : decode prog_55_method_3_code 5 = .ok (.iload_n 1, 1) := by decide +kernel
theorem d2_6 : decode prog_55_method_3_code 6 = .ok (.ixor, 1) := by decide +kernel
theorem d2_7 : decode prog_55_method_3_code 7 = .ok (.istore_n 2, 1) := by decide +kernel
theorem d2_8 : decode prog_55_method_3_code 8 = .ok (.iload_n 1, 1) := by decide +kernel
theorem d2_9 : decode prog_55_method_3_code 9 = .ok (.iload_n 1, 1) := by decide +kernel
theorem d2_10 : decode prog_55_method_3_code 10 = .ok (.iconst 4, 1) := by decide +kernel
theorem d2_11 : decode prog_55_method_3_code 11 = .ok (.irem, 1) := by decide +kernel
theorem d2_12 : decode prog_55_method_3_code 12 = .ok (.isub, 1) := by decide +kernel
theorem d2_13 : decode prog_55_method_3_code 13 = .ok (.istore_n 3, 1) := by decide +kernel
theorem d2_14 : decode prog_55_method_3_code 14 = .ok (.iconst 0, 1) := by decide +kernel
theorem d2_15 : decode prog_55_method_3_code 15 = .ok (.istore 4, 2) := by decide +kernel
theorem d2_17 : decode prog_55_method_3_code 17 = .ok (.iload 4, 2) := by decide +kernel
theorem d2_19 : decode prog_55_method_3_code 19 = .ok (.iload_n 3, 1) := by decide +kernel
theorem d2_20 : decode prog_55_method_3_code 20 = .ok (.if_icmp .ge 95, 3) := by decide +kernel
theorem d2_23 : decode prog_55_method_3_code 23 = .ok (.aload_n 0, 1) := by decide +kernel
theorem d2_24 : decode prog_55_method_3_code 24 = .ok (.iload 4, 2) := by decide +kernel
theorem d2_26 : decode prog_55_method_3_code 26 = .ok (.baload, 1) := by decide +kernel
theorem d2_27 : decode prog_55_method_3_code 27 = .ok (.sipush 255, 3) := by decide +kernel
theorem d2_30 : decode prog_55_method_3_code 30 = .ok (.iand, 1) := by decide +kernel
theorem d2_31 : decode prog_55_method_3_code 31 = .ok (.aload_n 0, 1) := by decide +kernel
theorem d2_32 : decode prog_55_method_3_code 32 = .ok (.iload 4, 2) := by decide +kernel
theorem d2_34 : decode prog_55_method_3_code 34 = .ok (.iconst 1, 1) := by decide +kernel
theorem d2_35 : decode prog_55_method_3_code 35 = .ok (.iadd, 1) := by decide +kernel
theorem d2_36 : decode prog_55_method_3_code 36 = .ok (.baload, 1) := by decide +kernel
theorem d2_37 : decode prog_55_method_3_code 37 = .ok (.sipush 255, 3) := by decide +kernel
theorem d2_40 : decode prog_55_method_3_code 40 = .ok (.iand, 1) := by decide +kernel
theorem d2_41 : decode prog_55_method_3_code 41 = .ok (.bipush 8, 2) := by decide +kernel
theorem d2_43 : decode prog_55_method_3_code 43 = .ok (.ishl, 1) := by decide +kernel
theorem d2_44 : decode prog_55_method_3_code 44 = .ok (.ior, 1) := by decide +kernel
theorem d2_45 : decode prog_55_method_3_code 45 = .ok (.aload_n 0, 1) := by decide +kernel
theorem d2_46 : decode prog_55_method_3_code 46 = .ok (.iload 4, 2) := by decide +kernel
theorem d2_48 : decode prog_55_method_3_code 48 = .ok (.iconst 2, 1) := by decide +kernel
theorem d2_49 : decode prog_55_method_3_code 49 = .ok (.iadd, 1) := by decide +kernel
theorem d2_50 : decode prog_55_method_3_code 50 = .ok (.baload, 1) := by decide +kernel
theorem d2_51 : decode prog_55_method_3_code 51 = .ok (.sipush 255, 3) := by decide +kernel
theorem d2_54 : decode prog_55_method_3_code 54 = .ok (.iand, 1) := by decide +kernel
theorem d2_55 : decode prog_55_method_3_code 55 = .ok (.bipush 16, 2) := by decide +kernel
theorem d2_57 : decode prog_55_method_3_code 57 = .ok (.ishl, 1) := by decide +kernel
theorem d2_58 : decode prog_55_method_3_code 58 = .ok (.ior, 1) := by decide +kernel
theorem d2_59 : decode prog_55_method_3_code 59 = .ok (.aload_n 0, 1) := by decide +kernel
theorem d2_60 : decode prog_55_method_3_code 60 = .ok (.iload 4, 2) := by decide +kernel
theorem d2_62 : decode prog_55_method_3_code 62 = .ok (.iconst 3, 1) := by decide +kernel
theorem d2_63 : decode prog_55_method_3_code 63 = .ok (.iadd, 1) := by decide +kernel
theorem d2_64 : decode prog_55_method_3_code 64 = .ok (.baload, 1) := by decide +kernel
theorem d2_65 : decode prog_55_method_3_code 65 = .ok (.sipush 255, 3) := by decide +kernel
theorem d2_68 : decode prog_55_method_3_code 68 = .ok (.iand, 1) := by decide +kernel
theorem d2_69 : decode prog_55_method_3_code 69 = .ok (.bipush 24, 2) := by decide +kernel
theorem d2_71 : decode prog_55_method_3_code 71 = .ok (.ishl, 1) := by decide +kernel
theorem d2_72 : decode prog_55_method_3_code 72 = .ok (.ior, 1) := by decide +kernel
theorem d2_73 : decode prog_55_method_3_code 73 = .ok (.istore 5, 2) := by decide +kernel
theorem d2_75 : decode prog_55_method_3_code 75 = .ok (.iload 5, 2) := by decide +kernel
theorem d2_77 : decode prog_55_method_3_code 77 = .ok (.ldc 24, 2) := by decide +kernel
theorem d2_79 : decode prog_55_method_3_code 79 = .ok (.imul, 1) := by decide +kernel
theorem d2_80 : decode prog_55_method_3_code 80 = .ok (.istore 5, 2) := by decide +kernel
theorem d2_82 : decode prog_55_method_3_code 82 = .ok (.iload 5, 2) := by decide +kernel
theorem d2_84 : decode prog_55_method_3_code 84 = .ok (.iload 5, 2) := by decide +kernel
theorem d2_86 : decode prog_55_method_3_code 86 = .ok (.bipush 24, 2) := by decide +kernel
theorem d2_88 : decode prog_55_method_3_code 88 = .ok (.iushr, 1) := by decide +kernel
theorem d2_89 : decode prog_55_method_3_code 89 = .ok (.ixor, 1) := by decide +kernel
theorem d2_90 : decode prog_55_method_3_code 90 = .ok (.istore 5, 2) := by decide +kernel
theorem d2_92 : decode prog_55_method_3_code 92 = .ok (.iload 5, 2) := by decide +kernel
theorem d2_94 : decode prog_55_method_3_code 94 = .ok (.ldc 24, 2) := by decide +kernel
theorem d2_96 : decode prog_55_method_3_code 96 = .ok (.imul, 1) := by decide +kernel
theorem d2_97 : decode prog_55_method_3_code 97 = .ok (.istore 5, 2) := by decide +kernel
theorem d2_99 : decode prog_55_method_3_code 99 = .ok (.iload_n 2, 1) := by decide +kernel
theorem d2_100 : decode prog_55_method_3_code 100 = .ok (.ldc 24, 2) := by decide +kernel
theorem d2_102 : decode prog_55_method_3_code 102 = .ok (.imul, 1) := by decide +kernel
theorem d2_103 : decode prog_55_method_3_code 103 = .ok (.istore_n 2, 1) := by decide +kernel
theorem d2_104 : decode prog_55_method_3_code 104 = .ok (.iload_n 2, 1) := by decide +kernel
theorem d2_105 : decode prog_55_method_3_code 105 = .ok (.iload 5, 2) := by decide +kernel
theorem d2_107 : decode prog_55_method_3_code 107 = .ok (.ixor, 1) := by decide +kernel
theorem d2_108 : decode prog_55_method_3_code 108 = .ok (.istore_n 2, 1) := by decide +kernel
theorem d2_109 : decode prog_55_method_3_code 109 = .ok (.iinc 4 4, 3) := by decide +kernel
theorem d2_112 : decode prog_55_method_3_code 112 = .ok (.goto (-95), 3) := by decide +kernel
theorem d2_115 : decode prog_55_method_3_code 115 = .ok (.iload_n 1, 1) := by decide +kernel
theorem d2_116 : decode prog_55_method_3_code 116 = .ok (.iload_n 3, 1) := by decide +kernel
theorem d2_117 : decode prog_55_method_3_code 117 = .ok (.isub, 1) := by decide +kernel
theorem d2_118 : decode prog_55_method_3_code 118 = .ok (.istore 4, 2) := by decide +kernel
theorem d2_120 : decode prog_55_method_3_code 120 = .ok (.iload 4, 2) := by decide +kernel
theorem d2_122 : decode prog_55_method_3_code 122 = .ok (.ifCond .le 60, 3) := by decide +kernel
theorem d2_125 : decode prog_55_method_3_code 125 = .ok (.iload 4, 2) := by decide +kernel
theorem d2_127 : decode prog_55_method_3_code 127 = .ok (.iconst 3, 1) := by decide +kernel
theorem d2_128 : decode prog_55_method_3_code 128 = .ok (.if_icmp .ne 18, 3) := by decide +kernel
theorem d2_131 : decode prog_55_method_3_code 131 = .ok (.iload_n 2, 1) := by decide +kernel
theorem d2_132 : decode prog_55_method_3_code 132 = .ok (.aload_n 0, 1) := by decide +kernel
theorem d2_133 : decode prog_55_method_3_code 133 = .ok (.iload_n 3, 1) := by decide +kernel
theorem d2_134 : decode prog_55_method_3_code 134 = .ok (.iconst 2, 1) := by decide +kernel
theorem d2_135 : decode prog_55_method_3_code 135 = .ok (.iadd, 1) := by decide +kernel
theorem d2_136 : decode prog_55_method_3_code 136 = .ok (.baload, 1) := by decide +kernel
theorem d2_137 : decode prog_55_method_3_code 137 = .ok (.sipush 255, 3) := by decide +kernel
theorem d2_140 : decode prog_55_method_3_code 140 = .ok (.iand, 1) := by decide +kernel
theorem d2_141 : decode prog_55_method_3_code 141 = .ok (.bipush 16, 2) := by decide +kernel
theorem d2_143 : decode prog_55_method_3_code 143 = .ok (.ishl, 1) := by decide +kernel
theorem d2_144 : decode prog_55_method_3_code 144 = .ok (.ixor, 1) := by decide +kernel
theorem d2_145 : decode prog_55_method_3_code 145 = .ok (.istore_n 2, 1) := by decide +kernel
theorem d2_146 : decode prog_55_method_3_code 146 = .ok (.iload 4, 2) := by decide +kernel
theorem d2_148 : decode prog_55_method_3_code 148 = .ok (.iconst 2, 1) := by decide +kernel
theorem d2_149 : decode prog_55_method_3_code 149 = .ok (.if_icmp .lt 18, 3) := by decide +kernel
theorem d2_152 : decode prog_55_method_3_code 152 = .ok (.iload_n 2, 1) := by decide +kernel
theorem d2_153 : decode prog_55_method_3_code 153 = .ok (.aload_n 0, 1) := by decide +kernel
theorem d2_154 : decode prog_55_method_3_code 154 = .ok (.iload_n 3, 1) := by decide +kernel
theorem d2_155 : decode prog_55_method_3_code 155 = .ok (.iconst 1, 1) := by decide +kernel
theorem d2_156 : decode prog_55_method_3_code 156 = .ok (.iadd, 1) := by decide +kernel
theorem d2_157 : decode prog_55_method_3_code 157 = .ok (.baload, 1) := by decide +kernel
theorem d2_158 : decode prog_55_method_3_code 158 = .ok (.sipush 255, 3) := by decide +kernel
theorem d2_161 : decode prog_55_method_3_code 161 = .ok (.iand, 1) := by decide +kernel
theorem d2_162 : decode prog_55_method_3_code 162 = .ok (.bipush 8, 2) := by decide +kernel
theorem d2_164 : decode prog_55_method_3_code 164 = .ok (.ishl, 1) := by decide +kernel
theorem d2_165 : decode prog_55_method_3_code 165 = .ok (.ixor, 1) := by decide +kernel
theorem d2_166 : decode prog_55_method_3_code 166 = .ok (.istore_n 2, 1) := by decide +kernel
theorem d2_167 : decode prog_55_method_3_code 167 = .ok (.iload_n 2, 1) := by decide +kernel
theorem d2_168 : decode prog_55_method_3_code 168 = .ok (.aload_n 0, 1) := by decide +kernel
theorem d2_169 : decode prog_55_method_3_code 169 = .ok (.iload_n 3, 1) := by decide +kernel
theorem d2_170 : decode prog_55_method_3_code 170 = .ok (.baload, 1) := by decide +kernel
theorem d2_171 : decode prog_55_method_3_code 171 = .ok (.sipush 255, 3) := by decide +kernel
theorem d2_174 : decode prog_55_method_3_code 174 = .ok (.iand, 1) := by decide +kernel
theorem d2_175 : decode prog_55_method_3_code 175 = .ok (.ixor, 1) := by decide +kernel
theorem d2_176 : decode prog_55_method_3_code 176 = .ok (.istore_n 2, 1) := by decide +kernel
theorem d2_177 : decode prog_55_method_3_code 177 = .ok (.iload_n 2, 1) := by decide +kernel
theorem d2_178 : decode prog_55_method_3_code 178 = .ok (.ldc 24, 2) := by decide +kernel
theorem d2_180 : decode prog_55_method_3_code 180 = .ok (.imul, 1) := by decide +kernel
theorem d2_181 : decode prog_55_method_3_code 181 = .ok (.istore_n 2, 1) := by decide +kernel
theorem d2_182 : decode prog_55_method_3_code 182 = .ok (.iload_n 2, 1) := by decide +kernel
theorem d2_183 : decode prog_55_method_3_code 183 = .ok (.iload_n 2, 1) := by decide +kernel
theorem d2_184 : decode prog_55_method_3_code 184 = .ok (.bipush 13, 2) := by decide +kernel
theorem d2_186 : decode prog_55_method_3_code 186 = .ok (.iushr, 1) := by decide +kernel
theorem d2_187 : decode prog_55_method_3_code 187 = .ok (.ixor, 1) := by decide +kernel
theorem d2_188 : decode prog_55_method_3_code 188 = .ok (.istore_n 2, 1) := by decide +kernel
theorem d2_189 : decode prog_55_method_3_code 189 = .ok (.iload_n 2, 1) := by decide +kernel
theorem d2_190 : decode prog_55_method_3_code 190 = .ok (.ldc 24, 2) := by decide +kernel
theorem d2_192 : decode prog_55_method_3_code 192 = .ok (.imul, 1) := by decide +kernel
theorem d2_193 : decode prog_55_method_3_code 193 = .ok (.istore_n 2, 1) := by decide +kernel
theorem d2_194 : decode prog_55_method_3_code 194 = .ok (.iload_n 2, 1) := by decide +kernel
theorem d2_195 : decode prog_55_method_3_code 195 = .ok (.iload_n 2, 1) := by decide +kernel
theorem d2_196 : decode prog_55_method_3_code 196 = .ok (.bipush 15, 2) := by decide +kernel
theorem d2_198 : decode prog_55_method_3_code 198 = .ok (.iushr, 1) := by decide +kernel
theorem d2_199 : decode prog_55_method_3_code 199 = .ok (.ixor, 1) := by decide +kernel
theorem d2_200 : decode prog_55_method_3_code 200 = .ok (.istore_n 2, 1) := by decide +kernel
theorem d2_201 : decode prog_55_method_3_code 201 = .ok (.iload_n 2, 1) := by decide +kernel
theorem d2_202 : decode prog_55_method_3_code 202 = .ok (.ireturn, 1) := by decide +kernel
theorem d3_0 : decode method_3_code 0 = .ok (.ldc 7, 2) := by decide +kernel
theorem d3_2 : decode method_3_code 2 = .ok (.istore_n 1, 1) := by decide +kernel
theorem d3_3 : decode method_3_code 3 = .ok (.iload_n 0, 1) := by decide +kernel
theorem d3_4 : decode method_3_code 4 = .ok (.iload_n 1, 1) := by decide +kernel
theorem d3_5 : decode method_3_code 5 = .ok (.imul, 1) := by decide +kernel
theorem d3_6 : decode method_3_code 6 = .ok (.istore_n 2, 1) := by decide +kernel
theorem d3_7 : decode method_3_code 7 = .ok (.iload_n 2, 1) := by decide +kernel
theorem d3_8 : decode method_3_code 8 = .ok (.iload_n 2, 1) := by decide +kernel
theorem d3_9 : decode method_3_code 9 = .ok (.bipush 24, 2) := by decide +kernel
theorem d3_11 : decode method_3_code 11 = .ok (.iushr, 1) := by decide +kernel
theorem d3_12 : decode method_3_code 12 = .ok (.ixor, 1) := by decide +kernel
theorem d3_13 : decode method_3_code 13 = .ok (.istore_n 2, 1) := by decide +kernel
theorem d3_14 : decode method_3_code 14 = .ok (.iload_n 2, 1) := by decide +kernel
theorem d3_15 : decode method_3_code 15 = .ok (.iload_n 1, 1) := by decide +kernel
theorem d3_16 : decode method_3_code 16 = .ok (.imul, 1) := by decide +kernel
theorem d3_17 : decode method_3_code 17 = .ok (.ireturn, 1) := by decide +kernel
theorem pd_0 : parseMethodDescriptor "([BII)V" = some ⟨[(.array .byte), .int, .int], none⟩ := by decide +kernel
theorem pd_1 : parseMethodDescriptor "([B)I" = some ⟨[(.array .byte)], some .int⟩ := by decide +kernel
theorem pd_2 : parseMethodDescriptor "(I)I" = some ⟨[.int], some .int⟩ := by decide +kernel
theorem pn_0 : plainName "com/example/onlyonce/onlyonce/PartitionerMurmur2PinLaw" = true := by first | (simp [plainName, overriddenIn]; done) | decide +kernel
theorem pn_1 : plainName "com/example/onlyonce/onlyonce/Partitioner" = true := by first | (simp [plainName, overriddenIn]; done) | decide +kernel
def F3 (x0 : Int32) : Int32 := (((x0 * (1540483477 : Int32)) ^^^ (((x0 * (1540483477 : Int32)).toUInt32 >>> ((24 : Int32) &&& 31).toUInt32).toInt32)) * (1540483477 : Int32))
theorem ef_rm3 (m : MethodId) (x0 : Int32) : entryFrame m #[.int x0] 3 = mkF m 0 #[.val (.int x0), .unset, .unset] [] := by first | (simp [entryFrame, mkF, argsToLocals, Value.category]; done) | rfl
set_option maxRecDepth 65536 in
set_option maxHeartbeats 40000000 in
theorem rm3 (l : Launch) (Z : State) (a0 : Array Value) (hw : HW Z a0) (x0 : Int32) (L : List (Addr × (Cell → Prop))) (h : Heap) (n0 : Nat) (O : Own n0 h L) :
    Meth l Z (⟨"com/example/onlyonce/onlyonce/PartitionerMurmur2PinLaw", "mixK", "(I)I"⟩ : MethodName) method_3_code 3 (some .int) [] ({ frames := 0, cells := 0, slots := 0, locals := 0 } : Room) #[.int x0] h n0 (fun v h' => v = some (.int (F3 x0)) ∧ Own n0 h' L) := by
  refine Meth.of (plainFor_of_name pn_0) (fun m => ef_rm3 m x0) O ?_
  intro p e m below meth c M FE C J
  change Cx Z "com/example/onlyonce/onlyonce/PartitionerMurmur2PinLaw" "mixK" method_3_code 3 (some .int) p m meth c M at C
  clear O
  refine Wk.ldcInt (z := (1540483477 : Int32)) (pc' := 2) C (w6 hw) d3_0 rfl ?_
  refine Wk.istoreN (Ls' := #[.val (.int x0), .val (.int (1540483477 : Int32)), .unset]) (pc' := 3) C d3_2 rfl rfl ?_
  refine Wk.iloadN (pc' := 4) C d3_3 rfl rfl ?_
  refine Wk.iloadN (pc' := 5) C d3_4 rfl rfl ?_
  refine Wk.imul (pc' := 6) C d3_5 rfl ?_
  refine Wk.istoreN (Ls' := #[.val (.int x0), .val (.int (1540483477 : Int32)), .val (.int (x0 * (1540483477 : Int32)))]) (pc' := 7) C d3_6 rfl rfl ?_
  refine Wk.iloadN (pc' := 8) C d3_7 rfl rfl ?_
  refine Wk.iloadN (pc' := 9) C d3_8 rfl rfl ?_
  refine Wk.bipush (z := (24 : Int32)) (pc' := 11) C d3_9 rfl rfl ?_
  refine Wk.iushr (pc' := 12) C d3_11 rfl ?_
  refine Wk.ixor (pc' := 13) C d3_12 rfl ?_
  refine Wk.istoreN (Ls' := #[.val (.int x0), .val (.int (1540483477 : Int32)), .val (.int ((x0 * (1540483477 : Int32)) ^^^ (((x0 * (1540483477 : Int32)).toUInt32 >>> ((24 : Int32) &&& 31).toUInt32).toInt32)))]) (pc' := 14) C d3_13 rfl rfl ?_
  refine Wk.iloadN (pc' := 15) C d3_14 rfl rfl ?_
  refine Wk.iloadN (pc' := 16) C d3_15 rfl rfl ?_
  refine Wk.imul (pc' := 17) C d3_16 rfl ?_
  exact Wk.retI C J d3_17 (by decide) (by decide) (fun h O => ⟨by rw [F3], O⟩)
theorem own_lt {z : Int32} {i nn : Nat} (h : z.toInt = (i : Int)) (hn : nn < 100) : z < nn.toInt32 ↔ i < nn := by
  have e : nn.toInt32.toInt = nn := len_toInt (by omega)
  rw [Int32.lt_iff_toInt_lt]; omega
theorem own_past {Z : State} {nn i : Nat} {f : Nat → Int32} {v : Int32} (h : ¬ i < nn) (c : Cell) (A : ArrC Z .byte nn f c) : ArrC Z .byte nn (upd f i v) c := A.congr fun j hj => (upd_miss f v (by omega)).symm
abbrev wd (f : Nat → Int32) (i : Nat) : Int32 := ((((f i &&& (255 : Int32)) ||| ((f (i + 1) &&& (255 : Int32)) <<< ((8 : Int32) &&& 31))) ||| ((f (i + 2) &&& (255 : Int32)) <<< ((16 : Int32) &&& 31))) ||| ((f (i + 3) &&& (255 : Int32)) <<< ((24 : Int32) &&& 31)))
abbrev rnd (h k : Int32) : Int32 := (h * (1540483477 : Int32)) ^^^ F3 k
def fin1 (h : Int32) : Int32 := h ^^^ ((h.toUInt32 >>> ((13 : Int32) &&& 31).toUInt32).toInt32)
def fin2 (h : Int32) : Int32 := h ^^^ ((h.toUInt32 >>> ((15 : Int32) &&& 31).toUInt32).toInt32)
def fin (h : Int32) : Int32 := fin2 (fin1 h * (1540483477 : Int32))
theorem ef_rm1 (m : MethodId) (r0 : Addr) (x1 : Int32) (x2 : Int32) : entryFrame m #[.ref r0, .int x1, .int x2] 3 = mkF m 0 #[.val (.ref r0), .val (.int x1), .val (.int x2)] [] := by first | (simp [entryFrame, mkF, argsToLocals, Value.category]; done) | rfl
set_option maxRecDepth 65536 in
set_option maxHeartbeats 40000000 in
theorem rm1 (l : Launch) (Z : State) (a0 : Array Value) (hw : HW Z a0) (r0 : Addr) (x1 : Int32) (x2 : Int32) (L : List (Addr × (Cell → Prop))) (nn i : Nat) (f : Nat → Int32) (h : Heap) (n0 : Nat) (O : Own n0 h ((r0, ArrC Z .byte nn f) :: L)) (hi : x1.toInt = (i : Int)) (hnn : nn ≤ 12) :
    Meth l Z (⟨"com/example/onlyonce/onlyonce/PartitionerMurmur2PinLaw", "put", "([BII)V"⟩ : MethodName) method_2_code 3 none [] ({ frames := 0, cells := 0, slots := 0, locals := 0 } : Room) #[.ref r0, .int x1, .int x2] h n0 (fun v h' => v = none ∧ Own n0 h' ((r0, ArrC Z .byte nn (upd f i (x2.toInt8.toInt32.toInt8.toInt32))) :: L)) := by
  refine Meth.of (plainFor_of_name pn_0) (fun m => ef_rm1 m r0 x1 x2) O ?_
  intro p e m below meth c M FE C J
  change Cx Z "com/example/onlyonce/onlyonce/PartitionerMurmur2PinLaw" "put" method_2_code 3 none p m meth c M at C
  clear O
  refine Wk.iloadN (pc' := 1) C d1_0 rfl rfl ?_
  refine Wk.aloadN (pc' := 2) C d1_1 rfl rfl rfl ?_
  refine Wk.arraylength (pc' := 3) (q := 0) (z := nn.toInt32) C d1_2 rfl (fun _ A => ⟨A.1, A.2.2.1⟩) rfl rfl ?_
  refine Wk.icmp_ge (pcT := 11) (pcF := 6) C d1_3 (by decide) (by decide) rfl (fun c1 => ?_) (fun c1 => ?_)
  · skip
    exact Wk.retV C J d1_11 (by decide) (by decide) (fun h O => ⟨rfl, O.imp (i := 0) rfl (own_past (mt (own_lt hi (by omega)).mpr c1))⟩)
  · skip
    refine Wk.aloadN (pc' := 7) C d1_6 rfl rfl rfl ?_
    refine Wk.iloadN (pc' := 8) C d1_7 rfl rfl ?_
    refine Wk.iloadN (pc' := 9) C d1_8 rfl rfl ?_
    refine Wk.i2b (pc' := 10) C d1_9 rfl ?_
    refine Wk.bastore (pc' := 11) (q := 0) (i := i) C d1_10 rfl hi ((own_lt hi (by omega)).mp c1) rfl ?_
    change Wk p l e _ m _ below meth c _ _ n0 ((r0, ArrC Z .byte nn (upd f i ((x2.toInt8.toInt32).toInt8.toInt32))) :: L) 0 0 11 #[.val (.ref r0), .val (.int x1), .val (.int x2)] []
    exact Wk.retV C J d1_11 (by decide) (by decide) (fun h O => ⟨rfl, O⟩)
def G0 (f : Nat → Int32) : Int32 := fin ((-1756908916 : Int32) ^^^ (0 : Int32))
theorem ef_rm2_0 (m : MethodId) (r0 : Addr) : entryFrame m #[.ref r0] 6 = mkF m 0 #[.val (.ref r0), .unset, .unset, .unset, .unset, .unset] [] := by first | (simp [entryFrame, mkF, argsToLocals, Value.category]; done) | rfl
set_option maxRecDepth 65536 in
set_option maxHeartbeats 40000000 in
theorem rm2_0 (l : Launch) (Z : State) (a0 : Array Value) (hw : HW Z a0) (r0 : Addr) (L : List (Addr × (Cell → Prop))) (q : Nat) (f : Nat → Int32) (h : Heap) (n0 : Nat) (O : Own n0 h L) (hq : L[q]? = some (r0, ArrC Z .byte 0 f)) :
    Meth l Z (⟨"com/example/onlyonce/onlyonce/Partitioner", "murmur2", "([B)I"⟩ : MethodName) prog_55_method_3_code 6 (some .int) [] ({ frames := 0, cells := 0, slots := 0, locals := 0 } : Room) #[.ref r0] h n0 (fun v h' => v = some (.int (G0 f)) ∧ Own n0 h' L) := by
  refine Meth.of (plainFor_of_name pn_1) (fun m => ef_rm2_0 m r0) O ?_
  intro p e m below meth c M FE C J
  change Cx Z "com/example/onlyonce/onlyonce/Partitioner" "murmur2" prog_55_method_3_code 6 (some .int) p m meth c M at C
  clear O
  refine Wk.aloadN (pc' := 1) C d2_0 rfl rfl rfl ?_
  refine Wk.arraylength (pc' := 2) (q := q) (z := (0 : Int32)) C d2_1 hq (fun _ A => ⟨A.1, A.2.2.1⟩) rfl rfl ?_
  refine Wk.istoreN (Ls' := #[.val (.ref r0), .val (.int (0 : Int32)), .unset, .unset, .unset, .unset]) (pc' := 3) C d2_2 rfl rfl ?_
  refine Wk.ldcInt (z := (-1756908916 : Int32)) (pc' := 5) C (w12 hw) d2_3 rfl ?_
  refine Wk.iloadN (pc' := 6) C d2_5 rfl rfl ?_
  refine Wk.ixor (pc' := 7) C d2_6 rfl ?_
  refine Wk.istoreNV (fun v2 => #[.val (.ref r0), .val (.int (0 : Int32)), .val (.int v2), .unset, .unset, .unset]) (pc' := 8) C d2_7 rfl rfl ?_
  intro v2 hv2
  refine Wk.iloadN (pc' := 9) C d2_8 rfl rfl ?_
  refine Wk.iloadN (pc' := 10) C d2_9 rfl rfl ?_
  refine Wk.iconst (z := (4 : Int32)) (pc' := 11) C d2_10 rfl rfl ?_
  refine Wk.irem (pc' := 12) C d2_11 (by decide) rfl ?_
  refine Wk.isub (pc' := 13) C d2_12 rfl ?_
  refine Wk.istoreNV (fun v3 => #[.val (.ref r0), .val (.int (0 : Int32)), .val (.int v2), .val (.int v3), .unset, .unset]) (pc' := 14) C d2_13 rfl rfl ?_
  intro v3 hv3
  obtain rfl : v3 = (0 : Int32) := hv3.trans (by decide)
  refine Wk.iconst (z := (0 : Int32)) (pc' := 15) C d2_14 rfl rfl ?_
  refine Wk.istore (Ls' := #[.val (.ref r0), .val (.int (0 : Int32)), .val (.int v2), .val (.int (0 : Int32)), .val (.int (0 : Int32)), .unset]) (pc' := 17) C d2_15 rfl rfl ?_
  refine Wk.iload (pc' := 19) C d2_17 rfl rfl ?_
  refine Wk.iloadN (pc' := 20) C d2_19 rfl rfl ?_
  refine Wk.icmp_ge (pcT := 115) (pcF := 23) C d2_20 (by decide) (by decide) rfl (fun _ => ?_) (fun q => absurd q (by decide))
  refine Wk.iloadN (pc' := 116) C d2_115 rfl rfl ?_
  refine Wk.iloadN (pc' := 117) C d2_116 rfl rfl ?_
  refine Wk.isub (pc' := 118) C d2_117 rfl ?_
  refine Wk.istoreV (fun v4 => #[.val (.ref r0), .val (.int (0 : Int32)), .val (.int v2), .val (.int (0 : Int32)), .val (.int v4), .unset]) (pc' := 120) C d2_118 rfl rfl ?_
  intro v4 hv4
  obtain rfl : v4 = (0 : Int32) := hv4.trans (by decide)
  refine Wk.iload (pc' := 122) C d2_120 rfl rfl ?_
  refine Wk.if_le (pcT := 182) (pcF := 125) C d2_122 (by decide) (by decide) rfl (fun _ => ?_) (fun q => absurd q (by decide))
  refine Wk.iloadN (pc' := 183) C d2_182 rfl rfl ?_
  refine Wk.iloadN (pc' := 184) C d2_183 rfl rfl ?_
  refine Wk.bipush (z := (13 : Int32)) (pc' := 186) C d2_184 rfl rfl ?_
  refine Wk.iushr (pc' := 187) C d2_186 rfl ?_
  refine Wk.ixor (pc' := 188) C d2_187 rfl ?_
  refine Wk.istoreNV (fun v5 => #[.val (.ref r0), .val (.int (0 : Int32)), .val (.int v5), .val (.int (0 : Int32)), .val (.int (0 : Int32)), .unset]) (pc' := 189) C d2_188 rfl rfl ?_
  intro v5 hv5
  refine Wk.iloadN (pc' := 190) C d2_189 rfl rfl ?_
  refine Wk.ldcInt (z := (1540483477 : Int32)) (pc' := 192) C (w13 hw) d2_190 rfl ?_
  refine Wk.imul (pc' := 193) C d2_192 rfl ?_
  refine Wk.istoreNV (fun v6 => #[.val (.ref r0), .val (.int (0 : Int32)), .val (.int v6), .val (.int (0 : Int32)), .val (.int (0 : Int32)), .unset]) (pc' := 194) C d2_193 rfl rfl ?_
  intro v6 hv6
  refine Wk.iloadN (pc' := 195) C d2_194 rfl rfl ?_
  refine Wk.iloadN (pc' := 196) C d2_195 rfl rfl ?_
  refine Wk.bipush (z := (15 : Int32)) (pc' := 198) C d2_196 rfl rfl ?_
  refine Wk.iushr (pc' := 199) C d2_198 rfl ?_
  refine Wk.ixor (pc' := 200) C d2_199 rfl ?_
  refine Wk.istoreNV (fun v7 => #[.val (.ref r0), .val (.int (0 : Int32)), .val (.int v7), .val (.int (0 : Int32)), .val (.int (0 : Int32)), .unset]) (pc' := 201) C d2_200 rfl rfl ?_
  intro v7 hv7
  refine Wk.iloadN (pc' := 202) C d2_201 rfl rfl ?_
  have hres : v7 = G0 f := by
    subst hv7 hv6 hv5 hv2
    rfl
  exact Wk.retI C J d2_202 (by decide) (by decide) (fun h O => ⟨by rw [hres], O⟩)
def G1 (f : Nat → Int32) : Int32 := fin ((((-1756908916 : Int32) ^^^ (1 : Int32)) ^^^ (f 0 &&& (255 : Int32))) * (1540483477 : Int32))
theorem ef_rm2_1 (m : MethodId) (r0 : Addr) : entryFrame m #[.ref r0] 6 = mkF m 0 #[.val (.ref r0), .unset, .unset, .unset, .unset, .unset] [] := by first | (simp [entryFrame, mkF, argsToLocals, Value.category]; done) | rfl
set_option maxRecDepth 65536 in
set_option maxHeartbeats 40000000 in
theorem rm2_1 (l : Launch) (Z : State) (a0 : Array Value) (hw : HW Z a0) (r0 : Addr) (L : List (Addr × (Cell → Prop))) (q : Nat) (f : Nat → Int32) (h : Heap) (n0 : Nat) (O : Own n0 h L) (hq : L[q]? = some (r0, ArrC Z .byte 1 f)) :
    Meth l Z (⟨"com/example/onlyonce/onlyonce/Partitioner", "murmur2", "([B)I"⟩ : MethodName) prog_55_method_3_code 6 (some .int) [] ({ frames := 0, cells := 0, slots := 0, locals := 0 } : Room) #[.ref r0] h n0 (fun v h' => v = some (.int (G1 f)) ∧ Own n0 h' L) := by
  refine Meth.of (plainFor_of_name pn_1) (fun m => ef_rm2_1 m r0) O ?_
  intro p e m below meth c M FE C J
  change Cx Z "com/example/onlyonce/onlyonce/Partitioner" "murmur2" prog_55_method_3_code 6 (some .int) p m meth c M at C
  clear O
  refine Wk.aloadN (pc' := 1) C d2_0 rfl rfl rfl ?_
  refine Wk.arraylength (pc' := 2) (q := q) (z := (1 : Int32)) C d2_1 hq (fun _ A => ⟨A.1, A.2.2.1⟩) rfl rfl ?_
  refine Wk.istoreN (Ls' := #[.val (.ref r0), .val (.int (1 : Int32)), .unset, .unset, .unset, .unset]) (pc' := 3) C d2_2 rfl rfl ?_
  refine Wk.ldcInt (z := (-1756908916 : Int32)) (pc' := 5) C (w12 hw) d2_3 rfl ?_
  refine Wk.iloadN (pc' := 6) C d2_5 rfl rfl ?_
  refine Wk.ixor (pc' := 7) C d2_6 rfl ?_
  refine Wk.istoreNV (fun v8 => #[.val (.ref r0), .val (.int (1 : Int32)), .val (.int v8), .unset, .unset, .unset]) (pc' := 8) C d2_7 rfl rfl ?_
  intro v8 hv8
  refine Wk.iloadN (pc' := 9) C d2_8 rfl rfl ?_
  refine Wk.iloadN (pc' := 10) C d2_9 rfl rfl ?_
  refine Wk.iconst (z := (4 : Int32)) (pc' := 11) C d2_10 rfl rfl ?_
  refine Wk.irem (pc' := 12) C d2_11 (by decide) rfl ?_
  refine Wk.isub (pc' := 13) C d2_12 rfl ?_
  refine Wk.istoreNV (fun v9 => #[.val (.ref r0), .val (.int (1 : Int32)), .val (.int v8), .val (.int v9), .unset, .unset]) (pc' := 14) C d2_13 rfl rfl ?_
  intro v9 hv9
  obtain rfl : v9 = (0 : Int32) := hv9.trans (by decide)
  refine Wk.iconst (z := (0 : Int32)) (pc' := 15) C d2_14 rfl rfl ?_
  refine Wk.istore (Ls' := #[.val (.ref r0), .val (.int (1 : Int32)), .val (.int v8), .val (.int (0 : Int32)), .val (.int (0 : Int32)), .unset]) (pc' := 17) C d2_15 rfl rfl ?_
  refine Wk.iload (pc' := 19) C d2_17 rfl rfl ?_
  refine Wk.iloadN (pc' := 20) C d2_19 rfl rfl ?_
  refine Wk.icmp_ge (pcT := 115) (pcF := 23) C d2_20 (by decide) (by decide) rfl (fun _ => ?_) (fun q => absurd q (by decide))
  refine Wk.iloadN (pc' := 116) C d2_115 rfl rfl ?_
  refine Wk.iloadN (pc' := 117) C d2_116 rfl rfl ?_
  refine Wk.isub (pc' := 118) C d2_117 rfl ?_
  refine Wk.istoreV (fun v10 => #[.val (.ref r0), .val (.int (1 : Int32)), .val (.int v8), .val (.int (0 : Int32)), .val (.int v10), .unset]) (pc' := 120) C d2_118 rfl rfl ?_
  intro v10 hv10
  obtain rfl : v10 = (1 : Int32) := hv10.trans (by decide)
  refine Wk.iload (pc' := 122) C d2_120 rfl rfl ?_
  refine Wk.if_le (pcT := 182) (pcF := 125) C d2_122 (by decide) (by decide) rfl (fun q => absurd q (by decide)) (fun _ => ?_)
  refine Wk.iload (pc' := 127) C d2_125 rfl rfl ?_
  refine Wk.iconst (z := (3 : Int32)) (pc' := 128) C d2_127 rfl rfl ?_
  refine Wk.icmp_ne (pcT := 146) (pcF := 131) C d2_128 (by decide) (by decide) rfl (fun _ => ?_) (fun q => absurd q (by decide))
  refine Wk.iload (pc' := 148) C d2_146 rfl rfl ?_
  refine Wk.iconst (z := (2 : Int32)) (pc' := 149) C d2_148 rfl rfl ?_
  refine Wk.icmp_lt (pcT := 167) (pcF := 152) C d2_149 (by decide) (by decide) rfl (fun _ => ?_) (fun q => absurd q (by decide))
  refine Wk.iloadN (pc' := 168) C d2_167 rfl rfl ?_
  refine Wk.aloadN (pc' := 169) C d2_168 rfl rfl rfl ?_
  refine Wk.iloadN (pc' := 170) C d2_169 rfl rfl ?_
  refine Wk.baload (pc' := 171) (q := q) (i := 0) C d2_170 hq (by decide) (by decide) rfl ?_
  refine Wk.sipush (z := (255 : Int32)) (pc' := 174) C d2_171 rfl rfl ?_
  refine Wk.iand (pc' := 175) C d2_174 rfl ?_
  refine Wk.ixor (pc' := 176) C d2_175 rfl ?_
  refine Wk.istoreNV (fun v11 => #[.val (.ref r0), .val (.int (1 : Int32)), .val (.int v11), .val (.int (0 : Int32)), .val (.int (1 : Int32)), .unset]) (pc' := 177) C d2_176 rfl rfl ?_
  intro v11 hv11
  refine Wk.iloadN (pc' := 178) C d2_177 rfl rfl ?_
  refine Wk.ldcInt (z := (1540483477 : Int32)) (pc' := 180) C (w13 hw) d2_178 rfl ?_
  refine Wk.imul (pc' := 181) C d2_180 rfl ?_
  refine Wk.istoreNV (fun v12 => #[.val (.ref r0), .val (.int (1 : Int32)), .val (.int v12), .val (.int (0 : Int32)), .val (.int (1 : Int32)), .unset]) (pc' := 182) C d2_181 rfl rfl ?_
  intro v12 hv12
  refine Wk.iloadN (pc' := 183) C d2_182 rfl rfl ?_
  refine Wk.iloadN (pc' := 184) C d2_183 rfl rfl ?_
  refine Wk.bipush (z := (13 : Int32)) (pc' := 186) C d2_184 rfl rfl ?_
  refine Wk.iushr (pc' := 187) C d2_186 rfl ?_
  refine Wk.ixor (pc' := 188) C d2_187 rfl ?_
  refine Wk.istoreNV (fun v13 => #[.val (.ref r0), .val (.int (1 : Int32)), .val (.int v13), .val (.int (0 : Int32)), .val (.int (1 : Int32)), .unset]) (pc' := 189) C d2_188 rfl rfl ?_
  intro v13 hv13
  refine Wk.iloadN (pc' := 190) C d2_189 rfl rfl ?_
  refine Wk.ldcInt (z := (1540483477 : Int32)) (pc' := 192) C (w13 hw) d2_190 rfl ?_
  refine Wk.imul (pc' := 193) C d2_192 rfl ?_
  refine Wk.istoreNV (fun v14 => #[.val (.ref r0), .val (.int (1 : Int32)), .val (.int v14), .val (.int (0 : Int32)), .val (.int (1 : Int32)), .unset]) (pc' := 194) C d2_193 rfl rfl ?_
  intro v14 hv14
  refine Wk.iloadN (pc' := 195) C d2_194 rfl rfl ?_
  refine Wk.iloadN (pc' := 196) C d2_195 rfl rfl ?_
  refine Wk.bipush (z := (15 : Int32)) (pc' := 198) C d2_196 rfl rfl ?_
  refine Wk.iushr (pc' := 199) C d2_198 rfl ?_
  refine Wk.ixor (pc' := 200) C d2_199 rfl ?_
  refine Wk.istoreNV (fun v15 => #[.val (.ref r0), .val (.int (1 : Int32)), .val (.int v15), .val (.int (0 : Int32)), .val (.int (1 : Int32)), .unset]) (pc' := 201) C d2_200 rfl rfl ?_
  intro v15 hv15
  refine Wk.iloadN (pc' := 202) C d2_201 rfl rfl ?_
  have hres : v15 = G1 f := by
    subst hv15 hv14 hv13 hv12 hv11 hv8
    rfl
  exact Wk.retI C J d2_202 (by decide) (by decide) (fun h O => ⟨by rw [hres], O⟩)
def G2 (f : Nat → Int32) : Int32 := fin (((((-1756908916 : Int32) ^^^ (2 : Int32)) ^^^ ((f 1 &&& (255 : Int32)) <<< ((8 : Int32) &&& 31))) ^^^ (f 0 &&& (255 : Int32))) * (1540483477 : Int32))
theorem ef_rm2_2 (m : MethodId) (r0 : Addr) : entryFrame m #[.ref r0] 6 = mkF m 0 #[.val (.ref r0), .unset, .unset, .unset, .unset, .unset] [] := by first | (simp [entryFrame, mkF, argsToLocals, Value.category]; done) | rfl
set_option maxRecDepth 65536 in
set_option maxHeartbeats 40000000 in
theorem rm2_2 (l : Launch) (Z : State) (a0 : Array Value) (hw : HW Z a0) (r0 : Addr) (L : List (Addr × (Cell → Prop))) (q : Nat) (f : Nat → Int32) (h : Heap) (n0 : Nat) (O : Own n0 h L) (hq : L[q]? = some (r0, ArrC Z .byte 2 f)) :
    Meth l Z (⟨"com/example/onlyonce/onlyonce/Partitioner", "murmur2", "([B)I"⟩ : MethodName) prog_55_method_3_code 6 (some .int) [] ({ frames := 0, cells := 0, slots := 0, locals := 0 } : Room) #[.ref r0] h n0 (fun v h' => v = some (.int (G2 f)) ∧ Own n0 h' L) := by
  refine Meth.of (plainFor_of_name pn_1) (fun m => ef_rm2_2 m r0) O ?_
  intro p e m below meth c M FE C J
  change Cx Z "com/example/onlyonce/onlyonce/Partitioner" "murmur2" prog_55_method_3_code 6 (some .int) p m meth c M at C
  clear O
  refine Wk.aloadN (pc' := 1) C d2_0 rfl rfl rfl ?_
  refine Wk.arraylength (pc' := 2) (q := q) (z := (2 : Int32)) C d2_1 hq (fun _ A => ⟨A.1, A.2.2.1⟩) rfl rfl ?_
  refine Wk.istoreN (Ls' := #[.val (.ref r0), .val (.int (2 : Int32)), .unset, .unset, .unset, .unset]) (pc' := 3) C d2_2 rfl rfl ?_
  refine Wk.ldcInt (z := (-1756908916 : Int32)) (pc' := 5) C (w12 hw) d2_3 rfl ?_
  refine Wk.iloadN (pc' := 6) C d2_5 rfl rfl ?_
  refine Wk.ixor (pc' := 7) C d2_6 rfl ?_
  refine Wk.istoreNV (fun v16 => #[.val (.ref r0), .val (.int (2 : Int32)), .val (.int v16), .unset, .unset, .unset]) (pc' := 8) C d2_7 rfl rfl ?_
  intro v16 hv16
  refine Wk.iloadN (pc' := 9) C d2_8 rfl rfl ?_
  refine Wk.iloadN (pc' := 10) C d2_9 rfl rfl ?_
  refine Wk.iconst (z := (4 : Int32)) (pc' := 11) C d2_10 rfl rfl ?_
  refine Wk.irem (pc' := 12) C d2_11 (by decide) rfl ?_
  refine Wk.isub (pc' := 13) C d2_12 rfl ?_
  refine Wk.istoreNV (fun v17 => #[.val (.ref r0), .val (.int (2 : Int32)), .val (.int v16), .val (.int v17), .unset, .unset]) (pc' := 14) C d2_13 rfl rfl ?_
  intro v17 hv17
  obtain rfl : v17 = (0 : Int32) := hv17.trans (by decide)
  refine Wk.iconst (z := (0 : Int32)) (pc' := 15) C d2_14 rfl rfl ?_
  refine Wk.istore (Ls' := #[.val (.ref r0), .val (.int (2 : Int32)), .val (.int v16), .val (.int (0 : Int32)), .val (.int (0 : Int32)), .unset]) (pc' := 17) C d2_15 rfl rfl ?_
  refine Wk.iload (pc' := 19) C d2_17 rfl rfl ?_
  refine Wk.iloadN (pc' := 20) C d2_19 rfl rfl ?_
  refine Wk.icmp_ge (pcT := 115) (pcF := 23) C d2_20 (by decide) (by decide) rfl (fun _ => ?_) (fun q => absurd q (by decide))
  refine Wk.iloadN (pc' := 116) C d2_115 rfl rfl ?_
  refine Wk.iloadN (pc' := 117) C d2_116 rfl rfl ?_
  refine Wk.isub (pc' := 118) C d2_117 rfl ?_
  refine Wk.istoreV (fun v18 => #[.val (.ref r0), .val (.int (2 : Int32)), .val (.int v16), .val (.int (0 : Int32)), .val (.int v18), .unset]) (pc' := 120) C d2_118 rfl rfl ?_
  intro v18 hv18
  obtain rfl : v18 = (2 : Int32) := hv18.trans (by decide)
  refine Wk.iload (pc' := 122) C d2_120 rfl rfl ?_
  refine Wk.if_le (pcT := 182) (pcF := 125) C d2_122 (by decide) (by decide) rfl (fun q => absurd q (by decide)) (fun _ => ?_)
  refine Wk.iload (pc' := 127) C d2_125 rfl rfl ?_
  refine Wk.iconst (z := (3 : Int32)) (pc' := 128) C d2_127 rfl rfl ?_
  refine Wk.icmp_ne (pcT := 146) (pcF := 131) C d2_128 (by decide) (by decide) rfl (fun _ => ?_) (fun q => absurd q (by decide))
  refine Wk.iload (pc' := 148) C d2_146 rfl rfl ?_
  refine Wk.iconst (z := (2 : Int32)) (pc' := 149) C d2_148 rfl rfl ?_
  refine Wk.icmp_lt (pcT := 167) (pcF := 152) C d2_149 (by decide) (by decide) rfl (fun q => absurd q (by decide)) (fun _ => ?_)
  refine Wk.iloadN (pc' := 153) C d2_152 rfl rfl ?_
  refine Wk.aloadN (pc' := 154) C d2_153 rfl rfl rfl ?_
  refine Wk.iloadN (pc' := 155) C d2_154 rfl rfl ?_
  refine Wk.iconst (z := (1 : Int32)) (pc' := 156) C d2_155 rfl rfl ?_
  refine Wk.iadd (pc' := 157) C d2_156 rfl ?_
  refine Wk.baload (pc' := 158) (q := q) (i := 1) C d2_157 hq (by decide) (by decide) rfl ?_
  refine Wk.sipush (z := (255 : Int32)) (pc' := 161) C d2_158 rfl rfl ?_
  refine Wk.iand (pc' := 162) C d2_161 rfl ?_
  refine Wk.bipush (z := (8 : Int32)) (pc' := 164) C d2_162 rfl rfl ?_
  refine Wk.ishl (pc' := 165) C d2_164 rfl ?_
  refine Wk.ixor (pc' := 166) C d2_165 rfl ?_
  refine Wk.istoreNV (fun v19 => #[.val (.ref r0), .val (.int (2 : Int32)), .val (.int v19), .val (.int (0 : Int32)), .val (.int (2 : Int32)), .unset]) (pc' := 167) C d2_166 rfl rfl ?_
  intro v19 hv19
  refine Wk.iloadN (pc' := 168) C d2_167 rfl rfl ?_
  refine Wk.aloadN (pc' := 169) C d2_168 rfl rfl rfl ?_
  refine Wk.iloadN (pc' := 170) C d2_169 rfl rfl ?_
  refine Wk.baload (pc' := 171) (q := q) (i := 0) C d2_170 hq (by decide) (by decide) rfl ?_
  refine Wk.sipush (z := (255 : Int32)) (pc' := 174) C d2_171 rfl rfl ?_
  refine Wk.iand (pc' := 175) C d2_174 rfl ?_
  refine Wk.ixor (pc' := 176) C d2_175 rfl ?_
  refine Wk.istoreNV (fun v20 => #[.val (.ref r0), .val (.int (2 : Int32)), .val (.int v20), .val (.int (0 : Int32)), .val (.int (2 : Int32)), .unset]) (pc' := 177) C d2_176 rfl rfl ?_
  intro v20 hv20
  refine Wk.iloadN (pc' := 178) C d2_177 rfl rfl ?_
  refine Wk.ldcInt (z := (1540483477 : Int32)) (pc' := 180) C (w13 hw) d2_178 rfl ?_
  refine Wk.imul (pc' := 181) C d2_180 rfl ?_
  refine Wk.istoreNV (fun v21 => #[.val (.ref r0), .val (.int (2 : Int32)), .val (.int v21), .val (.int (0 : Int32)), .val (.int (2 : Int32)), .unset]) (pc' := 182) C d2_181 rfl rfl ?_
  intro v21 hv21
  refine Wk.iloadN (pc' := 183) C d2_182 rfl rfl ?_
  refine Wk.iloadN (pc' := 184) C d2_183 rfl rfl ?_
  refine Wk.bipush (z := (13 : Int32)) (pc' := 186) C d2_184 rfl rfl ?_
  refine Wk.iushr (pc' := 187) C d2_186 rfl ?_
  refine Wk.ixor (pc' := 188) C d2_187 rfl ?_
  refine Wk.istoreNV (fun v22 => #[.val (.ref r0), .val (.int (2 : Int32)), .val (.int v22), .val (.int (0 : Int32)), .val (.int (2 : Int32)), .unset]) (pc' := 189) C d2_188 rfl rfl ?_
  intro v22 hv22
  refine Wk.iloadN (pc' := 190) C d2_189 rfl rfl ?_
  refine Wk.ldcInt (z := (1540483477 : Int32)) (pc' := 192) C (w13 hw) d2_190 rfl ?_
  refine Wk.imul (pc' := 193) C d2_192 rfl ?_
  refine Wk.istoreNV (fun v23 => #[.val (.ref r0), .val (.int (2 : Int32)), .val (.int v23), .val (.int (0 : Int32)), .val (.int (2 : Int32)), .unset]) (pc' := 194) C d2_193 rfl rfl ?_
  intro v23 hv23
  refine Wk.iloadN (pc' := 195) C d2_194 rfl rfl ?_
  refine Wk.iloadN (pc' := 196) C d2_195 rfl rfl ?_
  refine Wk.bipush (z := (15 : Int32)) (pc' := 198) C d2_196 rfl rfl ?_
  refine Wk.iushr (pc' := 199) C d2_198 rfl ?_
  refine Wk.ixor (pc' := 200) C d2_199 rfl ?_
  refine Wk.istoreNV (fun v24 => #[.val (.ref r0), .val (.int (2 : Int32)), .val (.int v24), .val (.int (0 : Int32)), .val (.int (2 : Int32)), .unset]) (pc' := 201) C d2_200 rfl rfl ?_
  intro v24 hv24
  refine Wk.iloadN (pc' := 202) C d2_201 rfl rfl ?_
  have hres : v24 = G2 f := by
    subst hv24 hv23 hv22 hv21 hv20 hv19 hv16
    rfl
  exact Wk.retI C J d2_202 (by decide) (by decide) (fun h O => ⟨by rw [hres], O⟩)
def G3 (f : Nat → Int32) : Int32 := fin ((((((-1756908916 : Int32) ^^^ (3 : Int32)) ^^^ ((f 2 &&& (255 : Int32)) <<< ((16 : Int32) &&& 31))) ^^^ ((f 1 &&& (255 : Int32)) <<< ((8 : Int32) &&& 31))) ^^^ (f 0 &&& (255 : Int32))) * (1540483477 : Int32))
theorem ef_rm2_3 (m : MethodId) (r0 : Addr) : entryFrame m #[.ref r0] 6 = mkF m 0 #[.val (.ref r0), .unset, .unset, .unset, .unset, .unset] [] := by first | (simp [entryFrame, mkF, argsToLocals, Value.category]; done) | rfl
set_option maxRecDepth 65536 in
set_option maxHeartbeats 40000000 in
theorem rm2_3 (l : Launch) (Z : State) (a0 : Array Value) (hw : HW Z a0) (r0 : Addr) (L : List (Addr × (Cell → Prop))) (q : Nat) (f : Nat → Int32) (h : Heap) (n0 : Nat) (O : Own n0 h L) (hq : L[q]? = some (r0, ArrC Z .byte 3 f)) :
    Meth l Z (⟨"com/example/onlyonce/onlyonce/Partitioner", "murmur2", "([B)I"⟩ : MethodName) prog_55_method_3_code 6 (some .int) [] ({ frames := 0, cells := 0, slots := 0, locals := 0 } : Room) #[.ref r0] h n0 (fun v h' => v = some (.int (G3 f)) ∧ Own n0 h' L) := by
  refine Meth.of (plainFor_of_name pn_1) (fun m => ef_rm2_3 m r0) O ?_
  intro p e m below meth c M FE C J
  change Cx Z "com/example/onlyonce/onlyonce/Partitioner" "murmur2" prog_55_method_3_code 6 (some .int) p m meth c M at C
  clear O
  refine Wk.aloadN (pc' := 1) C d2_0 rfl rfl rfl ?_
  refine Wk.arraylength (pc' := 2) (q := q) (z := (3 : Int32)) C d2_1 hq (fun _ A => ⟨A.1, A.2.2.1⟩) rfl rfl ?_
  refine Wk.istoreN (Ls' := #[.val (.ref r0), .val (.int (3 : Int32)), .unset, .unset, .unset, .unset]) (pc' := 3) C d2_2 rfl rfl ?_
  refine Wk.ldcInt (z := (-1756908916 : Int32)) (pc' := 5) C (w12 hw) d2_3 rfl ?_
  refine Wk.iloadN (pc' := 6) C d2_5 rfl rfl ?_
  refine Wk.ixor (pc' := 7) C d2_6 rfl ?_
  refine Wk.istoreNV (fun v25 => #[.val (.ref r0), .val (.int (3 : Int32)), .val (.int v25), .unset, .unset, .unset]) (pc' := 8) C d2_7 rfl rfl ?_
  intro v25 hv25
  refine Wk.iloadN (pc' := 9) C d2_8 rfl rfl ?_
  refine Wk.iloadN (pc' := 10) C d2_9 rfl rfl ?_
  refine Wk.iconst (z := (4 : Int32)) (pc' := 11) C d2_10 rfl rfl ?_
  refine Wk.irem (pc' := 12) C d2_11 (by decide) rfl ?_
  refine Wk.isub (pc' := 13) C d2_12 rfl ?_
  refine Wk.istoreNV (fun v26 => #[.val (.ref r0), .val (.int (3 : Int32)), .val (.int v25), .val (.int v26), .unset, .unset]) (pc' := 14) C d2_13 rfl rfl ?_
  intro v26 hv26
  obtain rfl : v26 = (0 : Int32) := hv26.trans (by decide)
  refine Wk.iconst (z := (0 : Int32)) (pc' := 15) C d2_14 rfl rfl ?_
  refine Wk.istore (Ls' := #[.val (.ref r0), .val (.int (3 : Int32)), .val (.int v25), .val (.int (0 : Int32)), .val (.int (0 : Int32)), .unset]) (pc' := 17) C d2_15 rfl rfl ?_
  refine Wk.iload (pc' := 19) C d2_17 rfl rfl ?_
  refine Wk.iloadN (pc' := 20) C d2_19 rfl rfl ?_
  refine Wk.icmp_ge (pcT := 115) (pcF := 23) C d2_20 (by decide) (by decide) rfl (fun _ => ?_) (fun q => absurd q (by decide))
  refine Wk.iloadN (pc' := 116) C d2_115 rfl rfl ?_
  refine Wk.iloadN (pc' := 117) C d2_116 rfl rfl ?_
  refine Wk.isub (pc' := 118) C d2_117 rfl ?_
  refine Wk.istoreV (fun v27 => #[.val (.ref r0), .val (.int (3 : Int32)), .val (.int v25), .val (.int (0 : Int32)), .val (.int v27), .unset]) (pc' := 120) C d2_118 rfl rfl ?_
  intro v27 hv27
  obtain rfl : v27 = (3 : Int32) := hv27.trans (by decide)
  refine Wk.iload (pc' := 122) C d2_120 rfl rfl ?_
  refine Wk.if_le (pcT := 182) (pcF := 125) C d2_122 (by decide) (by decide) rfl (fun q => absurd q (by decide)) (fun _ => ?_)
  refine Wk.iload (pc' := 127) C d2_125 rfl rfl ?_
  refine Wk.iconst (z := (3 : Int32)) (pc' := 128) C d2_127 rfl rfl ?_
  refine Wk.icmp_ne (pcT := 146) (pcF := 131) C d2_128 (by decide) (by decide) rfl (fun q => absurd q (by decide)) (fun _ => ?_)
  refine Wk.iloadN (pc' := 132) C d2_131 rfl rfl ?_
  refine Wk.aloadN (pc' := 133) C d2_132 rfl rfl rfl ?_
  refine Wk.iloadN (pc' := 134) C d2_133 rfl rfl ?_
  refine Wk.iconst (z := (2 : Int32)) (pc' := 135) C d2_134 rfl rfl ?_
  refine Wk.iadd (pc' := 136) C d2_135 rfl ?_
  refine Wk.baload (pc' := 137) (q := q) (i := 2) C d2_136 hq (by decide) (by decide) rfl ?_
  refine Wk.sipush (z := (255 : Int32)) (pc' := 140) C d2_137 rfl rfl ?_
  refine Wk.iand (pc' := 141) C d2_140 rfl ?_
  refine Wk.bipush (z := (16 : Int32)) (pc' := 143) C d2_141 rfl rfl ?_
  refine Wk.ishl (pc' := 144) C d2_143 rfl ?_
  refine Wk.ixor (pc' := 145) C d2_144 rfl ?_
  refine Wk.istoreNV (fun v28 => #[.val (.ref r0), .val (.int (3 : Int32)), .val (.int v28), .val (.int (0 : Int32)), .val (.int (3 : Int32)), .unset]) (pc' := 146) C d2_145 rfl rfl ?_
  intro v28 hv28
  refine Wk.iload (pc' := 148) C d2_146 rfl rfl ?_
  refine Wk.iconst (z := (2 : Int32)) (pc' := 149) C d2_148 rfl rfl ?_
  refine Wk.icmp_lt (pcT := 167) (pcF := 152) C d2_149 (by decide) (by decide) rfl (fun q => absurd q (by decide)) (fun _ => ?_)
  refine Wk.iloadN (pc' := 153) C d2_152 rfl rfl ?_
  refine Wk.aloadN (pc' := 154) C d2_153 rfl rfl rfl ?_
  refine Wk.iloadN (pc' := 155) C d2_154 rfl rfl ?_
  refine Wk.iconst (z := (1 : Int32)) (pc' := 156) C d2_155 rfl rfl ?_
  refine Wk.iadd (pc' := 157) C d2_156 rfl ?_
  refine Wk.baload (pc' := 158) (q := q) (i := 1) C d2_157 hq (by decide) (by decide) rfl ?_
  refine Wk.sipush (z := (255 : Int32)) (pc' := 161) C d2_158 rfl rfl ?_
  refine Wk.iand (pc' := 162) C d2_161 rfl ?_
  refine Wk.bipush (z := (8 : Int32)) (pc' := 164) C d2_162 rfl rfl ?_
  refine Wk.ishl (pc' := 165) C d2_164 rfl ?_
  refine Wk.ixor (pc' := 166) C d2_165 rfl ?_
  refine Wk.istoreNV (fun v29 => #[.val (.ref r0), .val (.int (3 : Int32)), .val (.int v29), .val (.int (0 : Int32)), .val (.int (3 : Int32)), .unset]) (pc' := 167) C d2_166 rfl rfl ?_
  intro v29 hv29
  refine Wk.iloadN (pc' := 168) C d2_167 rfl rfl ?_
  refine Wk.aloadN (pc' := 169) C d2_168 rfl rfl rfl ?_
  refine Wk.iloadN (pc' := 170) C d2_169 rfl rfl ?_
  refine Wk.baload (pc' := 171) (q := q) (i := 0) C d2_170 hq (by decide) (by decide) rfl ?_
  refine Wk.sipush (z := (255 : Int32)) (pc' := 174) C d2_171 rfl rfl ?_
  refine Wk.iand (pc' := 175) C d2_174 rfl ?_
  refine Wk.ixor (pc' := 176) C d2_175 rfl ?_
  refine Wk.istoreNV (fun v30 => #[.val (.ref r0), .val (.int (3 : Int32)), .val (.int v30), .val (.int (0 : Int32)), .val (.int (3 : Int32)), .unset]) (pc' := 177) C d2_176 rfl rfl ?_
  intro v30 hv30
  refine Wk.iloadN (pc' := 178) C d2_177 rfl rfl ?_
  refine Wk.ldcInt (z := (1540483477 : Int32)) (pc' := 180) C (w13 hw) d2_178 rfl ?_
  refine Wk.imul (pc' := 181) C d2_180 rfl ?_
  refine Wk.istoreNV (fun v31 => #[.val (.ref r0), .val (.int (3 : Int32)), .val (.int v31), .val (.int (0 : Int32)), .val (.int (3 : Int32)), .unset]) (pc' := 182) C d2_181 rfl rfl ?_
  intro v31 hv31
  refine Wk.iloadN (pc' := 183) C d2_182 rfl rfl ?_
  refine Wk.iloadN (pc' := 184) C d2_183 rfl rfl ?_
  refine Wk.bipush (z := (13 : Int32)) (pc' := 186) C d2_184 rfl rfl ?_
  refine Wk.iushr (pc' := 187) C d2_186 rfl ?_
  refine Wk.ixor (pc' := 188) C d2_187 rfl ?_
  refine Wk.istoreNV (fun v32 => #[.val (.ref r0), .val (.int (3 : Int32)), .val (.int v32), .val (.int (0 : Int32)), .val (.int (3 : Int32)), .unset]) (pc' := 189) C d2_188 rfl rfl ?_
  intro v32 hv32
  refine Wk.iloadN (pc' := 190) C d2_189 rfl rfl ?_
  refine Wk.ldcInt (z := (1540483477 : Int32)) (pc' := 192) C (w13 hw) d2_190 rfl ?_
  refine Wk.imul (pc' := 193) C d2_192 rfl ?_
  refine Wk.istoreNV (fun v33 => #[.val (.ref r0), .val (.int (3 : Int32)), .val (.int v33), .val (.int (0 : Int32)), .val (.int (3 : Int32)), .unset]) (pc' := 194) C d2_193 rfl rfl ?_
  intro v33 hv33
  refine Wk.iloadN (pc' := 195) C d2_194 rfl rfl ?_
  refine Wk.iloadN (pc' := 196) C d2_195 rfl rfl ?_
  refine Wk.bipush (z := (15 : Int32)) (pc' := 198) C d2_196 rfl rfl ?_
  refine Wk.iushr (pc' := 199) C d2_198 rfl ?_
  refine Wk.ixor (pc' := 200) C d2_199 rfl ?_
  refine Wk.istoreNV (fun v34 => #[.val (.ref r0), .val (.int (3 : Int32)), .val (.int v34), .val (.int (0 : Int32)), .val (.int (3 : Int32)), .unset]) (pc' := 201) C d2_200 rfl rfl ?_
  intro v34 hv34
  refine Wk.iloadN (pc' := 202) C d2_201 rfl rfl ?_
  have hres : v34 = G3 f := by
    subst hv34 hv33 hv32 hv31 hv30 hv29 hv28 hv25
    rfl
  exact Wk.retI C J d2_202 (by decide) (by decide) (fun h O => ⟨by rw [hres], O⟩)
def G4 (f : Nat → Int32) : Int32 := fin (rnd ((-1756908916 : Int32) ^^^ (4 : Int32)) (wd f 0))
theorem ef_rm2_4 (m : MethodId) (r0 : Addr) : entryFrame m #[.ref r0] 6 = mkF m 0 #[.val (.ref r0), .unset, .unset, .unset, .unset, .unset] [] := by first | (simp [entryFrame, mkF, argsToLocals, Value.category]; done) | rfl
set_option maxRecDepth 65536 in
set_option maxHeartbeats 40000000 in
theorem rm2_4 (l : Launch) (Z : State) (a0 : Array Value) (hw : HW Z a0) (r0 : Addr) (L : List (Addr × (Cell → Prop))) (q : Nat) (f : Nat → Int32) (h : Heap) (n0 : Nat) (O : Own n0 h L) (hq : L[q]? = some (r0, ArrC Z .byte 4 f)) :
    Meth l Z (⟨"com/example/onlyonce/onlyonce/Partitioner", "murmur2", "([B)I"⟩ : MethodName) prog_55_method_3_code 6 (some .int) [] ({ frames := 0, cells := 0, slots := 0, locals := 0 } : Room) #[.ref r0] h n0 (fun v h' => v = some (.int (G4 f)) ∧ Own n0 h' L) := by
  refine Meth.of (plainFor_of_name pn_1) (fun m => ef_rm2_4 m r0) O ?_
  intro p e m below meth c M FE C J
  change Cx Z "com/example/onlyonce/onlyonce/Partitioner" "murmur2" prog_55_method_3_code 6 (some .int) p m meth c M at C
  clear O
  refine Wk.aloadN (pc' := 1) C d2_0 rfl rfl rfl ?_
  refine Wk.arraylength (pc' := 2) (q := q) (z := (4 : Int32)) C d2_1 hq (fun _ A => ⟨A.1, A.2.2.1⟩) rfl rfl ?_
  refine Wk.istoreN (Ls' := #[.val (.ref r0), .val (.int (4 : Int32)), .unset, .unset, .unset, .unset]) (pc' := 3) C d2_2 rfl rfl ?_
  refine Wk.ldcInt (z := (-1756908916 : Int32)) (pc' := 5) C (w12 hw) d2_3 rfl ?_
  refine Wk.iloadN (pc' := 6) C d2_5 rfl rfl ?_
  refine Wk.ixor (pc' := 7) C d2_6 rfl ?_
  refine Wk.istoreNV (fun v35 => #[.val (.ref r0), .val (.int (4 : Int32)), .val (.int v35), .unset, .unset, .unset]) (pc' := 8) C d2_7 rfl rfl ?_
  intro v35 hv35
  refine Wk.iloadN (pc' := 9) C d2_8 rfl rfl ?_
  refine Wk.iloadN (pc' := 10) C d2_9 rfl rfl ?_
  refine Wk.iconst (z := (4 : Int32)) (pc' := 11) C d2_10 rfl rfl ?_
  refine Wk.irem (pc' := 12) C d2_11 (by decide) rfl ?_
  refine Wk.isub (pc' := 13) C d2_12 rfl ?_
  refine Wk.istoreNV (fun v36 => #[.val (.ref r0), .val (.int (4 : Int32)), .val (.int v35), .val (.int v36), .unset, .unset]) (pc' := 14) C d2_13 rfl rfl ?_
  intro v36 hv36
  obtain rfl : v36 = (4 : Int32) := hv36.trans (by decide)
  refine Wk.iconst (z := (0 : Int32)) (pc' := 15) C d2_14 rfl rfl ?_
  refine Wk.istore (Ls' := #[.val (.ref r0), .val (.int (4 : Int32)), .val (.int v35), .val (.int (4 : Int32)), .val (.int (0 : Int32)), .unset]) (pc' := 17) C d2_15 rfl rfl ?_
  refine Wk.iload (pc' := 19) C d2_17 rfl rfl ?_
  refine Wk.iloadN (pc' := 20) C d2_19 rfl rfl ?_
  refine Wk.icmp_ge (pcT := 115) (pcF := 23) C d2_20 (by decide) (by decide) rfl (fun q => absurd q (by decide)) (fun _ => ?_)
  refine Wk.aloadN (pc' := 24) C d2_23 rfl rfl rfl ?_
  refine Wk.iload (pc' := 26) C d2_24 rfl rfl ?_
  refine Wk.baload (pc' := 27) (q := q) (i := 0) C d2_26 hq (by decide) (by decide) rfl ?_
  refine Wk.sipush (z := (255 : Int32)) (pc' := 30) C d2_27 rfl rfl ?_
  refine Wk.iand (pc' := 31) C d2_30 rfl ?_
  refine Wk.aloadN (pc' := 32) C d2_31 rfl rfl rfl ?_
  refine Wk.iload (pc' := 34) C d2_32 rfl rfl ?_
  refine Wk.iconst (z := (1 : Int32)) (pc' := 35) C d2_34 rfl rfl ?_
  refine Wk.iadd (pc' := 36) C d2_35 rfl ?_
  refine Wk.baload (pc' := 37) (q := q) (i := 1) C d2_36 hq (by decide) (by decide) rfl ?_
  refine Wk.sipush (z := (255 : Int32)) (pc' := 40) C d2_37 rfl rfl ?_
  refine Wk.iand (pc' := 41) C d2_40 rfl ?_
  refine Wk.bipush (z := (8 : Int32)) (pc' := 43) C d2_41 rfl rfl ?_
  refine Wk.ishl (pc' := 44) C d2_43 rfl ?_
  refine Wk.ior (pc' := 45) C d2_44 rfl ?_
  refine Wk.aloadN (pc' := 46) C d2_45 rfl rfl rfl ?_
  refine Wk.iload (pc' := 48) C d2_46 rfl rfl ?_
  refine Wk.iconst (z := (2 : Int32)) (pc' := 49) C d2_48 rfl rfl ?_
  refine Wk.iadd (pc' := 50) C d2_49 rfl ?_
  refine Wk.baload (pc' := 51) (q := q) (i := 2) C d2_50 hq (by decide) (by decide) rfl ?_
  refine Wk.sipush (z := (255 : Int32)) (pc' := 54) C d2_51 rfl rfl ?_
  refine Wk.iand (pc' := 55) C d2_54 rfl ?_
  refine Wk.bipush (z := (16 : Int32)) (pc' := 57) C d2_55 rfl rfl ?_
  refine Wk.ishl (pc' := 58) C d2_57 rfl ?_
  refine Wk.ior (pc' := 59) C d2_58 rfl ?_
  refine Wk.aloadN (pc' := 60) C d2_59 rfl rfl rfl ?_
  refine Wk.iload (pc' := 62) C d2_60 rfl rfl ?_
  refine Wk.iconst (z := (3 : Int32)) (pc' := 63) C d2_62 rfl rfl ?_
  refine Wk.iadd (pc' := 64) C d2_63 rfl ?_
  refine Wk.baload (pc' := 65) (q := q) (i := 3) C d2_64 hq (by decide) (by decide) rfl ?_
  refine Wk.sipush (z := (255 : Int32)) (pc' := 68) C d2_65 rfl rfl ?_
  refine Wk.iand (pc' := 69) C d2_68 rfl ?_
  refine Wk.bipush (z := (24 : Int32)) (pc' := 71) C d2_69 rfl rfl ?_
  refine Wk.ishl (pc' := 72) C d2_71 rfl ?_
  refine Wk.ior (pc' := 73) C d2_72 rfl ?_
  refine Wk.istoreV (fun v37 => #[.val (.ref r0), .val (.int (4 : Int32)), .val (.int v35), .val (.int (4 : Int32)), .val (.int (0 : Int32)), .val (.int v37)]) (pc' := 75) C d2_73 rfl rfl ?_
  intro v37 hv37
  refine Wk.iload (pc' := 77) C d2_75 rfl rfl ?_
  refine Wk.ldcInt (z := (1540483477 : Int32)) (pc' := 79) C (w13 hw) d2_77 rfl ?_
  refine Wk.imul (pc' := 80) C d2_79 rfl ?_
  refine Wk.istoreV (fun v38 => #[.val (.ref r0), .val (.int (4 : Int32)), .val (.int v35), .val (.int (4 : Int32)), .val (.int (0 : Int32)), .val (.int v38)]) (pc' := 82) C d2_80 rfl rfl ?_
  intro v38 hv38
  refine Wk.iload (pc' := 84) C d2_82 rfl rfl ?_
  refine Wk.iload (pc' := 86) C d2_84 rfl rfl ?_
  refine Wk.bipush (z := (24 : Int32)) (pc' := 88) C d2_86 rfl rfl ?_
  refine Wk.iushr (pc' := 89) C d2_88 rfl ?_
  refine Wk.ixor (pc' := 90) C d2_89 rfl ?_
  refine Wk.istoreV (fun v39 => #[.val (.ref r0), .val (.int (4 : Int32)), .val (.int v35), .val (.int (4 : Int32)), .val (.int (0 : Int32)), .val (.int v39)]) (pc' := 92) C d2_90 rfl rfl ?_
  intro v39 hv39
  refine Wk.iload (pc' := 94) C d2_92 rfl rfl ?_
  refine Wk.ldcInt (z := (1540483477 : Int32)) (pc' := 96) C (w13 hw) d2_94 rfl ?_
  refine Wk.imul (pc' := 97) C d2_96 rfl ?_
  refine Wk.istoreV (fun v40 => #[.val (.ref r0), .val (.int (4 : Int32)), .val (.int v35), .val (.int (4 : Int32)), .val (.int (0 : Int32)), .val (.int v40)]) (pc' := 99) C d2_97 rfl rfl ?_
  intro v40 hv40
  refine Wk.iloadN (pc' := 100) C d2_99 rfl rfl ?_
  refine Wk.ldcInt (z := (1540483477 : Int32)) (pc' := 102) C (w13 hw) d2_100 rfl ?_
  refine Wk.imul (pc' := 103) C d2_102 rfl ?_
  refine Wk.istoreNV (fun v41 => #[.val (.ref r0), .val (.int (4 : Int32)), .val (.int v41), .val (.int (4 : Int32)), .val (.int (0 : Int32)), .val (.int v40)]) (pc' := 104) C d2_103 rfl rfl ?_
  intro v41 hv41
  refine Wk.iloadN (pc' := 105) C d2_104 rfl rfl ?_
  refine Wk.iload (pc' := 107) C d2_105 rfl rfl ?_
  refine Wk.ixor (pc' := 108) C d2_107 rfl ?_
  refine Wk.istoreNV (fun v42 => #[.val (.ref r0), .val (.int (4 : Int32)), .val (.int v42), .val (.int (4 : Int32)), .val (.int (0 : Int32)), .val (.int v40)]) (pc' := 109) C d2_108 rfl rfl ?_
  intro v42 hv42
  refine Wk.iinc (z := (4 : Int32)) (Ls' := #[.val (.ref r0), .val (.int (4 : Int32)), .val (.int v42), .val (.int (4 : Int32)), .val (.int (4 : Int32)), .val (.int v40)]) (pc' := 112) C d2_109 rfl (by decide) rfl rfl ?_
  refine Wk.goto (pc' := 17) C d2_112 (by decide) (by decide) ?_
  refine Wk.iload (pc' := 19) C d2_17 rfl rfl ?_
  refine Wk.iloadN (pc' := 20) C d2_19 rfl rfl ?_
  refine Wk.icmp_ge (pcT := 115) (pcF := 23) C d2_20 (by decide) (by decide) rfl (fun _ => ?_) (fun q => absurd q (by decide))
  refine Wk.iloadN (pc' := 116) C d2_115 rfl rfl ?_
  refine Wk.iloadN (pc' := 117) C d2_116 rfl rfl ?_
  refine Wk.isub (pc' := 118) C d2_117 rfl ?_
  refine Wk.istoreV (fun v43 => #[.val (.ref r0), .val (.int (4 : Int32)), .val (.int v42), .val (.int (4 : Int32)), .val (.int v43), .val (.int v40)]) (pc' := 120) C d2_118 rfl rfl ?_
  intro v43 hv43
  obtain rfl : v43 = (0 : Int32) := hv43.trans (by decide)
  refine Wk.iload (pc' := 122) C d2_120 rfl rfl ?_
  refine Wk.if_le (pcT := 182) (pcF := 125) C d2_122 (by decide) (by decide) rfl (fun _ => ?_) (fun q => absurd q (by decide))
  refine Wk.iloadN (pc' := 183) C d2_182 rfl rfl ?_
  refine Wk.iloadN (pc' := 184) C d2_183 rfl rfl ?_
  refine Wk.bipush (z := (13 : Int32)) (pc' := 186) C d2_184 rfl rfl ?_
  refine Wk.iushr (pc' := 187) C d2_186 rfl ?_
  refine Wk.ixor (pc' := 188) C d2_187 rfl ?_
  refine Wk.istoreNV (fun v44 => #[.val (.ref r0), .val (.int (4 : Int32)), .val (.int v44), .val (.int (4 : Int32)), .val (.int (0 : Int32)), .val (.int v40)]) (pc' := 189) C d2_188 rfl rfl ?_
  intro v44 hv44
  refine Wk.iloadN (pc' := 190) C d2_189 rfl rfl ?_
  refine Wk.ldcInt (z := (1540483477 : Int32)) (pc' := 192) C (w13 hw) d2_190 rfl ?_
  refine Wk.imul (pc' := 193) C d2_192 rfl ?_
  refine Wk.istoreNV (fun v45 => #[.val (.ref r0), .val (.int (4 : Int32)), .val (.int v45), .val (.int (4 : Int32)), .val (.int (0 : Int32)), .val (.int v40)]) (pc' := 194) C d2_193 rfl rfl ?_
  intro v45 hv45
  refine Wk.iloadN (pc' := 195) C d2_194 rfl rfl ?_
  refine Wk.iloadN (pc' := 196) C d2_195 rfl rfl ?_
  refine Wk.bipush (z := (15 : Int32)) (pc' := 198) C d2_196 rfl rfl ?_
  refine Wk.iushr (pc' := 199) C d2_198 rfl ?_
  refine Wk.ixor (pc' := 200) C d2_199 rfl ?_
  refine Wk.istoreNV (fun v46 => #[.val (.ref r0), .val (.int (4 : Int32)), .val (.int v46), .val (.int (4 : Int32)), .val (.int (0 : Int32)), .val (.int v40)]) (pc' := 201) C d2_200 rfl rfl ?_
  intro v46 hv46
  refine Wk.iloadN (pc' := 202) C d2_201 rfl rfl ?_
  have hres : v46 = G4 f := by
    subst hv46 hv45 hv44 hv42 hv41 hv40 hv39 hv38 hv37 hv35
    rfl
  exact Wk.retI C J d2_202 (by decide) (by decide) (fun h O => ⟨by rw [hres], O⟩)
def G5 (f : Nat → Int32) : Int32 := fin (((rnd ((-1756908916 : Int32) ^^^ (5 : Int32)) (wd f 0)) ^^^ (f 4 &&& (255 : Int32))) * (1540483477 : Int32))
theorem ef_rm2_5 (m : MethodId) (r0 : Addr) : entryFrame m #[.ref r0] 6 = mkF m 0 #[.val (.ref r0), .unset, .unset, .unset, .unset, .unset] [] := by first | (simp [entryFrame, mkF, argsToLocals, Value.category]; done) | rfl
set_option maxRecDepth 65536 in
set_option maxHeartbeats 40000000 in
theorem rm2_5 (l : Launch) (Z : State) (a0 : Array Value) (hw : HW Z a0) (r0 : Addr) (L : List (Addr × (Cell → Prop))) (q : Nat) (f : Nat → Int32) (h : Heap) (n0 : Nat) (O : Own n0 h L) (hq : L[q]? = some (r0, ArrC Z .byte 5 f)) :
    Meth l Z (⟨"com/example/onlyonce/onlyonce/Partitioner", "murmur2", "([B)I"⟩ : MethodName) prog_55_method_3_code 6 (some .int) [] ({ frames := 0, cells := 0, slots := 0, locals := 0 } : Room) #[.ref r0] h n0 (fun v h' => v = some (.int (G5 f)) ∧ Own n0 h' L) := by
  refine Meth.of (plainFor_of_name pn_1) (fun m => ef_rm2_5 m r0) O ?_
  intro p e m below meth c M FE C J
  change Cx Z "com/example/onlyonce/onlyonce/Partitioner" "murmur2" prog_55_method_3_code 6 (some .int) p m meth c M at C
  clear O
  refine Wk.aloadN (pc' := 1) C d2_0 rfl rfl rfl ?_
  refine Wk.arraylength (pc' := 2) (q := q) (z := (5 : Int32)) C d2_1 hq (fun _ A => ⟨A.1, A.2.2.1⟩) rfl rfl ?_
  refine Wk.istoreN (Ls' := #[.val (.ref r0), .val (.int (5 : Int32)), .unset, .unset, .unset, .unset]) (pc' := 3) C d2_2 rfl rfl ?_
  refine Wk.ldcInt (z := (-1756908916 : Int32)) (pc' := 5) C (w12 hw) d2_3 rfl ?_
  refine Wk.iloadN (pc' := 6) C d2_5 rfl rfl ?_
  refine Wk.ixor (pc' := 7) C d2_6 rfl ?_
  refine Wk.istoreNV (fun v47 => #[.val (.ref r0), .val (.int (5 : Int32)), .val (.int v47), .unset, .unset, .unset]) (pc' := 8) C d2_7 rfl rfl ?_
  intro v47 hv47
  refine Wk.iloadN (pc' := 9) C d2_8 rfl rfl ?_
  refine Wk.iloadN (pc' := 10) C d2_9 rfl rfl ?_
  refine Wk.iconst (z := (4 : Int32)) (pc' := 11) C d2_10 rfl rfl ?_
  refine Wk.irem (pc' := 12) C d2_11 (by decide) rfl ?_
  refine Wk.isub (pc' := 13) C d2_12 rfl ?_
  refine Wk.istoreNV (fun v48 => #[.val (.ref r0), .val (.int (5 : Int32)), .val (.int v47), .val (.int v48), .unset, .unset]) (pc' := 14) C d2_13 rfl rfl ?_
  intro v48 hv48
  obtain rfl : v48 = (4 : Int32) := hv48.trans (by decide)
  refine Wk.iconst (z := (0 : Int32)) (pc' := 15) C d2_14 rfl rfl ?_
  refine Wk.istore (Ls' := #[.val (.ref r0), .val (.int (5 : Int32)), .val (.int v47), .val (.int (4 : Int32)), .val (.int (0 : Int32)), .unset]) (pc' := 17) C d2_15 rfl rfl ?_
  refine Wk.iload (pc' := 19) C d2_17 rfl rfl ?_
  refine Wk.iloadN (pc' := 20) C d2_19 rfl rfl ?_
  refine Wk.icmp_ge (pcT := 115) (pcF := 23) C d2_20 (by decide) (by decide) rfl (fun q => absurd q (by decide)) (fun _ => ?_)
  refine Wk.aloadN (pc' := 24) C d2_23 rfl rfl rfl ?_
  refine Wk.iload (pc' := 26) C d2_24 rfl rfl ?_
  refine Wk.baload (pc' := 27) (q := q) (i := 0) C d2_26 hq (by decide) (by decide) rfl ?_
  refine Wk.sipush (z := (255 : Int32)) (pc' := 30) C d2_27 rfl rfl ?_
  refine Wk.iand (pc' := 31) C d2_30 rfl ?_
  refine Wk.aloadN (pc' := 32) C d2_31 rfl rfl rfl ?_
  refine Wk.iload (pc' := 34) C d2_32 rfl rfl ?_
  refine Wk.iconst (z := (1 : Int32)) (pc' := 35) C d2_34 rfl rfl ?_
  refine Wk.iadd (pc' := 36) C d2_35 rfl ?_
  refine Wk.baload (pc' := 37) (q := q) (i := 1) C d2_36 hq (by decide) (by decide) rfl ?_
  refine Wk.sipush (z := (255 : Int32)) (pc' := 40) C d2_37 rfl rfl ?_
  refine Wk.iand (pc' := 41) C d2_40 rfl ?_
  refine Wk.bipush (z := (8 : Int32)) (pc' := 43) C d2_41 rfl rfl ?_
  refine Wk.ishl (pc' := 44) C d2_43 rfl ?_
  refine Wk.ior (pc' := 45) C d2_44 rfl ?_
  refine Wk.aloadN (pc' := 46) C d2_45 rfl rfl rfl ?_
  refine Wk.iload (pc' := 48) C d2_46 rfl rfl ?_
  refine Wk.iconst (z := (2 : Int32)) (pc' := 49) C d2_48 rfl rfl ?_
  refine Wk.iadd (pc' := 50) C d2_49 rfl ?_
  refine Wk.baload (pc' := 51) (q := q) (i := 2) C d2_50 hq (by decide) (by decide) rfl ?_
  refine Wk.sipush (z := (255 : Int32)) (pc' := 54) C d2_51 rfl rfl ?_
  refine Wk.iand (pc' := 55) C d2_54 rfl ?_
  refine Wk.bipush (z := (16 : Int32)) (pc' := 57) C d2_55 rfl rfl ?_
  refine Wk.ishl (pc' := 58) C d2_57 rfl ?_
  refine Wk.ior (pc' := 59) C d2_58 rfl ?_
  refine Wk.aloadN (pc' := 60) C d2_59 rfl rfl rfl ?_
  refine Wk.iload (pc' := 62) C d2_60 rfl rfl ?_
  refine Wk.iconst (z := (3 : Int32)) (pc' := 63) C d2_62 rfl rfl ?_
  refine Wk.iadd (pc' := 64) C d2_63 rfl ?_
  refine Wk.baload (pc' := 65) (q := q) (i := 3) C d2_64 hq (by decide) (by decide) rfl ?_
  refine Wk.sipush (z := (255 : Int32)) (pc' := 68) C d2_65 rfl rfl ?_
  refine Wk.iand (pc' := 69) C d2_68 rfl ?_
  refine Wk.bipush (z := (24 : Int32)) (pc' := 71) C d2_69 rfl rfl ?_
  refine Wk.ishl (pc' := 72) C d2_71 rfl ?_
  refine Wk.ior (pc' := 73) C d2_72 rfl ?_
  refine Wk.istoreV (fun v49 => #[.val (.ref r0), .val (.int (5 : Int32)), .val (.int v47), .val (.int (4 : Int32)), .val (.int (0 : Int32)), .val (.int v49)]) (pc' := 75) C d2_73 rfl rfl ?_
  intro v49 hv49
  refine Wk.iload (pc' := 77) C d2_75 rfl rfl ?_
  refine Wk.ldcInt (z := (1540483477 : Int32)) (pc' := 79) C (w13 hw) d2_77 rfl ?_
  refine Wk.imul (pc' := 80) C d2_79 rfl ?_
  refine Wk.istoreV (fun v50 => #[.val (.ref r0), .val (.int (5 : Int32)), .val (.int v47), .val (.int (4 : Int32)), .val (.int (0 : Int32)), .val (.int v50)]) (pc' := 82) C d2_80 rfl rfl ?_
  intro v50 hv50
  refine Wk.iload (pc' := 84) C d2_82 rfl rfl ?_
  refine Wk.iload (pc' := 86) C d2_84 rfl rfl ?_
  refine Wk.bipush (z := (24 : Int32)) (pc' := 88) C d2_86 rfl rfl ?_
  refine Wk.iushr (pc' := 89) C d2_88 rfl ?_
  refine Wk.ixor (pc' := 90) C d2_89 rfl ?_
  refine Wk.istoreV (fun v51 => #[.val (.ref r0), .val (.int (5 : Int32)), .val (.int v47), .val (.int (4 : Int32)), .val (.int (0 : Int32)), .val (.int v51)]) (pc' := 92) C d2_90 rfl rfl ?_
  intro v51 hv51
  refine Wk.iload (pc' := 94) C d2_92 rfl rfl ?_
  refine Wk.ldcInt (z := (1540483477 : Int32)) (pc' := 96) C (w13 hw) d2_94 rfl ?_
  refine Wk.imul (pc' := 97) C d2_96 rfl ?_
  refine Wk.istoreV (fun v52 => #[.val (.ref r0), .val (.int (5 : Int32)), .val (.int v47), .val (.int (4 : Int32)), .val (.int (0 : Int32)), .val (.int v52)]) (pc' := 99) C d2_97 rfl rfl ?_
  intro v52 hv52
  refine Wk.iloadN (pc' := 100) C d2_99 rfl rfl ?_
  refine Wk.ldcInt (z := (1540483477 : Int32)) (pc' := 102) C (w13 hw) d2_100 rfl ?_
  refine Wk.imul (pc' := 103) C d2_102 rfl ?_
  refine Wk.istoreNV (fun v53 => #[.val (.ref r0), .val (.int (5 : Int32)), .val (.int v53), .val (.int (4 : Int32)), .val (.int (0 : Int32)), .val (.int v52)]) (pc' := 104) C d2_103 rfl rfl ?_
  intro v53 hv53
  refine Wk.iloadN (pc' := 105) C d2_104 rfl rfl ?_
  refine Wk.iload (pc' := 107) C d2_105 rfl rfl ?_
  refine Wk.ixor (pc' := 108) C d2_107 rfl ?_
  refine Wk.istoreNV (fun v54 => #[.val (.ref r0), .val (.int (5 : Int32)), .val (.int v54), .val (.int (4 : Int32)), .val (.int (0 : Int32)), .val (.int v52)]) (pc' := 109) C d2_108 rfl rfl ?_
  intro v54 hv54
  refine Wk.iinc (z := (4 : Int32)) (Ls' := #[.val (.ref r0), .val (.int (5 : Int32)), .val (.int v54), .val (.int (4 : Int32)), .val (.int (4 : Int32)), .val (.int v52)]) (pc' := 112) C d2_109 rfl (by decide) rfl rfl ?_
  refine Wk.goto (pc' := 17) C d2_112 (by decide) (by decide) ?_
  refine Wk.iload (pc' := 19) C d2_17 rfl rfl ?_
  refine Wk.iloadN (pc' := 20) C d2_19 rfl rfl ?_
  refine Wk.icmp_ge (pcT := 115) (pcF := 23) C d2_20 (by decide) (by decide) rfl (fun _ => ?_) (fun q => absurd q (by decide))
  refine Wk.iloadN (pc' := 116) C d2_115 rfl rfl ?_
  refine Wk.iloadN (pc' := 117) C d2_116 rfl rfl ?_
  refine Wk.isub (pc' := 118) C d2_117 rfl ?_
  refine Wk.istoreV (fun v55 => #[.val (.ref r0), .val (.int (5 : Int32)), .val (.int v54), .val (.int (4 : Int32)), .val (.int v55), .val (.int v52)]) (pc' := 120) C d2_118 rfl rfl ?_
  intro v55 hv55
  obtain rfl : v55 = (1 : Int32) := hv55.trans (by decide)
  refine Wk.iload (pc' := 122) C d2_120 rfl rfl ?_
  refine Wk.if_le (pcT := 182) (pcF := 125) C d2_122 (by decide) (by decide) rfl (fun q => absurd q (by decide)) (fun _ => ?_)
  refine Wk.iload (pc' := 127) C d2_125 rfl rfl ?_
  refine Wk.iconst (z := (3 : Int32)) (pc' := 128) C d2_127 rfl rfl ?_
  refine Wk.icmp_ne (pcT := 146) (pcF := 131) C d2_128 (by decide) (by decide) rfl (fun _ => ?_) (fun q => absurd q (by decide))
  refine Wk.iload (pc' := 148) C d2_146 rfl rfl ?_
  refine Wk.iconst (z := (2 : Int32)) (pc' := 149) C d2_148 rfl rfl ?_
  refine Wk.icmp_lt (pcT := 167) (pcF := 152) C d2_149 (by decide) (by decide) rfl (fun _ => ?_) (fun q => absurd q (by decide))
  refine Wk.iloadN (pc' := 168) C d2_167 rfl rfl ?_
  refine Wk.aloadN (pc' := 169) C d2_168 rfl rfl rfl ?_
  refine Wk.iloadN (pc' := 170) C d2_169 rfl rfl ?_
  refine Wk.baload (pc' := 171) (q := q) (i := 4) C d2_170 hq (by decide) (by decide) rfl ?_
  refine Wk.sipush (z := (255 : Int32)) (pc' := 174) C d2_171 rfl rfl ?_
  refine Wk.iand (pc' := 175) C d2_174 rfl ?_
  refine Wk.ixor (pc' := 176) C d2_175 rfl ?_
  refine Wk.istoreNV (fun v56 => #[.val (.ref r0), .val (.int (5 : Int32)), .val (.int v56), .val (.int (4 : Int32)), .val (.int (1 : Int32)), .val (.int v52)]) (pc' := 177) C d2_176 rfl rfl ?_
  intro v56 hv56
  refine Wk.iloadN (pc' := 178) C d2_177 rfl rfl ?_
  refine Wk.ldcInt (z := (1540483477 : Int32)) (pc' := 180) C (w13 hw) d2_178 rfl ?_
  refine Wk.imul (pc' := 181) C d2_180 rfl ?_
  refine Wk.istoreNV (fun v57 => #[.val (.ref r0), .val (.int (5 : Int32)), .val (.int v57), .val (.int (4 : Int32)), .val (.int (1 : Int32)), .val (.int v52)]) (pc' := 182) C d2_181 rfl rfl ?_
  intro v57 hv57
  refine Wk.iloadN (pc' := 183) C d2_182 rfl rfl ?_
  refine Wk.iloadN (pc' := 184) C d2_183 rfl rfl ?_
  refine Wk.bipush (z := (13 : Int32)) (pc' := 186) C d2_184 rfl rfl ?_
  refine Wk.iushr (pc' := 187) C d2_186 rfl ?_
  refine Wk.ixor (pc' := 188) C d2_187 rfl ?_
  refine Wk.istoreNV (fun v58 => #[.val (.ref r0), .val (.int (5 : Int32)), .val (.int v58), .val (.int (4 : Int32)), .val (.int (1 : Int32)), .val (.int v52)]) (pc' := 189) C d2_188 rfl rfl ?_
  intro v58 hv58
  refine Wk.iloadN (pc' := 190) C d2_189 rfl rfl ?_
  refine Wk.ldcInt (z := (1540483477 : Int32)) (pc' := 192) C (w13 hw) d2_190 rfl ?_
  refine Wk.imul (pc' := 193) C d2_192 rfl ?_
  refine Wk.istoreNV (fun v59 => #[.val (.ref r0), .val (.int (5 : Int32)), .val (.int v59), .val (.int (4 : Int32)), .val (.int (1 : Int32)), .val (.int v52)]) (pc' := 194) C d2_193 rfl rfl ?_
  intro v59 hv59
  refine Wk.iloadN (pc' := 195) C d2_194 rfl rfl ?_
  refine Wk.iloadN (pc' := 196) C d2_195 rfl rfl ?_
  refine Wk.bipush (z := (15 : Int32)) (pc' := 198) C d2_196 rfl rfl ?_
  refine Wk.iushr (pc' := 199) C d2_198 rfl ?_
  refine Wk.ixor (pc' := 200) C d2_199 rfl ?_
  refine Wk.istoreNV (fun v60 => #[.val (.ref r0), .val (.int (5 : Int32)), .val (.int v60), .val (.int (4 : Int32)), .val (.int (1 : Int32)), .val (.int v52)]) (pc' := 201) C d2_200 rfl rfl ?_
  intro v60 hv60
  refine Wk.iloadN (pc' := 202) C d2_201 rfl rfl ?_
  have hres : v60 = G5 f := by
    subst hv60 hv59 hv58 hv57 hv56 hv54 hv53 hv52 hv51 hv50 hv49 hv47
    rfl
  exact Wk.retI C J d2_202 (by decide) (by decide) (fun h O => ⟨by rw [hres], O⟩)
def G6 (f : Nat → Int32) : Int32 := fin ((((rnd ((-1756908916 : Int32) ^^^ (6 : Int32)) (wd f 0)) ^^^ ((f 5 &&& (255 : Int32)) <<< ((8 : Int32) &&& 31))) ^^^ (f 4 &&& (255 : Int32))) * (1540483477 : Int32))
theorem ef_rm2_6 (m : MethodId) (r0 : Addr) : entryFrame m #[.ref r0] 6 = mkF m 0 #[.val (.ref r0), .unset, .unset, .unset, .unset, .unset] [] := by first | (simp [entryFrame, mkF, argsToLocals, Value.category]; done) | rfl
set_option maxRecDepth 65536 in
set_option maxHeartbeats 40000000 in
theorem rm2_6 (l : Launch) (Z : State) (a0 : Array Value) (hw : HW Z a0) (r0 : Addr) (L : List (Addr × (Cell → Prop))) (q : Nat) (f : Nat → Int32) (h : Heap) (n0 : Nat) (O : Own n0 h L) (hq : L[q]? = some (r0, ArrC Z .byte 6 f)) :
    Meth l Z (⟨"com/example/onlyonce/onlyonce/Partitioner", "murmur2", "([B)I"⟩ : MethodName) prog_55_method_3_code 6 (some .int) [] ({ frames := 0, cells := 0, slots := 0, locals := 0 } : Room) #[.ref r0] h n0 (fun v h' => v = some (.int (G6 f)) ∧ Own n0 h' L) := by
  refine Meth.of (plainFor_of_name pn_1) (fun m => ef_rm2_6 m r0) O ?_
  intro p e m below meth c M FE C J
  change Cx Z "com/example/onlyonce/onlyonce/Partitioner" "murmur2" prog_55_method_3_code 6 (some .int) p m meth c M at C
  clear O
  refine Wk.aloadN (pc' := 1) C d2_0 rfl rfl rfl ?_
  refine Wk.arraylength (pc' := 2) (q := q) (z := (6 : Int32)) C d2_1 hq (fun _ A => ⟨A.1, A.2.2.1⟩) rfl rfl ?_
  refine Wk.istoreN (Ls' := #[.val (.ref r0), .val (.int (6 : Int32)), .unset, .unset, .unset, .unset]) (pc' := 3) C d2_2 rfl rfl ?_
  refine Wk.ldcInt (z := (-1756908916 : Int32)) (pc' := 5) C (w12 hw) d2_3 rfl ?_
  refine Wk.iloadN (pc' := 6) C d2_5 rfl rfl ?_
  refine Wk.ixor (pc' := 7) C d2_6 rfl ?_
  refine Wk.istoreNV (fun v61 => #[.val (.ref r0), .val (.int (6 : Int32)), .val (.int v61), .unset, .unset, .unset]) (pc' := 8) C d2_7 rfl rfl ?_
  intro v61 hv61
  refine Wk.iloadN (pc' := 9) C d2_8 rfl rfl ?_
  refine Wk.iloadN (pc' := 10) C d2_9 rfl rfl ?_
  refine Wk.iconst (z := (4 : Int32)) (pc' := 11) C d2_10 rfl rfl ?_
  refine Wk.irem (pc' := 12) C d2_11 (by decide) rfl ?_
  refine Wk.isub (pc' := 13) C d2_12 rfl ?_
  refine Wk.istoreNV (fun v62 => #[.val (.ref r0), .val (.int (6 : Int32)), .val (.int v61), .val (.int v62), .unset, .unset]) (pc' := 14) C d2_13 rfl rfl ?_
  intro v62 hv62
  obtain rfl : v62 = (4 : Int32) := hv62.trans (by decide)
  refine Wk.iconst (z := (0 : Int32)) (pc' := 15) C d2_14 rfl rfl ?_
  refine Wk.istore (Ls' := #[.val (.ref r0), .val (.int (6 : Int32)), .val (.int v61), .val (.int (4 : Int32)), .val (.int (0 : Int32)), .unset]) (pc' := 17) C d2_15 rfl rfl ?_
  refine Wk.iload (pc' := 19) C d2_17 rfl rfl ?_
  refine Wk.iloadN (pc' := 20) C d2_19 rfl rfl ?_
  refine Wk.icmp_ge (pcT := 115) (pcF := 23) C d2_20 (by decide) (by decide) rfl (fun q => absurd q (by decide)) (fun _ => ?_)
  refine Wk.aloadN (pc' := 24) C d2_23 rfl rfl rfl ?_
  refine Wk.iload (pc' := 26) C d2_24 rfl rfl ?_
  refine Wk.baload (pc' := 27) (q := q) (i := 0) C d2_26 hq (by decide) (by decide) rfl ?_
  refine Wk.sipush (z := (255 : Int32)) (pc' := 30) C d2_27 rfl rfl ?_
  refine Wk.iand (pc' := 31) C d2_30 rfl ?_
  refine Wk.aloadN (pc' := 32) C d2_31 rfl rfl rfl ?_
  refine Wk.iload (pc' := 34) C d2_32 rfl rfl ?_
  refine Wk.iconst (z := (1 : Int32)) (pc' := 35) C d2_34 rfl rfl ?_
  refine Wk.iadd (pc' := 36) C d2_35 rfl ?_
  refine Wk.baload (pc' := 37) (q := q) (i := 1) C d2_36 hq (by decide) (by decide) rfl ?_
  refine Wk.sipush (z := (255 : Int32)) (pc' := 40) C d2_37 rfl rfl ?_
  refine Wk.iand (pc' := 41) C d2_40 rfl ?_
  refine Wk.bipush (z := (8 : Int32)) (pc' := 43) C d2_41 rfl rfl ?_
  refine Wk.ishl (pc' := 44) C d2_43 rfl ?_
  refine Wk.ior (pc' := 45) C d2_44 rfl ?_
  refine Wk.aloadN (pc' := 46) C d2_45 rfl rfl rfl ?_
  refine Wk.iload (pc' := 48) C d2_46 rfl rfl ?_
  refine Wk.iconst (z := (2 : Int32)) (pc' := 49) C d2_48 rfl rfl ?_
  refine Wk.iadd (pc' := 50) C d2_49 rfl ?_
  refine Wk.baload (pc' := 51) (q := q) (i := 2) C d2_50 hq (by decide) (by decide) rfl ?_
  refine Wk.sipush (z := (255 : Int32)) (pc' := 54) C d2_51 rfl rfl ?_
  refine Wk.iand (pc' := 55) C d2_54 rfl ?_
  refine Wk.bipush (z := (16 : Int32)) (pc' := 57) C d2_55 rfl rfl ?_
  refine Wk.ishl (pc' := 58) C d2_57 rfl ?_
  refine Wk.ior (pc' := 59) C d2_58 rfl ?_
  refine Wk.aloadN (pc' := 60) C d2_59 rfl rfl rfl ?_
  refine Wk.iload (pc' := 62) C d2_60 rfl rfl ?_
  refine Wk.iconst (z := (3 : Int32)) (pc' := 63) C d2_62 rfl rfl ?_
  refine Wk.iadd (pc' := 64) C d2_63 rfl ?_
  refine Wk.baload (pc' := 65) (q := q) (i := 3) C d2_64 hq (by decide) (by decide) rfl ?_
  refine Wk.sipush (z := (255 : Int32)) (pc' := 68) C d2_65 rfl rfl ?_
  refine Wk.iand (pc' := 69) C d2_68 rfl ?_
  refine Wk.bipush (z := (24 : Int32)) (pc' := 71) C d2_69 rfl rfl ?_
  refine Wk.ishl (pc' := 72) C d2_71 rfl ?_
  refine Wk.ior (pc' := 73) C d2_72 rfl ?_
  refine Wk.istoreV (fun v63 => #[.val (.ref r0), .val (.int (6 : Int32)), .val (.int v61), .val (.int (4 : Int32)), .val (.int (0 : Int32)), .val (.int v63)]) (pc' := 75) C d2_73 rfl rfl ?_
  intro v63 hv63
  refine Wk.iload (pc' := 77) C d2_75 rfl rfl ?_
  refine Wk.ldcInt (z := (1540483477 : Int32)) (pc' := 79) C (w13 hw) d2_77 rfl ?_
  refine Wk.imul (pc' := 80) C d2_79 rfl ?_
  refine Wk.istoreV (fun v64 => #[.val (.ref r0), .val (.int (6 : Int32)), .val (.int v61), .val (.int (4 : Int32)), .val (.int (0 : Int32)), .val (.int v64)]) (pc' := 82) C d2_80 rfl rfl ?_
  intro v64 hv64
  refine Wk.iload (pc' := 84) C d2_82 rfl rfl ?_
  refine Wk.iload (pc' := 86) C d2_84 rfl rfl ?_
  refine Wk.bipush (z := (24 : Int32)) (pc' := 88) C d2_86 rfl rfl ?_
  refine Wk.iushr (pc' := 89) C d2_88 rfl ?_
  refine Wk.ixor (pc' := 90) C d2_89 rfl ?_
  refine Wk.istoreV (fun v65 => #[.val (.ref r0), .val (.int (6 : Int32)), .val (.int v61), .val (.int (4 : Int32)), .val (.int (0 : Int32)), .val (.int v65)]) (pc' := 92) C d2_90 rfl rfl ?_
  intro v65 hv65
  refine Wk.iload (pc' := 94) C d2_92 rfl rfl ?_
  refine Wk.ldcInt (z := (1540483477 : Int32)) (pc' := 96) C (w13 hw) d2_94 rfl ?_
  refine Wk.imul (pc' := 97) C d2_96 rfl ?_
  refine Wk.istoreV (fun v66 => #[.val (.ref r0), .val (.int (6 : Int32)), .val (.int v61), .val (.int (4 : Int32)), .val (.int (0 : Int32)), .val (.int v66)]) (pc' := 99) C d2_97 rfl rfl ?_
  intro v66 hv66
  refine Wk.iloadN (pc' := 100) C d2_99 rfl rfl ?_
  refine Wk.ldcInt (z := (1540483477 : Int32)) (pc' := 102) C (w13 hw) d2_100 rfl ?_
  refine Wk.imul (pc' := 103) C d2_102 rfl ?_
  refine Wk.istoreNV (fun v67 => #[.val (.ref r0), .val (.int (6 : Int32)), .val (.int v67), .val (.int (4 : Int32)), .val (.int (0 : Int32)), .val (.int v66)]) (pc' := 104) C d2_103 rfl rfl ?_
  intro v67 hv67
  refine Wk.iloadN (pc' := 105) C d2_104 rfl rfl ?_
  refine Wk.iload (pc' := 107) C d2_105 rfl rfl ?_
  refine Wk.ixor (pc' := 108) C d2_107 rfl ?_
  refine Wk.istoreNV (fun v68 => #[.val (.ref r0), .val (.int (6 : Int32)), .val (.int v68), .val (.int (4 : Int32)), .val (.int (0 : Int32)), .val (.int v66)]) (pc' := 109) C d2_108 rfl rfl ?_
  intro v68 hv68
  refine Wk.iinc (z := (4 : Int32)) (Ls' := #[.val (.ref r0), .val (.int (6 : Int32)), .val (.int v68), .val (.int (4 : Int32)), .val (.int (4 : Int32)), .val (.int v66)]) (pc' := 112) C d2_109 rfl (by decide) rfl rfl ?_
  refine Wk.goto (pc' := 17) C d2_112 (by decide) (by decide) ?_
  refine Wk.iload (pc' := 19) C d2_17 rfl rfl ?_
  refine Wk.iloadN (pc' := 20) C d2_19 rfl rfl ?_
  refine Wk.icmp_ge (pcT := 115) (pcF := 23) C d2_20 (by decide) (by decide) rfl (fun _ => ?_) (fun q => absurd q (by decide))
  refine Wk.iloadN (pc' := 116) C d2_115 rfl rfl ?_
  refine Wk.iloadN (pc' := 117) C d2_116 rfl rfl ?_
  refine Wk.isub (pc' := 118) C d2_117 rfl ?_
  refine Wk.istoreV (fun v69 => #[.val (.ref r0), .val (.int (6 : Int32)), .val (.int v68), .val (.int (4 : Int32)), .val (.int v69), .val (.int v66)]) (pc' := 120) C d2_118 rfl rfl ?_
  intro v69 hv69
  obtain rfl : v69 = (2 : Int32) := hv69.trans (by decide)
  refine Wk.iload (pc' := 122) C d2_120 rfl rfl ?_
  refine Wk.if_le (pcT := 182) (pcF := 125) C d2_122 (by decide) (by decide) rfl (fun q => absurd q (by decide)) (fun _ => ?_)
  refine Wk.iload (pc' := 127) C d2_125 rfl rfl ?_
  refine Wk.iconst (z := (3 : Int32)) (pc' := 128) C d2_127 rfl rfl ?_
  refine Wk.icmp_ne (pcT := 146) (pcF := 131) C d2_128 (by decide) (by decide) rfl (fun _ => ?_) (fun q => absurd q (by decide))
  refine Wk.iload (pc' := 148) C d2_146 rfl rfl ?_
  refine Wk.iconst (z := (2 : Int32)) (pc' := 149) C d2_148 rfl rfl ?_
  refine Wk.icmp_lt (pcT := 167) (pcF := 152) C d2_149 (by decide) (by decide) rfl (fun q => absurd q (by decide)) (fun _ => ?_)
  refine Wk.iloadN (pc' := 153) C d2_152 rfl rfl ?_
  refine Wk.aloadN (pc' := 154) C d2_153 rfl rfl rfl ?_
  refine Wk.iloadN (pc' := 155) C d2_154 rfl rfl ?_
  refine Wk.iconst (z := (1 : Int32)) (pc' := 156) C d2_155 rfl rfl ?_
  refine Wk.iadd (pc' := 157) C d2_156 rfl ?_
  refine Wk.baload (pc' := 158) (q := q) (i := 5) C d2_157 hq (by decide) (by decide) rfl ?_
  refine Wk.sipush (z := (255 : Int32)) (pc' := 161) C d2_158 rfl rfl ?_
  refine Wk.iand (pc' := 162) C d2_161 rfl ?_
  refine Wk.bipush (z := (8 : Int32)) (pc' := 164) C d2_162 rfl rfl ?_
  refine Wk.ishl (pc' := 165) C d2_164 rfl ?_
  refine Wk.ixor (pc' := 166) C d2_165 rfl ?_
  refine Wk.istoreNV (fun v70 => #[.val (.ref r0), .val (.int (6 : Int32)), .val (.int v70), .val (.int (4 : Int32)), .val (.int (2 : Int32)), .val (.int v66)]) (pc' := 167) C d2_166 rfl rfl ?_
  intro v70 hv70
  refine Wk.iloadN (pc' := 168) C d2_167 rfl rfl ?_
  refine Wk.aloadN (pc' := 169) C d2_168 rfl rfl rfl ?_
  refine Wk.iloadN (pc' := 170) C d2_169 rfl rfl ?_
  refine Wk.baload (pc' := 171) (q := q) (i := 4) C d2_170 hq (by decide) (by decide) rfl ?_
  refine Wk.sipush (z := (255 : Int32)) (pc' := 174) C d2_171 rfl rfl ?_
  refine Wk.iand (pc' := 175) C d2_174 rfl ?_
  refine Wk.ixor (pc' := 176) C d2_175 rfl ?_
  refine Wk.istoreNV (fun v71 => #[.val (.ref r0), .val (.int (6 : Int32)), .val (.int v71), .val (.int (4 : Int32)), .val (.int (2 : Int32)), .val (.int v66)]) (pc' := 177) C d2_176 rfl rfl ?_
  intro v71 hv71
  refine Wk.iloadN (pc' := 178) C d2_177 rfl rfl ?_
  refine Wk.ldcInt (z := (1540483477 : Int32)) (pc' := 180) C (w13 hw) d2_178 rfl ?_
  refine Wk.imul (pc' := 181) C d2_180 rfl ?_
  refine Wk.istoreNV (fun v72 => #[.val (.ref r0), .val (.int (6 : Int32)), .val (.int v72), .val (.int (4 : Int32)), .val (.int (2 : Int32)), .val (.int v66)]) (pc' := 182) C d2_181 rfl rfl ?_
  intro v72 hv72
  refine Wk.iloadN (pc' := 183) C d2_182 rfl rfl ?_
  refine Wk.iloadN (pc' := 184) C d2_183 rfl rfl ?_
  refine Wk.bipush (z := (13 : Int32)) (pc' := 186) C d2_184 rfl rfl ?_
  refine Wk.iushr (pc' := 187) C d2_186 rfl ?_
  refine Wk.ixor (pc' := 188) C d2_187 rfl ?_
  refine Wk.istoreNV (fun v73 => #[.val (.ref r0), .val (.int (6 : Int32)), .val (.int v73), .val (.int (4 : Int32)), .val (.int (2 : Int32)), .val (.int v66)]) (pc' := 189) C d2_188 rfl rfl ?_
  intro v73 hv73
  refine Wk.iloadN (pc' := 190) C d2_189 rfl rfl ?_
  refine Wk.ldcInt (z := (1540483477 : Int32)) (pc' := 192) C (w13 hw) d2_190 rfl ?_
  refine Wk.imul (pc' := 193) C d2_192 rfl ?_
  refine Wk.istoreNV (fun v74 => #[.val (.ref r0), .val (.int (6 : Int32)), .val (.int v74), .val (.int (4 : Int32)), .val (.int (2 : Int32)), .val (.int v66)]) (pc' := 194) C d2_193 rfl rfl ?_
  intro v74 hv74
  refine Wk.iloadN (pc' := 195) C d2_194 rfl rfl ?_
  refine Wk.iloadN (pc' := 196) C d2_195 rfl rfl ?_
  refine Wk.bipush (z := (15 : Int32)) (pc' := 198) C d2_196 rfl rfl ?_
  refine Wk.iushr (pc' := 199) C d2_198 rfl ?_
  refine Wk.ixor (pc' := 200) C d2_199 rfl ?_
  refine Wk.istoreNV (fun v75 => #[.val (.ref r0), .val (.int (6 : Int32)), .val (.int v75), .val (.int (4 : Int32)), .val (.int (2 : Int32)), .val (.int v66)]) (pc' := 201) C d2_200 rfl rfl ?_
  intro v75 hv75
  refine Wk.iloadN (pc' := 202) C d2_201 rfl rfl ?_
  have hres : v75 = G6 f := by
    subst hv75 hv74 hv73 hv72 hv71 hv70 hv68 hv67 hv66 hv65 hv64 hv63 hv61
    rfl
  exact Wk.retI C J d2_202 (by decide) (by decide) (fun h O => ⟨by rw [hres], O⟩)
def G7 (f : Nat → Int32) : Int32 := fin (((((rnd ((-1756908916 : Int32) ^^^ (7 : Int32)) (wd f 0)) ^^^ ((f 6 &&& (255 : Int32)) <<< ((16 : Int32) &&& 31))) ^^^ ((f 5 &&& (255 : Int32)) <<< ((8 : Int32) &&& 31))) ^^^ (f 4 &&& (255 : Int32))) * (1540483477 : Int32))
theorem ef_rm2_7 (m : MethodId) (r0 : Addr) : entryFrame m #[.ref r0] 6 = mkF m 0 #[.val (.ref r0), .unset, .unset, .unset, .unset, .unset] [] := by first | (simp [entryFrame, mkF, argsToLocals, Value.category]; done) | rfl
set_option maxRecDepth 65536 in
set_option maxHeartbeats 40000000 in
theorem rm2_7 (l : Launch) (Z : State) (a0 : Array Value) (hw : HW Z a0) (r0 : Addr) (L : List (Addr × (Cell → Prop))) (q : Nat) (f : Nat → Int32) (h : Heap) (n0 : Nat) (O : Own n0 h L) (hq : L[q]? = some (r0, ArrC Z .byte 7 f)) :
    Meth l Z (⟨"com/example/onlyonce/onlyonce/Partitioner", "murmur2", "([B)I"⟩ : MethodName) prog_55_method_3_code 6 (some .int) [] ({ frames := 0, cells := 0, slots := 0, locals := 0 } : Room) #[.ref r0] h n0 (fun v h' => v = some (.int (G7 f)) ∧ Own n0 h' L) := by
  refine Meth.of (plainFor_of_name pn_1) (fun m => ef_rm2_7 m r0) O ?_
  intro p e m below meth c M FE C J
  change Cx Z "com/example/onlyonce/onlyonce/Partitioner" "murmur2" prog_55_method_3_code 6 (some .int) p m meth c M at C
  clear O
  refine Wk.aloadN (pc' := 1) C d2_0 rfl rfl rfl ?_
  refine Wk.arraylength (pc' := 2) (q := q) (z := (7 : Int32)) C d2_1 hq (fun _ A => ⟨A.1, A.2.2.1⟩) rfl rfl ?_
  refine Wk.istoreN (Ls' := #[.val (.ref r0), .val (.int (7 : Int32)), .unset, .unset, .unset, .unset]) (pc' := 3) C d2_2 rfl rfl ?_
  refine Wk.ldcInt (z := (-1756908916 : Int32)) (pc' := 5) C (w12 hw) d2_3 rfl ?_
  refine Wk.iloadN (pc' := 6) C d2_5 rfl rfl ?_
  refine Wk.ixor (pc' := 7) C d2_6 rfl ?_
  refine Wk.istoreNV (fun v76 => #[.val (.ref r0), .val (.int (7 : Int32)), .val (.int v76), .unset, .unset, .unset]) (pc' := 8) C d2_7 rfl rfl ?_
  intro v76 hv76
  refine Wk.iloadN (pc' := 9) C d2_8 rfl rfl ?_
  refine Wk.iloadN (pc' := 10) C d2_9 rfl rfl ?_
  refine Wk.iconst (z := (4 : Int32)) (pc' := 11) C d2_10 rfl rfl ?_
  refine Wk.irem (pc' := 12) C d2_11 (by decide) rfl ?_
  refine Wk.isub (pc' := 13) C d2_12 rfl ?_
  refine Wk.istoreNV (fun v77 => #[.val (.ref r0), .val (.int (7 : Int32)), .val (.int v76), .val (.int v77), .unset, .unset]) (pc' := 14) C d2_13 rfl rfl ?_
  intro v77 hv77
  obtain rfl : v77 = (4 : Int32) := hv77.trans (by decide)
  refine Wk.iconst (z := (0 : Int32)) (pc' := 15) C d2_14 rfl rfl ?_
  refine Wk.istore (Ls' := #[.val (.ref r0), .val (.int (7 : Int32)), .val (.int v76), .val (.int (4 : Int32)), .val (.int (0 : Int32)), .unset]) (pc' := 17) C d2_15 rfl rfl ?_
  refine Wk.iload (pc' := 19) C d2_17 rfl rfl ?_
  refine Wk.iloadN (pc' := 20) C d2_19 rfl rfl ?_
  refine Wk.icmp_ge (pcT := 115) (pcF := 23) C d2_20 (by decide) (by decide) rfl (fun q => absurd q (by decide)) (fun _ => ?_)
  refine Wk.aloadN (pc' := 24) C d2_23 rfl rfl rfl ?_
  refine Wk.iload (pc' := 26) C d2_24 rfl rfl ?_
  refine Wk.baload (pc' := 27) (q := q) (i := 0) C d2_26 hq (by decide) (by decide) rfl ?_
  refine Wk.sipush (z := (255 : Int32)) (pc' := 30) C d2_27 rfl rfl ?_
  refine Wk.iand (pc' := 31) C d2_30 rfl ?_
  refine Wk.aloadN (pc' := 32) C d2_31 rfl rfl rfl ?_
  refine Wk.iload (pc' := 34) C d2_32 rfl rfl ?_
  refine Wk.iconst (z := (1 : Int32)) (pc' := 35) C d2_34 rfl rfl ?_
  refine Wk.iadd (pc' := 36) C d2_35 rfl ?_
  refine Wk.baload (pc' := 37) (q := q) (i := 1) C d2_36 hq (by decide) (by decide) rfl ?_
  refine Wk.sipush (z := (255 : Int32)) (pc' := 40) C d2_37 rfl rfl ?_
  refine Wk.iand (pc' := 41) C d2_40 rfl ?_
  refine Wk.bipush (z := (8 : Int32)) (pc' := 43) C d2_41 rfl rfl ?_
  refine Wk.ishl (pc' := 44) C d2_43 rfl ?_
  refine Wk.ior (pc' := 45) C d2_44 rfl ?_
  refine Wk.aloadN (pc' := 46) C d2_45 rfl rfl rfl ?_
  refine Wk.iload (pc' := 48) C d2_46 rfl rfl ?_
  refine Wk.iconst (z := (2 : Int32)) (pc' := 49) C d2_48 rfl rfl ?_
  refine Wk.iadd (pc' := 50) C d2_49 rfl ?_
  refine Wk.baload (pc' := 51) (q := q) (i := 2) C d2_50 hq (by decide) (by decide) rfl ?_
  refine Wk.sipush (z := (255 : Int32)) (pc' := 54) C d2_51 rfl rfl ?_
  refine Wk.iand (pc' := 55) C d2_54 rfl ?_
  refine Wk.bipush (z := (16 : Int32)) (pc' := 57) C d2_55 rfl rfl ?_
  refine Wk.ishl (pc' := 58) C d2_57 rfl ?_
  refine Wk.ior (pc' := 59) C d2_58 rfl ?_
  refine Wk.aloadN (pc' := 60) C d2_59 rfl rfl rfl ?_
  refine Wk.iload (pc' := 62) C d2_60 rfl rfl ?_
  refine Wk.iconst (z := (3 : Int32)) (pc' := 63) C d2_62 rfl rfl ?_
  refine Wk.iadd (pc' := 64) C d2_63 rfl ?_
  refine Wk.baload (pc' := 65) (q := q) (i := 3) C d2_64 hq (by decide) (by decide) rfl ?_
  refine Wk.sipush (z := (255 : Int32)) (pc' := 68) C d2_65 rfl rfl ?_
  refine Wk.iand (pc' := 69) C d2_68 rfl ?_
  refine Wk.bipush (z := (24 : Int32)) (pc' := 71) C d2_69 rfl rfl ?_
  refine Wk.ishl (pc' := 72) C d2_71 rfl ?_
  refine Wk.ior (pc' := 73) C d2_72 rfl ?_
  refine Wk.istoreV (fun v78 => #[.val (.ref r0), .val (.int (7 : Int32)), .val (.int v76), .val (.int (4 : Int32)), .val (.int (0 : Int32)), .val (.int v78)]) (pc' := 75) C d2_73 rfl rfl ?_
  intro v78 hv78
  refine Wk.iload (pc' := 77) C d2_75 rfl rfl ?_
  refine Wk.ldcInt (z := (1540483477 : Int32)) (pc' := 79) C (w13 hw) d2_77 rfl ?_
  refine Wk.imul (pc' := 80) C d2_79 rfl ?_
  refine Wk.istoreV (fun v79 => #[.val (.ref r0), .val (.int (7 : Int32)), .val (.int v76), .val (.int (4 : Int32)), .val (.int (0 : Int32)), .val (.int v79)]) (pc' := 82) C d2_80 rfl rfl ?_
  intro v79 hv79
  refine Wk.iload (pc' := 84) C d2_82 rfl rfl ?_
  refine Wk.iload (pc' := 86) C d2_84 rfl rfl ?_
  refine Wk.bipush (z := (24 : Int32)) (pc' := 88) C d2_86 rfl rfl ?_
  refine Wk.iushr (pc' := 89) C d2_88 rfl ?_
  refine Wk.ixor (pc' := 90) C d2_89 rfl ?_
  refine Wk.istoreV (fun v80 => #[.val (.ref r0), .val (.int (7 : Int32)), .val (.int v76), .val (.int (4 : Int32)), .val (.int (0 : Int32)), .val (.int v80)]) (pc' := 92) C d2_90 rfl rfl ?_
  intro v80 hv80
  refine Wk.iload (pc' := 94) C d2_92 rfl rfl ?_
  refine Wk.ldcInt (z := (1540483477 : Int32)) (pc' := 96) C (w13 hw) d2_94 rfl ?_
  refine Wk.imul (pc' := 97) C d2_96 rfl ?_
  refine Wk.istoreV (fun v81 => #[.val (.ref r0), .val (.int (7 : Int32)), .val (.int v76), .val (.int (4 : Int32)), .val (.int (0 : Int32)), .val (.int v81)]) (pc' := 99) C d2_97 rfl rfl ?_
  intro v81 hv81
  refine Wk.iloadN (pc' := 100) C d2_99 rfl rfl ?_
  refine Wk.ldcInt (z := (1540483477 : Int32)) (pc' := 102) C (w13 hw) d2_100 rfl ?_
  refine Wk.imul (pc' := 103) C d2_102 rfl ?_
  refine Wk.istoreNV (fun v82 => #[.val (.ref r0), .val (.int (7 : Int32)), .val (.int v82), .val (.int (4 : Int32)), .val (.int (0 : Int32)), .val (.int v81)]) (pc' := 104) C d2_103 rfl rfl ?_
  intro v82 hv82
  refine Wk.iloadN (pc' := 105) C d2_104 rfl rfl ?_
  refine Wk.iload (pc' := 107) C d2_105 rfl rfl ?_
  refine Wk.ixor (pc' := 108) C d2_107 rfl ?_
  refine Wk.istoreNV (fun v83 => #[.val (.ref r0), .val (.int (7 : Int32)), .val (.int v83), .val (.int (4 : Int32)), .val (.int (0 : Int32)), .val (.int v81)]) (pc' := 109) C d2_108 rfl rfl ?_
  intro v83 hv83
  refine Wk.iinc (z := (4 : Int32)) (Ls' := #[.val (.ref r0), .val (.int (7 : Int32)), .val (.int v83), .val (.int (4 : Int32)), .val (.int (4 : Int32)), .val (.int v81)]) (pc' := 112) C d2_109 rfl (by decide) rfl rfl ?_
  refine Wk.goto (pc' := 17) C d2_112 (by decide) (by decide) ?_
  refine Wk.iload (pc' := 19) C d2_17 rfl rfl ?_
  refine Wk.iloadN (pc' := 20) C d2_19 rfl rfl ?_
  refine Wk.icmp_ge (pcT := 115) (pcF := 23) C d2_20 (by decide) (by decide) rfl (fun _ => ?_) (fun q => absurd q (by decide))
  refine Wk.iloadN (pc' := 116) C d2_115 rfl rfl ?_
  refine Wk.iloadN (pc' := 117) C d2_116 rfl rfl ?_
  refine Wk.isub (pc' := 118) C d2_117 rfl ?_
  refine Wk.istoreV (fun v84 => #[.val (.ref r0), .val (.int (7 : Int32)), .val (.int v83), .val (.int (4 : Int32)), .val (.int v84), .val (.int v81)]) (pc' := 120) C d2_118 rfl rfl ?_
  intro v84 hv84
  obtain rfl : v84 = (3 : Int32) := hv84.trans (by decide)
  refine Wk.iload (pc' := 122) C d2_120 rfl rfl ?_
  refine Wk.if_le (pcT := 182) (pcF := 125) C d2_122 (by decide) (by decide) rfl (fun q => absurd q (by decide)) (fun _ => ?_)
  refine Wk.iload (pc' := 127) C d2_125 rfl rfl ?_
  refine Wk.iconst (z := (3 : Int32)) (pc' := 128) C d2_127 rfl rfl ?_
  refine Wk.icmp_ne (pcT := 146) (pcF := 131) C d2_128 (by decide) (by decide) rfl (fun q => absurd q (by decide)) (fun _ => ?_)
  refine Wk.iloadN (pc' := 132) C d2_131 rfl rfl ?_
  refine Wk.aloadN (pc' := 133) C d2_132 rfl rfl rfl ?_
  refine Wk.iloadN (pc' := 134) C d2_133 rfl rfl ?_
  refine Wk.iconst (z := (2 : Int32)) (pc' := 135) C d2_134 rfl rfl ?_
  refine Wk.iadd (pc' := 136) C d2_135 rfl ?_
  refine Wk.baload (pc' := 137) (q := q) (i := 6) C d2_136 hq (by decide) (by decide) rfl ?_
  refine Wk.sipush (z := (255 : Int32)) (pc' := 140) C d2_137 rfl rfl ?_
  refine Wk.iand (pc' := 141) C d2_140 rfl ?_
  refine Wk.bipush (z := (16 : Int32)) (pc' := 143) C d2_141 rfl rfl ?_
  refine Wk.ishl (pc' := 144) C d2_143 rfl ?_
  refine Wk.ixor (pc' := 145) C d2_144 rfl ?_
  refine Wk.istoreNV (fun v85 => #[.val (.ref r0), .val (.int (7 : Int32)), .val (.int v85), .val (.int (4 : Int32)), .val (.int (3 : Int32)), .val (.int v81)]) (pc' := 146) C d2_145 rfl rfl ?_
  intro v85 hv85
  refine Wk.iload (pc' := 148) C d2_146 rfl rfl ?_
  refine Wk.iconst (z := (2 : Int32)) (pc' := 149) C d2_148 rfl rfl ?_
  refine Wk.icmp_lt (pcT := 167) (pcF := 152) C d2_149 (by decide) (by decide) rfl (fun q => absurd q (by decide)) (fun _ => ?_)
  refine Wk.iloadN (pc' := 153) C d2_152 rfl rfl ?_
  refine Wk.aloadN (pc' := 154) C d2_153 rfl rfl rfl ?_
  refine Wk.iloadN (pc' := 155) C d2_154 rfl rfl ?_
  refine Wk.iconst (z := (1 : Int32)) (pc' := 156) C d2_155 rfl rfl ?_
  refine Wk.iadd (pc' := 157) C d2_156 rfl ?_
  refine Wk.baload (pc' := 158) (q := q) (i := 5) C d2_157 hq (by decide) (by decide) rfl ?_
  refine Wk.sipush (z := (255 : Int32)) (pc' := 161) C d2_158 rfl rfl ?_
  refine Wk.iand (pc' := 162) C d2_161 rfl ?_
  refine Wk.bipush (z := (8 : Int32)) (pc' := 164) C d2_162 rfl rfl ?_
  refine Wk.ishl (pc' := 165) C d2_164 rfl ?_
  refine Wk.ixor (pc' := 166) C d2_165 rfl ?_
  refine Wk.istoreNV (fun v86 => #[.val (.ref r0), .val (.int (7 : Int32)), .val (.int v86), .val (.int (4 : Int32)), .val (.int (3 : Int32)), .val (.int v81)]) (pc' := 167) C d2_166 rfl rfl ?_
  intro v86 hv86
  refine Wk.iloadN (pc' := 168) C d2_167 rfl rfl ?_
  refine Wk.aloadN (pc' := 169) C d2_168 rfl rfl rfl ?_
  refine Wk.iloadN (pc' := 170) C d2_169 rfl rfl ?_
  refine Wk.baload (pc' := 171) (q := q) (i := 4) C d2_170 hq (by decide) (by decide) rfl ?_
  refine Wk.sipush (z := (255 : Int32)) (pc' := 174) C d2_171 rfl rfl ?_
  refine Wk.iand (pc' := 175) C d2_174 rfl ?_
  refine Wk.ixor (pc' := 176) C d2_175 rfl ?_
  refine Wk.istoreNV (fun v87 => #[.val (.ref r0), .val (.int (7 : Int32)), .val (.int v87), .val (.int (4 : Int32)), .val (.int (3 : Int32)), .val (.int v81)]) (pc' := 177) C d2_176 rfl rfl ?_
  intro v87 hv87
  refine Wk.iloadN (pc' := 178) C d2_177 rfl rfl ?_
  refine Wk.ldcInt (z := (1540483477 : Int32)) (pc' := 180) C (w13 hw) d2_178 rfl ?_
  refine Wk.imul (pc' := 181) C d2_180 rfl ?_
  refine Wk.istoreNV (fun v88 => #[.val (.ref r0), .val (.int (7 : Int32)), .val (.int v88), .val (.int (4 : Int32)), .val (.int (3 : Int32)), .val (.int v81)]) (pc' := 182) C d2_181 rfl rfl ?_
  intro v88 hv88
  refine Wk.iloadN (pc' := 183) C d2_182 rfl rfl ?_
  refine Wk.iloadN (pc' := 184) C d2_183 rfl rfl ?_
  refine Wk.bipush (z := (13 : Int32)) (pc' := 186) C d2_184 rfl rfl ?_
  refine Wk.iushr (pc' := 187) C d2_186 rfl ?_
  refine Wk.ixor (pc' := 188) C d2_187 rfl ?_
  refine Wk.istoreNV (fun v89 => #[.val (.ref r0), .val (.int (7 : Int32)), .val (.int v89), .val (.int (4 : Int32)), .val (.int (3 : Int32)), .val (.int v81)]) (pc' := 189) C d2_188 rfl rfl ?_
  intro v89 hv89
  refine Wk.iloadN (pc' := 190) C d2_189 rfl rfl ?_
  refine Wk.ldcInt (z := (1540483477 : Int32)) (pc' := 192) C (w13 hw) d2_190 rfl ?_
  refine Wk.imul (pc' := 193) C d2_192 rfl ?_
  refine Wk.istoreNV (fun v90 => #[.val (.ref r0), .val (.int (7 : Int32)), .val (.int v90), .val (.int (4 : Int32)), .val (.int (3 : Int32)), .val (.int v81)]) (pc' := 194) C d2_193 rfl rfl ?_
  intro v90 hv90
  refine Wk.iloadN (pc' := 195) C d2_194 rfl rfl ?_
  refine Wk.iloadN (pc' := 196) C d2_195 rfl rfl ?_
  refine Wk.bipush (z := (15 : Int32)) (pc' := 198) C d2_196 rfl rfl ?_
  refine Wk.iushr (pc' := 199) C d2_198 rfl ?_
  refine Wk.ixor (pc' := 200) C d2_199 rfl ?_
  refine Wk.istoreNV (fun v91 => #[.val (.ref r0), .val (.int (7 : Int32)), .val (.int v91), .val (.int (4 : Int32)), .val (.int (3 : Int32)), .val (.int v81)]) (pc' := 201) C d2_200 rfl rfl ?_
  intro v91 hv91
  refine Wk.iloadN (pc' := 202) C d2_201 rfl rfl ?_
  have hres : v91 = G7 f := by
    subst hv91 hv90 hv89 hv88 hv87 hv86 hv85 hv83 hv82 hv81 hv80 hv79 hv78 hv76
    rfl
  exact Wk.retI C J d2_202 (by decide) (by decide) (fun h O => ⟨by rw [hres], O⟩)
def G8 (f : Nat → Int32) : Int32 := fin (rnd (rnd ((-1756908916 : Int32) ^^^ (8 : Int32)) (wd f 0)) (wd f 4))
theorem ef_rm2_8 (m : MethodId) (r0 : Addr) : entryFrame m #[.ref r0] 6 = mkF m 0 #[.val (.ref r0), .unset, .unset, .unset, .unset, .unset] [] := by first | (simp [entryFrame, mkF, argsToLocals, Value.category]; done) | rfl
set_option maxRecDepth 65536 in
set_option maxHeartbeats 40000000 in
theorem rm2_8 (l : Launch) (Z : State) (a0 : Array Value) (hw : HW Z a0) (r0 : Addr) (L : List (Addr × (Cell → Prop))) (q : Nat) (f : Nat → Int32) (h : Heap) (n0 : Nat) (O : Own n0 h L) (hq : L[q]? = some (r0, ArrC Z .byte 8 f)) :
    Meth l Z (⟨"com/example/onlyonce/onlyonce/Partitioner", "murmur2", "([B)I"⟩ : MethodName) prog_55_method_3_code 6 (some .int) [] ({ frames := 0, cells := 0, slots := 0, locals := 0 } : Room) #[.ref r0] h n0 (fun v h' => v = some (.int (G8 f)) ∧ Own n0 h' L) := by
  refine Meth.of (plainFor_of_name pn_1) (fun m => ef_rm2_8 m r0) O ?_
  intro p e m below meth c M FE C J
  change Cx Z "com/example/onlyonce/onlyonce/Partitioner" "murmur2" prog_55_method_3_code 6 (some .int) p m meth c M at C
  clear O
  refine Wk.aloadN (pc' := 1) C d2_0 rfl rfl rfl ?_
  refine Wk.arraylength (pc' := 2) (q := q) (z := (8 : Int32)) C d2_1 hq (fun _ A => ⟨A.1, A.2.2.1⟩) rfl rfl ?_
  refine Wk.istoreN (Ls' := #[.val (.ref r0), .val (.int (8 : Int32)), .unset, .unset, .unset, .unset]) (pc' := 3) C d2_2 rfl rfl ?_
  refine Wk.ldcInt (z := (-1756908916 : Int32)) (pc' := 5) C (w12 hw) d2_3 rfl ?_
  refine Wk.iloadN (pc' := 6) C d2_5 rfl rfl ?_
  refine Wk.ixor (pc' := 7) C d2_6 rfl ?_
  refine Wk.istoreNV (fun v92 => #[.val (.ref r0), .val (.int (8 : Int32)), .val (.int v92), .unset, .unset, .unset]) (pc' := 8) C d2_7 rfl rfl ?_
  intro v92 hv92
  refine Wk.iloadN (pc' := 9) C d2_8 rfl rfl ?_
  refine Wk.iloadN (pc' := 10) C d2_9 rfl rfl ?_
  refine Wk.iconst (z := (4 : Int32)) (pc' := 11) C d2_10 rfl rfl ?_
  refine Wk.irem (pc' := 12) C d2_11 (by decide) rfl ?_
  refine Wk.isub (pc' := 13) C d2_12 rfl ?_
  refine Wk.istoreNV (fun v93 => #[.val (.ref r0), .val (.int (8 : Int32)), .val (.int v92), .val (.int v93), .unset, .unset]) (pc' := 14) C d2_13 rfl rfl ?_
  intro v93 hv93
  obtain rfl : v93 = (8 : Int32) := hv93.trans (by decide)
  refine Wk.iconst (z := (0 : Int32)) (pc' := 15) C d2_14 rfl rfl ?_
  refine Wk.istore (Ls' := #[.val (.ref r0), .val (.int (8 : Int32)), .val (.int v92), .val (.int (8 : Int32)), .val (.int (0 : Int32)), .unset]) (pc' := 17) C d2_15 rfl rfl ?_
  refine Wk.iload (pc' := 19) C d2_17 rfl rfl ?_
  refine Wk.iloadN (pc' := 20) C d2_19 rfl rfl ?_
  refine Wk.icmp_ge (pcT := 115) (pcF := 23) C d2_20 (by decide) (by decide) rfl (fun q => absurd q (by decide)) (fun _ => ?_)
  refine Wk.aloadN (pc' := 24) C d2_23 rfl rfl rfl ?_
  refine Wk.iload (pc' := 26) C d2_24 rfl rfl ?_
  refine Wk.baload (pc' := 27) (q := q) (i := 0) C d2_26 hq (by decide) (by decide) rfl ?_
  refine Wk.sipush (z := (255 : Int32)) (pc' := 30) C d2_27 rfl rfl ?_
  refine Wk.iand (pc' := 31) C d2_30 rfl ?_
  refine Wk.aloadN (pc' := 32) C d2_31 rfl rfl rfl ?_
  refine Wk.iload (pc' := 34) C d2_32 rfl rfl ?_
  refine Wk.iconst (z := (1 : Int32)) (pc' := 35) C d2_34 rfl rfl ?_
  refine Wk.iadd (pc' := 36) C d2_35 rfl ?_
  refine Wk.baload (pc' := 37) (q := q) (i := 1) C d2_36 hq (by decide) (by decide) rfl ?_
  refine Wk.sipush (z := (255 : Int32)) (pc' := 40) C d2_37 rfl rfl ?_
  refine Wk.iand (pc' := 41) C d2_40 rfl ?_
  refine Wk.bipush (z := (8 : Int32)) (pc' := 43) C d2_41 rfl rfl ?_
  refine Wk.ishl (pc' := 44) C d2_43 rfl ?_
  refine Wk.ior (pc' := 45) C d2_44 rfl ?_
  refine Wk.aloadN (pc' := 46) C d2_45 rfl rfl rfl ?_
  refine Wk.iload (pc' := 48) C d2_46 rfl rfl ?_
  refine Wk.iconst (z := (2 : Int32)) (pc' := 49) C d2_48 rfl rfl ?_
  refine Wk.iadd (pc' := 50) C d2_49 rfl ?_
  refine Wk.baload (pc' := 51) (q := q) (i := 2) C d2_50 hq (by decide) (by decide) rfl ?_
  refine Wk.sipush (z := (255 : Int32)) (pc' := 54) C d2_51 rfl rfl ?_
  refine Wk.iand (pc' := 55) C d2_54 rfl ?_
  refine Wk.bipush (z := (16 : Int32)) (pc' := 57) C d2_55 rfl rfl ?_
  refine Wk.ishl (pc' := 58) C d2_57 rfl ?_
  refine Wk.ior (pc' := 59) C d2_58 rfl ?_
  refine Wk.aloadN (pc' := 60) C d2_59 rfl rfl rfl ?_
  refine Wk.iload (pc' := 62) C d2_60 rfl rfl ?_
  refine Wk.iconst (z := (3 : Int32)) (pc' := 63) C d2_62 rfl rfl ?_
  refine Wk.iadd (pc' := 64) C d2_63 rfl ?_
  refine Wk.baload (pc' := 65) (q := q) (i := 3) C d2_64 hq (by decide) (by decide) rfl ?_
  refine Wk.sipush (z := (255 : Int32)) (pc' := 68) C d2_65 rfl rfl ?_
  refine Wk.iand (pc' := 69) C d2_68 rfl ?_
  refine Wk.bipush (z := (24 : Int32)) (pc' := 71) C d2_69 rfl rfl ?_
  refine Wk.ishl (pc' := 72) C d2_71 rfl ?_
  refine Wk.ior (pc' := 73) C d2_72 rfl ?_
  refine Wk.istoreV (fun v94 => #[.val (.ref r0), .val (.int (8 : Int32)), .val (.int v92), .val (.int (8 : Int32)), .val (.int (0 : Int32)), .val (.int v94)]) (pc' := 75) C d2_73 rfl rfl ?_
  intro v94 hv94
  refine Wk.iload (pc' := 77) C d2_75 rfl rfl ?_
  refine Wk.ldcInt (z := (1540483477 : Int32)) (pc' := 79) C (w13 hw) d2_77 rfl ?_
  refine Wk.imul (pc' := 80) C d2_79 rfl ?_
  refine Wk.istoreV (fun v95 => #[.val (.ref r0), .val (.int (8 : Int32)), .val (.int v92), .val (.int (8 : Int32)), .val (.int (0 : Int32)), .val (.int v95)]) (pc' := 82) C d2_80 rfl rfl ?_
  intro v95 hv95
  refine Wk.iload (pc' := 84) C d2_82 rfl rfl ?_
  refine Wk.iload (pc' := 86) C d2_84 rfl rfl ?_
  refine Wk.bipush (z := (24 : Int32)) (pc' := 88) C d2_86 rfl rfl ?_
  refine Wk.iushr (pc' := 89) C d2_88 rfl ?_
  refine Wk.ixor (pc' := 90) C d2_89 rfl ?_
  refine Wk.istoreV (fun v96 => #[.val (.ref r0), .val (.int (8 : Int32)), .val (.int v92), .val (.int (8 : Int32)), .val (.int (0 : Int32)), .val (.int v96)]) (pc' := 92) C d2_90 rfl rfl ?_
  intro v96 hv96
  refine Wk.iload (pc' := 94) C d2_92 rfl rfl ?_
  refine Wk.ldcInt (z := (1540483477 : Int32)) (pc' := 96) C (w13 hw) d2_94 rfl ?_
  refine Wk.imul (pc' := 97) C d2_96 rfl ?_
  refine Wk.istoreV (fun v97 => #[.val (.ref r0), .val (.int (8 : Int32)), .val (.int v92), .val (.int (8 : Int32)), .val (.int (0 : Int32)), .val (.int v97)]) (pc' := 99) C d2_97 rfl rfl ?_
  intro v97 hv97
  refine Wk.iloadN (pc' := 100) C d2_99 rfl rfl ?_
  refine Wk.ldcInt (z := (1540483477 : Int32)) (pc' := 102) C (w13 hw) d2_100 rfl ?_
  refine Wk.imul (pc' := 103) C d2_102 rfl ?_
  refine Wk.istoreNV (fun v98 => #[.val (.ref r0), .val (.int (8 : Int32)), .val (.int v98), .val (.int (8 : Int32)), .val (.int (0 : Int32)), .val (.int v97)]) (pc' := 104) C d2_103 rfl rfl ?_
  intro v98 hv98
  refine Wk.iloadN (pc' := 105) C d2_104 rfl rfl ?_
  refine Wk.iload (pc' := 107) C d2_105 rfl rfl ?_
  refine Wk.ixor (pc' := 108) C d2_107 rfl ?_
  refine Wk.istoreNV (fun v99 => #[.val (.ref r0), .val (.int (8 : Int32)), .val (.int v99), .val (.int (8 : Int32)), .val (.int (0 : Int32)), .val (.int v97)]) (pc' := 109) C d2_108 rfl rfl ?_
  intro v99 hv99
  refine Wk.iinc (z := (4 : Int32)) (Ls' := #[.val (.ref r0), .val (.int (8 : Int32)), .val (.int v99), .val (.int (8 : Int32)), .val (.int (4 : Int32)), .val (.int v97)]) (pc' := 112) C d2_109 rfl (by decide) rfl rfl ?_
  refine Wk.goto (pc' := 17) C d2_112 (by decide) (by decide) ?_
  refine Wk.iload (pc' := 19) C d2_17 rfl rfl ?_
  refine Wk.iloadN (pc' := 20) C d2_19 rfl rfl ?_
  refine Wk.icmp_ge (pcT := 115) (pcF := 23) C d2_20 (by decide) (by decide) rfl (fun q => absurd q (by decide)) (fun _ => ?_)
  refine Wk.aloadN (pc' := 24) C d2_23 rfl rfl rfl ?_
  refine Wk.iload (pc' := 26) C d2_24 rfl rfl ?_
  refine Wk.baload (pc' := 27) (q := q) (i := 4) C d2_26 hq (by decide) (by decide) rfl ?_
  refine Wk.sipush (z := (255 : Int32)) (pc' := 30) C d2_27 rfl rfl ?_
  refine Wk.iand (pc' := 31) C d2_30 rfl ?_
  refine Wk.aloadN (pc' := 32) C d2_31 rfl rfl rfl ?_
  refine Wk.iload (pc' := 34) C d2_32 rfl rfl ?_
  refine Wk.iconst (z := (1 : Int32)) (pc' := 35) C d2_34 rfl rfl ?_
  refine Wk.iadd (pc' := 36) C d2_35 rfl ?_
  refine Wk.baload (pc' := 37) (q := q) (i := 5) C d2_36 hq (by decide) (by decide) rfl ?_
  refine Wk.sipush (z := (255 : Int32)) (pc' := 40) C d2_37 rfl rfl ?_
  refine Wk.iand (pc' := 41) C d2_40 rfl ?_
  refine Wk.bipush (z := (8 : Int32)) (pc' := 43) C d2_41 rfl rfl ?_
  refine Wk.ishl (pc' := 44) C d2_43 rfl ?_
  refine Wk.ior (pc' := 45) C d2_44 rfl ?_
  refine Wk.aloadN (pc' := 46) C d2_45 rfl rfl rfl ?_
  refine Wk.iload (pc' := 48) C d2_46 rfl rfl ?_
  refine Wk.iconst (z := (2 : Int32)) (pc' := 49) C d2_48 rfl rfl ?_
  refine Wk.iadd (pc' := 50) C d2_49 rfl ?_
  refine Wk.baload (pc' := 51) (q := q) (i := 6) C d2_50 hq (by decide) (by decide) rfl ?_
  refine Wk.sipush (z := (255 : Int32)) (pc' := 54) C d2_51 rfl rfl ?_
  refine Wk.iand (pc' := 55) C d2_54 rfl ?_
  refine Wk.bipush (z := (16 : Int32)) (pc' := 57) C d2_55 rfl rfl ?_
  refine Wk.ishl (pc' := 58) C d2_57 rfl ?_
  refine Wk.ior (pc' := 59) C d2_58 rfl ?_
  refine Wk.aloadN (pc' := 60) C d2_59 rfl rfl rfl ?_
  refine Wk.iload (pc' := 62) C d2_60 rfl rfl ?_
  refine Wk.iconst (z := (3 : Int32)) (pc' := 63) C d2_62 rfl rfl ?_
  refine Wk.iadd (pc' := 64) C d2_63 rfl ?_
  refine Wk.baload (pc' := 65) (q := q) (i := 7) C d2_64 hq (by decide) (by decide) rfl ?_
  refine Wk.sipush (z := (255 : Int32)) (pc' := 68) C d2_65 rfl rfl ?_
  refine Wk.iand (pc' := 69) C d2_68 rfl ?_
  refine Wk.bipush (z := (24 : Int32)) (pc' := 71) C d2_69 rfl rfl ?_
  refine Wk.ishl (pc' := 72) C d2_71 rfl ?_
  refine Wk.ior (pc' := 73) C d2_72 rfl ?_
  refine Wk.istoreV (fun v100 => #[.val (.ref r0), .val (.int (8 : Int32)), .val (.int v99), .val (.int (8 : Int32)), .val (.int (4 : Int32)), .val (.int v100)]) (pc' := 75) C d2_73 rfl rfl ?_
  intro v100 hv100
  refine Wk.iload (pc' := 77) C d2_75 rfl rfl ?_
  refine Wk.ldcInt (z := (1540483477 : Int32)) (pc' := 79) C (w13 hw) d2_77 rfl ?_
  refine Wk.imul (pc' := 80) C d2_79 rfl ?_
  refine Wk.istoreV (fun v101 => #[.val (.ref r0), .val (.int (8 : Int32)), .val (.int v99), .val (.int (8 : Int32)), .val (.int (4 : Int32)), .val (.int v101)]) (pc' := 82) C d2_80 rfl rfl ?_
  intro v101 hv101
  refine Wk.iload (pc' := 84) C d2_82 rfl rfl ?_
  refine Wk.iload (pc' := 86) C d2_84 rfl rfl ?_
  refine Wk.bipush (z := (24 : Int32)) (pc' := 88) C d2_86 rfl rfl ?_
  refine Wk.iushr (pc' := 89) C d2_88 rfl ?_
  refine Wk.ixor (pc' := 90) C d2_89 rfl ?_
  refine Wk.istoreV (fun v102 => #[.val (.ref r0), .val (.int (8 : Int32)), .val (.int v99), .val (.int (8 : Int32)), .val (.int (4 : Int32)), .val (.int v102)]) (pc' := 92) C d2_90 rfl rfl ?_
  intro v102 hv102
  refine Wk.iload (pc' := 94) C d2_92 rfl rfl ?_
  refine Wk.ldcInt (z := (1540483477 : Int32)) (pc' := 96) C (w13 hw) d2_94 rfl ?_
  refine Wk.imul (pc' := 97) C d2_96 rfl ?_
  refine Wk.istoreV (fun v103 => #[.val (.ref r0), .val (.int (8 : Int32)), .val (.int v99), .val (.int (8 : Int32)), .val (.int (4 : Int32)), .val (.int v103)]) (pc' := 99) C d2_97 rfl rfl ?_
  intro v103 hv103
  refine Wk.iloadN (pc' := 100) C d2_99 rfl rfl ?_
  refine Wk.ldcInt (z := (1540483477 : Int32)) (pc' := 102) C (w13 hw) d2_100 rfl ?_
  refine Wk.imul (pc' := 103) C d2_102 rfl ?_
  refine Wk.istoreNV (fun v104 => #[.val (.ref r0), .val (.int (8 : Int32)), .val (.int v104), .val (.int (8 : Int32)), .val (.int (4 : Int32)), .val (.int v103)]) (pc' := 104) C d2_103 rfl rfl ?_
  intro v104 hv104
  refine Wk.iloadN (pc' := 105) C d2_104 rfl rfl ?_
  refine Wk.iload (pc' := 107) C d2_105 rfl rfl ?_
  refine Wk.ixor (pc' := 108) C d2_107 rfl ?_
  refine Wk.istoreNV (fun v105 => #[.val (.ref r0), .val (.int (8 : Int32)), .val (.int v105), .val (.int (8 : Int32)), .val (.int (4 : Int32)), .val (.int v103)]) (pc' := 109) C d2_108 rfl rfl ?_
  intro v105 hv105
  refine Wk.iinc (z := (8 : Int32)) (Ls' := #[.val (.ref r0), .val (.int (8 : Int32)), .val (.int v105), .val (.int (8 : Int32)), .val (.int (8 : Int32)), .val (.int v103)]) (pc' := 112) C d2_109 rfl (by decide) rfl rfl ?_
  refine Wk.goto (pc' := 17) C d2_112 (by decide) (by decide) ?_
  refine Wk.iload (pc' := 19) C d2_17 rfl rfl ?_
  refine Wk.iloadN (pc' := 20) C d2_19 rfl rfl ?_
  refine Wk.icmp_ge (pcT := 115) (pcF := 23) C d2_20 (by decide) (by decide) rfl (fun _ => ?_) (fun q => absurd q (by decide))
  refine Wk.iloadN (pc' := 116) C d2_115 rfl rfl ?_
  refine Wk.iloadN (pc' := 117) C d2_116 rfl rfl ?_
  refine Wk.isub (pc' := 118) C d2_117 rfl ?_
  refine Wk.istoreV (fun v106 => #[.val (.ref r0), .val (.int (8 : Int32)), .val (.int v105), .val (.int (8 : Int32)), .val (.int v106), .val (.int v103)]) (pc' := 120) C d2_118 rfl rfl ?_
  intro v106 hv106
  obtain rfl : v106 = (0 : Int32) := hv106.trans (by decide)
  refine Wk.iload (pc' := 122) C d2_120 rfl rfl ?_
  refine Wk.if_le (pcT := 182) (pcF := 125) C d2_122 (by decide) (by decide) rfl (fun _ => ?_) (fun q => absurd q (by decide))
  refine Wk.iloadN (pc' := 183) C d2_182 rfl rfl ?_
  refine Wk.iloadN (pc' := 184) C d2_183 rfl rfl ?_
  refine Wk.bipush (z := (13 : Int32)) (pc' := 186) C d2_184 rfl rfl ?_
  refine Wk.iushr (pc' := 187) C d2_186 rfl ?_
  refine Wk.ixor (pc' := 188) C d2_187 rfl ?_
  refine Wk.istoreNV (fun v107 => #[.val (.ref r0), .val (.int (8 : Int32)), .val (.int v107), .val (.int (8 : Int32)), .val (.int (0 : Int32)), .val (.int v103)]) (pc' := 189) C d2_188 rfl rfl ?_
  intro v107 hv107
  refine Wk.iloadN (pc' := 190) C d2_189 rfl rfl ?_
  refine Wk.ldcInt (z := (1540483477 : Int32)) (pc' := 192) C (w13 hw) d2_190 rfl ?_
  refine Wk.imul (pc' := 193) C d2_192 rfl ?_
  refine Wk.istoreNV (fun v108 => #[.val (.ref r0), .val (.int (8 : Int32)), .val (.int v108), .val (.int (8 : Int32)), .val (.int (0 : Int32)), .val (.int v103)]) (pc' := 194) C d2_193 rfl rfl ?_
  intro v108 hv108
  refine Wk.iloadN (pc' := 195) C d2_194 rfl rfl ?_
  refine Wk.iloadN (pc' := 196) C d2_195 rfl rfl ?_
  refine Wk.bipush (z := (15 : Int32)) (pc' := 198) C d2_196 rfl rfl ?_
  refine Wk.iushr (pc' := 199) C d2_198 rfl ?_
  refine Wk.ixor (pc' := 200) C d2_199 rfl ?_
  refine Wk.istoreNV (fun v109 => #[.val (.ref r0), .val (.int (8 : Int32)), .val (.int v109), .val (.int (8 : Int32)), .val (.int (0 : Int32)), .val (.int v103)]) (pc' := 201) C d2_200 rfl rfl ?_
  intro v109 hv109
  refine Wk.iloadN (pc' := 202) C d2_201 rfl rfl ?_
  have hres : v109 = G8 f := by
    subst hv109 hv108 hv107 hv105 hv104 hv103 hv102 hv101 hv100 hv99 hv98 hv97 hv96 hv95 hv94 hv92
    rfl
  exact Wk.retI C J d2_202 (by decide) (by decide) (fun h O => ⟨by rw [hres], O⟩)
def G9 (f : Nat → Int32) : Int32 := fin (((rnd (rnd ((-1756908916 : Int32) ^^^ (9 : Int32)) (wd f 0)) (wd f 4)) ^^^ (f 8 &&& (255 : Int32))) * (1540483477 : Int32))
theorem ef_rm2_9 (m : MethodId) (r0 : Addr) : entryFrame m #[.ref r0] 6 = mkF m 0 #[.val (.ref r0), .unset, .unset, .unset, .unset, .unset] [] := by first | (simp [entryFrame, mkF, argsToLocals, Value.category]; done) | rfl
set_option maxRecDepth 65536 in
set_option maxHeartbeats 40000000 in
theorem rm2_9 (l : Launch) (Z : State) (a0 : Array Value) (hw : HW Z a0) (r0 : Addr) (L : List (Addr × (Cell → Prop))) (q : Nat) (f : Nat → Int32) (h : Heap) (n0 : Nat) (O : Own n0 h L) (hq : L[q]? = some (r0, ArrC Z .byte 9 f)) :
    Meth l Z (⟨"com/example/onlyonce/onlyonce/Partitioner", "murmur2", "([B)I"⟩ : MethodName) prog_55_method_3_code 6 (some .int) [] ({ frames := 0, cells := 0, slots := 0, locals := 0 } : Room) #[.ref r0] h n0 (fun v h' => v = some (.int (G9 f)) ∧ Own n0 h' L) := by
  refine Meth.of (plainFor_of_name pn_1) (fun m => ef_rm2_9 m r0) O ?_
  intro p e m below meth c M FE C J
  change Cx Z "com/example/onlyonce/onlyonce/Partitioner" "murmur2" prog_55_method_3_code 6 (some .int) p m meth c M at C
  clear O
  refine Wk.aloadN (pc' := 1) C d2_0 rfl rfl rfl ?_
  refine Wk.arraylength (pc' := 2) (q := q) (z := (9 : Int32)) C d2_1 hq (fun _ A => ⟨A.1, A.2.2.1⟩) rfl rfl ?_
  refine Wk.istoreN (Ls' := #[.val (.ref r0), .val (.int (9 : Int32)), .unset, .unset, .unset, .unset]) (pc' := 3) C d2_2 rfl rfl ?_
  refine Wk.ldcInt (z := (-1756908916 : Int32)) (pc' := 5) C (w12 hw) d2_3 rfl ?_
  refine Wk.iloadN (pc' := 6) C d2_5 rfl rfl ?_
  refine Wk.ixor (pc' := 7) C d2_6 rfl ?_
  refine Wk.istoreNV (fun v110 => #[.val (.ref r0), .val (.int (9 : Int32)), .val (.int v110), .unset, .unset, .unset]) (pc' := 8) C d2_7 rfl rfl ?_
  intro v110 hv110
  refine Wk.iloadN (pc' := 9) C d2_8 rfl rfl ?_
  refine Wk.iloadN (pc' := 10) C d2_9 rfl rfl ?_
  refine Wk.iconst (z := (4 : Int32)) (pc' := 11) C d2_10 rfl rfl ?_
  refine Wk.irem (pc' := 12) C d2_11 (by decide) rfl ?_
  refine Wk.isub (pc' := 13) C d2_12 rfl ?_
  refine Wk.istoreNV (fun v111 => #[.val (.ref r0), .val (.int (9 : Int32)), .val (.int v110), .val (.int v111), .unset, .unset]) (pc' := 14) C d2_13 rfl rfl ?_
  intro v111 hv111
  obtain rfl : v111 = (8 : Int32) := hv111.trans (by decide)
  refine Wk.iconst (z := (0 : Int32)) (pc' := 15) C d2_14 rfl rfl ?_
  refine Wk.istore (Ls' := #[.val (.ref r0), .val (.int (9 : Int32)), .val (.int v110), .val (.int (8 : Int32)), .val (.int (0 : Int32)), .unset]) (pc' := 17) C d2_15 rfl rfl ?_
  refine Wk.iload (pc' := 19) C d2_17 rfl rfl ?_
  refine Wk.iloadN (pc' := 20) C d2_19 rfl rfl ?_
  refine Wk.icmp_ge (pcT := 115) (pcF := 23) C d2_20 (by decide) (by decide) rfl (fun q => absurd q (by decide)) (fun _ => ?_)
  refine Wk.aloadN (pc' := 24) C d2_23 rfl rfl rfl ?_
  refine Wk.iload (pc' := 26) C d2_24 rfl rfl ?_
  refine Wk.baload (pc' := 27) (q := q) (i := 0) C d2_26 hq (by decide) (by decide) rfl ?_
  refine Wk.sipush (z := (255 : Int32)) (pc' := 30) C d2_27 rfl rfl ?_
  refine Wk.iand (pc' := 31) C d2_30 rfl ?_
  refine Wk.aloadN (pc' := 32) C d2_31 rfl rfl rfl ?_
  refine Wk.iload (pc' := 34) C d2_32 rfl rfl ?_
  refine Wk.iconst (z := (1 : Int32)) (pc' := 35) C d2_34 rfl rfl ?_
  refine Wk.iadd (pc' := 36) C d2_35 rfl ?_
  refine Wk.baload (pc' := 37) (q := q) (i := 1) C d2_36 hq (by decide) (by decide) rfl ?_
  refine Wk.sipush (z := (255 : Int32)) (pc' := 40) C d2_37 rfl rfl ?_
  refine Wk.iand (pc' := 41) C d2_40 rfl ?_
  refine Wk.bipush (z := (8 : Int32)) (pc' := 43) C d2_41 rfl rfl ?_
  refine Wk.ishl (pc' := 44) C d2_43 rfl ?_
  refine Wk.ior (pc' := 45) C d2_44 rfl ?_
  refine Wk.aloadN (pc' := 46) C d2_45 rfl rfl rfl ?_
  refine Wk.iload (pc' := 48) C d2_46 rfl rfl ?_
  refine Wk.iconst (z := (2 : Int32)) (pc' := 49) C d2_48 rfl rfl ?_
  refine Wk.iadd (pc' := 50) C d2_49 rfl ?_
  refine Wk.baload (pc' := 51) (q := q) (i := 2) C d2_50 hq (by decide) (by decide) rfl ?_
  refine Wk.sipush (z := (255 : Int32)) (pc' := 54) C d2_51 rfl rfl ?_
  refine Wk.iand (pc' := 55) C d2_54 rfl ?_
  refine Wk.bipush (z := (16 : Int32)) (pc' := 57) C d2_55 rfl rfl ?_
  refine Wk.ishl (pc' := 58) C d2_57 rfl ?_
  refine Wk.ior (pc' := 59) C d2_58 rfl ?_
  refine Wk.aloadN (pc' := 60) C d2_59 rfl rfl rfl ?_
  refine Wk.iload (pc' := 62) C d2_60 rfl rfl ?_
  refine Wk.iconst (z := (3 : Int32)) (pc' := 63) C d2_62 rfl rfl ?_
  refine Wk.iadd (pc' := 64) C d2_63 rfl ?_
  refine Wk.baload (pc' := 65) (q := q) (i := 3) C d2_64 hq (by decide) (by decide) rfl ?_
  refine Wk.sipush (z := (255 : Int32)) (pc' := 68) C d2_65 rfl rfl ?_
  refine Wk.iand (pc' := 69) C d2_68 rfl ?_
  refine Wk.bipush (z := (24 : Int32)) (pc' := 71) C d2_69 rfl rfl ?_
  refine Wk.ishl (pc' := 72) C d2_71 rfl ?_
  refine Wk.ior (pc' := 73) C d2_72 rfl ?_
  refine Wk.istoreV (fun v112 => #[.val (.ref r0), .val (.int (9 : Int32)), .val (.int v110), .val (.int (8 : Int32)), .val (.int (0 : Int32)), .val (.int v112)]) (pc' := 75) C d2_73 rfl rfl ?_
  intro v112 hv112
  refine Wk.iload (pc' := 77) C d2_75 rfl rfl ?_
  refine Wk.ldcInt (z := (1540483477 : Int32)) (pc' := 79) C (w13 hw) d2_77 rfl ?_
  refine Wk.imul (pc' := 80) C d2_79 rfl ?_
  refine Wk.istoreV (fun v113 => #[.val (.ref r0), .val (.int (9 : Int32)), .val (.int v110), .val (.int (8 : Int32)), .val (.int (0 : Int32)), .val (.int v113)]) (pc' := 82) C d2_80 rfl rfl ?_
  intro v113 hv113
  refine Wk.iload (pc' := 84) C d2_82 rfl rfl ?_
  refine Wk.iload (pc' := 86) C d2_84 rfl rfl ?_
  refine Wk.bipush (z := (24 : Int32)) (pc' := 88) C d2_86 rfl rfl ?_
  refine Wk.iushr (pc' := 89) C d2_88 rfl ?_
  refine Wk.ixor (pc' := 90) C d2_89 rfl ?_
  refine Wk.istoreV (fun v114 => #[.val (.ref r0), .val (.int (9 : Int32)), .val (.int v110), .val (.int (8 : Int32)), .val (.int (0 : Int32)), .val (.int v114)]) (pc' := 92) C d2_90 rfl rfl ?_
  intro v114 hv114
  refine Wk.iload (pc' := 94) C d2_92 rfl rfl ?_
  refine Wk.ldcInt (z := (1540483477 : Int32)) (pc' := 96) C (w13 hw) d2_94 rfl ?_
  refine Wk.imul (pc' := 97) C d2_96 rfl ?_
  refine Wk.istoreV (fun v115 => #[.val (.ref r0), .val (.int (9 : Int32)), .val (.int v110), .val (.int (8 : Int32)), .val (.int (0 : Int32)), .val (.int v115)]) (pc' := 99) C d2_97 rfl rfl ?_
  intro v115 hv115
  refine Wk.iloadN (pc' := 100) C d2_99 rfl rfl ?_
  refine Wk.ldcInt (z := (1540483477 : Int32)) (pc' := 102) C (w13 hw) d2_100 rfl ?_
  refine Wk.imul (pc' := 103) C d2_102 rfl ?_
  refine Wk.istoreNV (fun v116 => #[.val (.ref r0), .val (.int (9 : Int32)), .val (.int v116), .val (.int (8 : Int32)), .val (.int (0 : Int32)), .val (.int v115)]) (pc' := 104) C d2_103 rfl rfl ?_
  intro v116 hv116
  refine Wk.iloadN (pc' := 105) C d2_104 rfl rfl ?_
  refine Wk.iload (pc' := 107) C d2_105 rfl rfl ?_
  refine Wk.ixor (pc' := 108) C d2_107 rfl ?_
  refine Wk.istoreNV (fun v117 => #[.val (.ref r0), .val (.int (9 : Int32)), .val (.int v117), .val (.int (8 : Int32)), .val (.int (0 : Int32)), .val (.int v115)]) (pc' := 109) C d2_108 rfl rfl ?_
  intro v117 hv117
  refine Wk.iinc (z := (4 : Int32)) (Ls' := #[.val (.ref r0), .val (.int (9 : Int32)), .val (.int v117), .val (.int (8 : Int32)), .val (.int (4 : Int32)), .val (.int v115)]) (pc' := 112) C d2_109 rfl (by decide) rfl rfl ?_
  refine Wk.goto (pc' := 17) C d2_112 (by decide) (by decide) ?_
  refine Wk.iload (pc' := 19) C d2_17 rfl rfl ?_
  refine Wk.iloadN (pc' := 20) C d2_19 rfl rfl ?_
  refine Wk.icmp_ge (pcT := 115) (pcF := 23) C d2_20 (by decide) (by decide) rfl (fun q => absurd q (by decide)) (fun _ => ?_)
  refine Wk.aloadN (pc' := 24) C d2_23 rfl rfl rfl ?_
  refine Wk.iload (pc' := 26) C d2_24 rfl rfl ?_
  refine Wk.baload (pc' := 27) (q := q) (i := 4) C d2_26 hq (by decide) (by decide) rfl ?_
  refine Wk.sipush (z := (255 : Int32)) (pc' := 30) C d2_27 rfl rfl ?_
  refine Wk.iand (pc' := 31) C d2_30 rfl ?_
  refine Wk.aloadN (pc' := 32) C d2_31 rfl rfl rfl ?_
  refine Wk.iload (pc' := 34) C d2_32 rfl rfl ?_
  refine Wk.iconst (z := (1 : Int32)) (pc' := 35) C d2_34 rfl rfl ?_
  refine Wk.iadd (pc' := 36) C d2_35 rfl ?_
  refine Wk.baload (pc' := 37) (q := q) (i := 5) C d2_36 hq (by decide) (by decide) rfl ?_
  refine Wk.sipush (z := (255 : Int32)) (pc' := 40) C d2_37 rfl rfl ?_
  refine Wk.iand (pc' := 41) C d2_40 rfl ?_
  refine Wk.bipush (z := (8 : Int32)) (pc' := 43) C d2_41 rfl rfl ?_
  refine Wk.ishl (pc' := 44) C d2_43 rfl ?_
  refine Wk.ior (pc' := 45) C d2_44 rfl ?_
  refine Wk.aloadN (pc' := 46) C d2_45 rfl rfl rfl ?_
  refine Wk.iload (pc' := 48) C d2_46 rfl rfl ?_
  refine Wk.iconst (z := (2 : Int32)) (pc' := 49) C d2_48 rfl rfl ?_
  refine Wk.iadd (pc' := 50) C d2_49 rfl ?_
  refine Wk.baload (pc' := 51) (q := q) (i := 6) C d2_50 hq (by decide) (by decide) rfl ?_
  refine Wk.sipush (z := (255 : Int32)) (pc' := 54) C d2_51 rfl rfl ?_
  refine Wk.iand (pc' := 55) C d2_54 rfl ?_
  refine Wk.bipush (z := (16 : Int32)) (pc' := 57) C d2_55 rfl rfl ?_
  refine Wk.ishl (pc' := 58) C d2_57 rfl ?_
  refine Wk.ior (pc' := 59) C d2_58 rfl ?_
  refine Wk.aloadN (pc' := 60) C d2_59 rfl rfl rfl ?_
  refine Wk.iload (pc' := 62) C d2_60 rfl rfl ?_
  refine Wk.iconst (z := (3 : Int32)) (pc' := 63) C d2_62 rfl rfl ?_
  refine Wk.iadd (pc' := 64) C d2_63 rfl ?_
  refine Wk.baload (pc' := 65) (q := q) (i := 7) C d2_64 hq (by decide) (by decide) rfl ?_
  refine Wk.sipush (z := (255 : Int32)) (pc' := 68) C d2_65 rfl rfl ?_
  refine Wk.iand (pc' := 69) C d2_68 rfl ?_
  refine Wk.bipush (z := (24 : Int32)) (pc' := 71) C d2_69 rfl rfl ?_
  refine Wk.ishl (pc' := 72) C d2_71 rfl ?_
  refine Wk.ior (pc' := 73) C d2_72 rfl ?_
  refine Wk.istoreV (fun v118 => #[.val (.ref r0), .val (.int (9 : Int32)), .val (.int v117), .val (.int (8 : Int32)), .val (.int (4 : Int32)), .val (.int v118)]) (pc' := 75) C d2_73 rfl rfl ?_
  intro v118 hv118
  refine Wk.iload (pc' := 77) C d2_75 rfl rfl ?_
  refine Wk.ldcInt (z := (1540483477 : Int32)) (pc' := 79) C (w13 hw) d2_77 rfl ?_
  refine Wk.imul (pc' := 80) C d2_79 rfl ?_
  refine Wk.istoreV (fun v119 => #[.val (.ref r0), .val (.int (9 : Int32)), .val (.int v117), .val (.int (8 : Int32)), .val (.int (4 : Int32)), .val (.int v119)]) (pc' := 82) C d2_80 rfl rfl ?_
  intro v119 hv119
  refine Wk.iload (pc' := 84) C d2_82 rfl rfl ?_
  refine Wk.iload (pc' := 86) C d2_84 rfl rfl ?_
  refine Wk.bipush (z := (24 : Int32)) (pc' := 88) C d2_86 rfl rfl ?_
  refine Wk.iushr (pc' := 89) C d2_88 rfl ?_
  refine Wk.ixor (pc' := 90) C d2_89 rfl ?_
  refine Wk.istoreV (fun v120 => #[.val (.ref r0), .val (.int (9 : Int32)), .val (.int v117), .val (.int (8 : Int32)), .val (.int (4 : Int32)), .val (.int v120)]) (pc' := 92) C d2_90 rfl rfl ?_
  intro v120 hv120
  refine Wk.iload (pc' := 94) C d2_92 rfl rfl ?_
  refine Wk.ldcInt (z := (1540483477 : Int32)) (pc' := 96) C (w13 hw) d2_94 rfl ?_
  refine Wk.imul (pc' := 97) C d2_96 rfl ?_
  refine Wk.istoreV (fun v121 => #[.val (.ref r0), .val (.int (9 : Int32)), .val (.int v117), .val (.int (8 : Int32)), .val (.int (4 : Int32)), .val (.int v121)]) (pc' := 99) C d2_97 rfl rfl ?_
  intro v121 hv121
  refine Wk.iloadN (pc' := 100) C d2_99 rfl rfl ?_
  refine Wk.ldcInt (z := (1540483477 : Int32)) (pc' := 102) C (w13 hw) d2_100 rfl ?_
  refine Wk.imul (pc' := 103) C d2_102 rfl ?_
  refine Wk.istoreNV (fun v122 => #[.val (.ref r0), .val (.int (9 : Int32)), .val (.int v122), .val (.int (8 : Int32)), .val (.int (4 : Int32)), .val (.int v121)]) (pc' := 104) C d2_103 rfl rfl ?_
  intro v122 hv122
  refine Wk.iloadN (pc' := 105) C d2_104 rfl rfl ?_
  refine Wk.iload (pc' := 107) C d2_105 rfl rfl ?_
  refine Wk.ixor (pc' := 108) C d2_107 rfl ?_
  refine Wk.istoreNV (fun v123 => #[.val (.ref r0), .val (.int (9 : Int32)), .val (.int v123), .val (.int (8 : Int32)), .val (.int (4 : Int32)), .val (.int v121)]) (pc' := 109) C d2_108 rfl rfl ?_
  intro v123 hv123
  refine Wk.iinc (z := (8 : Int32)) (Ls' := #[.val (.ref r0), .val (.int (9 : Int32)), .val (.int v123), .val (.int (8 : Int32)), .val (.int (8 : Int32)), .val (.int v121)]) (pc' := 112) C d2_109 rfl (by decide) rfl rfl ?_
  refine Wk.goto (pc' := 17) C d2_112 (by decide) (by decide) ?_
  refine Wk.iload (pc' := 19) C d2_17 rfl rfl ?_
  refine Wk.iloadN (pc' := 20) C d2_19 rfl rfl ?_
  refine Wk.icmp_ge (pcT := 115) (pcF := 23) C d2_20 (by decide) (by decide) rfl (fun _ => ?_) (fun q => absurd q (by decide))
  refine Wk.iloadN (pc' := 116) C d2_115 rfl rfl ?_
  refine Wk.iloadN (pc' := 117) C d2_116 rfl rfl ?_
  refine Wk.isub (pc' := 118) C d2_117 rfl ?_
  refine Wk.istoreV (fun v124 => #[.val (.ref r0), .val (.int (9 : Int32)), .val (.int v123), .val (.int (8 : Int32)), .val (.int v124), .val (.int v121)]) (pc' := 120) C d2_118 rfl rfl ?_
  intro v124 hv124
  obtain rfl : v124 = (1 : Int32) := hv124.trans (by decide)
  refine Wk.iload (pc' := 122) C d2_120 rfl rfl ?_
  refine Wk.if_le (pcT := 182) (pcF := 125) C d2_122 (by decide) (by decide) rfl (fun q => absurd q (by decide)) (fun _ => ?_)
  refine Wk.iload (pc' := 127) C d2_125 rfl rfl ?_
  refine Wk.iconst (z := (3 : Int32)) (pc' := 128) C d2_127 rfl rfl ?_
  refine Wk.icmp_ne (pcT := 146) (pcF := 131) C d2_128 (by decide) (by decide) rfl (fun _ => ?_) (fun q => absurd q (by decide))
  refine Wk.iload (pc' := 148) C d2_146 rfl rfl ?_
  refine Wk.iconst (z := (2 : Int32)) (pc' := 149) C d2_148 rfl rfl ?_
  refine Wk.icmp_lt (pcT := 167) (pcF := 152) C d2_149 (by decide) (by decide) rfl (fun _ => ?_) (fun q => absurd q (by decide))
  refine Wk.iloadN (pc' := 168) C d2_167 rfl rfl ?_
  refine Wk.aloadN (pc' := 169) C d2_168 rfl rfl rfl ?_
  refine Wk.iloadN (pc' := 170) C d2_169 rfl rfl ?_
  refine Wk.baload (pc' := 171) (q := q) (i := 8) C d2_170 hq (by decide) (by decide) rfl ?_
  refine Wk.sipush (z := (255 : Int32)) (pc' := 174) C d2_171 rfl rfl ?_
  refine Wk.iand (pc' := 175) C d2_174 rfl ?_
  refine Wk.ixor (pc' := 176) C d2_175 rfl ?_
  refine Wk.istoreNV (fun v125 => #[.val (.ref r0), .val (.int (9 : Int32)), .val (.int v125), .val (.int (8 : Int32)), .val (.int (1 : Int32)), .val (.int v121)]) (pc' := 177) C d2_176 rfl rfl ?_
  intro v125 hv125
  refine Wk.iloadN (pc' := 178) C d2_177 rfl rfl ?_
  refine Wk.ldcInt (z := (1540483477 : Int32)) (pc' := 180) C (w13 hw) d2_178 rfl ?_
  refine Wk.imul (pc' := 181) C d2_180 rfl ?_
  refine Wk.istoreNV (fun v126 => #[.val (.ref r0), .val (.int (9 : Int32)), .val (.int v126), .val (.int (8 : Int32)), .val (.int (1 : Int32)), .val (.int v121)]) (pc' := 182) C d2_181 rfl rfl ?_
  intro v126 hv126
  refine Wk.iloadN (pc' := 183) C d2_182 rfl rfl ?_
  refine Wk.iloadN (pc' := 184) C d2_183 rfl rfl ?_
  refine Wk.bipush (z := (13 : Int32)) (pc' := 186) C d2_184 rfl rfl ?_
  refine Wk.iushr (pc' := 187) C d2_186 rfl ?_
  refine Wk.ixor (pc' := 188) C d2_187 rfl ?_
  refine Wk.istoreNV (fun v127 => #[.val (.ref r0), .val (.int (9 : Int32)), .val (.int v127), .val (.int (8 : Int32)), .val (.int (1 : Int32)), .val (.int v121)]) (pc' := 189) C d2_188 rfl rfl ?_
  intro v127 hv127
  refine Wk.iloadN (pc' := 190) C d2_189 rfl rfl ?_
  refine Wk.ldcInt (z := (1540483477 : Int32)) (pc' := 192) C (w13 hw) d2_190 rfl ?_
  refine Wk.imul (pc' := 193) C d2_192 rfl ?_
  refine Wk.istoreNV (fun v128 => #[.val (.ref r0), .val (.int (9 : Int32)), .val (.int v128), .val (.int (8 : Int32)), .val (.int (1 : Int32)), .val (.int v121)]) (pc' := 194) C d2_193 rfl rfl ?_
  intro v128 hv128
  refine Wk.iloadN (pc' := 195) C d2_194 rfl rfl ?_
  refine Wk.iloadN (pc' := 196) C d2_195 rfl rfl ?_
  refine Wk.bipush (z := (15 : Int32)) (pc' := 198) C d2_196 rfl rfl ?_
  refine Wk.iushr (pc' := 199) C d2_198 rfl ?_
  refine Wk.ixor (pc' := 200) C d2_199 rfl ?_
  refine Wk.istoreNV (fun v129 => #[.val (.ref r0), .val (.int (9 : Int32)), .val (.int v129), .val (.int (8 : Int32)), .val (.int (1 : Int32)), .val (.int v121)]) (pc' := 201) C d2_200 rfl rfl ?_
  intro v129 hv129
  refine Wk.iloadN (pc' := 202) C d2_201 rfl rfl ?_
  have hres : v129 = G9 f := by
    subst hv129 hv128 hv127 hv126 hv125 hv123 hv122 hv121 hv120 hv119 hv118 hv117 hv116 hv115 hv114 hv113 hv112 hv110
    rfl
  exact Wk.retI C J d2_202 (by decide) (by decide) (fun h O => ⟨by rw [hres], O⟩)
def G10 (f : Nat → Int32) : Int32 := fin ((((rnd (rnd ((-1756908916 : Int32) ^^^ (10 : Int32)) (wd f 0)) (wd f 4)) ^^^ ((f 9 &&& (255 : Int32)) <<< ((8 : Int32) &&& 31))) ^^^ (f 8 &&& (255 : Int32))) * (1540483477 : Int32))
theorem ef_rm2_10 (m : MethodId) (r0 : Addr) : entryFrame m #[.ref r0] 6 = mkF m 0 #[.val (.ref r0), .unset, .unset, .unset, .unset, .unset] [] := by first | (simp [entryFrame, mkF, argsToLocals, Value.category]; done) | rfl
set_option maxRecDepth 65536 in
set_option maxHeartbeats 40000000 in
theorem rm2_10 (l : Launch) (Z : State) (a0 : Array Value) (hw : HW Z a0) (r0 : Addr) (L : List (Addr × (Cell → Prop))) (q : Nat) (f : Nat → Int32) (h : Heap) (n0 : Nat) (O : Own n0 h L) (hq : L[q]? = some (r0, ArrC Z .byte 10 f)) :
    Meth l Z (⟨"com/example/onlyonce/onlyonce/Partitioner", "murmur2", "([B)I"⟩ : MethodName) prog_55_method_3_code 6 (some .int) [] ({ frames := 0, cells := 0, slots := 0, locals := 0 } : Room) #[.ref r0] h n0 (fun v h' => v = some (.int (G10 f)) ∧ Own n0 h' L) := by
  refine Meth.of (plainFor_of_name pn_1) (fun m => ef_rm2_10 m r0) O ?_
  intro p e m below meth c M FE C J
  change Cx Z "com/example/onlyonce/onlyonce/Partitioner" "murmur2" prog_55_method_3_code 6 (some .int) p m meth c M at C
  clear O
  refine Wk.aloadN (pc' := 1) C d2_0 rfl rfl rfl ?_
  refine Wk.arraylength (pc' := 2) (q := q) (z := (10 : Int32)) C d2_1 hq (fun _ A => ⟨A.1, A.2.2.1⟩) rfl rfl ?_
  refine Wk.istoreN (Ls' := #[.val (.ref r0), .val (.int (10 : Int32)), .unset, .unset, .unset, .unset]) (pc' := 3) C d2_2 rfl rfl ?_
  refine Wk.ldcInt (z := (-1756908916 : Int32)) (pc' := 5) C (w12 hw) d2_3 rfl ?_
  refine Wk.iloadN (pc' := 6) C d2_5 rfl rfl ?_
  refine Wk.ixor (pc' := 7) C d2_6 rfl ?_
  refine Wk.istoreNV (fun v130 => #[.val (.ref r0), .val (.int (10 : Int32)), .val (.int v130), .unset, .unset, .unset]) (pc' := 8) C d2_7 rfl rfl ?_
  intro v130 hv130
  refine Wk.iloadN (pc' := 9) C d2_8 rfl rfl ?_
  refine Wk.iloadN (pc' := 10) C d2_9 rfl rfl ?_
  refine Wk.iconst (z := (4 : Int32)) (pc' := 11) C d2_10 rfl rfl ?_
  refine Wk.irem (pc' := 12) C d2_11 (by decide) rfl ?_
  refine Wk.isub (pc' := 13) C d2_12 rfl ?_
  refine Wk.istoreNV (fun v131 => #[.val (.ref r0), .val (.int (10 : Int32)), .val (.int v130), .val (.int v131), .unset, .unset]) (pc' := 14) C d2_13 rfl rfl ?_
  intro v131 hv131
  obtain rfl : v131 = (8 : Int32) := hv131.trans (by decide)
  refine Wk.iconst (z := (0 : Int32)) (pc' := 15) C d2_14 rfl rfl ?_
  refine Wk.istore (Ls' := #[.val (.ref r0), .val (.int (10 : Int32)), .val (.int v130), .val (.int (8 : Int32)), .val (.int (0 : Int32)), .unset]) (pc' := 17) C d2_15 rfl rfl ?_
  refine Wk.iload (pc' := 19) C d2_17 rfl rfl ?_
  refine Wk.iloadN (pc' := 20) C d2_19 rfl rfl ?_
  refine Wk.icmp_ge (pcT := 115) (pcF := 23) C d2_20 (by decide) (by decide) rfl (fun q => absurd q (by decide)) (fun _ => ?_)
  refine Wk.aloadN (pc' := 24) C d2_23 rfl rfl rfl ?_
  refine Wk.iload (pc' := 26) C d2_24 rfl rfl ?_
  refine Wk.baload (pc' := 27) (q := q) (i := 0) C d2_26 hq (by decide) (by decide) rfl ?_
  refine Wk.sipush (z := (255 : Int32)) (pc' := 30) C d2_27 rfl rfl ?_
  refine Wk.iand (pc' := 31) C d2_30 rfl ?_
  refine Wk.aloadN (pc' := 32) C d2_31 rfl rfl rfl ?_
  refine Wk.iload (pc' := 34) C d2_32 rfl rfl ?_
  refine Wk.iconst (z := (1 : Int32)) (pc' := 35) C d2_34 rfl rfl ?_
  refine Wk.iadd (pc' := 36) C d2_35 rfl ?_
  refine Wk.baload (pc' := 37) (q := q) (i := 1) C d2_36 hq (by decide) (by decide) rfl ?_
  refine Wk.sipush (z := (255 : Int32)) (pc' := 40) C d2_37 rfl rfl ?_
  refine Wk.iand (pc' := 41) C d2_40 rfl ?_
  refine Wk.bipush (z := (8 : Int32)) (pc' := 43) C d2_41 rfl rfl ?_
  refine Wk.ishl (pc' := 44) C d2_43 rfl ?_
  refine Wk.ior (pc' := 45) C d2_44 rfl ?_
  refine Wk.aloadN (pc' := 46) C d2_45 rfl rfl rfl ?_
  refine Wk.iload (pc' := 48) C d2_46 rfl rfl ?_
  refine Wk.iconst (z := (2 : Int32)) (pc' := 49) C d2_48 rfl rfl ?_
  refine Wk.iadd (pc' := 50) C d2_49 rfl ?_
  refine Wk.baload (pc' := 51) (q := q) (i := 2) C d2_50 hq (by decide) (by decide) rfl ?_
  refine Wk.sipush (z := (255 : Int32)) (pc' := 54) C d2_51 rfl rfl ?_
  refine Wk.iand (pc' := 55) C d2_54 rfl ?_
  refine Wk.bipush (z := (16 : Int32)) (pc' := 57) C d2_55 rfl rfl ?_
  refine Wk.ishl (pc' := 58) C d2_57 rfl ?_
  refine Wk.ior (pc' := 59) C d2_58 rfl ?_
  refine Wk.aloadN (pc' := 60) C d2_59 rfl rfl rfl ?_
  refine Wk.iload (pc' := 62) C d2_60 rfl rfl ?_
  refine Wk.iconst (z := (3 : Int32)) (pc' := 63) C d2_62 rfl rfl ?_
  refine Wk.iadd (pc' := 64) C d2_63 rfl ?_
  refine Wk.baload (pc' := 65) (q := q) (i := 3) C d2_64 hq (by decide) (by decide) rfl ?_
  refine Wk.sipush (z := (255 : Int32)) (pc' := 68) C d2_65 rfl rfl ?_
  refine Wk.iand (pc' := 69) C d2_68 rfl ?_
  refine Wk.bipush (z := (24 : Int32)) (pc' := 71) C d2_69 rfl rfl ?_
  refine Wk.ishl (pc' := 72) C d2_71 rfl ?_
  refine Wk.ior (pc' := 73) C d2_72 rfl ?_
  refine Wk.istoreV (fun v132 => #[.val (.ref r0), .val (.int (10 : Int32)), .val (.int v130), .val (.int (8 : Int32)), .val (.int (0 : Int32)), .val (.int v132)]) (pc' := 75) C d2_73 rfl rfl ?_
  intro v132 hv132
  refine Wk.iload (pc' := 77) C d2_75 rfl rfl ?_
  refine Wk.ldcInt (z := (1540483477 : Int32)) (pc' := 79) C (w13 hw) d2_77 rfl ?_
  refine Wk.imul (pc' := 80) C d2_79 rfl ?_
  refine Wk.istoreV (fun v133 => #[.val (.ref r0), .val (.int (10 : Int32)), .val (.int v130), .val (.int (8 : Int32)), .val (.int (0 : Int32)), .val (.int v133)]) (pc' := 82) C d2_80 rfl rfl ?_
  intro v133 hv133
  refine Wk.iload (pc' := 84) C d2_82 rfl rfl ?_
  refine Wk.iload (pc' := 86) C d2_84 rfl rfl ?_
  refine Wk.bipush (z := (24 : Int32)) (pc' := 88) C d2_86 rfl rfl ?_
  refine Wk.iushr (pc' := 89) C d2_88 rfl ?_
  refine Wk.ixor (pc' := 90) C d2_89 rfl ?_
  refine Wk.istoreV (fun v134 => #[.val (.ref r0), .val (.int (10 : Int32)), .val (.int v130), .val (.int (8 : Int32)), .val (.int (0 : Int32)), .val (.int v134)]) (pc' := 92) C d2_90 rfl rfl ?_
  intro v134 hv134
  refine Wk.iload (pc' := 94) C d2_92 rfl rfl ?_
  refine Wk.ldcInt (z := (1540483477 : Int32)) (pc' := 96) C (w13 hw) d2_94 rfl ?_
  refine Wk.imul (pc' := 97) C d2_96 rfl ?_
  refine Wk.istoreV (fun v135 => #[.val (.ref r0), .val (.int (10 : Int32)), .val (.int v130), .val (.int (8 : Int32)), .val (.int (0 : Int32)), .val (.int v135)]) (pc' := 99) C d2_97 rfl rfl ?_
  intro v135 hv135
  refine Wk.iloadN (pc' := 100) C d2_99 rfl rfl ?_
  refine Wk.ldcInt (z := (1540483477 : Int32)) (pc' := 102) C (w13 hw) d2_100 rfl ?_
  refine Wk.imul (pc' := 103) C d2_102 rfl ?_
  refine Wk.istoreNV (fun v136 => #[.val (.ref r0), .val (.int (10 : Int32)), .val (.int v136), .val (.int (8 : Int32)), .val (.int (0 : Int32)), .val (.int v135)]) (pc' := 104) C d2_103 rfl rfl ?_
  intro v136 hv136
  refine Wk.iloadN (pc' := 105) C d2_104 rfl rfl ?_
  refine Wk.iload (pc' := 107) C d2_105 rfl rfl ?_
  refine Wk.ixor (pc' := 108) C d2_107 rfl ?_
  refine Wk.istoreNV (fun v137 => #[.val (.ref r0), .val (.int (10 : Int32)), .val (.int v137), .val (.int (8 : Int32)), .val (.int (0 : Int32)), .val (.int v135)]) (pc' := 109) C d2_108 rfl rfl ?_
  intro v137 hv137
  refine Wk.iinc (z := (4 : Int32)) (Ls' := #[.val (.ref r0), .val (.int (10 : Int32)), .val (.int v137), .val (.int (8 : Int32)), .val (.int (4 : Int32)), .val (.int v135)]) (pc' := 112) C d2_109 rfl (by decide) rfl rfl ?_
  refine Wk.goto (pc' := 17) C d2_112 (by decide) (by decide) ?_
  refine Wk.iload (pc' := 19) C d2_17 rfl rfl ?_
  refine Wk.iloadN (pc' := 20) C d2_19 rfl rfl ?_
  refine Wk.icmp_ge (pcT := 115) (pcF := 23) C d2_20 (by decide) (by decide) rfl (fun q => absurd q (by decide)) (fun _ => ?_)
  refine Wk.aloadN (pc' := 24) C d2_23 rfl rfl rfl ?_
  refine Wk.iload (pc' := 26) C d2_24 rfl rfl ?_
  refine Wk.baload (pc' := 27) (q := q) (i := 4) C d2_26 hq (by decide) (by decide) rfl ?_
  refine Wk.sipush (z := (255 : Int32)) (pc' := 30) C d2_27 rfl rfl ?_
  refine Wk.iand (pc' := 31) C d2_30 rfl ?_
  refine Wk.aloadN (pc' := 32) C d2_31 rfl rfl rfl ?_
  refine Wk.iload (pc' := 34) C d2_32 rfl rfl ?_
  refine Wk.iconst (z := (1 : Int32)) (pc' := 35) C d2_34 rfl rfl ?_
  refine Wk.iadd (pc' := 36) C d2_35 rfl ?_
  refine Wk.baload (pc' := 37) (q := q) (i := 5) C d2_36 hq (by decide) (by decide) rfl ?_
  refine Wk.sipush (z := (255 : Int32)) (pc' := 40) C d2_37 rfl rfl ?_
  refine Wk.iand (pc' := 41) C d2_40 rfl ?_
  refine Wk.bipush (z := (8 : Int32)) (pc' := 43) C d2_41 rfl rfl ?_
  refine Wk.ishl (pc' := 44) C d2_43 rfl ?_
  refine Wk.ior (pc' := 45) C d2_44 rfl ?_
  refine Wk.aloadN (pc' := 46) C d2_45 rfl rfl rfl ?_
  refine Wk.iload (pc' := 48) C d2_46 rfl rfl ?_
  refine Wk.iconst (z := (2 : Int32)) (pc' := 49) C d2_48 rfl rfl ?_
  refine Wk.iadd (pc' := 50) C d2_49 rfl ?_
  refine Wk.baload (pc' := 51) (q := q) (i := 6) C d2_50 hq (by decide) (by decide) rfl ?_
  refine Wk.sipush (z := (255 : Int32)) (pc' := 54) C d2_51 rfl rfl ?_
  refine Wk.iand (pc' := 55) C d2_54 rfl ?_
  refine Wk.bipush (z := (16 : Int32)) (pc' := 57) C d2_55 rfl rfl ?_
  refine Wk.ishl (pc' := 58) C d2_57 rfl ?_
  refine Wk.ior (pc' := 59) C d2_58 rfl ?_
  refine Wk.aloadN (pc' := 60) C d2_59 rfl rfl rfl ?_
  refine Wk.iload (pc' := 62) C d2_60 rfl rfl ?_
  refine Wk.iconst (z := (3 : Int32)) (pc' := 63) C d2_62 rfl rfl ?_
  refine Wk.iadd (pc' := 64) C d2_63 rfl ?_
  refine Wk.baload (pc' := 65) (q := q) (i := 7) C d2_64 hq (by decide) (by decide) rfl ?_
  refine Wk.sipush (z := (255 : Int32)) (pc' := 68) C d2_65 rfl rfl ?_
  refine Wk.iand (pc' := 69) C d2_68 rfl ?_
  refine Wk.bipush (z := (24 : Int32)) (pc' := 71) C d2_69 rfl rfl ?_
  refine Wk.ishl (pc' := 72) C d2_71 rfl ?_
  refine Wk.ior (pc' := 73) C d2_72 rfl ?_
  refine Wk.istoreV (fun v138 => #[.val (.ref r0), .val (.int (10 : Int32)), .val (.int v137), .val (.int (8 : Int32)), .val (.int (4 : Int32)), .val (.int v138)]) (pc' := 75) C d2_73 rfl rfl ?_
  intro v138 hv138
  refine Wk.iload (pc' := 77) C d2_75 rfl rfl ?_
  refine Wk.ldcInt (z := (1540483477 : Int32)) (pc' := 79) C (w13 hw) d2_77 rfl ?_
  refine Wk.imul (pc' := 80) C d2_79 rfl ?_
  refine Wk.istoreV (fun v139 => #[.val (.ref r0), .val (.int (10 : Int32)), .val (.int v137), .val (.int (8 : Int32)), .val (.int (4 : Int32)), .val (.int v139)]) (pc' := 82) C d2_80 rfl rfl ?_
  intro v139 hv139
  refine Wk.iload (pc' := 84) C d2_82 rfl rfl ?_
  refine Wk.iload (pc' := 86) C d2_84 rfl rfl ?_
  refine Wk.bipush (z := (24 : Int32)) (pc' := 88) C d2_86 rfl rfl ?_
  refine Wk.iushr (pc' := 89) C d2_88 rfl ?_
  refine Wk.ixor (pc' := 90) C d2_89 rfl ?_
  refine Wk.istoreV (fun v140 => #[.val (.ref r0), .val (.int (10 : Int32)), .val (.int v137), .val (.int (8 : Int32)), .val (.int (4 : Int32)), .val (.int v140)]) (pc' := 92) C d2_90 rfl rfl ?_
  intro v140 hv140
  refine Wk.iload (pc' := 94) C d2_92 rfl rfl ?_
  refine Wk.ldcInt (z := (1540483477 : Int32)) (pc' := 96) C (w13 hw) d2_94 rfl ?_
  refine Wk.imul (pc' := 97) C d2_96 rfl ?_
  refine Wk.istoreV (fun v141 => #[.val (.ref r0), .val (.int (10 : Int32)), .val (.int v137), .val (.int (8 : Int32)), .val (.int (4 : Int32)), .val (.int v141)]) (pc' := 99) C d2_97 rfl rfl ?_
  intro v141 hv141
  refine Wk.iloadN (pc' := 100) C d2_99 rfl rfl ?_
  refine Wk.ldcInt (z := (1540483477 : Int32)) (pc' := 102) C (w13 hw) d2_100 rfl ?_
  refine Wk.imul (pc' := 103) C d2_102 rfl ?_
  refine Wk.istoreNV (fun v142 => #[.val (.ref r0), .val (.int (10 : Int32)), .val (.int v142), .val (.int (8 : Int32)), .val (.int (4 : Int32)), .val (.int v141)]) (pc' := 104) C d2_103 rfl rfl ?_
  intro v142 hv142
  refine Wk.iloadN (pc' := 105) C d2_104 rfl rfl ?_
  refine Wk.iload (pc' := 107) C d2_105 rfl rfl ?_
  refine Wk.ixor (pc' := 108) C d2_107 rfl ?_
  refine Wk.istoreNV (fun v143 => #[.val (.ref r0), .val (.int (10 : Int32)), .val (.int v143), .val (.int (8 : Int32)), .val (.int (4 : Int32)), .val (.int v141)]) (pc' := 109) C d2_108 rfl rfl ?_
  intro v143 hv143
  refine Wk.iinc (z := (8 : Int32)) (Ls' := #[.val (.ref r0), .val (.int (10 : Int32)), .val (.int v143), .val (.int (8 : Int32)), .val (.int (8 : Int32)), .val (.int v141)]) (pc' := 112) C d2_109 rfl (by decide) rfl rfl ?_
  refine Wk.goto (pc' := 17) C d2_112 (by decide) (by decide) ?_
  refine Wk.iload (pc' := 19) C d2_17 rfl rfl ?_
  refine Wk.iloadN (pc' := 20) C d2_19 rfl rfl ?_
  refine Wk.icmp_ge (pcT := 115) (pcF := 23) C d2_20 (by decide) (by decide) rfl (fun _ => ?_) (fun q => absurd q (by decide))
  refine Wk.iloadN (pc' := 116) C d2_115 rfl rfl ?_
  refine Wk.iloadN (pc' := 117) C d2_116 rfl rfl ?_
  refine Wk.isub (pc' := 118) C d2_117 rfl ?_
  refine Wk.istoreV (fun v144 => #[.val (.ref r0), .val (.int (10 : Int32)), .val (.int v143), .val (.int (8 : Int32)), .val (.int v144), .val (.int v141)]) (pc' := 120) C d2_118 rfl rfl ?_
  intro v144 hv144
  obtain rfl : v144 = (2 : Int32) := hv144.trans (by decide)
  refine Wk.iload (pc' := 122) C d2_120 rfl rfl ?_
  refine Wk.if_le (pcT := 182) (pcF := 125) C d2_122 (by decide) (by decide) rfl (fun q => absurd q (by decide)) (fun _ => ?_)
  refine Wk.iload (pc' := 127) C d2_125 rfl rfl ?_
  refine Wk.iconst (z := (3 : Int32)) (pc' := 128) C d2_127 rfl rfl ?_
  refine Wk.icmp_ne (pcT := 146) (pcF := 131) C d2_128 (by decide) (by decide) rfl (fun _ => ?_) (fun q => absurd q (by decide))
  refine Wk.iload (pc' := 148) C d2_146 rfl rfl ?_
  refine Wk.iconst (z := (2 : Int32)) (pc' := 149) C d2_148 rfl rfl ?_
  refine Wk.icmp_lt (pcT := 167) (pcF := 152) C d2_149 (by decide) (by decide) rfl (fun q => absurd q (by decide)) (fun _ => ?_)
  refine Wk.iloadN (pc' := 153) C d2_152 rfl rfl ?_
  refine Wk.aloadN (pc' := 154) C d2_153 rfl rfl rfl ?_
  refine Wk.iloadN (pc' := 155) C d2_154 rfl rfl ?_
  refine Wk.iconst (z := (1 : Int32)) (pc' := 156) C d2_155 rfl rfl ?_
  refine Wk.iadd (pc' := 157) C d2_156 rfl ?_
  refine Wk.baload (pc' := 158) (q := q) (i := 9) C d2_157 hq (by decide) (by decide) rfl ?_
  refine Wk.sipush (z := (255 : Int32)) (pc' := 161) C d2_158 rfl rfl ?_
  refine Wk.iand (pc' := 162) C d2_161 rfl ?_
  refine Wk.bipush (z := (8 : Int32)) (pc' := 164) C d2_162 rfl rfl ?_
  refine Wk.ishl (pc' := 165) C d2_164 rfl ?_
  refine Wk.ixor (pc' := 166) C d2_165 rfl ?_
  refine Wk.istoreNV (fun v145 => #[.val (.ref r0), .val (.int (10 : Int32)), .val (.int v145), .val (.int (8 : Int32)), .val (.int (2 : Int32)), .val (.int v141)]) (pc' := 167) C d2_166 rfl rfl ?_
  intro v145 hv145
  refine Wk.iloadN (pc' := 168) C d2_167 rfl rfl ?_
  refine Wk.aloadN (pc' := 169) C d2_168 rfl rfl rfl ?_
  refine Wk.iloadN (pc' := 170) C d2_169 rfl rfl ?_
  refine Wk.baload (pc' := 171) (q := q) (i := 8) C d2_170 hq (by decide) (by decide) rfl ?_
  refine Wk.sipush (z := (255 : Int32)) (pc' := 174) C d2_171 rfl rfl ?_
  refine Wk.iand (pc' := 175) C d2_174 rfl ?_
  refine Wk.ixor (pc' := 176) C d2_175 rfl ?_
  refine Wk.istoreNV (fun v146 => #[.val (.ref r0), .val (.int (10 : Int32)), .val (.int v146), .val (.int (8 : Int32)), .val (.int (2 : Int32)), .val (.int v141)]) (pc' := 177) C d2_176 rfl rfl ?_
  intro v146 hv146
  refine Wk.iloadN (pc' := 178) C d2_177 rfl rfl ?_
  refine Wk.ldcInt (z := (1540483477 : Int32)) (pc' := 180) C (w13 hw) d2_178 rfl ?_
  refine Wk.imul (pc' := 181) C d2_180 rfl ?_
  refine Wk.istoreNV (fun v147 => #[.val (.ref r0), .val (.int (10 : Int32)), .val (.int v147), .val (.int (8 : Int32)), .val (.int (2 : Int32)), .val (.int v141)]) (pc' := 182) C d2_181 rfl rfl ?_
  intro v147 hv147
  refine Wk.iloadN (pc' := 183) C d2_182 rfl rfl ?_
  refine Wk.iloadN (pc' := 184) C d2_183 rfl rfl ?_
  refine Wk.bipush (z := (13 : Int32)) (pc' := 186) C d2_184 rfl rfl ?_
  refine Wk.iushr (pc' := 187) C d2_186 rfl ?_
  refine Wk.ixor (pc' := 188) C d2_187 rfl ?_
  refine Wk.istoreNV (fun v148 => #[.val (.ref r0), .val (.int (10 : Int32)), .val (.int v148), .val (.int (8 : Int32)), .val (.int (2 : Int32)), .val (.int v141)]) (pc' := 189) C d2_188 rfl rfl ?_
  intro v148 hv148
  refine Wk.iloadN (pc' := 190) C d2_189 rfl rfl ?_
  refine Wk.ldcInt (z := (1540483477 : Int32)) (pc' := 192) C (w13 hw) d2_190 rfl ?_
  refine Wk.imul (pc' := 193) C d2_192 rfl ?_
  refine Wk.istoreNV (fun v149 => #[.val (.ref r0), .val (.int (10 : Int32)), .val (.int v149), .val (.int (8 : Int32)), .val (.int (2 : Int32)), .val (.int v141)]) (pc' := 194) C d2_193 rfl rfl ?_
  intro v149 hv149
  refine Wk.iloadN (pc' := 195) C d2_194 rfl rfl ?_
  refine Wk.iloadN (pc' := 196) C d2_195 rfl rfl ?_
  refine Wk.bipush (z := (15 : Int32)) (pc' := 198) C d2_196 rfl rfl ?_
  refine Wk.iushr (pc' := 199) C d2_198 rfl ?_
  refine Wk.ixor (pc' := 200) C d2_199 rfl ?_
  refine Wk.istoreNV (fun v150 => #[.val (.ref r0), .val (.int (10 : Int32)), .val (.int v150), .val (.int (8 : Int32)), .val (.int (2 : Int32)), .val (.int v141)]) (pc' := 201) C d2_200 rfl rfl ?_
  intro v150 hv150
  refine Wk.iloadN (pc' := 202) C d2_201 rfl rfl ?_
  have hres : v150 = G10 f := by
    subst hv150 hv149 hv148 hv147 hv146 hv145 hv143 hv142 hv141 hv140 hv139 hv138 hv137 hv136 hv135 hv134 hv133 hv132 hv130
    rfl
  exact Wk.retI C J d2_202 (by decide) (by decide) (fun h O => ⟨by rw [hres], O⟩)
def G11 (f : Nat → Int32) : Int32 := fin (((((rnd (rnd ((-1756908916 : Int32) ^^^ (11 : Int32)) (wd f 0)) (wd f 4)) ^^^ ((f 10 &&& (255 : Int32)) <<< ((16 : Int32) &&& 31))) ^^^ ((f 9 &&& (255 : Int32)) <<< ((8 : Int32) &&& 31))) ^^^ (f 8 &&& (255 : Int32))) * (1540483477 : Int32))
theorem ef_rm2_11 (m : MethodId) (r0 : Addr) : entryFrame m #[.ref r0] 6 = mkF m 0 #[.val (.ref r0), .unset, .unset, .unset, .unset, .unset] [] := by first | (simp [entryFrame, mkF, argsToLocals, Value.category]; done) | rfl
set_option maxRecDepth 65536 in
set_option maxHeartbeats 40000000 in
theorem rm2_11 (l : Launch) (Z : State) (a0 : Array Value) (hw : HW Z a0) (r0 : Addr) (L : List (Addr × (Cell → Prop))) (q : Nat) (f : Nat → Int32) (h : Heap) (n0 : Nat) (O : Own n0 h L) (hq : L[q]? = some (r0, ArrC Z .byte 11 f)) :
    Meth l Z (⟨"com/example/onlyonce/onlyonce/Partitioner", "murmur2", "([B)I"⟩ : MethodName) prog_55_method_3_code 6 (some .int) [] ({ frames := 0, cells := 0, slots := 0, locals := 0 } : Room) #[.ref r0] h n0 (fun v h' => v = some (.int (G11 f)) ∧ Own n0 h' L) := by
  refine Meth.of (plainFor_of_name pn_1) (fun m => ef_rm2_11 m r0) O ?_
  intro p e m below meth c M FE C J
  change Cx Z "com/example/onlyonce/onlyonce/Partitioner" "murmur2" prog_55_method_3_code 6 (some .int) p m meth c M at C
  clear O
  refine Wk.aloadN (pc' := 1) C d2_0 rfl rfl rfl ?_
  refine Wk.arraylength (pc' := 2) (q := q) (z := (11 : Int32)) C d2_1 hq (fun _ A => ⟨A.1, A.2.2.1⟩) rfl rfl ?_
  refine Wk.istoreN (Ls' := #[.val (.ref r0), .val (.int (11 : Int32)), .unset, .unset, .unset, .unset]) (pc' := 3) C d2_2 rfl rfl ?_
  refine Wk.ldcInt (z := (-1756908916 : Int32)) (pc' := 5) C (w12 hw) d2_3 rfl ?_
  refine Wk.iloadN (pc' := 6) C d2_5 rfl rfl ?_
  refine Wk.ixor (pc' := 7) C d2_6 rfl ?_
  refine Wk.istoreNV (fun v151 => #[.val (.ref r0), .val (.int (11 : Int32)), .val (.int v151), .unset, .unset, .unset]) (pc' := 8) C d2_7 rfl rfl ?_
  intro v151 hv151
  refine Wk.iloadN (pc' := 9) C d2_8 rfl rfl ?_
  refine Wk.iloadN (pc' := 10) C d2_9 rfl rfl ?_
  refine Wk.iconst (z := (4 : Int32)) (pc' := 11) C d2_10 rfl rfl ?_
  refine Wk.irem (pc' := 12) C d2_11 (by decide) rfl ?_
  refine Wk.isub (pc' := 13) C d2_12 rfl ?_
  refine Wk.istoreNV (fun v152 => #[.val (.ref r0), .val (.int (11 : Int32)), .val (.int v151), .val (.int v152), .unset, .unset]) (pc' := 14) C d2_13 rfl rfl ?_
  intro v152 hv152
  obtain rfl : v152 = (8 : Int32) := hv152.trans (by decide)
  refine Wk.iconst (z := (0 : Int32)) (pc' := 15) C d2_14 rfl rfl ?_
  refine Wk.istore (Ls' := #[.val (.ref r0), .val (.int (11 : Int32)), .val (.int v151), .val (.int (8 : Int32)), .val (.int (0 : Int32)), .unset]) (pc' := 17) C d2_15 rfl rfl ?_
  refine Wk.iload (pc' := 19) C d2_17 rfl rfl ?_
  refine Wk.iloadN (pc' := 20) C d2_19 rfl rfl ?_
  refine Wk.icmp_ge (pcT := 115) (pcF := 23) C d2_20 (by decide) (by decide) rfl (fun q => absurd q (by decide)) (fun _ => ?_)
  refine Wk.aloadN (pc' := 24) C d2_23 rfl rfl rfl ?_
  refine Wk.iload (pc' := 26) C d2_24 rfl rfl ?_
  refine Wk.baload (pc' := 27) (q := q) (i := 0) C d2_26 hq (by decide) (by decide) rfl ?_
  refine Wk.sipush (z := (255 : Int32)) (pc' := 30) C d2_27 rfl rfl ?_
  refine Wk.iand (pc' := 31) C d2_30 rfl ?_
  refine Wk.aloadN (pc' := 32) C d2_31 rfl rfl rfl ?_
  refine Wk.iload (pc' := 34) C d2_32 rfl rfl ?_
  refine Wk.iconst (z := (1 : Int32)) (pc' := 35) C d2_34 rfl rfl ?_
  refine Wk.iadd (pc' := 36) C d2_35 rfl ?_
  refine Wk.baload (pc' := 37) (q := q) (i := 1) C d2_36 hq (by decide) (by decide) rfl ?_
  refine Wk.sipush (z := (255 : Int32)) (pc' := 40) C d2_37 rfl rfl ?_
  refine Wk.iand (pc' := 41) C d2_40 rfl ?_
  refine Wk.bipush (z := (8 : Int32)) (pc' := 43) C d2_41 rfl rfl ?_
  refine Wk.ishl (pc' := 44) C d2_43 rfl ?_
  refine Wk.ior (pc' := 45) C d2_44 rfl ?_
  refine Wk.aloadN (pc' := 46) C d2_45 rfl rfl rfl ?_
  refine Wk.iload (pc' := 48) C d2_46 rfl rfl ?_
  refine Wk.iconst (z := (2 : Int32)) (pc' := 49) C d2_48 rfl rfl ?_
  refine Wk.iadd (pc' := 50) C d2_49 rfl ?_
  refine Wk.baload (pc' := 51) (q := q) (i := 2) C d2_50 hq (by decide) (by decide) rfl ?_
  refine Wk.sipush (z := (255 : Int32)) (pc' := 54) C d2_51 rfl rfl ?_
  refine Wk.iand (pc' := 55) C d2_54 rfl ?_
  refine Wk.bipush (z := (16 : Int32)) (pc' := 57) C d2_55 rfl rfl ?_
  refine Wk.ishl (pc' := 58) C d2_57 rfl ?_
  refine Wk.ior (pc' := 59) C d2_58 rfl ?_
  refine Wk.aloadN (pc' := 60) C d2_59 rfl rfl rfl ?_
  refine Wk.iload (pc' := 62) C d2_60 rfl rfl ?_
  refine Wk.iconst (z := (3 : Int32)) (pc' := 63) C d2_62 rfl rfl ?_
  refine Wk.iadd (pc' := 64) C d2_63 rfl ?_
  refine Wk.baload (pc' := 65) (q := q) (i := 3) C d2_64 hq (by decide) (by decide) rfl ?_
  refine Wk.sipush (z := (255 : Int32)) (pc' := 68) C d2_65 rfl rfl ?_
  refine Wk.iand (pc' := 69) C d2_68 rfl ?_
  refine Wk.bipush (z := (24 : Int32)) (pc' := 71) C d2_69 rfl rfl ?_
  refine Wk.ishl (pc' := 72) C d2_71 rfl ?_
  refine Wk.ior (pc' := 73) C d2_72 rfl ?_
  refine Wk.istoreV (fun v153 => #[.val (.ref r0), .val (.int (11 : Int32)), .val (.int v151), .val (.int (8 : Int32)), .val (.int (0 : Int32)), .val (.int v153)]) (pc' := 75) C d2_73 rfl rfl ?_
  intro v153 hv153
  refine Wk.iload (pc' := 77) C d2_75 rfl rfl ?_
  refine Wk.ldcInt (z := (1540483477 : Int32)) (pc' := 79) C (w13 hw) d2_77 rfl ?_
  refine Wk.imul (pc' := 80) C d2_79 rfl ?_
  refine Wk.istoreV (fun v154 => #[.val (.ref r0), .val (.int (11 : Int32)), .val (.int v151), .val (.int (8 : Int32)), .val (.int (0 : Int32)), .val (.int v154)]) (pc' := 82) C d2_80 rfl rfl ?_
  intro v154 hv154
  refine Wk.iload (pc' := 84) C d2_82 rfl rfl ?_
  refine Wk.iload (pc' := 86) C d2_84 rfl rfl ?_
  refine Wk.bipush (z := (24 : Int32)) (pc' := 88) C d2_86 rfl rfl ?_
  refine Wk.iushr (pc' := 89) C d2_88 rfl ?_
  refine Wk.ixor (pc' := 90) C d2_89 rfl ?_
  refine Wk.istoreV (fun v155 => #[.val (.ref r0), .val (.int (11 : Int32)), .val (.int v151), .val (.int (8 : Int32)), .val (.int (0 : Int32)), .val (.int v155)]) (pc' := 92) C d2_90 rfl rfl ?_
  intro v155 hv155
  refine Wk.iload (pc' := 94) C d2_92 rfl rfl ?_
  refine Wk.ldcInt (z := (1540483477 : Int32)) (pc' := 96) C (w13 hw) d2_94 rfl ?_
  refine Wk.imul (pc' := 97) C d2_96 rfl ?_
  refine Wk.istoreV (fun v156 => #[.val (.ref r0), .val (.int (11 : Int32)), .val (.int v151), .val (.int (8 : Int32)), .val (.int (0 : Int32)), .val (.int v156)]) (pc' := 99) C d2_97 rfl rfl ?_
  intro v156 hv156
  refine Wk.iloadN (pc' := 100) C d2_99 rfl rfl ?_
  refine Wk.ldcInt (z := (1540483477 : Int32)) (pc' := 102) C (w13 hw) d2_100 rfl ?_
  refine Wk.imul (pc' := 103) C d2_102 rfl ?_
  refine Wk.istoreNV (fun v157 => #[.val (.ref r0), .val (.int (11 : Int32)), .val (.int v157), .val (.int (8 : Int32)), .val (.int (0 : Int32)), .val (.int v156)]) (pc' := 104) C d2_103 rfl rfl ?_
  intro v157 hv157
  refine Wk.iloadN (pc' := 105) C d2_104 rfl rfl ?_
  refine Wk.iload (pc' := 107) C d2_105 rfl rfl ?_
  refine Wk.ixor (pc' := 108) C d2_107 rfl ?_
  refine Wk.istoreNV (fun v158 => #[.val (.ref r0), .val (.int (11 : Int32)), .val (.int v158), .val (.int (8 : Int32)), .val (.int (0 : Int32)), .val (.int v156)]) (pc' := 109) C d2_108 rfl rfl ?_
  intro v158 hv158
  refine Wk.iinc (z := (4 : Int32)) (Ls' := #[.val (.ref r0), .val (.int (11 : Int32)), .val (.int v158), .val (.int (8 : Int32)), .val (.int (4 : Int32)), .val (.int v156)]) (pc' := 112) C d2_109 rfl (by decide) rfl rfl ?_
  refine Wk.goto (pc' := 17) C d2_112 (by decide) (by decide) ?_
  refine Wk.iload (pc' := 19) C d2_17 rfl rfl ?_
  refine Wk.iloadN (pc' := 20) C d2_19 rfl rfl ?_
  refine Wk.icmp_ge (pcT := 115) (pcF := 23) C d2_20 (by decide) (by decide) rfl (fun q => absurd q (by decide)) (fun _ => ?_)
  refine Wk.aloadN (pc' := 24) C d2_23 rfl rfl rfl ?_
  refine Wk.iload (pc' := 26) C d2_24 rfl rfl ?_
  refine Wk.baload (pc' := 27) (q := q) (i := 4) C d2_26 hq (by decide) (by decide) rfl ?_
  refine Wk.sipush (z := (255 : Int32)) (pc' := 30) C d2_27 rfl rfl ?_
  refine Wk.iand (pc' := 31) C d2_30 rfl ?_
  refine Wk.aloadN (pc' := 32) C d2_31 rfl rfl rfl ?_
  refine Wk.iload (pc' := 34) C d2_32 rfl rfl ?_
  refine Wk.iconst (z := (1 : Int32)) (pc' := 35) C d2_34 rfl rfl ?_
  refine Wk.iadd (pc' := 36) C d2_35 rfl ?_
  refine Wk.baload (pc' := 37) (q := q) (i := 5) C d2_36 hq (by decide) (by decide) rfl ?_
  refine Wk.sipush (z := (255 : Int32)) (pc' := 40) C d2_37 rfl rfl ?_
  refine Wk.iand (pc' := 41) C d2_40 rfl ?_
  refine Wk.bipush (z := (8 : Int32)) (pc' := 43) C d2_41 rfl rfl ?_
  refine Wk.ishl (pc' := 44) C d2_43 rfl ?_
  refine Wk.ior (pc' := 45) C d2_44 rfl ?_
  refine Wk.aloadN (pc' := 46) C d2_45 rfl rfl rfl ?_
  refine Wk.iload (pc' := 48) C d2_46 rfl rfl ?_
  refine Wk.iconst (z := (2 : Int32)) (pc' := 49) C d2_48 rfl rfl ?_
  refine Wk.iadd (pc' := 50) C d2_49 rfl ?_
  refine Wk.baload (pc' := 51) (q := q) (i := 6) C d2_50 hq (by decide) (by decide) rfl ?_
  refine Wk.sipush (z := (255 : Int32)) (pc' := 54) C d2_51 rfl rfl ?_
  refine Wk.iand (pc' := 55) C d2_54 rfl ?_
  refine Wk.bipush (z := (16 : Int32)) (pc' := 57) C d2_55 rfl rfl ?_
  refine Wk.ishl (pc' := 58) C d2_57 rfl ?_
  refine Wk.ior (pc' := 59) C d2_58 rfl ?_
  refine Wk.aloadN (pc' := 60) C d2_59 rfl rfl rfl ?_
  refine Wk.iload (pc' := 62) C d2_60 rfl rfl ?_
  refine Wk.iconst (z := (3 : Int32)) (pc' := 63) C d2_62 rfl rfl ?_
  refine Wk.iadd (pc' := 64) C d2_63 rfl ?_
  refine Wk.baload (pc' := 65) (q := q) (i := 7) C d2_64 hq (by decide) (by decide) rfl ?_
  refine Wk.sipush (z := (255 : Int32)) (pc' := 68) C d2_65 rfl rfl ?_
  refine Wk.iand (pc' := 69) C d2_68 rfl ?_
  refine Wk.bipush (z := (24 : Int32)) (pc' := 71) C d2_69 rfl rfl ?_
  refine Wk.ishl (pc' := 72) C d2_71 rfl ?_
  refine Wk.ior (pc' := 73) C d2_72 rfl ?_
  refine Wk.istoreV (fun v159 => #[.val (.ref r0), .val (.int (11 : Int32)), .val (.int v158), .val (.int (8 : Int32)), .val (.int (4 : Int32)), .val (.int v159)]) (pc' := 75) C d2_73 rfl rfl ?_
  intro v159 hv159
  refine Wk.iload (pc' := 77) C d2_75 rfl rfl ?_
  refine Wk.ldcInt (z := (1540483477 : Int32)) (pc' := 79) C (w13 hw) d2_77 rfl ?_
  refine Wk.imul (pc' := 80) C d2_79 rfl ?_
  refine Wk.istoreV (fun v160 => #[.val (.ref r0), .val (.int (11 : Int32)), .val (.int v158), .val (.int (8 : Int32)), .val (.int (4 : Int32)), .val (.int v160)]) (pc' := 82) C d2_80 rfl rfl ?_
  intro v160 hv160
  refine Wk.iload (pc' := 84) C d2_82 rfl rfl ?_
  refine Wk.iload (pc' := 86) C d2_84 rfl rfl ?_
  refine Wk.bipush (z := (24 : Int32)) (pc' := 88) C d2_86 rfl rfl ?_
  refine Wk.iushr (pc' := 89) C d2_88 rfl ?_
  refine Wk.ixor (pc' := 90) C d2_89 rfl ?_
  refine Wk.istoreV (fun v161 => #[.val (.ref r0), .val (.int (11 : Int32)), .val (.int v158), .val (.int (8 : Int32)), .val (.int (4 : Int32)), .val (.int v161)]) (pc' := 92) C d2_90 rfl rfl ?_
  intro v161 hv161
  refine Wk.iload (pc' := 94) C d2_92 rfl rfl ?_
  refine Wk.ldcInt (z := (1540483477 : Int32)) (pc' := 96) C (w13 hw) d2_94 rfl ?_
  refine Wk.imul (pc' := 97) C d2_96 rfl ?_
  refine Wk.istoreV (fun v162 => #[.val (.ref r0), .val (.int (11 : Int32)), .val (.int v158), .val (.int (8 : Int32)), .val (.int (4 : Int32)), .val (.int v162)]) (pc' := 99) C d2_97 rfl rfl ?_
  intro v162 hv162
  refine Wk.iloadN (pc' := 100) C d2_99 rfl rfl ?_
  refine Wk.ldcInt (z := (1540483477 : Int32)) (pc' := 102) C (w13 hw) d2_100 rfl ?_
  refine Wk.imul (pc' := 103) C d2_102 rfl ?_
  refine Wk.istoreNV (fun v163 => #[.val (.ref r0), .val (.int (11 : Int32)), .val (.int v163), .val (.int (8 : Int32)), .val (.int (4 : Int32)), .val (.int v162)]) (pc' := 104) C d2_103 rfl rfl ?_
  intro v163 hv163
  refine Wk.iloadN (pc' := 105) C d2_104 rfl rfl ?_
  refine Wk.iload (pc' := 107) C d2_105 rfl rfl ?_
  refine Wk.ixor (pc' := 108) C d2_107 rfl ?_
  refine Wk.istoreNV (fun v164 => #[.val (.ref r0), .val (.int (11 : Int32)), .val (.int v164), .val (.int (8 : Int32)), .val (.int (4 : Int32)), .val (.int v162)]) (pc' := 109) C d2_108 rfl rfl ?_
  intro v164 hv164
  refine Wk.iinc (z := (8 : Int32)) (Ls' := #[.val (.ref r0), .val (.int (11 : Int32)), .val (.int v164), .val (.int (8 : Int32)), .val (.int (8 : Int32)), .val (.int v162)]) (pc' := 112) C d2_109 rfl (by decide) rfl rfl ?_
  refine Wk.goto (pc' := 17) C d2_112 (by decide) (by decide) ?_
  refine Wk.iload (pc' := 19) C d2_17 rfl rfl ?_
  refine Wk.iloadN (pc' := 20) C d2_19 rfl rfl ?_
  refine Wk.icmp_ge (pcT := 115) (pcF := 23) C d2_20 (by decide) (by decide) rfl (fun _ => ?_) (fun q => absurd q (by decide))
  refine Wk.iloadN (pc' := 116) C d2_115 rfl rfl ?_
  refine Wk.iloadN (pc' := 117) C d2_116 rfl rfl ?_
  refine Wk.isub (pc' := 118) C d2_117 rfl ?_
  refine Wk.istoreV (fun v165 => #[.val (.ref r0), .val (.int (11 : Int32)), .val (.int v164), .val (.int (8 : Int32)), .val (.int v165), .val (.int v162)]) (pc' := 120) C d2_118 rfl rfl ?_
  intro v165 hv165
  obtain rfl : v165 = (3 : Int32) := hv165.trans (by decide)
  refine Wk.iload (pc' := 122) C d2_120 rfl rfl ?_
  refine Wk.if_le (pcT := 182) (pcF := 125) C d2_122 (by decide) (by decide) rfl (fun q => absurd q (by decide)) (fun _ => ?_)
  refine Wk.iload (pc' := 127) C d2_125 rfl rfl ?_
  refine Wk.iconst (z := (3 : Int32)) (pc' := 128) C d2_127 rfl rfl ?_
  refine Wk.icmp_ne (pcT := 146) (pcF := 131) C d2_128 (by decide) (by decide) rfl (fun q => absurd q (by decide)) (fun _ => ?_)
  refine Wk.iloadN (pc' := 132) C d2_131 rfl rfl ?_
  refine Wk.aloadN (pc' := 133) C d2_132 rfl rfl rfl ?_
  refine Wk.iloadN (pc' := 134) C d2_133 rfl rfl ?_
  refine Wk.iconst (z := (2 : Int32)) (pc' := 135) C d2_134 rfl rfl ?_
  refine Wk.iadd (pc' := 136) C d2_135 rfl ?_
  refine Wk.baload (pc' := 137) (q := q) (i := 10) C d2_136 hq (by decide) (by decide) rfl ?_
  refine Wk.sipush (z := (255 : Int32)) (pc' := 140) C d2_137 rfl rfl ?_
  refine Wk.iand (pc' := 141) C d2_140 rfl ?_
  refine Wk.bipush (z := (16 : Int32)) (pc' := 143) C d2_141 rfl rfl ?_
  refine Wk.ishl (pc' := 144) C d2_143 rfl ?_
  refine Wk.ixor (pc' := 145) C d2_144 rfl ?_
  refine Wk.istoreNV (fun v166 => #[.val (.ref r0), .val (.int (11 : Int32)), .val (.int v166), .val (.int (8 : Int32)), .val (.int (3 : Int32)), .val (.int v162)]) (pc' := 146) C d2_145 rfl rfl ?_
  intro v166 hv166
  refine Wk.iload (pc' := 148) C d2_146 rfl rfl ?_
  refine Wk.iconst (z := (2 : Int32)) (pc' := 149) C d2_148 rfl rfl ?_
  refine Wk.icmp_lt (pcT := 167) (pcF := 152) C d2_149 (by decide) (by decide) rfl (fun q => absurd q (by decide)) (fun _ => ?_)
  refine Wk.iloadN (pc' := 153) C d2_152 rfl rfl ?_
  refine Wk.aloadN (pc' := 154) C d2_153 rfl rfl rfl ?_
  refine Wk.iloadN (pc' := 155) C d2_154 rfl rfl ?_
  refine Wk.iconst (z := (1 : Int32)) (pc' := 156) C d2_155 rfl rfl ?_
  refine Wk.iadd (pc' := 157) C d2_156 rfl ?_
  refine Wk.baload (pc' := 158) (q := q) (i := 9) C d2_157 hq (by decide) (by decide) rfl ?_
  refine Wk.sipush (z := (255 : Int32)) (pc' := 161) C d2_158 rfl rfl ?_
  refine Wk.iand (pc' := 162) C d2_161 rfl ?_
  refine Wk.bipush (z := (8 : Int32)) (pc' := 164) C d2_162 rfl rfl ?_
  refine Wk.ishl (pc' := 165) C d2_164 rfl ?_
  refine Wk.ixor (pc' := 166) C d2_165 rfl ?_
  refine Wk.istoreNV (fun v167 => #[.val (.ref r0), .val (.int (11 : Int32)), .val (.int v167), .val (.int (8 : Int32)), .val (.int (3 : Int32)), .val (.int v162)]) (pc' := 167) C d2_166 rfl rfl ?_
  intro v167 hv167
  refine Wk.iloadN (pc' := 168) C d2_167 rfl rfl ?_
  refine Wk.aloadN (pc' := 169) C d2_168 rfl rfl rfl ?_
  refine Wk.iloadN (pc' := 170) C d2_169 rfl rfl ?_
  refine Wk.baload (pc' := 171) (q := q) (i := 8) C d2_170 hq (by decide) (by decide) rfl ?_
  refine Wk.sipush (z := (255 : Int32)) (pc' := 174) C d2_171 rfl rfl ?_
  refine Wk.iand (pc' := 175) C d2_174 rfl ?_
  refine Wk.ixor (pc' := 176) C d2_175 rfl ?_
  refine Wk.istoreNV (fun v168 => #[.val (.ref r0), .val (.int (11 : Int32)), .val (.int v168), .val (.int (8 : Int32)), .val (.int (3 : Int32)), .val (.int v162)]) (pc' := 177) C d2_176 rfl rfl ?_
  intro v168 hv168
  refine Wk.iloadN (pc' := 178) C d2_177 rfl rfl ?_
  refine Wk.ldcInt (z := (1540483477 : Int32)) (pc' := 180) C (w13 hw) d2_178 rfl ?_
  refine Wk.imul (pc' := 181) C d2_180 rfl ?_
  refine Wk.istoreNV (fun v169 => #[.val (.ref r0), .val (.int (11 : Int32)), .val (.int v169), .val (.int (8 : Int32)), .val (.int (3 : Int32)), .val (.int v162)]) (pc' := 182) C d2_181 rfl rfl ?_
  intro v169 hv169
  refine Wk.iloadN (pc' := 183) C d2_182 rfl rfl ?_
  refine Wk.iloadN (pc' := 184) C d2_183 rfl rfl ?_
  refine Wk.bipush (z := (13 : Int32)) (pc' := 186) C d2_184 rfl rfl ?_
  refine Wk.iushr (pc' := 187) C d2_186 rfl ?_
  refine Wk.ixor (pc' := 188) C d2_187 rfl ?_
  refine Wk.istoreNV (fun v170 => #[.val (.ref r0), .val (.int (11 : Int32)), .val (.int v170), .val (.int (8 : Int32)), .val (.int (3 : Int32)), .val (.int v162)]) (pc' := 189) C d2_188 rfl rfl ?_
  intro v170 hv170
  refine Wk.iloadN (pc' := 190) C d2_189 rfl rfl ?_
  refine Wk.ldcInt (z := (1540483477 : Int32)) (pc' := 192) C (w13 hw) d2_190 rfl ?_
  refine Wk.imul (pc' := 193) C d2_192 rfl ?_
  refine Wk.istoreNV (fun v171 => #[.val (.ref r0), .val (.int (11 : Int32)), .val (.int v171), .val (.int (8 : Int32)), .val (.int (3 : Int32)), .val (.int v162)]) (pc' := 194) C d2_193 rfl rfl ?_
  intro v171 hv171
  refine Wk.iloadN (pc' := 195) C d2_194 rfl rfl ?_
  refine Wk.iloadN (pc' := 196) C d2_195 rfl rfl ?_
  refine Wk.bipush (z := (15 : Int32)) (pc' := 198) C d2_196 rfl rfl ?_
  refine Wk.iushr (pc' := 199) C d2_198 rfl ?_
  refine Wk.ixor (pc' := 200) C d2_199 rfl ?_
  refine Wk.istoreNV (fun v172 => #[.val (.ref r0), .val (.int (11 : Int32)), .val (.int v172), .val (.int (8 : Int32)), .val (.int (3 : Int32)), .val (.int v162)]) (pc' := 201) C d2_200 rfl rfl ?_
  intro v172 hv172
  refine Wk.iloadN (pc' := 202) C d2_201 rfl rfl ?_
  have hres : v172 = G11 f := by
    subst hv172 hv171 hv170 hv169 hv168 hv167 hv166 hv164 hv163 hv162 hv161 hv160 hv159 hv158 hv157 hv156 hv155 hv154 hv153 hv151
    rfl
  exact Wk.retI C J d2_202 (by decide) (by decide) (fun h O => ⟨by rw [hres], O⟩)
def G12 (f : Nat → Int32) : Int32 := fin (rnd (rnd (rnd ((-1756908916 : Int32) ^^^ (12 : Int32)) (wd f 0)) (wd f 4)) (wd f 8))
theorem ef_rm2_12 (m : MethodId) (r0 : Addr) : entryFrame m #[.ref r0] 6 = mkF m 0 #[.val (.ref r0), .unset, .unset, .unset, .unset, .unset] [] := by first | (simp [entryFrame, mkF, argsToLocals, Value.category]; done) | rfl
set_option maxRecDepth 65536 in
set_option maxHeartbeats 40000000 in
theorem rm2_12 (l : Launch) (Z : State) (a0 : Array Value) (hw : HW Z a0) (r0 : Addr) (L : List (Addr × (Cell → Prop))) (q : Nat) (f : Nat → Int32) (h : Heap) (n0 : Nat) (O : Own n0 h L) (hq : L[q]? = some (r0, ArrC Z .byte 12 f)) :
    Meth l Z (⟨"com/example/onlyonce/onlyonce/Partitioner", "murmur2", "([B)I"⟩ : MethodName) prog_55_method_3_code 6 (some .int) [] ({ frames := 0, cells := 0, slots := 0, locals := 0 } : Room) #[.ref r0] h n0 (fun v h' => v = some (.int (G12 f)) ∧ Own n0 h' L) := by
  refine Meth.of (plainFor_of_name pn_1) (fun m => ef_rm2_12 m r0) O ?_
  intro p e m below meth c M FE C J
  change Cx Z "com/example/onlyonce/onlyonce/Partitioner" "murmur2" prog_55_method_3_code 6 (some .int) p m meth c M at C
  clear O
  refine Wk.aloadN (pc' := 1) C d2_0 rfl rfl rfl ?_
  refine Wk.arraylength (pc' := 2) (q := q) (z := (12 : Int32)) C d2_1 hq (fun _ A => ⟨A.1, A.2.2.1⟩) rfl rfl ?_
  refine Wk.istoreN (Ls' := #[.val (.ref r0), .val (.int (12 : Int32)), .unset, .unset, .unset, .unset]) (pc' := 3) C d2_2 rfl rfl ?_
  refine Wk.ldcInt (z := (-1756908916 : Int32)) (pc' := 5) C (w12 hw) d2_3 rfl ?_
  refine Wk.iloadN (pc' := 6) C d2_5 rfl rfl ?_
  refine Wk.ixor (pc' := 7) C d2_6 rfl ?_
  refine Wk.istoreNV (fun v173 => #[.val (.ref r0), .val (.int (12 : Int32)), .val (.int v173), .unset, .unset, .unset]) (pc' := 8) C d2_7 rfl rfl ?_
  intro v173 hv173
  refine Wk.iloadN (pc' := 9) C d2_8 rfl rfl ?_
  refine Wk.iloadN (pc' := 10) C d2_9 rfl rfl ?_
  refine Wk.iconst (z := (4 : Int32)) (pc' := 11) C d2_10 rfl rfl ?_
  refine Wk.irem (pc' := 12) C d2_11 (by decide) rfl ?_
  refine Wk.isub (pc' := 13) C d2_12 rfl ?_
  refine Wk.istoreNV (fun v174 => #[.val (.ref r0), .val (.int (12 : Int32)), .val (.int v173), .val (.int v174), .unset, .unset]) (pc' := 14) C d2_13 rfl rfl ?_
  intro v174 hv174
  obtain rfl : v174 = (12 : Int32) := hv174.trans (by decide)
  refine Wk.iconst (z := (0 : Int32)) (pc' := 15) C d2_14 rfl rfl ?_
  refine Wk.istore (Ls' := #[.val (.ref r0), .val (.int (12 : Int32)), .val (.int v173), .val (.int (12 : Int32)), .val (.int (0 : Int32)), .unset]) (pc' := 17) C d2_15 rfl rfl ?_
  refine Wk.iload (pc' := 19) C d2_17 rfl rfl ?_
  refine Wk.iloadN (pc' := 20) C d2_19 rfl rfl ?_
  refine Wk.icmp_ge (pcT := 115) (pcF := 23) C d2_20 (by decide) (by decide) rfl (fun q => absurd q (by decide)) (fun _ => ?_)
  refine Wk.aloadN (pc' := 24) C d2_23 rfl rfl rfl ?_
  refine Wk.iload (pc' := 26) C d2_24 rfl rfl ?_
  refine Wk.baload (pc' := 27) (q := q) (i := 0) C d2_26 hq (by decide) (by decide) rfl ?_
  refine Wk.sipush (z := (255 : Int32)) (pc' := 30) C d2_27 rfl rfl ?_
  refine Wk.iand (pc' := 31) C d2_30 rfl ?_
  refine Wk.aloadN (pc' := 32) C d2_31 rfl rfl rfl ?_
  refine Wk.iload (pc' := 34) C d2_32 rfl rfl ?_
  refine Wk.iconst (z := (1 : Int32)) (pc' := 35) C d2_34 rfl rfl ?_
  refine Wk.iadd (pc' := 36) C d2_35 rfl ?_
  refine Wk.baload (pc' := 37) (q := q) (i := 1) C d2_36 hq (by decide) (by decide) rfl ?_
  refine Wk.sipush (z := (255 : Int32)) (pc' := 40) C d2_37 rfl rfl ?_
  refine Wk.iand (pc' := 41) C d2_40 rfl ?_
  refine Wk.bipush (z := (8 : Int32)) (pc' := 43) C d2_41 rfl rfl ?_
  refine Wk.ishl (pc' := 44) C d2_43 rfl ?_
  refine Wk.ior (pc' := 45) C d2_44 rfl ?_
  refine Wk.aloadN (pc' := 46) C d2_45 rfl rfl rfl ?_
  refine Wk.iload (pc' := 48) C d2_46 rfl rfl ?_
  refine Wk.iconst (z := (2 : Int32)) (pc' := 49) C d2_48 rfl rfl ?_
  refine Wk.iadd (pc' := 50) C d2_49 rfl ?_
  refine Wk.baload (pc' := 51) (q := q) (i := 2) C d2_50 hq (by decide) (by decide) rfl ?_
  refine Wk.sipush (z := (255 : Int32)) (pc' := 54) C d2_51 rfl rfl ?_
  refine Wk.iand (pc' := 55) C d2_54 rfl ?_
  refine Wk.bipush (z := (16 : Int32)) (pc' := 57) C d2_55 rfl rfl ?_
  refine Wk.ishl (pc' := 58) C d2_57 rfl ?_
  refine Wk.ior (pc' := 59) C d2_58 rfl ?_
  refine Wk.aloadN (pc' := 60) C d2_59 rfl rfl rfl ?_
  refine Wk.iload (pc' := 62) C d2_60 rfl rfl ?_
  refine Wk.iconst (z := (3 : Int32)) (pc' := 63) C d2_62 rfl rfl ?_
  refine Wk.iadd (pc' := 64) C d2_63 rfl ?_
  refine Wk.baload (pc' := 65) (q := q) (i := 3) C d2_64 hq (by decide) (by decide) rfl ?_
  refine Wk.sipush (z := (255 : Int32)) (pc' := 68) C d2_65 rfl rfl ?_
  refine Wk.iand (pc' := 69) C d2_68 rfl ?_
  refine Wk.bipush (z := (24 : Int32)) (pc' := 71) C d2_69 rfl rfl ?_
  refine Wk.ishl (pc' := 72) C d2_71 rfl ?_
  refine Wk.ior (pc' := 73) C d2_72 rfl ?_
  refine Wk.istoreV (fun v175 => #[.val (.ref r0), .val (.int (12 : Int32)), .val (.int v173), .val (.int (12 : Int32)), .val (.int (0 : Int32)), .val (.int v175)]) (pc' := 75) C d2_73 rfl rfl ?_
  intro v175 hv175
  refine Wk.iload (pc' := 77) C d2_75 rfl rfl ?_
  refine Wk.ldcInt (z := (1540483477 : Int32)) (pc' := 79) C (w13 hw) d2_77 rfl ?_
  refine Wk.imul (pc' := 80) C d2_79 rfl ?_
  refine Wk.istoreV (fun v176 => #[.val (.ref r0), .val (.int (12 : Int32)), .val (.int v173), .val (.int (12 : Int32)), .val (.int (0 : Int32)), .val (.int v176)]) (pc' := 82) C d2_80 rfl rfl ?_
  intro v176 hv176
  refine Wk.iload (pc' := 84) C d2_82 rfl rfl ?_
  refine Wk.iload (pc' := 86) C d2_84 rfl rfl ?_
  refine Wk.bipush (z := (24 : Int32)) (pc' := 88) C d2_86 rfl rfl ?_
  refine Wk.iushr (pc' := 89) C d2_88 rfl ?_
  refine Wk.ixor (pc' := 90) C d2_89 rfl ?_
  refine Wk.istoreV (fun v177 => #[.val (.ref r0), .val (.int (12 : Int32)), .val (.int v173), .val (.int (12 : Int32)), .val (.int (0 : Int32)), .val (.int v177)]) (pc' := 92) C d2_90 rfl rfl ?_
  intro v177 hv177
  refine Wk.iload (pc' := 94) C d2_92 rfl rfl ?_
  refine Wk.ldcInt (z := (1540483477 : Int32)) (pc' := 96) C (w13 hw) d2_94 rfl ?_
  refine Wk.imul (pc' := 97) C d2_96 rfl ?_
  refine Wk.istoreV (fun v178 => #[.val (.ref r0), .val (.int (12 : Int32)), .val (.int v173), .val (.int (12 : Int32)), .val (.int (0 : Int32)), .val (.int v178)]) (pc' := 99) C d2_97 rfl rfl ?_
  intro v178 hv178
  refine Wk.iloadN (pc' := 100) C d2_99 rfl rfl ?_
  refine Wk.ldcInt (z := (1540483477 : Int32)) (pc' := 102) C (w13 hw) d2_100 rfl ?_
  refine Wk.imul (pc' := 103) C d2_102 rfl ?_
  refine Wk.istoreNV (fun v179 => #[.val (.ref r0), .val (.int (12 : Int32)), .val (.int v179), .val (.int (12 : Int32)), .val (.int (0 : Int32)), .val (.int v178)]) (pc' := 104) C d2_103 rfl rfl ?_
  intro v179 hv179
  refine Wk.iloadN (pc' := 105) C d2_104 rfl rfl ?_
  refine Wk.iload (pc' := 107) C d2_105 rfl rfl ?_
  refine Wk.ixor (pc' := 108) C d2_107 rfl ?_
  refine Wk.istoreNV (fun v180 => #[.val (.ref r0), .val (.int (12 : Int32)), .val (.int v180), .val (.int (12 : Int32)), .val (.int (0 : Int32)), .val (.int v178)]) (pc' := 109) C d2_108 rfl rfl ?_
  intro v180 hv180
  refine Wk.iinc (z := (4 : Int32)) (Ls' := #[.val (.ref r0), .val (.int (12 : Int32)), .val (.int v180), .val (.int (12 : Int32)), .val (.int (4 : Int32)), .val (.int v178)]) (pc' := 112) C d2_109 rfl (by decide) rfl rfl ?_
  refine Wk.goto (pc' := 17) C d2_112 (by decide) (by decide) ?_
  refine Wk.iload (pc' := 19) C d2_17 rfl rfl ?_
  refine Wk.iloadN (pc' := 20) C d2_19 rfl rfl ?_
  refine Wk.icmp_ge (pcT := 115) (pcF := 23) C d2_20 (by decide) (by decide) rfl (fun q => absurd q (by decide)) (fun _ => ?_)
  refine Wk.aloadN (pc' := 24) C d2_23 rfl rfl rfl ?_
  refine Wk.iload (pc' := 26) C d2_24 rfl rfl ?_
  refine Wk.baload (pc' := 27) (q := q) (i := 4) C d2_26 hq (by decide) (by decide) rfl ?_
  refine Wk.sipush (z := (255 : Int32)) (pc' := 30) C d2_27 rfl rfl ?_
  refine Wk.iand (pc' := 31) C d2_30 rfl ?_
  refine Wk.aloadN (pc' := 32) C d2_31 rfl rfl rfl ?_
  refine Wk.iload (pc' := 34) C d2_32 rfl rfl ?_
  refine Wk.iconst (z := (1 : Int32)) (pc' := 35) C d2_34 rfl rfl ?_
  refine Wk.iadd (pc' := 36) C d2_35 rfl ?_
  refine Wk.baload (pc' := 37) (q := q) (i := 5) C d2_36 hq (by decide) (by decide) rfl ?_
  refine Wk.sipush (z := (255 : Int32)) (pc' := 40) C d2_37 rfl rfl ?_
  refine Wk.iand (pc' := 41) C d2_40 rfl ?_
  refine Wk.bipush (z := (8 : Int32)) (pc' := 43) C d2_41 rfl rfl ?_
  refine Wk.ishl (pc' := 44) C d2_43 rfl ?_
  refine Wk.ior (pc' := 45) C d2_44 rfl ?_
  refine Wk.aloadN (pc' := 46) C d2_45 rfl rfl rfl ?_
  refine Wk.iload (pc' := 48) C d2_46 rfl rfl ?_
  refine Wk.iconst (z := (2 : Int32)) (pc' := 49) C d2_48 rfl rfl ?_
  refine Wk.iadd (pc' := 50) C d2_49 rfl ?_
  refine Wk.baload (pc' := 51) (q := q) (i := 6) C d2_50 hq (by decide) (by decide) rfl ?_
  refine Wk.sipush (z := (255 : Int32)) (pc' := 54) C d2_51 rfl rfl ?_
  refine Wk.iand (pc' := 55) C d2_54 rfl ?_
  refine Wk.bipush (z := (16 : Int32)) (pc' := 57) C d2_55 rfl rfl ?_
  refine Wk.ishl (pc' := 58) C d2_57 rfl ?_
  refine Wk.ior (pc' := 59) C d2_58 rfl ?_
  refine Wk.aloadN (pc' := 60) C d2_59 rfl rfl rfl ?_
  refine Wk.iload (pc' := 62) C d2_60 rfl rfl ?_
  refine Wk.iconst (z := (3 : Int32)) (pc' := 63) C d2_62 rfl rfl ?_
  refine Wk.iadd (pc' := 64) C d2_63 rfl ?_
  refine Wk.baload (pc' := 65) (q := q) (i := 7) C d2_64 hq (by decide) (by decide) rfl ?_
  refine Wk.sipush (z := (255 : Int32)) (pc' := 68) C d2_65 rfl rfl ?_
  refine Wk.iand (pc' := 69) C d2_68 rfl ?_
  refine Wk.bipush (z := (24 : Int32)) (pc' := 71) C d2_69 rfl rfl ?_
  refine Wk.ishl (pc' := 72) C d2_71 rfl ?_
  refine Wk.ior (pc' := 73) C d2_72 rfl ?_
  refine Wk.istoreV (fun v181 => #[.val (.ref r0), .val (.int (12 : Int32)), .val (.int v180), .val (.int (12 : Int32)), .val (.int (4 : Int32)), .val (.int v181)]) (pc' := 75) C d2_73 rfl rfl ?_
  intro v181 hv181
  refine Wk.iload (pc' := 77) C d2_75 rfl rfl ?_
  refine Wk.ldcInt (z := (1540483477 : Int32)) (pc' := 79) C (w13 hw) d2_77 rfl ?_
  refine Wk.imul (pc' := 80) C d2_79 rfl ?_
  refine Wk.istoreV (fun v182 => #[.val (.ref r0), .val (.int (12 : Int32)), .val (.int v180), .val (.int (12 : Int32)), .val (.int (4 : Int32)), .val (.int v182)]) (pc' := 82) C d2_80 rfl rfl ?_
  intro v182 hv182
  refine Wk.iload (pc' := 84) C d2_82 rfl rfl ?_
  refine Wk.iload (pc' := 86) C d2_84 rfl rfl ?_
  refine Wk.bipush (z := (24 : Int32)) (pc' := 88) C d2_86 rfl rfl ?_
  refine Wk.iushr (pc' := 89) C d2_88 rfl ?_
  refine Wk.ixor (pc' := 90) C d2_89 rfl ?_
  refine Wk.istoreV (fun v183 => #[.val (.ref r0), .val (.int (12 : Int32)), .val (.int v180), .val (.int (12 : Int32)), .val (.int (4 : Int32)), .val (.int v183)]) (pc' := 92) C d2_90 rfl rfl ?_
  intro v183 hv183
  refine Wk.iload (pc' := 94) C d2_92 rfl rfl ?_
  refine Wk.ldcInt (z := (1540483477 : Int32)) (pc' := 96) C (w13 hw) d2_94 rfl ?_
  refine Wk.imul (pc' := 97) C d2_96 rfl ?_
  refine Wk.istoreV (fun v184 => #[.val (.ref r0), .val (.int (12 : Int32)), .val (.int v180), .val (.int (12 : Int32)), .val (.int (4 : Int32)), .val (.int v184)]) (pc' := 99) C d2_97 rfl rfl ?_
  intro v184 hv184
  refine Wk.iloadN (pc' := 100) C d2_99 rfl rfl ?_
  refine Wk.ldcInt (z := (1540483477 : Int32)) (pc' := 102) C (w13 hw) d2_100 rfl ?_
  refine Wk.imul (pc' := 103) C d2_102 rfl ?_
  refine Wk.istoreNV (fun v185 => #[.val (.ref r0), .val (.int (12 : Int32)), .val (.int v185), .val (.int (12 : Int32)), .val (.int (4 : Int32)), .val (.int v184)]) (pc' := 104) C d2_103 rfl rfl ?_
  intro v185 hv185
  refine Wk.iloadN (pc' := 105) C d2_104 rfl rfl ?_
  refine Wk.iload (pc' := 107) C d2_105 rfl rfl ?_
  refine Wk.ixor (pc' := 108) C d2_107 rfl ?_
  refine Wk.istoreNV (fun v186 => #[.val (.ref r0), .val (.int (12 : Int32)), .val (.int v186), .val (.int (12 : Int32)), .val (.int (4 : Int32)), .val (.int v184)]) (pc' := 109) C d2_108 rfl rfl ?_
  intro v186 hv186
  refine Wk.iinc (z := (8 : Int32)) (Ls' := #[.val (.ref r0), .val (.int (12 : Int32)), .val (.int v186), .val (.int (12 : Int32)), .val (.int (8 : Int32)), .val (.int v184)]) (pc' := 112) C d2_109 rfl (by decide) rfl rfl ?_
  refine Wk.goto (pc' := 17) C d2_112 (by decide) (by decide) ?_
  refine Wk.iload (pc' := 19) C d2_17 rfl rfl ?_
  refine Wk.iloadN (pc' := 20) C d2_19 rfl rfl ?_
  refine Wk.icmp_ge (pcT := 115) (pcF := 23) C d2_20 (by decide) (by decide) rfl (fun q => absurd q (by decide)) (fun _ => ?_)
  refine Wk.aloadN (pc' := 24) C d2_23 rfl rfl rfl ?_
  refine Wk.iload (pc' := 26) C d2_24 rfl rfl ?_
  refine Wk.baload (pc' := 27) (q := q) (i := 8) C d2_26 hq (by decide) (by decide) rfl ?_
  refine Wk.sipush (z := (255 : Int32)) (pc' := 30) C d2_27 rfl rfl ?_
  refine Wk.iand (pc' := 31) C d2_30 rfl ?_
  refine Wk.aloadN (pc' := 32) C d2_31 rfl rfl rfl ?_
  refine Wk.iload (pc' := 34) C d2_32 rfl rfl ?_
  refine Wk.iconst (z := (1 : Int32)) (pc' := 35) C d2_34 rfl rfl ?_
  refine Wk.iadd (pc' := 36) C d2_35 rfl ?_
  refine Wk.baload (pc' := 37) (q := q) (i := 9) C d2_36 hq (by decide) (by decide) rfl ?_
  refine Wk.sipush (z := (255 : Int32)) (pc' := 40) C d2_37 rfl rfl ?_
  refine Wk.iand (pc' := 41) C d2_40 rfl ?_
  refine Wk.bipush (z := (8 : Int32)) (pc' := 43) C d2_41 rfl rfl ?_
  refine Wk.ishl (pc' := 44) C d2_43 rfl ?_
  refine Wk.ior (pc' := 45) C d2_44 rfl ?_
  refine Wk.aloadN (pc' := 46) C d2_45 rfl rfl rfl ?_
  refine Wk.iload (pc' := 48) C d2_46 rfl rfl ?_
  refine Wk.iconst (z := (2 : Int32)) (pc' := 49) C d2_48 rfl rfl ?_
  refine Wk.iadd (pc' := 50) C d2_49 rfl ?_
  refine Wk.baload (pc' := 51) (q := q) (i := 10) C d2_50 hq (by decide) (by decide) rfl ?_
  refine Wk.sipush (z := (255 : Int32)) (pc' := 54) C d2_51 rfl rfl ?_
  refine Wk.iand (pc' := 55) C d2_54 rfl ?_
  refine Wk.bipush (z := (16 : Int32)) (pc' := 57) C d2_55 rfl rfl ?_
  refine Wk.ishl (pc' := 58) C d2_57 rfl ?_
  refine Wk.ior (pc' := 59) C d2_58 rfl ?_
  refine Wk.aloadN (pc' := 60) C d2_59 rfl rfl rfl ?_
  refine Wk.iload (pc' := 62) C d2_60 rfl rfl ?_
  refine Wk.iconst (z := (3 : Int32)) (pc' := 63) C d2_62 rfl rfl ?_
  refine Wk.iadd (pc' := 64) C d2_63 rfl ?_
  refine Wk.baload (pc' := 65) (q := q) (i := 11) C d2_64 hq (by decide) (by decide) rfl ?_
  refine Wk.sipush (z := (255 : Int32)) (pc' := 68) C d2_65 rfl rfl ?_
  refine Wk.iand (pc' := 69) C d2_68 rfl ?_
  refine Wk.bipush (z := (24 : Int32)) (pc' := 71) C d2_69 rfl rfl ?_
  refine Wk.ishl (pc' := 72) C d2_71 rfl ?_
  refine Wk.ior (pc' := 73) C d2_72 rfl ?_
  refine Wk.istoreV (fun v187 => #[.val (.ref r0), .val (.int (12 : Int32)), .val (.int v186), .val (.int (12 : Int32)), .val (.int (8 : Int32)), .val (.int v187)]) (pc' := 75) C d2_73 rfl rfl ?_
  intro v187 hv187
  refine Wk.iload (pc' := 77) C d2_75 rfl rfl ?_
  refine Wk.ldcInt (z := (1540483477 : Int32)) (pc' := 79) C (w13 hw) d2_77 rfl ?_
  refine Wk.imul (pc' := 80) C d2_79 rfl ?_
  refine Wk.istoreV (fun v188 => #[.val (.ref r0), .val (.int (12 : Int32)), .val (.int v186), .val (.int (12 : Int32)), .val (.int (8 : Int32)), .val (.int v188)]) (pc' := 82) C d2_80 rfl rfl ?_
  intro v188 hv188
  refine Wk.iload (pc' := 84) C d2_82 rfl rfl ?_
  refine Wk.iload (pc' := 86) C d2_84 rfl rfl ?_
  refine Wk.bipush (z := (24 : Int32)) (pc' := 88) C d2_86 rfl rfl ?_
  refine Wk.iushr (pc' := 89) C d2_88 rfl ?_
  refine Wk.ixor (pc' := 90) C d2_89 rfl ?_
  refine Wk.istoreV (fun v189 => #[.val (.ref r0), .val (.int (12 : Int32)), .val (.int v186), .val (.int (12 : Int32)), .val (.int (8 : Int32)), .val (.int v189)]) (pc' := 92) C d2_90 rfl rfl ?_
  intro v189 hv189
  refine Wk.iload (pc' := 94) C d2_92 rfl rfl ?_
  refine Wk.ldcInt (z := (1540483477 : Int32)) (pc' := 96) C (w13 hw) d2_94 rfl ?_
  refine Wk.imul (pc' := 97) C d2_96 rfl ?_
  refine Wk.istoreV (fun v190 => #[.val (.ref r0), .val (.int (12 : Int32)), .val (.int v186), .val (.int (12 : Int32)), .val (.int (8 : Int32)), .val (.int v190)]) (pc' := 99) C d2_97 rfl rfl ?_
  intro v190 hv190
  refine Wk.iloadN (pc' := 100) C d2_99 rfl rfl ?_
  refine Wk.ldcInt (z := (1540483477 : Int32)) (pc' := 102) C (w13 hw) d2_100 rfl ?_
  refine Wk.imul (pc' := 103) C d2_102 rfl ?_
  refine Wk.istoreNV (fun v191 => #[.val (.ref r0), .val (.int (12 : Int32)), .val (.int v191), .val (.int (12 : Int32)), .val (.int (8 : Int32)), .val (.int v190)]) (pc' := 104) C d2_103 rfl rfl ?_
  intro v191 hv191
  refine Wk.iloadN (pc' := 105) C d2_104 rfl rfl ?_
  refine Wk.iload (pc' := 107) C d2_105 rfl rfl ?_
  refine Wk.ixor (pc' := 108) C d2_107 rfl ?_
  refine Wk.istoreNV (fun v192 => #[.val (.ref r0), .val (.int (12 : Int32)), .val (.int v192), .val (.int (12 : Int32)), .val (.int (8 : Int32)), .val (.int v190)]) (pc' := 109) C d2_108 rfl rfl ?_
  intro v192 hv192
  refine Wk.iinc (z := (12 : Int32)) (Ls' := #[.val (.ref r0), .val (.int (12 : Int32)), .val (.int v192), .val (.int (12 : Int32)), .val (.int (12 : Int32)), .val (.int v190)]) (pc' := 112) C d2_109 rfl (by decide) rfl rfl ?_
  refine Wk.goto (pc' := 17) C d2_112 (by decide) (by decide) ?_
  refine Wk.iload (pc' := 19) C d2_17 rfl rfl ?_
  refine Wk.iloadN (pc' := 20) C d2_19 rfl rfl ?_
  refine Wk.icmp_ge (pcT := 115) (pcF := 23) C d2_20 (by decide) (by decide) rfl (fun _ => ?_) (fun q => absurd q (by decide))
  refine Wk.iloadN (pc' := 116) C d2_115 rfl rfl ?_
  refine Wk.iloadN (pc' := 117) C d2_116 rfl rfl ?_
  refine Wk.isub (pc' := 118) C d2_117 rfl ?_
  refine Wk.istoreV (fun v193 => #[.val (.ref r0), .val (.int (12 : Int32)), .val (.int v192), .val (.int (12 : Int32)), .val (.int v193), .val (.int v190)]) (pc' := 120) C d2_118 rfl rfl ?_
  intro v193 hv193
  obtain rfl : v193 = (0 : Int32) := hv193.trans (by decide)
  refine Wk.iload (pc' := 122) C d2_120 rfl rfl ?_
  refine Wk.if_le (pcT := 182) (pcF := 125) C d2_122 (by decide) (by decide) rfl (fun _ => ?_) (fun q => absurd q (by decide))
  refine Wk.iloadN (pc' := 183) C d2_182 rfl rfl ?_
  refine Wk.iloadN (pc' := 184) C d2_183 rfl rfl ?_
  refine Wk.bipush (z := (13 : Int32)) (pc' := 186) C d2_184 rfl rfl ?_
  refine Wk.iushr (pc' := 187) C d2_186 rfl ?_
  refine Wk.ixor (pc' := 188) C d2_187 rfl ?_
  refine Wk.istoreNV (fun v194 => #[.val (.ref r0), .val (.int (12 : Int32)), .val (.int v194), .val (.int (12 : Int32)), .val (.int (0 : Int32)), .val (.int v190)]) (pc' := 189) C d2_188 rfl rfl ?_
  intro v194 hv194
  refine Wk.iloadN (pc' := 190) C d2_189 rfl rfl ?_
  refine Wk.ldcInt (z := (1540483477 : Int32)) (pc' := 192) C (w13 hw) d2_190 rfl ?_
  refine Wk.imul (pc' := 193) C d2_192 rfl ?_
  refine Wk.istoreNV (fun v195 => #[.val (.ref r0), .val (.int (12 : Int32)), .val (.int v195), .val (.int (12 : Int32)), .val (.int (0 : Int32)), .val (.int v190)]) (pc' := 194) C d2_193 rfl rfl ?_
  intro v195 hv195
  refine Wk.iloadN (pc' := 195) C d2_194 rfl rfl ?_
  refine Wk.iloadN (pc' := 196) C d2_195 rfl rfl ?_
  refine Wk.bipush (z := (15 : Int32)) (pc' := 198) C d2_196 rfl rfl ?_
  refine Wk.iushr (pc' := 199) C d2_198 rfl ?_
  refine Wk.ixor (pc' := 200) C d2_199 rfl ?_
  refine Wk.istoreNV (fun v196 => #[.val (.ref r0), .val (.int (12 : Int32)), .val (.int v196), .val (.int (12 : Int32)), .val (.int (0 : Int32)), .val (.int v190)]) (pc' := 201) C d2_200 rfl rfl ?_
  intro v196 hv196
  refine Wk.iloadN (pc' := 202) C d2_201 rfl rfl ?_
  have hres : v196 = G12 f := by
    subst hv196 hv195 hv194 hv192 hv191 hv190 hv189 hv188 hv187 hv186 hv185 hv184 hv183 hv182 hv181 hv180 hv179 hv178 hv177 hv176 hv175 hv173
    rfl
  exact Wk.retI C J d2_202 (by decide) (by decide) (fun h O => ⟨by rw [hres], O⟩)
theorem own_13 (s v : Int32) (h : v = (s &&& (2147483647 : Int32)) % (13 : Int32)) : 0 ≤ v.toInt ∧ v.toInt ≤ 12 := by
  have m := c_mask s 2147483647 31 (by decide) (by decide)
  have e := (c_irem (s &&& (2147483647 : Int32)) 13 13 rfl).1 (by omega)
  rw [← h] at e
  omega
theorem own_cases (v : Int32) (h : 0 ≤ v.toInt ∧ v.toInt ≤ 12) : v = (0 : Int32) ∨ v = (1 : Int32) ∨ v = (2 : Int32) ∨ v = (3 : Int32) ∨ v = (4 : Int32) ∨ v = (5 : Int32) ∨ v = (6 : Int32) ∨ v = (7 : Int32) ∨ v = (8 : Int32) ∨ v = (9 : Int32) ∨ v = (10 : Int32) ∨ v = (11 : Int32) ∨ v = (12 : Int32) := by
  rcases (by omega : v.toInt = 0 ∨ v.toInt = 1 ∨ v.toInt = 2 ∨ v.toInt = 3 ∨ v.toInt = 4 ∨ v.toInt = 5 ∨ v.toInt = 6 ∨ v.toInt = 7 ∨ v.toInt = 8 ∨ v.toInt = 9 ∨ v.toInt = 10 ∨ v.toInt = 11 ∨ v.toInt = 12) with q | q | q | q | q | q | q | q | q | q | q | q | q
  · exact Or.inl (Int32.toInt_inj.mp q)
  · exact Or.inr (Or.inl (Int32.toInt_inj.mp q))
  · exact Or.inr (Or.inr (Or.inl (Int32.toInt_inj.mp q)))
  · exact Or.inr (Or.inr (Or.inr (Or.inl (Int32.toInt_inj.mp q))))
  · exact Or.inr (Or.inr (Or.inr (Or.inr (Or.inl (Int32.toInt_inj.mp q)))))
  · exact Or.inr (Or.inr (Or.inr (Or.inr (Or.inr (Or.inl (Int32.toInt_inj.mp q))))))
  · exact Or.inr (Or.inr (Or.inr (Or.inr (Or.inr (Or.inr (Or.inl (Int32.toInt_inj.mp q)))))))
  · exact Or.inr (Or.inr (Or.inr (Or.inr (Or.inr (Or.inr (Or.inr (Or.inl (Int32.toInt_inj.mp q))))))))
  · exact Or.inr (Or.inr (Or.inr (Or.inr (Or.inr (Or.inr (Or.inr (Or.inr (Or.inl (Int32.toInt_inj.mp q)))))))))
  · exact Or.inr (Or.inr (Or.inr (Or.inr (Or.inr (Or.inr (Or.inr (Or.inr (Or.inr (Or.inl (Int32.toInt_inj.mp q))))))))))
  · exact Or.inr (Or.inr (Or.inr (Or.inr (Or.inr (Or.inr (Or.inr (Or.inr (Or.inr (Or.inr (Or.inl (Int32.toInt_inj.mp q)))))))))))
  · exact Or.inr (Or.inr (Or.inr (Or.inr (Or.inr (Or.inr (Or.inr (Or.inr (Or.inr (Or.inr (Or.inr (Or.inl (Int32.toInt_inj.mp q))))))))))))
  · exact Or.inr (Or.inr (Or.inr (Or.inr (Or.inr (Or.inr (Or.inr (Or.inr (Or.inr (Or.inr (Or.inr (Or.inr (Int32.toInt_inj.mp q))))))))))))
theorem own_b (y : Int32) : (y.toInt8.toInt32.toInt8.toInt32 &&& (255 : Int32)).toInt = y.toInt % 256 := by
  have a := c_i2b y
  have b := c_i2b y.toInt8.toInt32
  have m := c_mask y.toInt8.toInt32.toInt8.toInt32 255 8 (by decide) (by decide)
  omega
theorem own_word (x : Int32) : (((((x).toInt8.toInt32.toInt8.toInt32 &&& (255 : Int32)) ||| ((((x.toUInt32 >>> ((8 : Int32) &&& 31).toUInt32).toInt32).toInt8.toInt32.toInt8.toInt32 &&& (255 : Int32)) <<< ((8 : Int32) &&& 31))) ||| ((((x.toUInt32 >>> ((16 : Int32) &&& 31).toUInt32).toInt32).toInt8.toInt32.toInt8.toInt32 &&& (255 : Int32)) <<< ((16 : Int32) &&& 31))) ||| ((((x.toUInt32 >>> ((24 : Int32) &&& 31).toUInt32).toInt32).toInt8.toInt32.toInt8.toInt32 &&& (255 : Int32)) <<< ((24 : Int32) &&& 31))) = x := by
  have u1 := c_iushr x 8 8 (by decide) (by decide)
  have u2 := c_iushr x 16 16 (by decide) (by decide)
  have u3 := c_iushr x 24 24 (by decide) (by decide)
  have b0 := own_b x
  have b1 := own_b ((x.toUInt32 >>> ((8 : Int32) &&& 31).toUInt32).toInt32)
  have b2 := own_b ((x.toUInt32 >>> ((16 : Int32) &&& 31).toUInt32).toInt32)
  have b3 := own_b ((x.toUInt32 >>> ((24 : Int32) &&& 31).toUInt32).toInt32)
  generalize ((x.toUInt32 >>> ((8 : Int32) &&& 31).toUInt32).toInt32) = y1 at *
  generalize ((x.toUInt32 >>> ((16 : Int32) &&& 31).toUInt32).toInt32) = y2 at *
  generalize ((x.toUInt32 >>> ((24 : Int32) &&& 31).toUInt32).toInt32) = y3 at *
  generalize ((x).toInt8.toInt32.toInt8.toInt32 &&& (255 : Int32)) = z0 at *
  generalize ((y1).toInt8.toInt32.toInt8.toInt32 &&& (255 : Int32)) = z1 at *
  generalize ((y2).toInt8.toInt32.toInt8.toInt32 &&& (255 : Int32)) = z2 at *
  generalize ((y3).toInt8.toInt32.toInt8.toInt32 &&& (255 : Int32)) = z3 at *
  have s1 := c_ishl z1 8 8 (by decide)
  have s2 := c_ishl z2 16 16 (by decide)
  have s3 := c_ishl z3 24 24 (by decide)
  have r1 := rng32 (z1 <<< ((8 : Int32) &&& 31))
  have r2 := rng32 (z2 <<< ((16 : Int32) &&& 31))
  have r3 := rng32 (z3 <<< ((24 : Int32) &&& 31))
  generalize z1 <<< ((8 : Int32) &&& 31) = t1 at *
  generalize z2 <<< ((16 : Int32) &&& 31) = t2 at *
  generalize z3 <<< ((24 : Int32) &&& 31) = t3 at *
  have rx := rng32 x
  have o1 := c_or' z0 t1 8 (by decide) 256 (by decide) (by omega) (by omega) (by omega)
  have q1 := rng32 (z0 ||| t1)
  generalize z0 ||| t1 = w1 at *
  have o2 := c_or' w1 t2 16 (by decide) 65536 (by decide) (by omega) (by omega) (by omega)
  have q2 := rng32 (w1 ||| t2)
  generalize w1 ||| t2 = w2 at *
  have o3 := c_or' w2 t3 24 (by decide) 16777216 (by decide) (by omega) (by omega) (by omega)
  have q3 := rng32 (w2 ||| t3)
  generalize w2 ||| t3 = w3 at *
  refine Int32.toInt_inj.mp ?_
  omega
theorem own_nat (x : Int32) (h : 0 ≤ x.toInt) : (x.toBitVec.toNat : Int) = x.toInt := by
  have e := Int32.toInt_toBitVec x
  rw [← e] at h ⊢
  have l := x.toBitVec.isLt
  rw [BitVec.toInt_eq_toNat_cond] at h ⊢
  split at h
  · rename_i q; rw [if_pos q]
  · omega
/-- two numbers with no bit in common -/
theorem own_xor (a b : Int32) (k : Nat) (P : Int) (hP : P = (2 ^ k : Nat)) (ha : a.toInt % P = 0) (hb : 0 ≤ b.toInt) (hb' : b.toInt < P) (ha0 : 0 ≤ a.toInt) : a ^^^ b = a ||| b := by
  refine Int32.toBitVec_inj.mp ?_
  have ea := own_nat a ha0
  have eb := own_nat b hb
  have ha1 : a.toBitVec.toNat % 2 ^ k = 0 := by
    have : ((a.toBitVec.toNat % 2 ^ k : Nat) : Int) = 0 := by rw [Int.natCast_emod, ea, ← hP]; exact ha
    omega
  have hb1 : b.toBitVec.toNat < 2 ^ k := by
    have : (b.toBitVec.toNat : Int) < ((2 ^ k : Nat) : Int) := by rw [eb, ← hP]; exact hb'
    omega
  rw [Int32.toBitVec_xor, Int32.toBitVec_or]
  refine BitVec.eq_of_getLsbD_eq fun i hi => ?_
  rw [BitVec.getLsbD_xor, BitVec.getLsbD_or]
  show (a.toBitVec.toNat.testBit i ^^ b.toBitVec.toNat.testBit i) = (a.toBitVec.toNat.testBit i || b.toBitVec.toNat.testBit i)
  by_cases q : i < k
  · have : a.toBitVec.toNat.testBit i = false := by
      have e : a.toBitVec.toNat = 2 ^ k * (a.toBitVec.toNat / 2 ^ k) := by have := Nat.div_add_mod a.toBitVec.toNat (2 ^ k); omega
      rw [e, Nat.testBit_two_pow_mul, decide_eq_false (by omega), Bool.false_and]
    rw [this, Bool.false_xor, Bool.false_or]
  · have : b.toBitVec.toNat.testBit i = false := Nat.testBit_lt_two_pow (Nat.lt_of_lt_of_le hb1 (Nat.pow_le_pow_right (by decide) (by omega)))
    rw [this, Bool.xor_false, Bool.or_false]
theorem own_t1 (x : Int32) : ((x).toInt8.toInt32.toInt8.toInt32 &&& (255 : Int32)) = (x &&& (((1 : Int32) <<< (((8 : Int32) * (1 : Int32)) &&& 31)) - (1 : Int32))) := by
  rw [show (((1 : Int32) <<< (((8 : Int32) * (1 : Int32)) &&& 31)) - (1 : Int32)) = 255 by decide]
  have b := own_b x
  have m := c_mask x 255 8 (by decide) (by decide)
  refine Int32.toInt_inj.mp ?_
  omega
theorem own_t2 (h x : Int32) : ((h ^^^ ((((x.toUInt32 >>> ((8 : Int32) &&& 31).toUInt32).toInt32).toInt8.toInt32.toInt8.toInt32 &&& (255 : Int32)) <<< ((8 : Int32) &&& 31))) ^^^ ((x).toInt8.toInt32.toInt8.toInt32 &&& (255 : Int32))) = (h ^^^ (x &&& (((1 : Int32) <<< (((8 : Int32) * (2 : Int32)) &&& 31)) - (1 : Int32)))) := by
  rw [show (((1 : Int32) <<< (((8 : Int32) * (2 : Int32)) &&& 31)) - (1 : Int32)) = 65535 by decide, Int32.xor_assoc]
  refine congrArg (fun z => h ^^^ z) ?_
  have u1 := c_iushr x 8 8 (by decide) (by decide)
  have b0 := own_b x
  have b1 := own_b ((x.toUInt32 >>> ((8 : Int32) &&& 31).toUInt32).toInt32)
  have m := c_mask x 65535 16 (by decide) (by decide)
  generalize ((x.toUInt32 >>> ((8 : Int32) &&& 31).toUInt32).toInt32) = y1 at *
  generalize ((x).toInt8.toInt32.toInt8.toInt32 &&& (255 : Int32)) = z0 at *
  generalize ((y1).toInt8.toInt32.toInt8.toInt32 &&& (255 : Int32)) = z1 at *
  have s1 := c_ishl z1 8 8 (by decide)
  have r1 := rng32 (z1 <<< ((8 : Int32) &&& 31))
  generalize z1 <<< ((8 : Int32) &&& 31) = t1 at *
  rw [own_xor t1 z0 8 256 (by decide) (by omega) (by omega) (by omega) (by omega)]
  have o1 := c_or t1 z0 8 (by decide) 256 (by decide) (by omega) (by omega) (by omega)
  have q1 := rng32 (t1 ||| z0)
  refine Int32.toInt_inj.mp ?_
  omega
theorem own_t3 (h x : Int32) : (((h ^^^ ((((x.toUInt32 >>> ((16 : Int32) &&& 31).toUInt32).toInt32).toInt8.toInt32.toInt8.toInt32 &&& (255 : Int32)) <<< ((16 : Int32) &&& 31))) ^^^ ((((x.toUInt32 >>> ((8 : Int32) &&& 31).toUInt32).toInt32).toInt8.toInt32.toInt8.toInt32 &&& (255 : Int32)) <<< ((8 : Int32) &&& 31))) ^^^ ((x).toInt8.toInt32.toInt8.toInt32 &&& (255 : Int32))) = (h ^^^ (x &&& (((1 : Int32) <<< (((8 : Int32) * (3 : Int32)) &&& 31)) - (1 : Int32)))) := by
  rw [show (((1 : Int32) <<< (((8 : Int32) * (3 : Int32)) &&& 31)) - (1 : Int32)) = 16777215 by decide, Int32.xor_assoc, Int32.xor_assoc]
  refine congrArg (fun z => h ^^^ z) ?_
  have u1 := c_iushr x 8 8 (by decide) (by decide)
  have u2 := c_iushr x 16 16 (by decide) (by decide)
  have b0 := own_b x
  have b1 := own_b ((x.toUInt32 >>> ((8 : Int32) &&& 31).toUInt32).toInt32)
  have b2 := own_b ((x.toUInt32 >>> ((16 : Int32) &&& 31).toUInt32).toInt32)
  have m := c_mask x 16777215 24 (by decide) (by decide)
  generalize ((x.toUInt32 >>> ((8 : Int32) &&& 31).toUInt32).toInt32) = y1 at *
  generalize ((x.toUInt32 >>> ((16 : Int32) &&& 31).toUInt32).toInt32) = y2 at *
  generalize ((x).toInt8.toInt32.toInt8.toInt32 &&& (255 : Int32)) = z0 at *
  generalize ((y1).toInt8.toInt32.toInt8.toInt32 &&& (255 : Int32)) = z1 at *
  generalize ((y2).toInt8.toInt32.toInt8.toInt32 &&& (255 : Int32)) = z2 at *
  have s1 := c_ishl z1 8 8 (by decide)
  have r1 := rng32 (z1 <<< ((8 : Int32) &&& 31))
  have s2 := c_ishl z2 16 16 (by decide)
  have r2 := rng32 (z2 <<< ((16 : Int32) &&& 31))
  generalize z1 <<< ((8 : Int32) &&& 31) = t1 at *
  generalize z2 <<< ((16 : Int32) &&& 31) = t2 at *
  rw [own_xor t1 z0 8 256 (by decide) (by omega) (by omega) (by omega) (by omega)]
  have o1 := c_or t1 z0 8 (by decide) 256 (by decide) (by omega) (by omega) (by omega)
  have q1 := rng32 (t1 ||| z0)
  generalize t1 ||| z0 = w1 at *
  rw [own_xor t2 w1 16 65536 (by decide) (by omega) (by omega) (by omega) (by omega)]
  have o2 := c_or t2 w1 16 (by decide) 65536 (by decide) (by omega) (by omega) (by omega)
  have q2 := rng32 (t2 ||| w1)
  refine Int32.toInt_inj.mp ?_
  omega

theorem own_key0 (x1 x2 x3 : Int32) (f : Nat → Int32) (e0 : f 0 = (x1).toInt8.toInt32.toInt8.toInt32) (e1 : f 1 = ((x1.toUInt32 >>> ((8 : Int32) &&& 31).toUInt32).toInt32).toInt8.toInt32.toInt8.toInt32) (e2 : f 2 = ((x1.toUInt32 >>> ((16 : Int32) &&& 31).toUInt32).toInt32).toInt8.toInt32.toInt8.toInt32) (e3 : f 3 = ((x1.toUInt32 >>> ((24 : Int32) &&& 31).toUInt32).toInt32).toInt8.toInt32.toInt8.toInt32) (e4 : f 4 = (x2).toInt8.toInt32.toInt8.toInt32) (e5 : f 5 = ((x2.toUInt32 >>> ((8 : Int32) &&& 31).toUInt32).toInt32).toInt8.toInt32.toInt8.toInt32) (e6 : f 6 = ((x2.toUInt32 >>> ((16 : Int32) &&& 31).toUInt32).toInt32).toInt8.toInt32.toInt8.toInt32) (e7 : f 7 = ((x2.toUInt32 >>> ((24 : Int32) &&& 31).toUInt32).toInt32).toInt8.toInt32.toInt8.toInt32) (e8 : f 8 = (x3).toInt8.toInt32.toInt8.toInt32) (e9 : f 9 = ((x3.toUInt32 >>> ((8 : Int32) &&& 31).toUInt32).toInt32).toInt8.toInt32.toInt8.toInt32) (e10 : f 10 = ((x3.toUInt32 >>> ((16 : Int32) &&& 31).toUInt32).toInt32).toInt8.toInt32.toInt8.toInt32) (e11 : f 11 = ((x3.toUInt32 >>> ((24 : Int32) &&& 31).toUInt32).toInt32).toInt8.toInt32.toInt8.toInt32) : G0 f = fin ((-1756908916 : Int32) ^^^ (0 : Int32)) := by
  unfold G0
  rfl
theorem own_key1 (x1 x2 x3 : Int32) (f : Nat → Int32) (e0 : f 0 = (x1).toInt8.toInt32.toInt8.toInt32) (e1 : f 1 = ((x1.toUInt32 >>> ((8 : Int32) &&& 31).toUInt32).toInt32).toInt8.toInt32.toInt8.toInt32) (e2 : f 2 = ((x1.toUInt32 >>> ((16 : Int32) &&& 31).toUInt32).toInt32).toInt8.toInt32.toInt8.toInt32) (e3 : f 3 = ((x1.toUInt32 >>> ((24 : Int32) &&& 31).toUInt32).toInt32).toInt8.toInt32.toInt8.toInt32) (e4 : f 4 = (x2).toInt8.toInt32.toInt8.toInt32) (e5 : f 5 = ((x2.toUInt32 >>> ((8 : Int32) &&& 31).toUInt32).toInt32).toInt8.toInt32.toInt8.toInt32) (e6 : f 6 = ((x2.toUInt32 >>> ((16 : Int32) &&& 31).toUInt32).toInt32).toInt8.toInt32.toInt8.toInt32) (e7 : f 7 = ((x2.toUInt32 >>> ((24 : Int32) &&& 31).toUInt32).toInt32).toInt8.toInt32.toInt8.toInt32) (e8 : f 8 = (x3).toInt8.toInt32.toInt8.toInt32) (e9 : f 9 = ((x3.toUInt32 >>> ((8 : Int32) &&& 31).toUInt32).toInt32).toInt8.toInt32.toInt8.toInt32) (e10 : f 10 = ((x3.toUInt32 >>> ((16 : Int32) &&& 31).toUInt32).toInt32).toInt8.toInt32.toInt8.toInt32) (e11 : f 11 = ((x3.toUInt32 >>> ((24 : Int32) &&& 31).toUInt32).toInt32).toInt8.toInt32.toInt8.toInt32) : G1 f = fin ((((-1756908916 : Int32) ^^^ (1 : Int32)) ^^^ (x1 &&& (((1 : Int32) <<< (((8 : Int32) * (1 : Int32)) &&& 31)) - (1 : Int32)))) * (1540483477 : Int32)) := by
  unfold G1
  rw [e0, own_t1]
theorem own_key2 (x1 x2 x3 : Int32) (f : Nat → Int32) (e0 : f 0 = (x1).toInt8.toInt32.toInt8.toInt32) (e1 : f 1 = ((x1.toUInt32 >>> ((8 : Int32) &&& 31).toUInt32).toInt32).toInt8.toInt32.toInt8.toInt32) (e2 : f 2 = ((x1.toUInt32 >>> ((16 : Int32) &&& 31).toUInt32).toInt32).toInt8.toInt32.toInt8.toInt32) (e3 : f 3 = ((x1.toUInt32 >>> ((24 : Int32) &&& 31).toUInt32).toInt32).toInt8.toInt32.toInt8.toInt32) (e4 : f 4 = (x2).toInt8.toInt32.toInt8.toInt32) (e5 : f 5 = ((x2.toUInt32 >>> ((8 : Int32) &&& 31).toUInt32).toInt32).toInt8.toInt32.toInt8.toInt32) (e6 : f 6 = ((x2.toUInt32 >>> ((16 : Int32) &&& 31).toUInt32).toInt32).toInt8.toInt32.toInt8.toInt32) (e7 : f 7 = ((x2.toUInt32 >>> ((24 : Int32) &&& 31).toUInt32).toInt32).toInt8.toInt32.toInt8.toInt32) (e8 : f 8 = (x3).toInt8.toInt32.toInt8.toInt32) (e9 : f 9 = ((x3.toUInt32 >>> ((8 : Int32) &&& 31).toUInt32).toInt32).toInt8.toInt32.toInt8.toInt32) (e10 : f 10 = ((x3.toUInt32 >>> ((16 : Int32) &&& 31).toUInt32).toInt32).toInt8.toInt32.toInt8.toInt32) (e11 : f 11 = ((x3.toUInt32 >>> ((24 : Int32) &&& 31).toUInt32).toInt32).toInt8.toInt32.toInt8.toInt32) : G2 f = fin ((((-1756908916 : Int32) ^^^ (2 : Int32)) ^^^ (x1 &&& (((1 : Int32) <<< (((8 : Int32) * (2 : Int32)) &&& 31)) - (1 : Int32)))) * (1540483477 : Int32)) := by
  unfold G2
  rw [e0, e1, own_t2]
theorem own_key3 (x1 x2 x3 : Int32) (f : Nat → Int32) (e0 : f 0 = (x1).toInt8.toInt32.toInt8.toInt32) (e1 : f 1 = ((x1.toUInt32 >>> ((8 : Int32) &&& 31).toUInt32).toInt32).toInt8.toInt32.toInt8.toInt32) (e2 : f 2 = ((x1.toUInt32 >>> ((16 : Int32) &&& 31).toUInt32).toInt32).toInt8.toInt32.toInt8.toInt32) (e3 : f 3 = ((x1.toUInt32 >>> ((24 : Int32) &&& 31).toUInt32).toInt32).toInt8.toInt32.toInt8.toInt32) (e4 : f 4 = (x2).toInt8.toInt32.toInt8.toInt32) (e5 : f 5 = ((x2.toUInt32 >>> ((8 : Int32) &&& 31).toUInt32).toInt32).toInt8.toInt32.toInt8.toInt32) (e6 : f 6 = ((x2.toUInt32 >>> ((16 : Int32) &&& 31).toUInt32).toInt32).toInt8.toInt32.toInt8.toInt32) (e7 : f 7 = ((x2.toUInt32 >>> ((24 : Int32) &&& 31).toUInt32).toInt32).toInt8.toInt32.toInt8.toInt32) (e8 : f 8 = (x3).toInt8.toInt32.toInt8.toInt32) (e9 : f 9 = ((x3.toUInt32 >>> ((8 : Int32) &&& 31).toUInt32).toInt32).toInt8.toInt32.toInt8.toInt32) (e10 : f 10 = ((x3.toUInt32 >>> ((16 : Int32) &&& 31).toUInt32).toInt32).toInt8.toInt32.toInt8.toInt32) (e11 : f 11 = ((x3.toUInt32 >>> ((24 : Int32) &&& 31).toUInt32).toInt32).toInt8.toInt32.toInt8.toInt32) : G3 f = fin ((((-1756908916 : Int32) ^^^ (3 : Int32)) ^^^ (x1 &&& (((1 : Int32) <<< (((8 : Int32) * (3 : Int32)) &&& 31)) - (1 : Int32)))) * (1540483477 : Int32)) := by
  unfold G3
  rw [e0, e1, e2, own_t3]
theorem own_key4 (x1 x2 x3 : Int32) (f : Nat → Int32) (e0 : f 0 = (x1).toInt8.toInt32.toInt8.toInt32) (e1 : f 1 = ((x1.toUInt32 >>> ((8 : Int32) &&& 31).toUInt32).toInt32).toInt8.toInt32.toInt8.toInt32) (e2 : f 2 = ((x1.toUInt32 >>> ((16 : Int32) &&& 31).toUInt32).toInt32).toInt8.toInt32.toInt8.toInt32) (e3 : f 3 = ((x1.toUInt32 >>> ((24 : Int32) &&& 31).toUInt32).toInt32).toInt8.toInt32.toInt8.toInt32) (e4 : f 4 = (x2).toInt8.toInt32.toInt8.toInt32) (e5 : f 5 = ((x2.toUInt32 >>> ((8 : Int32) &&& 31).toUInt32).toInt32).toInt8.toInt32.toInt8.toInt32) (e6 : f 6 = ((x2.toUInt32 >>> ((16 : Int32) &&& 31).toUInt32).toInt32).toInt8.toInt32.toInt8.toInt32) (e7 : f 7 = ((x2.toUInt32 >>> ((24 : Int32) &&& 31).toUInt32).toInt32).toInt8.toInt32.toInt8.toInt32) (e8 : f 8 = (x3).toInt8.toInt32.toInt8.toInt32) (e9 : f 9 = ((x3.toUInt32 >>> ((8 : Int32) &&& 31).toUInt32).toInt32).toInt8.toInt32.toInt8.toInt32) (e10 : f 10 = ((x3.toUInt32 >>> ((16 : Int32) &&& 31).toUInt32).toInt32).toInt8.toInt32.toInt8.toInt32) (e11 : f 11 = ((x3.toUInt32 >>> ((24 : Int32) &&& 31).toUInt32).toInt32).toInt8.toInt32.toInt8.toInt32) : G4 f = fin ((((-1756908916 : Int32) ^^^ (4 : Int32)) * (1540483477 : Int32)) ^^^ (F3 x1)) := by
  unfold G4
  have w0 : wd f 0 = x1 := by unfold wd; rw [e0, e1, e2, e3]; exact own_word x1
  rw [w0]
theorem own_key5 (x1 x2 x3 : Int32) (f : Nat → Int32) (e0 : f 0 = (x1).toInt8.toInt32.toInt8.toInt32) (e1 : f 1 = ((x1.toUInt32 >>> ((8 : Int32) &&& 31).toUInt32).toInt32).toInt8.toInt32.toInt8.toInt32) (e2 : f 2 = ((x1.toUInt32 >>> ((16 : Int32) &&& 31).toUInt32).toInt32).toInt8.toInt32.toInt8.toInt32) (e3 : f 3 = ((x1.toUInt32 >>> ((24 : Int32) &&& 31).toUInt32).toInt32).toInt8.toInt32.toInt8.toInt32) (e4 : f 4 = (x2).toInt8.toInt32.toInt8.toInt32) (e5 : f 5 = ((x2.toUInt32 >>> ((8 : Int32) &&& 31).toUInt32).toInt32).toInt8.toInt32.toInt8.toInt32) (e6 : f 6 = ((x2.toUInt32 >>> ((16 : Int32) &&& 31).toUInt32).toInt32).toInt8.toInt32.toInt8.toInt32) (e7 : f 7 = ((x2.toUInt32 >>> ((24 : Int32) &&& 31).toUInt32).toInt32).toInt8.toInt32.toInt8.toInt32) (e8 : f 8 = (x3).toInt8.toInt32.toInt8.toInt32) (e9 : f 9 = ((x3.toUInt32 >>> ((8 : Int32) &&& 31).toUInt32).toInt32).toInt8.toInt32.toInt8.toInt32) (e10 : f 10 = ((x3.toUInt32 >>> ((16 : Int32) &&& 31).toUInt32).toInt32).toInt8.toInt32.toInt8.toInt32) (e11 : f 11 = ((x3.toUInt32 >>> ((24 : Int32) &&& 31).toUInt32).toInt32).toInt8.toInt32.toInt8.toInt32) : G5 f = fin ((((((-1756908916 : Int32) ^^^ (5 : Int32)) * (1540483477 : Int32)) ^^^ (F3 x1)) ^^^ (x2 &&& (((1 : Int32) <<< (((8 : Int32) * (1 : Int32)) &&& 31)) - (1 : Int32)))) * (1540483477 : Int32)) := by
  unfold G5
  have w0 : wd f 0 = x1 := by unfold wd; rw [e0, e1, e2, e3]; exact own_word x1
  rw [w0, e4, own_t1]
theorem own_key6 (x1 x2 x3 : Int32) (f : Nat → Int32) (e0 : f 0 = (x1).toInt8.toInt32.toInt8.toInt32) (e1 : f 1 = ((x1.toUInt32 >>> ((8 : Int32) &&& 31).toUInt32).toInt32).toInt8.toInt32.toInt8.toInt32) (e2 : f 2 = ((x1.toUInt32 >>> ((16 : Int32) &&& 31).toUInt32).toInt32).toInt8.toInt32.toInt8.toInt32) (e3 : f 3 = ((x1.toUInt32 >>> ((24 : Int32) &&& 31).toUInt32).toInt32).toInt8.toInt32.toInt8.toInt32) (e4 : f 4 = (x2).toInt8.toInt32.toInt8.toInt32) (e5 : f 5 = ((x2.toUInt32 >>> ((8 : Int32) &&& 31).toUInt32).toInt32).toInt8.toInt32.toInt8.toInt32) (e6 : f 6 = ((x2.toUInt32 >>> ((16 : Int32) &&& 31).toUInt32).toInt32).toInt8.toInt32.toInt8.toInt32) (e7 : f 7 = ((x2.toUInt32 >>> ((24 : Int32) &&& 31).toUInt32).toInt32).toInt8.toInt32.toInt8.toInt32) (e8 : f 8 = (x3).toInt8.toInt32.toInt8.toInt32) (e9 : f 9 = ((x3.toUInt32 >>> ((8 : Int32) &&& 31).toUInt32).toInt32).toInt8.toInt32.toInt8.toInt32) (e10 : f 10 = ((x3.toUInt32 >>> ((16 : Int32) &&& 31).toUInt32).toInt32).toInt8.toInt32.toInt8.toInt32) (e11 : f 11 = ((x3.toUInt32 >>> ((24 : Int32) &&& 31).toUInt32).toInt32).toInt8.toInt32.toInt8.toInt32) : G6 f = fin ((((((-1756908916 : Int32) ^^^ (6 : Int32)) * (1540483477 : Int32)) ^^^ (F3 x1)) ^^^ (x2 &&& (((1 : Int32) <<< (((8 : Int32) * (2 : Int32)) &&& 31)) - (1 : Int32)))) * (1540483477 : Int32)) := by
  unfold G6
  have w0 : wd f 0 = x1 := by unfold wd; rw [e0, e1, e2, e3]; exact own_word x1
  rw [w0, e4, e5, own_t2]
theorem own_key7 (x1 x2 x3 : Int32) (f : Nat → Int32) (e0 : f 0 = (x1).toInt8.toInt32.toInt8.toInt32) (e1 : f 1 = ((x1.toUInt32 >>> ((8 : Int32) &&& 31).toUInt32).toInt32).toInt8.toInt32.toInt8.toInt32) (e2 : f 2 = ((x1.toUInt32 >>> ((16 : Int32) &&& 31).toUInt32).toInt32).toInt8.toInt32.toInt8.toInt32) (e3 : f 3 = ((x1.toUInt32 >>> ((24 : Int32) &&& 31).toUInt32).toInt32).toInt8.toInt32.toInt8.toInt32) (e4 : f 4 = (x2).toInt8.toInt32.toInt8.toInt32) (e5 : f 5 = ((x2.toUInt32 >>> ((8 : Int32) &&& 31).toUInt32).toInt32).toInt8.toInt32.toInt8.toInt32) (e6 : f 6 = ((x2.toUInt32 >>> ((16 : Int32) &&& 31).toUInt32).toInt32).toInt8.toInt32.toInt8.toInt32) (e7 : f 7 = ((x2.toUInt32 >>> ((24 : Int32) &&& 31).toUInt32).toInt32).toInt8.toInt32.toInt8.toInt32) (e8 : f 8 = (x3).toInt8.toInt32.toInt8.toInt32) (e9 : f 9 = ((x3.toUInt32 >>> ((8 : Int32) &&& 31).toUInt32).toInt32).toInt8.toInt32.toInt8.toInt32) (e10 : f 10 = ((x3.toUInt32 >>> ((16 : Int32) &&& 31).toUInt32).toInt32).toInt8.toInt32.toInt8.toInt32) (e11 : f 11 = ((x3.toUInt32 >>> ((24 : Int32) &&& 31).toUInt32).toInt32).toInt8.toInt32.toInt8.toInt32) : G7 f = fin ((((((-1756908916 : Int32) ^^^ (7 : Int32)) * (1540483477 : Int32)) ^^^ (F3 x1)) ^^^ (x2 &&& (((1 : Int32) <<< (((8 : Int32) * (3 : Int32)) &&& 31)) - (1 : Int32)))) * (1540483477 : Int32)) := by
  unfold G7
  have w0 : wd f 0 = x1 := by unfold wd; rw [e0, e1, e2, e3]; exact own_word x1
  rw [w0, e4, e5, e6, own_t3]
theorem own_key8 (x1 x2 x3 : Int32) (f : Nat → Int32) (e0 : f 0 = (x1).toInt8.toInt32.toInt8.toInt32) (e1 : f 1 = ((x1.toUInt32 >>> ((8 : Int32) &&& 31).toUInt32).toInt32).toInt8.toInt32.toInt8.toInt32) (e2 : f 2 = ((x1.toUInt32 >>> ((16 : Int32) &&& 31).toUInt32).toInt32).toInt8.toInt32.toInt8.toInt32) (e3 : f 3 = ((x1.toUInt32 >>> ((24 : Int32) &&& 31).toUInt32).toInt32).toInt8.toInt32.toInt8.toInt32) (e4 : f 4 = (x2).toInt8.toInt32.toInt8.toInt32) (e5 : f 5 = ((x2.toUInt32 >>> ((8 : Int32) &&& 31).toUInt32).toInt32).toInt8.toInt32.toInt8.toInt32) (e6 : f 6 = ((x2.toUInt32 >>> ((16 : Int32) &&& 31).toUInt32).toInt32).toInt8.toInt32.toInt8.toInt32) (e7 : f 7 = ((x2.toUInt32 >>> ((24 : Int32) &&& 31).toUInt32).toInt32).toInt8.toInt32.toInt8.toInt32) (e8 : f 8 = (x3).toInt8.toInt32.toInt8.toInt32) (e9 : f 9 = ((x3.toUInt32 >>> ((8 : Int32) &&& 31).toUInt32).toInt32).toInt8.toInt32.toInt8.toInt32) (e10 : f 10 = ((x3.toUInt32 >>> ((16 : Int32) &&& 31).toUInt32).toInt32).toInt8.toInt32.toInt8.toInt32) (e11 : f 11 = ((x3.toUInt32 >>> ((24 : Int32) &&& 31).toUInt32).toInt32).toInt8.toInt32.toInt8.toInt32) : G8 f = fin ((((((-1756908916 : Int32) ^^^ (8 : Int32)) * (1540483477 : Int32)) ^^^ (F3 x1)) * (1540483477 : Int32)) ^^^ (F3 x2)) := by
  unfold G8
  have w0 : wd f 0 = x1 := by unfold wd; rw [e0, e1, e2, e3]; exact own_word x1
  have w1 : wd f 4 = x2 := by unfold wd; rw [e4, e5, e6, e7]; exact own_word x2
  rw [w0, w1]
theorem own_key9 (x1 x2 x3 : Int32) (f : Nat → Int32) (e0 : f 0 = (x1).toInt8.toInt32.toInt8.toInt32) (e1 : f 1 = ((x1.toUInt32 >>> ((8 : Int32) &&& 31).toUInt32).toInt32).toInt8.toInt32.toInt8.toInt32) (e2 : f 2 = ((x1.toUInt32 >>> ((16 : Int32) &&& 31).toUInt32).toInt32).toInt8.toInt32.toInt8.toInt32) (e3 : f 3 = ((x1.toUInt32 >>> ((24 : Int32) &&& 31).toUInt32).toInt32).toInt8.toInt32.toInt8.toInt32) (e4 : f 4 = (x2).toInt8.toInt32.toInt8.toInt32) (e5 : f 5 = ((x2.toUInt32 >>> ((8 : Int32) &&& 31).toUInt32).toInt32).toInt8.toInt32.toInt8.toInt32) (e6 : f 6 = ((x2.toUInt32 >>> ((16 : Int32) &&& 31).toUInt32).toInt32).toInt8.toInt32.toInt8.toInt32) (e7 : f 7 = ((x2.toUInt32 >>> ((24 : Int32) &&& 31).toUInt32).toInt32).toInt8.toInt32.toInt8.toInt32) (e8 : f 8 = (x3).toInt8.toInt32.toInt8.toInt32) (e9 : f 9 = ((x3.toUInt32 >>> ((8 : Int32) &&& 31).toUInt32).toInt32).toInt8.toInt32.toInt8.toInt32) (e10 : f 10 = ((x3.toUInt32 >>> ((16 : Int32) &&& 31).toUInt32).toInt32).toInt8.toInt32.toInt8.toInt32) (e11 : f 11 = ((x3.toUInt32 >>> ((24 : Int32) &&& 31).toUInt32).toInt32).toInt8.toInt32.toInt8.toInt32) : G9 f = fin ((((((((-1756908916 : Int32) ^^^ (9 : Int32)) * (1540483477 : Int32)) ^^^ (F3 x1)) * (1540483477 : Int32)) ^^^ (F3 x2)) ^^^ (x3 &&& (((1 : Int32) <<< (((8 : Int32) * (1 : Int32)) &&& 31)) - (1 : Int32)))) * (1540483477 : Int32)) := by
  unfold G9
  have w0 : wd f 0 = x1 := by unfold wd; rw [e0, e1, e2, e3]; exact own_word x1
  have w1 : wd f 4 = x2 := by unfold wd; rw [e4, e5, e6, e7]; exact own_word x2
  rw [w0, w1, e8, own_t1]
theorem own_key10 (x1 x2 x3 : Int32) (f : Nat → Int32) (e0 : f 0 = (x1).toInt8.toInt32.toInt8.toInt32) (e1 : f 1 = ((x1.toUInt32 >>> ((8 : Int32) &&& 31).toUInt32).toInt32).toInt8.toInt32.toInt8.toInt32) (e2 : f 2 = ((x1.toUInt32 >>> ((16 : Int32) &&& 31).toUInt32).toInt32).toInt8.toInt32.toInt8.toInt32) (e3 : f 3 = ((x1.toUInt32 >>> ((24 : Int32) &&& 31).toUInt32).toInt32).toInt8.toInt32.toInt8.toInt32) (e4 : f 4 = (x2).toInt8.toInt32.toInt8.toInt32) (e5 : f 5 = ((x2.toUInt32 >>> ((8 : Int32) &&& 31).toUInt32).toInt32).toInt8.toInt32.toInt8.toInt32) (e6 : f 6 = ((x2.toUInt32 >>> ((16 : Int32) &&& 31).toUInt32).toInt32).toInt8.toInt32.toInt8.toInt32) (e7 : f 7 = ((x2.toUInt32 >>> ((24 : Int32) &&& 31).toUInt32).toInt32).toInt8.toInt32.toInt8.toInt32) (e8 : f 8 = (x3).toInt8.toInt32.toInt8.toInt32) (e9 : f 9 = ((x3.toUInt32 >>> ((8 : Int32) &&& 31).toUInt32).toInt32).toInt8.toInt32.toInt8.toInt32) (e10 : f 10 = ((x3.toUInt32 >>> ((16 : Int32) &&& 31).toUInt32).toInt32).toInt8.toInt32.toInt8.toInt32) (e11 : f 11 = ((x3.toUInt32 >>> ((24 : Int32) &&& 31).toUInt32).toInt32).toInt8.toInt32.toInt8.toInt32) : G10 f = fin ((((((((-1756908916 : Int32) ^^^ (10 : Int32)) * (1540483477 : Int32)) ^^^ (F3 x1)) * (1540483477 : Int32)) ^^^ (F3 x2)) ^^^ (x3 &&& (((1 : Int32) <<< (((8 : Int32) * (2 : Int32)) &&& 31)) - (1 : Int32)))) * (1540483477 : Int32)) := by
  unfold G10
  have w0 : wd f 0 = x1 := by unfold wd; rw [e0, e1, e2, e3]; exact own_word x1
  have w1 : wd f 4 = x2 := by unfold wd; rw [e4, e5, e6, e7]; exact own_word x2
  rw [w0, w1, e8, e9, own_t2]
theorem own_key11 (x1 x2 x3 : Int32) (f : Nat → Int32) (e0 : f 0 = (x1).toInt8.toInt32.toInt8.toInt32) (e1 : f 1 = ((x1.toUInt32 >>> ((8 : Int32) &&& 31).toUInt32).toInt32).toInt8.toInt32.toInt8.toInt32) (e2 : f 2 = ((x1.toUInt32 >>> ((16 : Int32) &&& 31).toUInt32).toInt32).toInt8.toInt32.toInt8.toInt32) (e3 : f 3 = ((x1.toUInt32 >>> ((24 : Int32) &&& 31).toUInt32).toInt32).toInt8.toInt32.toInt8.toInt32) (e4 : f 4 = (x2).toInt8.toInt32.toInt8.toInt32) (e5 : f 5 = ((x2.toUInt32 >>> ((8 : Int32) &&& 31).toUInt32).toInt32).toInt8.toInt32.toInt8.toInt32) (e6 : f 6 = ((x2.toUInt32 >>> ((16 : Int32) &&& 31).toUInt32).toInt32).toInt8.toInt32.toInt8.toInt32) (e7 : f 7 = ((x2.toUInt32 >>> ((24 : Int32) &&& 31).toUInt32).toInt32).toInt8.toInt32.toInt8.toInt32) (e8 : f 8 = (x3).toInt8.toInt32.toInt8.toInt32) (e9 : f 9 = ((x3.toUInt32 >>> ((8 : Int32) &&& 31).toUInt32).toInt32).toInt8.toInt32.toInt8.toInt32) (e10 : f 10 = ((x3.toUInt32 >>> ((16 : Int32) &&& 31).toUInt32).toInt32).toInt8.toInt32.toInt8.toInt32) (e11 : f 11 = ((x3.toUInt32 >>> ((24 : Int32) &&& 31).toUInt32).toInt32).toInt8.toInt32.toInt8.toInt32) : G11 f = fin ((((((((-1756908916 : Int32) ^^^ (11 : Int32)) * (1540483477 : Int32)) ^^^ (F3 x1)) * (1540483477 : Int32)) ^^^ (F3 x2)) ^^^ (x3 &&& (((1 : Int32) <<< (((8 : Int32) * (3 : Int32)) &&& 31)) - (1 : Int32)))) * (1540483477 : Int32)) := by
  unfold G11
  have w0 : wd f 0 = x1 := by unfold wd; rw [e0, e1, e2, e3]; exact own_word x1
  have w1 : wd f 4 = x2 := by unfold wd; rw [e4, e5, e6, e7]; exact own_word x2
  rw [w0, w1, e8, e9, e10, own_t3]
theorem own_key12 (x1 x2 x3 : Int32) (f : Nat → Int32) (e0 : f 0 = (x1).toInt8.toInt32.toInt8.toInt32) (e1 : f 1 = ((x1.toUInt32 >>> ((8 : Int32) &&& 31).toUInt32).toInt32).toInt8.toInt32.toInt8.toInt32) (e2 : f 2 = ((x1.toUInt32 >>> ((16 : Int32) &&& 31).toUInt32).toInt32).toInt8.toInt32.toInt8.toInt32) (e3 : f 3 = ((x1.toUInt32 >>> ((24 : Int32) &&& 31).toUInt32).toInt32).toInt8.toInt32.toInt8.toInt32) (e4 : f 4 = (x2).toInt8.toInt32.toInt8.toInt32) (e5 : f 5 = ((x2.toUInt32 >>> ((8 : Int32) &&& 31).toUInt32).toInt32).toInt8.toInt32.toInt8.toInt32) (e6 : f 6 = ((x2.toUInt32 >>> ((16 : Int32) &&& 31).toUInt32).toInt32).toInt8.toInt32.toInt8.toInt32) (e7 : f 7 = ((x2.toUInt32 >>> ((24 : Int32) &&& 31).toUInt32).toInt32).toInt8.toInt32.toInt8.toInt32) (e8 : f 8 = (x3).toInt8.toInt32.toInt8.toInt32) (e9 : f 9 = ((x3.toUInt32 >>> ((8 : Int32) &&& 31).toUInt32).toInt32).toInt8.toInt32.toInt8.toInt32) (e10 : f 10 = ((x3.toUInt32 >>> ((16 : Int32) &&& 31).toUInt32).toInt32).toInt8.toInt32.toInt8.toInt32) (e11 : f 11 = ((x3.toUInt32 >>> ((24 : Int32) &&& 31).toUInt32).toInt32).toInt8.toInt32.toInt8.toInt32) : G12 f = fin ((((((((-1756908916 : Int32) ^^^ (12 : Int32)) * (1540483477 : Int32)) ^^^ (F3 x1)) * (1540483477 : Int32)) ^^^ (F3 x2)) * (1540483477 : Int32)) ^^^ (F3 x3)) := by
  unfold G12
  have w0 : wd f 0 = x1 := by unfold wd; rw [e0, e1, e2, e3]; exact own_word x1
  have w1 : wd f 4 = x2 := by unfold wd; rw [e4, e5, e6, e7]; exact own_word x2
  have w2 : wd f 8 = x3 := by unfold wd; rw [e8, e9, e10, e11]; exact own_word x3
  rw [w0, w1, w2]
theorem ef_rmLaw (m : MethodId) (x0 : Int32) (x1 : Int32) (x2 : Int32) (x3 : Int32) : entryFrame m #[.int x0, .int x1, .int x2, .int x3] 10 = mkF m 0 #[.val (.int x0), .val (.int x1), .val (.int x2), .val (.int x3), .unset, .unset, .unset, .unset, .unset, .unset] [] := by first | (simp [entryFrame, mkF, argsToLocals, Value.category]; done) | rfl
set_option maxRecDepth 65536 in
set_option maxHeartbeats 40000000 in
theorem rmLaw (l : Launch) (Z : State) (a0 : Array Value) (hw : HW Z a0) (x0 : Int32) (x1 : Int32) (x2 : Int32) (x3 : Int32) (h : Heap) (n0 : Nat) (O : Own n0 h []) :
    Meth l Z x code maxLocals ret tables_1 room_1 #[.int x0, .int x1, .int x2, .int x3] h n0 (fun v h' => v = some (.int 1)) := by
  refine Meth.of (plainFor_of_name pn_0) (fun m => ef_rmLaw m x0 x1 x2 x3) O ?_
  intro p e m below meth c M FE C J
  change Cx Z "com/example/onlyonce/onlyonce/PartitionerMurmur2PinLaw" "law" code 10 (some .boolean) p m meth c M at C
  clear O
  refine Wk.iloadN (pc' := 1) C at_0 rfl rfl ?_
  refine Wk.ldcInt (z := (2147483647 : Int32)) (pc' := 3) C (w0 hw) at_1 rfl ?_
  refine Wk.iand (pc' := 4) C at_3 rfl ?_
  refine Wk.bipush (z := (13 : Int32)) (pc' := 6) C at_4 rfl rfl ?_
  refine Wk.irem (pc' := 7) C at_6 (by decide) rfl ?_
  refine Wk.istoreV (fun v197 => #[.val (.int x0), .val (.int x1), .val (.int x2), .val (.int x3), .val (.int v197), .unset, .unset, .unset, .unset, .unset]) (pc' := 9) C at_7 rfl rfl ?_
  intro v197 hv197
  have hv13 := own_13 x0 v197 hv197
  obtain ⟨nn, hnn⟩ : ∃ nn : Nat, v197.toInt = (nn : Int) := ⟨v197.toInt.toNat, by omega⟩
  have hle : nn ≤ 12 := by omega
  refine Wk.iload (pc' := 11) C at_9 rfl rfl ?_
  refine Wk.newarray (pc' := 13) (aty := .byte) (nn := nn) (cap := 12) (d := 0) C (w1 hw) at_11 rfl rfl hnn hle (by decide) (by decide) (by decide) rfl ?_
  intro a198
  change Wk p l e _ m _ below meth c _ _ n0 ((a198, ArrC Z .byte nn (fun _ => 0)) :: []) 1 12 13 #[.val (.int x0), .val (.int x1), .val (.int x2), .val (.int x3), .val (.int v197), .unset, .unset, .unset, .unset, .unset] [.ref a198]
  refine Wk.astore (Ls' := #[.val (.int x0), .val (.int x1), .val (.int x2), .val (.int x3), .val (.int v197), .val (.ref a198), .unset, .unset, .unset, .unset]) (pc' := 15) C at_13 rfl rfl rfl ?_
  refine Wk.aload (pc' := 17) C at_15 rfl rfl rfl ?_
  refine Wk.iconst (z := (0 : Int32)) (pc' := 18) C at_17 rfl rfl ?_
  refine Wk.iloadN (pc' := 19) C at_18 rfl rfl ?_
  refine Wk.callS (pc' := 22) (rm := { frames := 0, cells := 0, slots := 0, locals := 0 }) (W0 := 0) (argsL := [.ref a198, .int (0 : Int32), .int x1]) (st := []) C (w2 hw) (w3 hw) (w4 hw) (w5 hw) (by decide) (fun h O => rm1 l Z a0 hw a198 (0 : Int32) x1 [] nn 0 (fun _ => 0) h n0 O (by decide) (by omega)) (by decide) (by decide) (by decide) (by decide) at_19 rfl pd_0 rfl rfl rfl rfl ?_
  rintro _ h' ⟨rfl, O'⟩
  refine ⟨_, O', ?_⟩
  change Wk p l e _ m _ below meth c _ _ n0 ((a198, ArrC Z .byte nn (upd (fun _ => 0) 0 (x1.toInt8.toInt32.toInt8.toInt32))) :: []) 1 12 22 #[.val (.int x0), .val (.int x1), .val (.int x2), .val (.int x3), .val (.int v197), .val (.ref a198), .unset, .unset, .unset, .unset] []
  refine Wk.aload (pc' := 24) C at_22 rfl rfl rfl ?_
  refine Wk.iconst (z := (1 : Int32)) (pc' := 25) C at_24 rfl rfl ?_
  refine Wk.iloadN (pc' := 26) C at_25 rfl rfl ?_
  refine Wk.bipush (z := (8 : Int32)) (pc' := 28) C at_26 rfl rfl ?_
  refine Wk.iushr (pc' := 29) C at_28 rfl ?_
  refine Wk.callS (pc' := 32) (rm := { frames := 0, cells := 0, slots := 0, locals := 0 }) (W0 := 0) (argsL := [.ref a198, .int (1 : Int32), .int ((x1.toUInt32 >>> ((8 : Int32) &&& 31).toUInt32).toInt32)]) (st := []) C (w2 hw) (w3 hw) (w4 hw) (w5 hw) (by decide) (fun h O => rm1 l Z a0 hw a198 (1 : Int32) ((x1.toUInt32 >>> ((8 : Int32) &&& 31).toUInt32).toInt32) [] nn 1 (upd (fun _ => 0) 0 (x1.toInt8.toInt32.toInt8.toInt32)) h n0 O (by decide) (by omega)) (by decide) (by decide) (by decide) (by decide) at_29 rfl pd_0 rfl rfl rfl rfl ?_
  rintro _ h' ⟨rfl, O'⟩
  refine ⟨_, O', ?_⟩
  change Wk p l e _ m _ below meth c _ _ n0 ((a198, ArrC Z .byte nn (upd (upd (fun _ => 0) 0 (x1.toInt8.toInt32.toInt8.toInt32)) 1 (((x1.toUInt32 >>> ((8 : Int32) &&& 31).toUInt32).toInt32).toInt8.toInt32.toInt8.toInt32))) :: []) 1 12 32 #[.val (.int x0), .val (.int x1), .val (.int x2), .val (.int x3), .val (.int v197), .val (.ref a198), .unset, .unset, .unset, .unset] []
  refine Wk.aload (pc' := 34) C at_32 rfl rfl rfl ?_
  refine Wk.iconst (z := (2 : Int32)) (pc' := 35) C at_34 rfl rfl ?_
  refine Wk.iloadN (pc' := 36) C at_35 rfl rfl ?_
  refine Wk.bipush (z := (16 : Int32)) (pc' := 38) C at_36 rfl rfl ?_
  refine Wk.iushr (pc' := 39) C at_38 rfl ?_
  refine Wk.callS (pc' := 42) (rm := { frames := 0, cells := 0, slots := 0, locals := 0 }) (W0 := 0) (argsL := [.ref a198, .int (2 : Int32), .int ((x1.toUInt32 >>> ((16 : Int32) &&& 31).toUInt32).toInt32)]) (st := []) C (w2 hw) (w3 hw) (w4 hw) (w5 hw) (by decide) (fun h O => rm1 l Z a0 hw a198 (2 : Int32) ((x1.toUInt32 >>> ((16 : Int32) &&& 31).toUInt32).toInt32) [] nn 2 (upd (upd (fun _ => 0) 0 (x1.toInt8.toInt32.toInt8.toInt32)) 1 (((x1.toUInt32 >>> ((8 : Int32) &&& 31).toUInt32).toInt32).toInt8.toInt32.toInt8.toInt32)) h n0 O (by decide) (by omega)) (by decide) (by decide) (by decide) (by decide) at_39 rfl pd_0 rfl rfl rfl rfl ?_
  rintro _ h' ⟨rfl, O'⟩
  refine ⟨_, O', ?_⟩
  change Wk p l e _ m _ below meth c _ _ n0 ((a198, ArrC Z .byte nn (upd (upd (upd (fun _ => 0) 0 (x1.toInt8.toInt32.toInt8.toInt32)) 1 (((x1.toUInt32 >>> ((8 : Int32) &&& 31).toUInt32).toInt32).toInt8.toInt32.toInt8.toInt32)) 2 (((x1.toUInt32 >>> ((16 : Int32) &&& 31).toUInt32).toInt32).toInt8.toInt32.toInt8.toInt32))) :: []) 1 12 42 #[.val (.int x0), .val (.int x1), .val (.int x2), .val (.int x3), .val (.int v197), .val (.ref a198), .unset, .unset, .unset, .unset] []
  refine Wk.aload (pc' := 44) C at_42 rfl rfl rfl ?_
  refine Wk.iconst (z := (3 : Int32)) (pc' := 45) C at_44 rfl rfl ?_
  refine Wk.iloadN (pc' := 46) C at_45 rfl rfl ?_
  refine Wk.bipush (z := (24 : Int32)) (pc' := 48) C at_46 rfl rfl ?_
  refine Wk.iushr (pc' := 49) C at_48 rfl ?_
  refine Wk.callS (pc' := 52) (rm := { frames := 0, cells := 0, slots := 0, locals := 0 }) (W0 := 0) (argsL := [.ref a198, .int (3 : Int32), .int ((x1.toUInt32 >>> ((24 : Int32) &&& 31).toUInt32).toInt32)]) (st := []) C (w2 hw) (w3 hw) (w4 hw) (w5 hw) (by decide) (fun h O => rm1 l Z a0 hw a198 (3 : Int32) ((x1.toUInt32 >>> ((24 : Int32) &&& 31).toUInt32).toInt32) [] nn 3 (upd (upd (upd (fun _ => 0) 0 (x1.toInt8.toInt32.toInt8.toInt32)) 1 (((x1.toUInt32 >>> ((8 : Int32) &&& 31).toUInt32).toInt32).toInt8.toInt32.toInt8.toInt32)) 2 (((x1.toUInt32 >>> ((16 : Int32) &&& 31).toUInt32).toInt32).toInt8.toInt32.toInt8.toInt32)) h n0 O (by decide) (by omega)) (by decide) (by decide) (by decide) (by decide) at_49 rfl pd_0 rfl rfl rfl rfl ?_
  rintro _ h' ⟨rfl, O'⟩
  refine ⟨_, O', ?_⟩
  change Wk p l e _ m _ below meth c _ _ n0 ((a198, ArrC Z .byte nn (upd (upd (upd (upd (fun _ => 0) 0 (x1.toInt8.toInt32.toInt8.toInt32)) 1 (((x1.toUInt32 >>> ((8 : Int32) &&& 31).toUInt32).toInt32).toInt8.toInt32.toInt8.toInt32)) 2 (((x1.toUInt32 >>> ((16 : Int32) &&& 31).toUInt32).toInt32).toInt8.toInt32.toInt8.toInt32)) 3 (((x1.toUInt32 >>> ((24 : Int32) &&& 31).toUInt32).toInt32).toInt8.toInt32.toInt8.toInt32))) :: []) 1 12 52 #[.val (.int x0), .val (.int x1), .val (.int x2), .val (.int x3), .val (.int v197), .val (.ref a198), .unset, .unset, .unset, .unset] []
  refine Wk.aload (pc' := 54) C at_52 rfl rfl rfl ?_
  refine Wk.iconst (z := (4 : Int32)) (pc' := 55) C at_54 rfl rfl ?_
  refine Wk.iloadN (pc' := 56) C at_55 rfl rfl ?_
  refine Wk.callS (pc' := 59) (rm := { frames := 0, cells := 0, slots := 0, locals := 0 }) (W0 := 0) (argsL := [.ref a198, .int (4 : Int32), .int x2]) (st := []) C (w2 hw) (w3 hw) (w4 hw) (w5 hw) (by decide) (fun h O => rm1 l Z a0 hw a198 (4 : Int32) x2 [] nn 4 (upd (upd (upd (upd (fun _ => 0) 0 (x1.toInt8.toInt32.toInt8.toInt32)) 1 (((x1.toUInt32 >>> ((8 : Int32) &&& 31).toUInt32).toInt32).toInt8.toInt32.toInt8.toInt32)) 2 (((x1.toUInt32 >>> ((16 : Int32) &&& 31).toUInt32).toInt32).toInt8.toInt32.toInt8.toInt32)) 3 (((x1.toUInt32 >>> ((24 : Int32) &&& 31).toUInt32).toInt32).toInt8.toInt32.toInt8.toInt32)) h n0 O (by decide) (by omega)) (by decide) (by decide) (by decide) (by decide) at_56 rfl pd_0 rfl rfl rfl rfl ?_
  rintro _ h' ⟨rfl, O'⟩
  refine ⟨_, O', ?_⟩
  change Wk p l e _ m _ below meth c _ _ n0 ((a198, ArrC Z .byte nn (upd (upd (upd (upd (upd (fun _ => 0) 0 (x1.toInt8.toInt32.toInt8.toInt32)) 1 (((x1.toUInt32 >>> ((8 : Int32) &&& 31).toUInt32).toInt32).toInt8.toInt32.toInt8.toInt32)) 2 (((x1.toUInt32 >>> ((16 : Int32) &&& 31).toUInt32).toInt32).toInt8.toInt32.toInt8.toInt32)) 3 (((x1.toUInt32 >>> ((24 : Int32) &&& 31).toUInt32).toInt32).toInt8.toInt32.toInt8.toInt32)) 4 (x2.toInt8.toInt32.toInt8.toInt32))) :: []) 1 12 59 #[.val (.int x0), .val (.int x1), .val (.int x2), .val (.int x3), .val (.int v197), .val (.ref a198), .unset, .unset, .unset, .unset] []
  refine Wk.aload (pc' := 61) C at_59 rfl rfl rfl ?_
  refine Wk.iconst (z := (5 : Int32)) (pc' := 62) C at_61 rfl rfl ?_
  refine Wk.iloadN (pc' := 63) C at_62 rfl rfl ?_
  refine Wk.bipush (z := (8 : Int32)) (pc' := 65) C at_63 rfl rfl ?_
  refine Wk.iushr (pc' := 66) C at_65 rfl ?_
  refine Wk.callS (pc' := 69) (rm := { frames := 0, cells := 0, slots := 0, locals := 0 }) (W0 := 0) (argsL := [.ref a198, .int (5 : Int32), .int ((x2.toUInt32 >>> ((8 : Int32) &&& 31).toUInt32).toInt32)]) (st := []) C (w2 hw) (w3 hw) (w4 hw) (w5 hw) (by decide) (fun h O => rm1 l Z a0 hw a198 (5 : Int32) ((x2.toUInt32 >>> ((8 : Int32) &&& 31).toUInt32).toInt32) [] nn 5 (upd (upd (upd (upd (upd (fun _ => 0) 0 (x1.toInt8.toInt32.toInt8.toInt32)) 1 (((x1.toUInt32 >>> ((8 : Int32) &&& 31).toUInt32).toInt32).toInt8.toInt32.toInt8.toInt32)) 2 (((x1.toUInt32 >>> ((16 : Int32) &&& 31).toUInt32).toInt32).toInt8.toInt32.toInt8.toInt32)) 3 (((x1.toUInt32 >>> ((24 : Int32) &&& 31).toUInt32).toInt32).toInt8.toInt32.toInt8.toInt32)) 4 (x2.toInt8.toInt32.toInt8.toInt32)) h n0 O (by decide) (by omega)) (by decide) (by decide) (by decide) (by decide) at_66 rfl pd_0 rfl rfl rfl rfl ?_
  rintro _ h' ⟨rfl, O'⟩
  refine ⟨_, O', ?_⟩
  change Wk p l e _ m _ below meth c _ _ n0 ((a198, ArrC Z .byte nn (upd (upd (upd (upd (upd (upd (fun _ => 0) 0 (x1.toInt8.toInt32.toInt8.toInt32)) 1 (((x1.toUInt32 >>> ((8 : Int32) &&& 31).toUInt32).toInt32).toInt8.toInt32.toInt8.toInt32)) 2 (((x1.toUInt32 >>> ((16 : Int32) &&& 31).toUInt32).toInt32).toInt8.toInt32.toInt8.toInt32)) 3 (((x1.toUInt32 >>> ((24 : Int32) &&& 31).toUInt32).toInt32).toInt8.toInt32.toInt8.toInt32)) 4 (x2.toInt8.toInt32.toInt8.toInt32)) 5 (((x2.toUInt32 >>> ((8 : Int32) &&& 31).toUInt32).toInt32).toInt8.toInt32.toInt8.toInt32))) :: []) 1 12 69 #[.val (.int x0), .val (.int x1), .val (.int x2), .val (.int x3), .val (.int v197), .val (.ref a198), .unset, .unset, .unset, .unset] []
  refine Wk.aload (pc' := 71) C at_69 rfl rfl rfl ?_
  refine Wk.bipush (z := (6 : Int32)) (pc' := 73) C at_71 rfl rfl ?_
  refine Wk.iloadN (pc' := 74) C at_73 rfl rfl ?_
  refine Wk.bipush (z := (16 : Int32)) (pc' := 76) C at_74 rfl rfl ?_
  refine Wk.iushr (pc' := 77) C at_76 rfl ?_
  refine Wk.callS (pc' := 80) (rm := { frames := 0, cells := 0, slots := 0, locals := 0 }) (W0 := 0) (argsL := [.ref a198, .int (6 : Int32), .int ((x2.toUInt32 >>> ((16 : Int32) &&& 31).toUInt32).toInt32)]) (st := []) C (w2 hw) (w3 hw) (w4 hw) (w5 hw) (by decide) (fun h O => rm1 l Z a0 hw a198 (6 : Int32) ((x2.toUInt32 >>> ((16 : Int32) &&& 31).toUInt32).toInt32) [] nn 6 (upd (upd (upd (upd (upd (upd (fun _ => 0) 0 (x1.toInt8.toInt32.toInt8.toInt32)) 1 (((x1.toUInt32 >>> ((8 : Int32) &&& 31).toUInt32).toInt32).toInt8.toInt32.toInt8.toInt32)) 2 (((x1.toUInt32 >>> ((16 : Int32) &&& 31).toUInt32).toInt32).toInt8.toInt32.toInt8.toInt32)) 3 (((x1.toUInt32 >>> ((24 : Int32) &&& 31).toUInt32).toInt32).toInt8.toInt32.toInt8.toInt32)) 4 (x2.toInt8.toInt32.toInt8.toInt32)) 5 (((x2.toUInt32 >>> ((8 : Int32) &&& 31).toUInt32).toInt32).toInt8.toInt32.toInt8.toInt32)) h n0 O (by decide) (by omega)) (by decide) (by decide) (by decide) (by decide) at_77 rfl pd_0 rfl rfl rfl rfl ?_
  rintro _ h' ⟨rfl, O'⟩
  refine ⟨_, O', ?_⟩
  change Wk p l e _ m _ below meth c _ _ n0 ((a198, ArrC Z .byte nn (upd (upd (upd (upd (upd (upd (upd (fun _ => 0) 0 (x1.toInt8.toInt32.toInt8.toInt32)) 1 (((x1.toUInt32 >>> ((8 : Int32) &&& 31).toUInt32).toInt32).toInt8.toInt32.toInt8.toInt32)) 2 (((x1.toUInt32 >>> ((16 : Int32) &&& 31).toUInt32).toInt32).toInt8.toInt32.toInt8.toInt32)) 3 (((x1.toUInt32 >>> ((24 : Int32) &&& 31).toUInt32).toInt32).toInt8.toInt32.toInt8.toInt32)) 4 (x2.toInt8.toInt32.toInt8.toInt32)) 5 (((x2.toUInt32 >>> ((8 : Int32) &&& 31).toUInt32).toInt32).toInt8.toInt32.toInt8.toInt32)) 6 (((x2.toUInt32 >>> ((16 : Int32) &&& 31).toUInt32).toInt32).toInt8.toInt32.toInt8.toInt32))) :: []) 1 12 80 #[.val (.int x0), .val (.int x1), .val (.int x2), .val (.int x3), .val (.int v197), .val (.ref a198), .unset, .unset, .unset, .unset] []
  refine Wk.aload (pc' := 82) C at_80 rfl rfl rfl ?_
  refine Wk.bipush (z := (7 : Int32)) (pc' := 84) C at_82 rfl rfl ?_
  refine Wk.iloadN (pc' := 85) C at_84 rfl rfl ?_
  refine Wk.bipush (z := (24 : Int32)) (pc' := 87) C at_85 rfl rfl ?_
  refine Wk.iushr (pc' := 88) C at_87 rfl ?_
  refine Wk.callS (pc' := 91) (rm := { frames := 0, cells := 0, slots := 0, locals := 0 }) (W0 := 0) (argsL := [.ref a198, .int (7 : Int32), .int ((x2.toUInt32 >>> ((24 : Int32) &&& 31).toUInt32).toInt32)]) (st := []) C (w2 hw) (w3 hw) (w4 hw) (w5 hw) (by decide) (fun h O => rm1 l Z a0 hw a198 (7 : Int32) ((x2.toUInt32 >>> ((24 : Int32) &&& 31).toUInt32).toInt32) [] nn 7 (upd (upd (upd (upd (upd (upd (upd (fun _ => 0) 0 (x1.toInt8.toInt32.toInt8.toInt32)) 1 (((x1.toUInt32 >>> ((8 : Int32) &&& 31).toUInt32).toInt32).toInt8.toInt32.toInt8.toInt32)) 2 (((x1.toUInt32 >>> ((16 : Int32) &&& 31).toUInt32).toInt32).toInt8.toInt32.toInt8.toInt32)) 3 (((x1.toUInt32 >>> ((24 : Int32) &&& 31).toUInt32).toInt32).toInt8.toInt32.toInt8.toInt32)) 4 (x2.toInt8.toInt32.toInt8.toInt32)) 5 (((x2.toUInt32 >>> ((8 : Int32) &&& 31).toUInt32).toInt32).toInt8.toInt32.toInt8.toInt32)) 6 (((x2.toUInt32 >>> ((16 : Int32) &&& 31).toUInt32).toInt32).toInt8.toInt32.toInt8.toInt32)) h n0 O (by decide) (by omega)) (by decide) (by decide) (by decide) (by decide) at_88 rfl pd_0 rfl rfl rfl rfl ?_
  rintro _ h' ⟨rfl, O'⟩
  refine ⟨_, O', ?_⟩
  change Wk p l e _ m _ below meth c _ _ n0 ((a198, ArrC Z .byte nn (upd (upd (upd (upd (upd (upd (upd (upd (fun _ => 0) 0 (x1.toInt8.toInt32.toInt8.toInt32)) 1 (((x1.toUInt32 >>> ((8 : Int32) &&& 31).toUInt32).toInt32).toInt8.toInt32.toInt8.toInt32)) 2 (((x1.toUInt32 >>> ((16 : Int32) &&& 31).toUInt32).toInt32).toInt8.toInt32.toInt8.toInt32)) 3 (((x1.toUInt32 >>> ((24 : Int32) &&& 31).toUInt32).toInt32).toInt8.toInt32.toInt8.toInt32)) 4 (x2.toInt8.toInt32.toInt8.toInt32)) 5 (((x2.toUInt32 >>> ((8 : Int32) &&& 31).toUInt32).toInt32).toInt8.toInt32.toInt8.toInt32)) 6 (((x2.toUInt32 >>> ((16 : Int32) &&& 31).toUInt32).toInt32).toInt8.toInt32.toInt8.toInt32)) 7 (((x2.toUInt32 >>> ((24 : Int32) &&& 31).toUInt32).toInt32).toInt8.toInt32.toInt8.toInt32))) :: []) 1 12 91 #[.val (.int x0), .val (.int x1), .val (.int x2), .val (.int x3), .val (.int v197), .val (.ref a198), .unset, .unset, .unset, .unset] []
  refine Wk.aload (pc' := 93) C at_91 rfl rfl rfl ?_
  refine Wk.bipush (z := (8 : Int32)) (pc' := 95) C at_93 rfl rfl ?_
  refine Wk.iloadN (pc' := 96) C at_95 rfl rfl ?_
  refine Wk.callS (pc' := 99) (rm := { frames := 0, cells := 0, slots := 0, locals := 0 }) (W0 := 0) (argsL := [.ref a198, .int (8 : Int32), .int x3]) (st := []) C (w2 hw) (w3 hw) (w4 hw) (w5 hw) (by decide) (fun h O => rm1 l Z a0 hw a198 (8 : Int32) x3 [] nn 8 (upd (upd (upd (upd (upd (upd (upd (upd (fun _ => 0) 0 (x1.toInt8.toInt32.toInt8.toInt32)) 1 (((x1.toUInt32 >>> ((8 : Int32) &&& 31).toUInt32).toInt32).toInt8.toInt32.toInt8.toInt32)) 2 (((x1.toUInt32 >>> ((16 : Int32) &&& 31).toUInt32).toInt32).toInt8.toInt32.toInt8.toInt32)) 3 (((x1.toUInt32 >>> ((24 : Int32) &&& 31).toUInt32).toInt32).toInt8.toInt32.toInt8.toInt32)) 4 (x2.toInt8.toInt32.toInt8.toInt32)) 5 (((x2.toUInt32 >>> ((8 : Int32) &&& 31).toUInt32).toInt32).toInt8.toInt32.toInt8.toInt32)) 6 (((x2.toUInt32 >>> ((16 : Int32) &&& 31).toUInt32).toInt32).toInt8.toInt32.toInt8.toInt32)) 7 (((x2.toUInt32 >>> ((24 : Int32) &&& 31).toUInt32).toInt32).toInt8.toInt32.toInt8.toInt32)) h n0 O (by decide) (by omega)) (by decide) (by decide) (by decide) (by decide) at_96 rfl pd_0 rfl rfl rfl rfl ?_
  rintro _ h' ⟨rfl, O'⟩
  refine ⟨_, O', ?_⟩
  change Wk p l e _ m _ below meth c _ _ n0 ((a198, ArrC Z .byte nn (upd (upd (upd (upd (upd (upd (upd (upd (upd (fun _ => 0) 0 (x1.toInt8.toInt32.toInt8.toInt32)) 1 (((x1.toUInt32 >>> ((8 : Int32) &&& 31).toUInt32).toInt32).toInt8.toInt32.toInt8.toInt32)) 2 (((x1.toUInt32 >>> ((16 : Int32) &&& 31).toUInt32).toInt32).toInt8.toInt32.toInt8.toInt32)) 3 (((x1.toUInt32 >>> ((24 : Int32) &&& 31).toUInt32).toInt32).toInt8.toInt32.toInt8.toInt32)) 4 (x2.toInt8.toInt32.toInt8.toInt32)) 5 (((x2.toUInt32 >>> ((8 : Int32) &&& 31).toUInt32).toInt32).toInt8.toInt32.toInt8.toInt32)) 6 (((x2.toUInt32 >>> ((16 : Int32) &&& 31).toUInt32).toInt32).toInt8.toInt32.toInt8.toInt32)) 7 (((x2.toUInt32 >>> ((24 : Int32) &&& 31).toUInt32).toInt32).toInt8.toInt32.toInt8.toInt32)) 8 (x3.toInt8.toInt32.toInt8.toInt32))) :: []) 1 12 99 #[.val (.int x0), .val (.int x1), .val (.int x2), .val (.int x3), .val (.int v197), .val (.ref a198), .unset, .unset, .unset, .unset] []
  refine Wk.aload (pc' := 101) C at_99 rfl rfl rfl ?_
  refine Wk.bipush (z := (9 : Int32)) (pc' := 103) C at_101 rfl rfl ?_
  refine Wk.iloadN (pc' := 104) C at_103 rfl rfl ?_
  refine Wk.bipush (z := (8 : Int32)) (pc' := 106) C at_104 rfl rfl ?_
  refine Wk.iushr (pc' := 107) C at_106 rfl ?_
  refine Wk.callS (pc' := 110) (rm := { frames := 0, cells := 0, slots := 0, locals := 0 }) (W0 := 0) (argsL := [.ref a198, .int (9 : Int32), .int ((x3.toUInt32 >>> ((8 : Int32) &&& 31).toUInt32).toInt32)]) (st := []) C (w2 hw) (w3 hw) (w4 hw) (w5 hw) (by decide) (fun h O => rm1 l Z a0 hw a198 (9 : Int32) ((x3.toUInt32 >>> ((8 : Int32) &&& 31).toUInt32).toInt32) [] nn 9 (upd (upd (upd (upd (upd (upd (upd (upd (upd (fun _ => 0) 0 (x1.toInt8.toInt32.toInt8.toInt32)) 1 (((x1.toUInt32 >>> ((8 : Int32) &&& 31).toUInt32).toInt32).toInt8.toInt32.toInt8.toInt32)) 2 (((x1.toUInt32 >>> ((16 : Int32) &&& 31).toUInt32).toInt32).toInt8.toInt32.toInt8.toInt32)) 3 (((x1.toUInt32 >>> ((24 : Int32) &&& 31).toUInt32).toInt32).toInt8.toInt32.toInt8.toInt32)) 4 (x2.toInt8.toInt32.toInt8.toInt32)) 5 (((x2.toUInt32 >>> ((8 : Int32) &&& 31).toUInt32).toInt32).toInt8.toInt32.toInt8.toInt32)) 6 (((x2.toUInt32 >>> ((16 : Int32) &&& 31).toUInt32).toInt32).toInt8.toInt32.toInt8.toInt32)) 7 (((x2.toUInt32 >>> ((24 : Int32) &&& 31).toUInt32).toInt32).toInt8.toInt32.toInt8.toInt32)) 8 (x3.toInt8.toInt32.toInt8.toInt32)) h n0 O (by decide) (by omega)) (by decide) (by decide) (by decide) (by decide) at_107 rfl pd_0 rfl rfl rfl rfl ?_
  rintro _ h' ⟨rfl, O'⟩
  refine ⟨_, O', ?_⟩
  change Wk p l e _ m _ below meth c _ _ n0 ((a198, ArrC Z .byte nn (upd (upd (upd (upd (upd (upd (upd (upd (upd (upd (fun _ => 0) 0 (x1.toInt8.toInt32.toInt8.toInt32)) 1 (((x1.toUInt32 >>> ((8 : Int32) &&& 31).toUInt32).toInt32).toInt8.toInt32.toInt8.toInt32)) 2 (((x1.toUInt32 >>> ((16 : Int32) &&& 31).toUInt32).toInt32).toInt8.toInt32.toInt8.toInt32)) 3 (((x1.toUInt32 >>> ((24 : Int32) &&& 31).toUInt32).toInt32).toInt8.toInt32.toInt8.toInt32)) 4 (x2.toInt8.toInt32.toInt8.toInt32)) 5 (((x2.toUInt32 >>> ((8 : Int32) &&& 31).toUInt32).toInt32).toInt8.toInt32.toInt8.toInt32)) 6 (((x2.toUInt32 >>> ((16 : Int32) &&& 31).toUInt32).toInt32).toInt8.toInt32.toInt8.toInt32)) 7 (((x2.toUInt32 >>> ((24 : Int32) &&& 31).toUInt32).toInt32).toInt8.toInt32.toInt8.toInt32)) 8 (x3.toInt8.toInt32.toInt8.toInt32)) 9 (((x3.toUInt32 >>> ((8 : Int32) &&& 31).toUInt32).toInt32).toInt8.toInt32.toInt8.toInt32))) :: []) 1 12 110 #[.val (.int x0), .val (.int x1), .val (.int x2), .val (.int x3), .val (.int v197), .val (.ref a198), .unset, .unset, .unset, .unset] []
  refine Wk.aload (pc' := 112) C at_110 rfl rfl rfl ?_
  refine Wk.bipush (z := (10 : Int32)) (pc' := 114) C at_112 rfl rfl ?_
  refine Wk.iloadN (pc' := 115) C at_114 rfl rfl ?_
  refine Wk.bipush (z := (16 : Int32)) (pc' := 117) C at_115 rfl rfl ?_
  refine Wk.iushr (pc' := 118) C at_117 rfl ?_
  refine Wk.callS (pc' := 121) (rm := { frames := 0, cells := 0, slots := 0, locals := 0 }) (W0 := 0) (argsL := [.ref a198, .int (10 : Int32), .int ((x3.toUInt32 >>> ((16 : Int32) &&& 31).toUInt32).toInt32)]) (st := []) C (w2 hw) (w3 hw) (w4 hw) (w5 hw) (by decide) (fun h O => rm1 l Z a0 hw a198 (10 : Int32) ((x3.toUInt32 >>> ((16 : Int32) &&& 31).toUInt32).toInt32) [] nn 10 (upd (upd (upd (upd (upd (upd (upd (upd (upd (upd (fun _ => 0) 0 (x1.toInt8.toInt32.toInt8.toInt32)) 1 (((x1.toUInt32 >>> ((8 : Int32) &&& 31).toUInt32).toInt32).toInt8.toInt32.toInt8.toInt32)) 2 (((x1.toUInt32 >>> ((16 : Int32) &&& 31).toUInt32).toInt32).toInt8.toInt32.toInt8.toInt32)) 3 (((x1.toUInt32 >>> ((24 : Int32) &&& 31).toUInt32).toInt32).toInt8.toInt32.toInt8.toInt32)) 4 (x2.toInt8.toInt32.toInt8.toInt32)) 5 (((x2.toUInt32 >>> ((8 : Int32) &&& 31).toUInt32).toInt32).toInt8.toInt32.toInt8.toInt32)) 6 (((x2.toUInt32 >>> ((16 : Int32) &&& 31).toUInt32).toInt32).toInt8.toInt32.toInt8.toInt32)) 7 (((x2.toUInt32 >>> ((24 : Int32) &&& 31).toUInt32).toInt32).toInt8.toInt32.toInt8.toInt32)) 8 (x3.toInt8.toInt32.toInt8.toInt32)) 9 (((x3.toUInt32 >>> ((8 : Int32) &&& 31).toUInt32).toInt32).toInt8.toInt32.toInt8.toInt32)) h n0 O (by decide) (by omega)) (by decide) (by decide) (by decide) (by decide) at_118 rfl pd_0 rfl rfl rfl rfl ?_
  rintro _ h' ⟨rfl, O'⟩
  refine ⟨_, O', ?_⟩
  change Wk p l e _ m _ below meth c _ _ n0 ((a198, ArrC Z .byte nn (upd (upd (upd (upd (upd (upd (upd (upd (upd (upd (upd (fun _ => 0) 0 (x1.toInt8.toInt32.toInt8.toInt32)) 1 (((x1.toUInt32 >>> ((8 : Int32) &&& 31).toUInt32).toInt32).toInt8.toInt32.toInt8.toInt32)) 2 (((x1.toUInt32 >>> ((16 : Int32) &&& 31).toUInt32).toInt32).toInt8.toInt32.toInt8.toInt32)) 3 (((x1.toUInt32 >>> ((24 : Int32) &&& 31).toUInt32).toInt32).toInt8.toInt32.toInt8.toInt32)) 4 (x2.toInt8.toInt32.toInt8.toInt32)) 5 (((x2.toUInt32 >>> ((8 : Int32) &&& 31).toUInt32).toInt32).toInt8.toInt32.toInt8.toInt32)) 6 (((x2.toUInt32 >>> ((16 : Int32) &&& 31).toUInt32).toInt32).toInt8.toInt32.toInt8.toInt32)) 7 (((x2.toUInt32 >>> ((24 : Int32) &&& 31).toUInt32).toInt32).toInt8.toInt32.toInt8.toInt32)) 8 (x3.toInt8.toInt32.toInt8.toInt32)) 9 (((x3.toUInt32 >>> ((8 : Int32) &&& 31).toUInt32).toInt32).toInt8.toInt32.toInt8.toInt32)) 10 (((x3.toUInt32 >>> ((16 : Int32) &&& 31).toUInt32).toInt32).toInt8.toInt32.toInt8.toInt32))) :: []) 1 12 121 #[.val (.int x0), .val (.int x1), .val (.int x2), .val (.int x3), .val (.int v197), .val (.ref a198), .unset, .unset, .unset, .unset] []
  refine Wk.aload (pc' := 123) C at_121 rfl rfl rfl ?_
  refine Wk.bipush (z := (11 : Int32)) (pc' := 125) C at_123 rfl rfl ?_
  refine Wk.iloadN (pc' := 126) C at_125 rfl rfl ?_
  refine Wk.bipush (z := (24 : Int32)) (pc' := 128) C at_126 rfl rfl ?_
  refine Wk.iushr (pc' := 129) C at_128 rfl ?_
  refine Wk.callS (pc' := 132) (rm := { frames := 0, cells := 0, slots := 0, locals := 0 }) (W0 := 0) (argsL := [.ref a198, .int (11 : Int32), .int ((x3.toUInt32 >>> ((24 : Int32) &&& 31).toUInt32).toInt32)]) (st := []) C (w2 hw) (w3 hw) (w4 hw) (w5 hw) (by decide) (fun h O => rm1 l Z a0 hw a198 (11 : Int32) ((x3.toUInt32 >>> ((24 : Int32) &&& 31).toUInt32).toInt32) [] nn 11 (upd (upd (upd (upd (upd (upd (upd (upd (upd (upd (upd (fun _ => 0) 0 (x1.toInt8.toInt32.toInt8.toInt32)) 1 (((x1.toUInt32 >>> ((8 : Int32) &&& 31).toUInt32).toInt32).toInt8.toInt32.toInt8.toInt32)) 2 (((x1.toUInt32 >>> ((16 : Int32) &&& 31).toUInt32).toInt32).toInt8.toInt32.toInt8.toInt32)) 3 (((x1.toUInt32 >>> ((24 : Int32) &&& 31).toUInt32).toInt32).toInt8.toInt32.toInt8.toInt32)) 4 (x2.toInt8.toInt32.toInt8.toInt32)) 5 (((x2.toUInt32 >>> ((8 : Int32) &&& 31).toUInt32).toInt32).toInt8.toInt32.toInt8.toInt32)) 6 (((x2.toUInt32 >>> ((16 : Int32) &&& 31).toUInt32).toInt32).toInt8.toInt32.toInt8.toInt32)) 7 (((x2.toUInt32 >>> ((24 : Int32) &&& 31).toUInt32).toInt32).toInt8.toInt32.toInt8.toInt32)) 8 (x3.toInt8.toInt32.toInt8.toInt32)) 9 (((x3.toUInt32 >>> ((8 : Int32) &&& 31).toUInt32).toInt32).toInt8.toInt32.toInt8.toInt32)) 10 (((x3.toUInt32 >>> ((16 : Int32) &&& 31).toUInt32).toInt32).toInt8.toInt32.toInt8.toInt32)) h n0 O (by decide) (by omega)) (by decide) (by decide) (by decide) (by decide) at_129 rfl pd_0 rfl rfl rfl rfl ?_
  rintro _ h' ⟨rfl, O'⟩
  refine ⟨_, O', ?_⟩
  change Wk p l e _ m _ below meth c _ _ n0 ((a198, ArrC Z .byte nn (upd (upd (upd (upd (upd (upd (upd (upd (upd (upd (upd (upd (fun _ => 0) 0 (x1.toInt8.toInt32.toInt8.toInt32)) 1 (((x1.toUInt32 >>> ((8 : Int32) &&& 31).toUInt32).toInt32).toInt8.toInt32.toInt8.toInt32)) 2 (((x1.toUInt32 >>> ((16 : Int32) &&& 31).toUInt32).toInt32).toInt8.toInt32.toInt8.toInt32)) 3 (((x1.toUInt32 >>> ((24 : Int32) &&& 31).toUInt32).toInt32).toInt8.toInt32.toInt8.toInt32)) 4 (x2.toInt8.toInt32.toInt8.toInt32)) 5 (((x2.toUInt32 >>> ((8 : Int32) &&& 31).toUInt32).toInt32).toInt8.toInt32.toInt8.toInt32)) 6 (((x2.toUInt32 >>> ((16 : Int32) &&& 31).toUInt32).toInt32).toInt8.toInt32.toInt8.toInt32)) 7 (((x2.toUInt32 >>> ((24 : Int32) &&& 31).toUInt32).toInt32).toInt8.toInt32.toInt8.toInt32)) 8 (x3.toInt8.toInt32.toInt8.toInt32)) 9 (((x3.toUInt32 >>> ((8 : Int32) &&& 31).toUInt32).toInt32).toInt8.toInt32.toInt8.toInt32)) 10 (((x3.toUInt32 >>> ((16 : Int32) &&& 31).toUInt32).toInt32).toInt8.toInt32.toInt8.toInt32)) 11 (((x3.toUInt32 >>> ((24 : Int32) &&& 31).toUInt32).toInt32).toInt8.toInt32.toInt8.toInt32))) :: []) 1 12 132 #[.val (.int x0), .val (.int x1), .val (.int x2), .val (.int x3), .val (.int v197), .val (.ref a198), .unset, .unset, .unset, .unset] []
  generalize hf199 : ((upd (upd (upd (upd (upd (upd (upd (upd (upd (upd (upd (upd (fun _ => 0) 0 (x1.toInt8.toInt32.toInt8.toInt32)) 1 (((x1.toUInt32 >>> ((8 : Int32) &&& 31).toUInt32).toInt32).toInt8.toInt32.toInt8.toInt32)) 2 (((x1.toUInt32 >>> ((16 : Int32) &&& 31).toUInt32).toInt32).toInt8.toInt32.toInt8.toInt32)) 3 (((x1.toUInt32 >>> ((24 : Int32) &&& 31).toUInt32).toInt32).toInt8.toInt32.toInt8.toInt32)) 4 (x2.toInt8.toInt32.toInt8.toInt32)) 5 (((x2.toUInt32 >>> ((8 : Int32) &&& 31).toUInt32).toInt32).toInt8.toInt32.toInt8.toInt32)) 6 (((x2.toUInt32 >>> ((16 : Int32) &&& 31).toUInt32).toInt32).toInt8.toInt32.toInt8.toInt32)) 7 (((x2.toUInt32 >>> ((24 : Int32) &&& 31).toUInt32).toInt32).toInt8.toInt32.toInt8.toInt32)) 8 (x3.toInt8.toInt32.toInt8.toInt32)) 9 (((x3.toUInt32 >>> ((8 : Int32) &&& 31).toUInt32).toInt32).toInt8.toInt32.toInt8.toInt32)) 10 (((x3.toUInt32 >>> ((16 : Int32) &&& 31).toUInt32).toInt32).toInt8.toInt32.toInt8.toInt32)) 11 (((x3.toUInt32 >>> ((24 : Int32) &&& 31).toUInt32).toInt32).toInt8.toInt32.toInt8.toInt32)) : Nat → Int32) = f199
  have e0 : f199 0 = (x1).toInt8.toInt32.toInt8.toInt32 := by rw [← hf199]; rfl
  have e1 : f199 1 = ((x1.toUInt32 >>> ((8 : Int32) &&& 31).toUInt32).toInt32).toInt8.toInt32.toInt8.toInt32 := by rw [← hf199]; rfl
  have e2 : f199 2 = ((x1.toUInt32 >>> ((16 : Int32) &&& 31).toUInt32).toInt32).toInt8.toInt32.toInt8.toInt32 := by rw [← hf199]; rfl
  have e3 : f199 3 = ((x1.toUInt32 >>> ((24 : Int32) &&& 31).toUInt32).toInt32).toInt8.toInt32.toInt8.toInt32 := by rw [← hf199]; rfl
  have e4 : f199 4 = (x2).toInt8.toInt32.toInt8.toInt32 := by rw [← hf199]; rfl
  have e5 : f199 5 = ((x2.toUInt32 >>> ((8 : Int32) &&& 31).toUInt32).toInt32).toInt8.toInt32.toInt8.toInt32 := by rw [← hf199]; rfl
  have e6 : f199 6 = ((x2.toUInt32 >>> ((16 : Int32) &&& 31).toUInt32).toInt32).toInt8.toInt32.toInt8.toInt32 := by rw [← hf199]; rfl
  have e7 : f199 7 = ((x2.toUInt32 >>> ((24 : Int32) &&& 31).toUInt32).toInt32).toInt8.toInt32.toInt8.toInt32 := by rw [← hf199]; rfl
  have e8 : f199 8 = (x3).toInt8.toInt32.toInt8.toInt32 := by rw [← hf199]; rfl
  have e9 : f199 9 = ((x3.toUInt32 >>> ((8 : Int32) &&& 31).toUInt32).toInt32).toInt8.toInt32.toInt8.toInt32 := by rw [← hf199]; rfl
  have e10 : f199 10 = ((x3.toUInt32 >>> ((16 : Int32) &&& 31).toUInt32).toInt32).toInt8.toInt32.toInt8.toInt32 := by rw [← hf199]; rfl
  have e11 : f199 11 = ((x3.toUInt32 >>> ((24 : Int32) &&& 31).toUInt32).toInt32).toInt8.toInt32.toInt8.toInt32 := by rw [← hf199]; rfl
  clear hf199
  rcases own_cases v197 hv13 with hn | hn | hn | hn | hn | hn | hn | hn | hn | hn | hn | hn | hn
  · skip
    subst hn
    obtain rfl : nn = 0 := by have q : (0 : Int32).toInt = 0 := rfl; omega
    refine Wk.ldcInt (z := (1540483477 : Int32)) (pc' := 134) C (w6 hw) at_132 rfl ?_
    refine Wk.istore (Ls' := #[.val (.int x0), .val (.int x1), .val (.int x2), .val (.int x3), .val (.int (0 : Int32)), .val (.ref a198), .val (.int (1540483477 : Int32)), .unset, .unset, .unset]) (pc' := 136) C at_134 rfl rfl ?_
    refine Wk.ldcInt (z := (-1756908916 : Int32)) (pc' := 138) C (w7 hw) at_136 rfl ?_
    refine Wk.iload (pc' := 140) C at_138 rfl rfl ?_
    refine Wk.ixor (pc' := 141) C at_140 rfl ?_
    refine Wk.istoreV (fun v200 => #[.val (.int x0), .val (.int x1), .val (.int x2), .val (.int x3), .val (.int (0 : Int32)), .val (.ref a198), .val (.int (1540483477 : Int32)), .val (.int v200), .unset, .unset]) (pc' := 143) C at_141 rfl rfl ?_
    intro v200 hv200
    refine Wk.iload (pc' := 145) C at_143 rfl rfl ?_
    refine Wk.iconst (z := (4 : Int32)) (pc' := 146) C at_145 rfl rfl ?_
    refine Wk.icmp_lt (pcT := 161) (pcF := 149) C at_146 (by decide) (by decide) rfl (fun _ => ?_) (fun q => absurd q (by decide))
    refine Wk.iload (pc' := 163) C at_161 rfl rfl ?_
    refine Wk.bipush (z := (8 : Int32)) (pc' := 165) C at_163 rfl rfl ?_
    refine Wk.icmp_lt (pcT := 180) (pcF := 168) C at_165 (by decide) (by decide) rfl (fun _ => ?_) (fun q => absurd q (by decide))
    refine Wk.iload (pc' := 182) C at_180 rfl rfl ?_
    refine Wk.bipush (z := (12 : Int32)) (pc' := 184) C at_182 rfl rfl ?_
    refine Wk.icmp_lt (pcT := 199) (pcF := 187) C at_184 (by decide) (by decide) rfl (fun _ => ?_) (fun q => absurd q (by decide))
    refine Wk.iload (pc' := 201) C at_199 rfl rfl ?_
    refine Wk.iconst (z := (3 : Int32)) (pc' := 202) C at_201 rfl rfl ?_
    refine Wk.iand (pc' := 203) C at_202 rfl ?_
    refine Wk.istoreV (fun v201 => #[.val (.int x0), .val (.int x1), .val (.int x2), .val (.int x3), .val (.int (0 : Int32)), .val (.ref a198), .val (.int (1540483477 : Int32)), .val (.int v200), .val (.int v201), .unset]) (pc' := 205) C at_203 rfl rfl ?_
    intro v201 hv201
    obtain rfl : v201 = (0 : Int32) := hv201.trans (by decide)
    refine Wk.iload (pc' := 207) C at_205 rfl rfl ?_
    refine Wk.if_le (pcT := 254) (pcF := 210) C at_207 (by decide) (by decide) rfl (fun _ => ?_) (fun q => absurd q (by decide))
    refine Wk.iload (pc' := 256) C at_254 rfl rfl ?_
    refine Wk.iload (pc' := 258) C at_256 rfl rfl ?_
    refine Wk.bipush (z := (13 : Int32)) (pc' := 260) C at_258 rfl rfl ?_
    refine Wk.iushr (pc' := 261) C at_260 rfl ?_
    refine Wk.ixor (pc' := 262) C at_261 rfl ?_
    refine Wk.istoreV (fun v202 => #[.val (.int x0), .val (.int x1), .val (.int x2), .val (.int x3), .val (.int (0 : Int32)), .val (.ref a198), .val (.int (1540483477 : Int32)), .val (.int v202), .val (.int (0 : Int32)), .unset]) (pc' := 264) C at_262 rfl rfl ?_
    intro v202 hv202
    refine Wk.iload (pc' := 266) C at_264 rfl rfl ?_
    refine Wk.iload (pc' := 268) C at_266 rfl rfl ?_
    refine Wk.imul (pc' := 269) C at_268 rfl ?_
    refine Wk.istoreV (fun v203 => #[.val (.int x0), .val (.int x1), .val (.int x2), .val (.int x3), .val (.int (0 : Int32)), .val (.ref a198), .val (.int (1540483477 : Int32)), .val (.int v203), .val (.int (0 : Int32)), .unset]) (pc' := 271) C at_269 rfl rfl ?_
    intro v203 hv203
    refine Wk.iload (pc' := 273) C at_271 rfl rfl ?_
    refine Wk.iload (pc' := 275) C at_273 rfl rfl ?_
    refine Wk.bipush (z := (15 : Int32)) (pc' := 277) C at_275 rfl rfl ?_
    refine Wk.iushr (pc' := 278) C at_277 rfl ?_
    refine Wk.ixor (pc' := 279) C at_278 rfl ?_
    refine Wk.istoreV (fun v204 => #[.val (.int x0), .val (.int x1), .val (.int x2), .val (.int x3), .val (.int (0 : Int32)), .val (.ref a198), .val (.int (1540483477 : Int32)), .val (.int v204), .val (.int (0 : Int32)), .unset]) (pc' := 281) C at_279 rfl rfl ?_
    intro v204 hv204
    refine Wk.aload (pc' := 283) C at_281 rfl rfl rfl ?_
    refine Wk.callS (pc' := 286) (rm := { frames := 0, cells := 0, slots := 0, locals := 0 }) (W0 := 0) (argsL := [.ref a198]) (st := []) C (w8 hw) (w9 hw) (w10 hw) (w11 hw) (by decide) (fun h O => rm2_0 l Z a0 hw a198 ((a198, ArrC Z .byte 0 f199) :: []) 0 f199 h n0 O rfl) (by decide) (by decide) (by decide) (by decide) at_283 rfl pd_1 rfl rfl rfl rfl ?_
    rintro _ h' ⟨rfl, O'⟩
    refine ⟨_, O', ?_⟩
    change Wk p l e _ m _ below meth c _ _ n0 ((a198, ArrC Z .byte 0 f199) :: []) 1 12 286 #[.val (.int x0), .val (.int x1), .val (.int x2), .val (.int x3), .val (.int (0 : Int32)), .val (.ref a198), .val (.int (1540483477 : Int32)), .val (.int v204), .val (.int (0 : Int32)), .unset] [.int (G0 f199)]
    refine Wk.iload (pc' := 288) C at_286 rfl rfl ?_
    have hkey : G0 f199 = v204 := by
      subst hv204 hv203 hv202 hv200
      exact own_key0 x1 x2 x3 f199 e0 e1 e2 e3 e4 e5 e6 e7 e8 e9 e10 e11
    refine Wk.icmp_ne (pcT := 295) (pcF := 291) C at_288 (by decide) (by decide) rfl (fun c205 => (show False from c205 hkey).elim) (fun c205 => ?_)
    refine Wk.iconst (z := (1 : Int32)) (pc' := 292) C at_291 rfl rfl ?_
    refine Wk.goto (pc' := 296) C at_292 (by decide) (by decide) ?_
    exact Wk.retN C J at_296 (by decide) (by decide) (by simp) rfl (fun h O => rfl)
  · skip
    subst hn
    obtain rfl : nn = 1 := by have q : (1 : Int32).toInt = 1 := rfl; omega
    refine Wk.ldcInt (z := (1540483477 : Int32)) (pc' := 134) C (w6 hw) at_132 rfl ?_
    refine Wk.istore (Ls' := #[.val (.int x0), .val (.int x1), .val (.int x2), .val (.int x3), .val (.int (1 : Int32)), .val (.ref a198), .val (.int (1540483477 : Int32)), .unset, .unset, .unset]) (pc' := 136) C at_134 rfl rfl ?_
    refine Wk.ldcInt (z := (-1756908916 : Int32)) (pc' := 138) C (w7 hw) at_136 rfl ?_
    refine Wk.iload (pc' := 140) C at_138 rfl rfl ?_
    refine Wk.ixor (pc' := 141) C at_140 rfl ?_
    refine Wk.istoreV (fun v206 => #[.val (.int x0), .val (.int x1), .val (.int x2), .val (.int x3), .val (.int (1 : Int32)), .val (.ref a198), .val (.int (1540483477 : Int32)), .val (.int v206), .unset, .unset]) (pc' := 143) C at_141 rfl rfl ?_
    intro v206 hv206
    refine Wk.iload (pc' := 145) C at_143 rfl rfl ?_
    refine Wk.iconst (z := (4 : Int32)) (pc' := 146) C at_145 rfl rfl ?_
    refine Wk.icmp_lt (pcT := 161) (pcF := 149) C at_146 (by decide) (by decide) rfl (fun _ => ?_) (fun q => absurd q (by decide))
    refine Wk.iload (pc' := 163) C at_161 rfl rfl ?_
    refine Wk.bipush (z := (8 : Int32)) (pc' := 165) C at_163 rfl rfl ?_
    refine Wk.icmp_lt (pcT := 180) (pcF := 168) C at_165 (by decide) (by decide) rfl (fun _ => ?_) (fun q => absurd q (by decide))
    refine Wk.iload (pc' := 182) C at_180 rfl rfl ?_
    refine Wk.bipush (z := (12 : Int32)) (pc' := 184) C at_182 rfl rfl ?_
    refine Wk.icmp_lt (pcT := 199) (pcF := 187) C at_184 (by decide) (by decide) rfl (fun _ => ?_) (fun q => absurd q (by decide))
    refine Wk.iload (pc' := 201) C at_199 rfl rfl ?_
    refine Wk.iconst (z := (3 : Int32)) (pc' := 202) C at_201 rfl rfl ?_
    refine Wk.iand (pc' := 203) C at_202 rfl ?_
    refine Wk.istoreV (fun v207 => #[.val (.int x0), .val (.int x1), .val (.int x2), .val (.int x3), .val (.int (1 : Int32)), .val (.ref a198), .val (.int (1540483477 : Int32)), .val (.int v206), .val (.int v207), .unset]) (pc' := 205) C at_203 rfl rfl ?_
    intro v207 hv207
    obtain rfl : v207 = (1 : Int32) := hv207.trans (by decide)
    refine Wk.iload (pc' := 207) C at_205 rfl rfl ?_
    refine Wk.if_le (pcT := 254) (pcF := 210) C at_207 (by decide) (by decide) rfl (fun q => absurd q (by decide)) (fun _ => ?_)
    refine Wk.iload (pc' := 212) C at_210 rfl rfl ?_
    refine Wk.iconst (z := (4 : Int32)) (pc' := 213) C at_212 rfl rfl ?_
    refine Wk.icmp_ge (pcT := 220) (pcF := 216) C at_213 (by decide) (by decide) rfl (fun q => absurd q (by decide)) (fun _ => ?_)
    refine Wk.iloadN (pc' := 217) C at_216 rfl rfl ?_
    refine Wk.goto (pc' := 232) C at_217 (by decide) (by decide) ?_
    refine Wk.istore (Ls' := #[.val (.int x0), .val (.int x1), .val (.int x2), .val (.int x3), .val (.int (1 : Int32)), .val (.ref a198), .val (.int (1540483477 : Int32)), .val (.int v206), .val (.int (1 : Int32)), .val (.int x1)]) (pc' := 234) C at_232 rfl rfl ?_
    refine Wk.iload (pc' := 236) C at_234 rfl rfl ?_
    refine Wk.iload (pc' := 238) C at_236 rfl rfl ?_
    refine Wk.iconst (z := (1 : Int32)) (pc' := 239) C at_238 rfl rfl ?_
    refine Wk.bipush (z := (8 : Int32)) (pc' := 241) C at_239 rfl rfl ?_
    refine Wk.iload (pc' := 243) C at_241 rfl rfl ?_
    refine Wk.imul (pc' := 244) C at_243 rfl ?_
    refine Wk.ishl (pc' := 245) C at_244 rfl ?_
    refine Wk.iconst (z := (1 : Int32)) (pc' := 246) C at_245 rfl rfl ?_
    refine Wk.isub (pc' := 247) C at_246 rfl ?_
    refine Wk.iand (pc' := 248) C at_247 rfl ?_
    refine Wk.ixor (pc' := 249) C at_248 rfl ?_
    refine Wk.iload (pc' := 251) C at_249 rfl rfl ?_
    refine Wk.imul (pc' := 252) C at_251 rfl ?_
    refine Wk.istoreV (fun v208 => #[.val (.int x0), .val (.int x1), .val (.int x2), .val (.int x3), .val (.int (1 : Int32)), .val (.ref a198), .val (.int (1540483477 : Int32)), .val (.int v208), .val (.int (1 : Int32)), .val (.int x1)]) (pc' := 254) C at_252 rfl rfl ?_
    intro v208 hv208
    refine Wk.iload (pc' := 256) C at_254 rfl rfl ?_
    refine Wk.iload (pc' := 258) C at_256 rfl rfl ?_
    refine Wk.bipush (z := (13 : Int32)) (pc' := 260) C at_258 rfl rfl ?_
    refine Wk.iushr (pc' := 261) C at_260 rfl ?_
    refine Wk.ixor (pc' := 262) C at_261 rfl ?_
    refine Wk.istoreV (fun v209 => #[.val (.int x0), .val (.int x1), .val (.int x2), .val (.int x3), .val (.int (1 : Int32)), .val (.ref a198), .val (.int (1540483477 : Int32)), .val (.int v209), .val (.int (1 : Int32)), .val (.int x1)]) (pc' := 264) C at_262 rfl rfl ?_
    intro v209 hv209
    refine Wk.iload (pc' := 266) C at_264 rfl rfl ?_
    refine Wk.iload (pc' := 268) C at_266 rfl rfl ?_
    refine Wk.imul (pc' := 269) C at_268 rfl ?_
    refine Wk.istoreV (fun v210 => #[.val (.int x0), .val (.int x1), .val (.int x2), .val (.int x3), .val (.int (1 : Int32)), .val (.ref a198), .val (.int (1540483477 : Int32)), .val (.int v210), .val (.int (1 : Int32)), .val (.int x1)]) (pc' := 271) C at_269 rfl rfl ?_
    intro v210 hv210
    refine Wk.iload (pc' := 273) C at_271 rfl rfl ?_
    refine Wk.iload (pc' := 275) C at_273 rfl rfl ?_
    refine Wk.bipush (z := (15 : Int32)) (pc' := 277) C at_275 rfl rfl ?_
    refine Wk.iushr (pc' := 278) C at_277 rfl ?_
    refine Wk.ixor (pc' := 279) C at_278 rfl ?_
    refine Wk.istoreV (fun v211 => #[.val (.int x0), .val (.int x1), .val (.int x2), .val (.int x3), .val (.int (1 : Int32)), .val (.ref a198), .val (.int (1540483477 : Int32)), .val (.int v211), .val (.int (1 : Int32)), .val (.int x1)]) (pc' := 281) C at_279 rfl rfl ?_
    intro v211 hv211
    refine Wk.aload (pc' := 283) C at_281 rfl rfl rfl ?_
    refine Wk.callS (pc' := 286) (rm := { frames := 0, cells := 0, slots := 0, locals := 0 }) (W0 := 0) (argsL := [.ref a198]) (st := []) C (w8 hw) (w9 hw) (w10 hw) (w11 hw) (by decide) (fun h O => rm2_1 l Z a0 hw a198 ((a198, ArrC Z .byte 1 f199) :: []) 0 f199 h n0 O rfl) (by decide) (by decide) (by decide) (by decide) at_283 rfl pd_1 rfl rfl rfl rfl ?_
    rintro _ h' ⟨rfl, O'⟩
    refine ⟨_, O', ?_⟩
    change Wk p l e _ m _ below meth c _ _ n0 ((a198, ArrC Z .byte 1 f199) :: []) 1 12 286 #[.val (.int x0), .val (.int x1), .val (.int x2), .val (.int x3), .val (.int (1 : Int32)), .val (.ref a198), .val (.int (1540483477 : Int32)), .val (.int v211), .val (.int (1 : Int32)), .val (.int x1)] [.int (G1 f199)]
    refine Wk.iload (pc' := 288) C at_286 rfl rfl ?_
    have hkey : G1 f199 = v211 := by
      subst hv211 hv210 hv209 hv208 hv206
      exact own_key1 x1 x2 x3 f199 e0 e1 e2 e3 e4 e5 e6 e7 e8 e9 e10 e11
    refine Wk.icmp_ne (pcT := 295) (pcF := 291) C at_288 (by decide) (by decide) rfl (fun c212 => (show False from c212 hkey).elim) (fun c212 => ?_)
    refine Wk.iconst (z := (1 : Int32)) (pc' := 292) C at_291 rfl rfl ?_
    refine Wk.goto (pc' := 296) C at_292 (by decide) (by decide) ?_
    exact Wk.retN C J at_296 (by decide) (by decide) (by simp) rfl (fun h O => rfl)
  · skip
    subst hn
    obtain rfl : nn = 2 := by have q : (2 : Int32).toInt = 2 := rfl; omega
    refine Wk.ldcInt (z := (1540483477 : Int32)) (pc' := 134) C (w6 hw) at_132 rfl ?_
    refine Wk.istore (Ls' := #[.val (.int x0), .val (.int x1), .val (.int x2), .val (.int x3), .val (.int (2 : Int32)), .val (.ref a198), .val (.int (1540483477 : Int32)), .unset, .unset, .unset]) (pc' := 136) C at_134 rfl rfl ?_
    refine Wk.ldcInt (z := (-1756908916 : Int32)) (pc' := 138) C (w7 hw) at_136 rfl ?_
    refine Wk.iload (pc' := 140) C at_138 rfl rfl ?_
    refine Wk.ixor (pc' := 141) C at_140 rfl ?_
    refine Wk.istoreV (fun v213 => #[.val (.int x0), .val (.int x1), .val (.int x2), .val (.int x3), .val (.int (2 : Int32)), .val (.ref a198), .val (.int (1540483477 : Int32)), .val (.int v213), .unset, .unset]) (pc' := 143) C at_141 rfl rfl ?_
    intro v213 hv213
    refine Wk.iload (pc' := 145) C at_143 rfl rfl ?_
    refine Wk.iconst (z := (4 : Int32)) (pc' := 146) C at_145 rfl rfl ?_
    refine Wk.icmp_lt (pcT := 161) (pcF := 149) C at_146 (by decide) (by decide) rfl (fun _ => ?_) (fun q => absurd q (by decide))
    refine Wk.iload (pc' := 163) C at_161 rfl rfl ?_
    refine Wk.bipush (z := (8 : Int32)) (pc' := 165) C at_163 rfl rfl ?_
    refine Wk.icmp_lt (pcT := 180) (pcF := 168) C at_165 (by decide) (by decide) rfl (fun _ => ?_) (fun q => absurd q (by decide))
    refine Wk.iload (pc' := 182) C at_180 rfl rfl ?_
    refine Wk.bipush (z := (12 : Int32)) (pc' := 184) C at_182 rfl rfl ?_
    refine Wk.icmp_lt (pcT := 199) (pcF := 187) C at_184 (by decide) (by decide) rfl (fun _ => ?_) (fun q => absurd q (by decide))
    refine Wk.iload (pc' := 201) C at_199 rfl rfl ?_
    refine Wk.iconst (z := (3 : Int32)) (pc' := 202) C at_201 rfl rfl ?_
    refine Wk.iand (pc' := 203) C at_202 rfl ?_
    refine Wk.istoreV (fun v214 => #[.val (.int x0), .val (.int x1), .val (.int x2), .val (.int x3), .val (.int (2 : Int32)), .val (.ref a198), .val (.int (1540483477 : Int32)), .val (.int v213), .val (.int v214), .unset]) (pc' := 205) C at_203 rfl rfl ?_
    intro v214 hv214
    obtain rfl : v214 = (2 : Int32) := hv214.trans (by decide)
    refine Wk.iload (pc' := 207) C at_205 rfl rfl ?_
    refine Wk.if_le (pcT := 254) (pcF := 210) C at_207 (by decide) (by decide) rfl (fun q => absurd q (by decide)) (fun _ => ?_)
    refine Wk.iload (pc' := 212) C at_210 rfl rfl ?_
    refine Wk.iconst (z := (4 : Int32)) (pc' := 213) C at_212 rfl rfl ?_
    refine Wk.icmp_ge (pcT := 220) (pcF := 216) C at_213 (by decide) (by decide) rfl (fun q => absurd q (by decide)) (fun _ => ?_)
    refine Wk.iloadN (pc' := 217) C at_216 rfl rfl ?_
    refine Wk.goto (pc' := 232) C at_217 (by decide) (by decide) ?_
    refine Wk.istore (Ls' := #[.val (.int x0), .val (.int x1), .val (.int x2), .val (.int x3), .val (.int (2 : Int32)), .val (.ref a198), .val (.int (1540483477 : Int32)), .val (.int v213), .val (.int (2 : Int32)), .val (.int x1)]) (pc' := 234) C at_232 rfl rfl ?_
    refine Wk.iload (pc' := 236) C at_234 rfl rfl ?_
    refine Wk.iload (pc' := 238) C at_236 rfl rfl ?_
    refine Wk.iconst (z := (1 : Int32)) (pc' := 239) C at_238 rfl rfl ?_
    refine Wk.bipush (z := (8 : Int32)) (pc' := 241) C at_239 rfl rfl ?_
    refine Wk.iload (pc' := 243) C at_241 rfl rfl ?_
    refine Wk.imul (pc' := 244) C at_243 rfl ?_
    refine Wk.ishl (pc' := 245) C at_244 rfl ?_
    refine Wk.iconst (z := (1 : Int32)) (pc' := 246) C at_245 rfl rfl ?_
    refine Wk.isub (pc' := 247) C at_246 rfl ?_
    refine Wk.iand (pc' := 248) C at_247 rfl ?_
    refine Wk.ixor (pc' := 249) C at_248 rfl ?_
    refine Wk.iload (pc' := 251) C at_249 rfl rfl ?_
    refine Wk.imul (pc' := 252) C at_251 rfl ?_
    refine Wk.istoreV (fun v215 => #[.val (.int x0), .val (.int x1), .val (.int x2), .val (.int x3), .val (.int (2 : Int32)), .val (.ref a198), .val (.int (1540483477 : Int32)), .val (.int v215), .val (.int (2 : Int32)), .val (.int x1)]) (pc' := 254) C at_252 rfl rfl ?_
    intro v215 hv215
    refine Wk.iload (pc' := 256) C at_254 rfl rfl ?_
    refine Wk.iload (pc' := 258) C at_256 rfl rfl ?_
    refine Wk.bipush (z := (13 : Int32)) (pc' := 260) C at_258 rfl rfl ?_
    refine Wk.iushr (pc' := 261) C at_260 rfl ?_
    refine Wk.ixor (pc' := 262) C at_261 rfl ?_
    refine Wk.istoreV (fun v216 => #[.val (.int x0), .val (.int x1), .val (.int x2), .val (.int x3), .val (.int (2 : Int32)), .val (.ref a198), .val (.int (1540483477 : Int32)), .val (.int v216), .val (.int (2 : Int32)), .val (.int x1)]) (pc' := 264) C at_262 rfl rfl ?_
    intro v216 hv216
    refine Wk.iload (pc' := 266) C at_264 rfl rfl ?_
    refine Wk.iload (pc' := 268) C at_266 rfl rfl ?_
    refine Wk.imul (pc' := 269) C at_268 rfl ?_
    refine Wk.istoreV (fun v217 => #[.val (.int x0), .val (.int x1), .val (.int x2), .val (.int x3), .val (.int (2 : Int32)), .val (.ref a198), .val (.int (1540483477 : Int32)), .val (.int v217), .val (.int (2 : Int32)), .val (.int x1)]) (pc' := 271) C at_269 rfl rfl ?_
    intro v217 hv217
    refine Wk.iload (pc' := 273) C at_271 rfl rfl ?_
    refine Wk.iload (pc' := 275) C at_273 rfl rfl ?_
    refine Wk.bipush (z := (15 : Int32)) (pc' := 277) C at_275 rfl rfl ?_
    refine Wk.iushr (pc' := 278) C at_277 rfl ?_
    refine Wk.ixor (pc' := 279) C at_278 rfl ?_
    refine Wk.istoreV (fun v218 => #[.val (.int x0), .val (.int x1), .val (.int x2), .val (.int x3), .val (.int (2 : Int32)), .val (.ref a198), .val (.int (1540483477 : Int32)), .val (.int v218), .val (.int (2 : Int32)), .val (.int x1)]) (pc' := 281) C at_279 rfl rfl ?_
    intro v218 hv218
    refine Wk.aload (pc' := 283) C at_281 rfl rfl rfl ?_
    refine Wk.callS (pc' := 286) (rm := { frames := 0, cells := 0, slots := 0, locals := 0 }) (W0 := 0) (argsL := [.ref a198]) (st := []) C (w8 hw) (w9 hw) (w10 hw) (w11 hw) (by decide) (fun h O => rm2_2 l Z a0 hw a198 ((a198, ArrC Z .byte 2 f199) :: []) 0 f199 h n0 O rfl) (by decide) (by decide) (by decide) (by decide) at_283 rfl pd_1 rfl rfl rfl rfl ?_
    rintro _ h' ⟨rfl, O'⟩
    refine ⟨_, O', ?_⟩
    change Wk p l e _ m _ below meth c _ _ n0 ((a198, ArrC Z .byte 2 f199) :: []) 1 12 286 #[.val (.int x0), .val (.int x1), .val (.int x2), .val (.int x3), .val (.int (2 : Int32)), .val (.ref a198), .val (.int (1540483477 : Int32)), .val (.int v218), .val (.int (2 : Int32)), .val (.int x1)] [.int (G2 f199)]
    refine Wk.iload (pc' := 288) C at_286 rfl rfl ?_
    have hkey : G2 f199 = v218 := by
      subst hv218 hv217 hv216 hv215 hv213
      exact own_key2 x1 x2 x3 f199 e0 e1 e2 e3 e4 e5 e6 e7 e8 e9 e10 e11
    refine Wk.icmp_ne (pcT := 295) (pcF := 291) C at_288 (by decide) (by decide) rfl (fun c219 => (show False from c219 hkey).elim) (fun c219 => ?_)
    refine Wk.iconst (z := (1 : Int32)) (pc' := 292) C at_291 rfl rfl ?_
    refine Wk.goto (pc' := 296) C at_292 (by decide) (by decide) ?_
    exact Wk.retN C J at_296 (by decide) (by decide) (by simp) rfl (fun h O => rfl)
  · skip
    subst hn
    obtain rfl : nn = 3 := by have q : (3 : Int32).toInt = 3 := rfl; omega
    refine Wk.ldcInt (z := (1540483477 : Int32)) (pc' := 134) C (w6 hw) at_132 rfl ?_
    refine Wk.istore (Ls' := #[.val (.int x0), .val (.int x1), .val (.int x2), .val (.int x3), .val (.int (3 : Int32)), .val (.ref a198), .val (.int (1540483477 : Int32)), .unset, .unset, .unset]) (pc' := 136) C at_134 rfl rfl ?_
    refine Wk.ldcInt (z := (-1756908916 : Int32)) (pc' := 138) C (w7 hw) at_136 rfl ?_
    refine Wk.iload (pc' := 140) C at_138 rfl rfl ?_
    refine Wk.ixor (pc' := 141) C at_140 rfl ?_
    refine Wk.istoreV (fun v220 => #[.val (.int x0), .val (.int x1), .val (.int x2), .val (.int x3), .val (.int (3 : Int32)), .val (.ref a198), .val (.int (1540483477 : Int32)), .val (.int v220), .unset, .unset]) (pc' := 143) C at_141 rfl rfl ?_
    intro v220 hv220
    refine Wk.iload (pc' := 145) C at_143 rfl rfl ?_
    refine Wk.iconst (z := (4 : Int32)) (pc' := 146) C at_145 rfl rfl ?_
    refine Wk.icmp_lt (pcT := 161) (pcF := 149) C at_146 (by decide) (by decide) rfl (fun _ => ?_) (fun q => absurd q (by decide))
    refine Wk.iload (pc' := 163) C at_161 rfl rfl ?_
    refine Wk.bipush (z := (8 : Int32)) (pc' := 165) C at_163 rfl rfl ?_
    refine Wk.icmp_lt (pcT := 180) (pcF := 168) C at_165 (by decide) (by decide) rfl (fun _ => ?_) (fun q => absurd q (by decide))
    refine Wk.iload (pc' := 182) C at_180 rfl rfl ?_
    refine Wk.bipush (z := (12 : Int32)) (pc' := 184) C at_182 rfl rfl ?_
    refine Wk.icmp_lt (pcT := 199) (pcF := 187) C at_184 (by decide) (by decide) rfl (fun _ => ?_) (fun q => absurd q (by decide))
    refine Wk.iload (pc' := 201) C at_199 rfl rfl ?_
    refine Wk.iconst (z := (3 : Int32)) (pc' := 202) C at_201 rfl rfl ?_
    refine Wk.iand (pc' := 203) C at_202 rfl ?_
    refine Wk.istoreV (fun v221 => #[.val (.int x0), .val (.int x1), .val (.int x2), .val (.int x3), .val (.int (3 : Int32)), .val (.ref a198), .val (.int (1540483477 : Int32)), .val (.int v220), .val (.int v221), .unset]) (pc' := 205) C at_203 rfl rfl ?_
    intro v221 hv221
    obtain rfl : v221 = (3 : Int32) := hv221.trans (by decide)
    refine Wk.iload (pc' := 207) C at_205 rfl rfl ?_
    refine Wk.if_le (pcT := 254) (pcF := 210) C at_207 (by decide) (by decide) rfl (fun q => absurd q (by decide)) (fun _ => ?_)
    refine Wk.iload (pc' := 212) C at_210 rfl rfl ?_
    refine Wk.iconst (z := (4 : Int32)) (pc' := 213) C at_212 rfl rfl ?_
    refine Wk.icmp_ge (pcT := 220) (pcF := 216) C at_213 (by decide) (by decide) rfl (fun q => absurd q (by decide)) (fun _ => ?_)
    refine Wk.iloadN (pc' := 217) C at_216 rfl rfl ?_
    refine Wk.goto (pc' := 232) C at_217 (by decide) (by decide) ?_
    refine Wk.istore (Ls' := #[.val (.int x0), .val (.int x1), .val (.int x2), .val (.int x3), .val (.int (3 : Int32)), .val (.ref a198), .val (.int (1540483477 : Int32)), .val (.int v220), .val (.int (3 : Int32)), .val (.int x1)]) (pc' := 234) C at_232 rfl rfl ?_
    refine Wk.iload (pc' := 236) C at_234 rfl rfl ?_
    refine Wk.iload (pc' := 238) C at_236 rfl rfl ?_
    refine Wk.iconst (z := (1 : Int32)) (pc' := 239) C at_238 rfl rfl ?_
    refine Wk.bipush (z := (8 : Int32)) (pc' := 241) C at_239 rfl rfl ?_
    refine Wk.iload (pc' := 243) C at_241 rfl rfl ?_
    refine Wk.imul (pc' := 244) C at_243 rfl ?_
    refine Wk.ishl (pc' := 245) C at_244 rfl ?_
    refine Wk.iconst (z := (1 : Int32)) (pc' := 246) C at_245 rfl rfl ?_
    refine Wk.isub (pc' := 247) C at_246 rfl ?_
    refine Wk.iand (pc' := 248) C at_247 rfl ?_
    refine Wk.ixor (pc' := 249) C at_248 rfl ?_
    refine Wk.iload (pc' := 251) C at_249 rfl rfl ?_
    refine Wk.imul (pc' := 252) C at_251 rfl ?_
    refine Wk.istoreV (fun v222 => #[.val (.int x0), .val (.int x1), .val (.int x2), .val (.int x3), .val (.int (3 : Int32)), .val (.ref a198), .val (.int (1540483477 : Int32)), .val (.int v222), .val (.int (3 : Int32)), .val (.int x1)]) (pc' := 254) C at_252 rfl rfl ?_
    intro v222 hv222
    refine Wk.iload (pc' := 256) C at_254 rfl rfl ?_
    refine Wk.iload (pc' := 258) C at_256 rfl rfl ?_
    refine Wk.bipush (z := (13 : Int32)) (pc' := 260) C at_258 rfl rfl ?_
    refine Wk.iushr (pc' := 261) C at_260 rfl ?_
    refine Wk.ixor (pc' := 262) C at_261 rfl ?_
    refine Wk.istoreV (fun v223 => #[.val (.int x0), .val (.int x1), .val (.int x2), .val (.int x3), .val (.int (3 : Int32)), .val (.ref a198), .val (.int (1540483477 : Int32)), .val (.int v223), .val (.int (3 : Int32)), .val (.int x1)]) (pc' := 264) C at_262 rfl rfl ?_
    intro v223 hv223
    refine Wk.iload (pc' := 266) C at_264 rfl rfl ?_
    refine Wk.iload (pc' := 268) C at_266 rfl rfl ?_
    refine Wk.imul (pc' := 269) C at_268 rfl ?_
    refine Wk.istoreV (fun v224 => #[.val (.int x0), .val (.int x1), .val (.int x2), .val (.int x3), .val (.int (3 : Int32)), .val (.ref a198), .val (.int (1540483477 : Int32)), .val (.int v224), .val (.int (3 : Int32)), .val (.int x1)]) (pc' := 271) C at_269 rfl rfl ?_
    intro v224 hv224
    refine Wk.iload (pc' := 273) C at_271 rfl rfl ?_
    refine Wk.iload (pc' := 275) C at_273 rfl rfl ?_
    refine Wk.bipush (z := (15 : Int32)) (pc' := 277) C at_275 rfl rfl ?_
    refine Wk.iushr (pc' := 278) C at_277 rfl ?_
    refine Wk.ixor (pc' := 279) C at_278 rfl ?_
    refine Wk.istoreV (fun v225 => #[.val (.int x0), .val (.int x1), .val (.int x2), .val (.int x3), .val (.int (3 : Int32)), .val (.ref a198), .val (.int (1540483477 : Int32)), .val (.int v225), .val (.int (3 : Int32)), .val (.int x1)]) (pc' := 281) C at_279 rfl rfl ?_
    intro v225 hv225
    refine Wk.aload (pc' := 283) C at_281 rfl rfl rfl ?_
    refine Wk.callS (pc' := 286) (rm := { frames := 0, cells := 0, slots := 0, locals := 0 }) (W0 := 0) (argsL := [.ref a198]) (st := []) C (w8 hw) (w9 hw) (w10 hw) (w11 hw) (by decide) (fun h O => rm2_3 l Z a0 hw a198 ((a198, ArrC Z .byte 3 f199) :: []) 0 f199 h n0 O rfl) (by decide) (by decide) (by decide) (by decide) at_283 rfl pd_1 rfl rfl rfl rfl ?_
    rintro _ h' ⟨rfl, O'⟩
    refine ⟨_, O', ?_⟩
    change Wk p l e _ m _ below meth c _ _ n0 ((a198, ArrC Z .byte 3 f199) :: []) 1 12 286 #[.val (.int x0), .val (.int x1), .val (.int x2), .val (.int x3), .val (.int (3 : Int32)), .val (.ref a198), .val (.int (1540483477 : Int32)), .val (.int v225), .val (.int (3 : Int32)), .val (.int x1)] [.int (G3 f199)]
    refine Wk.iload (pc' := 288) C at_286 rfl rfl ?_
    have hkey : G3 f199 = v225 := by
      subst hv225 hv224 hv223 hv222 hv220
      exact own_key3 x1 x2 x3 f199 e0 e1 e2 e3 e4 e5 e6 e7 e8 e9 e10 e11
    refine Wk.icmp_ne (pcT := 295) (pcF := 291) C at_288 (by decide) (by decide) rfl (fun c226 => (show False from c226 hkey).elim) (fun c226 => ?_)
    refine Wk.iconst (z := (1 : Int32)) (pc' := 292) C at_291 rfl rfl ?_
    refine Wk.goto (pc' := 296) C at_292 (by decide) (by decide) ?_
    exact Wk.retN C J at_296 (by decide) (by decide) (by simp) rfl (fun h O => rfl)
  · skip
    subst hn
    obtain rfl : nn = 4 := by have q : (4 : Int32).toInt = 4 := rfl; omega
    refine Wk.ldcInt (z := (1540483477 : Int32)) (pc' := 134) C (w6 hw) at_132 rfl ?_
    refine Wk.istore (Ls' := #[.val (.int x0), .val (.int x1), .val (.int x2), .val (.int x3), .val (.int (4 : Int32)), .val (.ref a198), .val (.int (1540483477 : Int32)), .unset, .unset, .unset]) (pc' := 136) C at_134 rfl rfl ?_
    refine Wk.ldcInt (z := (-1756908916 : Int32)) (pc' := 138) C (w7 hw) at_136 rfl ?_
    refine Wk.iload (pc' := 140) C at_138 rfl rfl ?_
    refine Wk.ixor (pc' := 141) C at_140 rfl ?_
    refine Wk.istoreV (fun v227 => #[.val (.int x0), .val (.int x1), .val (.int x2), .val (.int x3), .val (.int (4 : Int32)), .val (.ref a198), .val (.int (1540483477 : Int32)), .val (.int v227), .unset, .unset]) (pc' := 143) C at_141 rfl rfl ?_
    intro v227 hv227
    refine Wk.iload (pc' := 145) C at_143 rfl rfl ?_
    refine Wk.iconst (z := (4 : Int32)) (pc' := 146) C at_145 rfl rfl ?_
    refine Wk.icmp_lt (pcT := 161) (pcF := 149) C at_146 (by decide) (by decide) rfl (fun q => absurd q (by decide)) (fun _ => ?_)
    refine Wk.iload (pc' := 151) C at_149 rfl rfl ?_
    refine Wk.iload (pc' := 153) C at_151 rfl rfl ?_
    refine Wk.imul (pc' := 154) C at_153 rfl ?_
    refine Wk.iloadN (pc' := 155) C at_154 rfl rfl ?_
    refine Wk.callS (pc' := 158) (rm := { frames := 0, cells := 0, slots := 0, locals := 0 }) (W0 := 1) (argsL := [.int x1]) (st := [.int (v227 * (1540483477 : Int32))]) C (w14 hw) (w15 hw) (w4 hw) (w16 hw) (by decide) (fun h O => rm3 l Z a0 hw x1 ((a198, ArrC Z .byte 4 f199) :: []) h n0 O) (by decide) (by decide) (by decide) (by decide) at_155 rfl pd_2 rfl rfl rfl rfl ?_
    rintro _ h' ⟨rfl, O'⟩
    refine ⟨_, O', ?_⟩
    change Wk p l e _ m _ below meth c _ _ n0 ((a198, ArrC Z .byte 4 f199) :: []) 1 12 158 #[.val (.int x0), .val (.int x1), .val (.int x2), .val (.int x3), .val (.int (4 : Int32)), .val (.ref a198), .val (.int (1540483477 : Int32)), .val (.int v227), .unset, .unset] [.int (F3 x1), .int (v227 * (1540483477 : Int32))]
    refine Wk.ixor (pc' := 159) C at_158 rfl ?_
    refine Wk.istoreV (fun v228 => #[.val (.int x0), .val (.int x1), .val (.int x2), .val (.int x3), .val (.int (4 : Int32)), .val (.ref a198), .val (.int (1540483477 : Int32)), .val (.int v228), .unset, .unset]) (pc' := 161) C at_159 rfl rfl ?_
    intro v228 hv228
    refine Wk.iload (pc' := 163) C at_161 rfl rfl ?_
    refine Wk.bipush (z := (8 : Int32)) (pc' := 165) C at_163 rfl rfl ?_
    refine Wk.icmp_lt (pcT := 180) (pcF := 168) C at_165 (by decide) (by decide) rfl (fun _ => ?_) (fun q => absurd q (by decide))
    refine Wk.iload (pc' := 182) C at_180 rfl rfl ?_
    refine Wk.bipush (z := (12 : Int32)) (pc' := 184) C at_182 rfl rfl ?_
    refine Wk.icmp_lt (pcT := 199) (pcF := 187) C at_184 (by decide) (by decide) rfl (fun _ => ?_) (fun q => absurd q (by decide))
    refine Wk.iload (pc' := 201) C at_199 rfl rfl ?_
    refine Wk.iconst (z := (3 : Int32)) (pc' := 202) C at_201 rfl rfl ?_
    refine Wk.iand (pc' := 203) C at_202 rfl ?_
    refine Wk.istoreV (fun v229 => #[.val (.int x0), .val (.int x1), .val (.int x2), .val (.int x3), .val (.int (4 : Int32)), .val (.ref a198), .val (.int (1540483477 : Int32)), .val (.int v228), .val (.int v229), .unset]) (pc' := 205) C at_203 rfl rfl ?_
    intro v229 hv229
    obtain rfl : v229 = (0 : Int32) := hv229.trans (by decide)
    refine Wk.iload (pc' := 207) C at_205 rfl rfl ?_
    refine Wk.if_le (pcT := 254) (pcF := 210) C at_207 (by decide) (by decide) rfl (fun _ => ?_) (fun q => absurd q (by decide))
    refine Wk.iload (pc' := 256) C at_254 rfl rfl ?_
    refine Wk.iload (pc' := 258) C at_256 rfl rfl ?_
    refine Wk.bipush (z := (13 : Int32)) (pc' := 260) C at_258 rfl rfl ?_
    refine Wk.iushr (pc' := 261) C at_260 rfl ?_
    refine Wk.ixor (pc' := 262) C at_261 rfl ?_
    refine Wk.istoreV (fun v230 => #[.val (.int x0), .val (.int x1), .val (.int x2), .val (.int x3), .val (.int (4 : Int32)), .val (.ref a198), .val (.int (1540483477 : Int32)), .val (.int v230), .val (.int (0 : Int32)), .unset]) (pc' := 264) C at_262 rfl rfl ?_
    intro v230 hv230
    refine Wk.iload (pc' := 266) C at_264 rfl rfl ?_
    refine Wk.iload (pc' := 268) C at_266 rfl rfl ?_
    refine Wk.imul (pc' := 269) C at_268 rfl ?_
    refine Wk.istoreV (fun v231 => #[.val (.int x0), .val (.int x1), .val (.int x2), .val (.int x3), .val (.int (4 : Int32)), .val (.ref a198), .val (.int (1540483477 : Int32)), .val (.int v231), .val (.int (0 : Int32)), .unset]) (pc' := 271) C at_269 rfl rfl ?_
    intro v231 hv231
    refine Wk.iload (pc' := 273) C at_271 rfl rfl ?_
    refine Wk.iload (pc' := 275) C at_273 rfl rfl ?_
    refine Wk.bipush (z := (15 : Int32)) (pc' := 277) C at_275 rfl rfl ?_
    refine Wk.iushr (pc' := 278) C at_277 rfl ?_
    refine Wk.ixor (pc' := 279) C at_278 rfl ?_
    refine Wk.istoreV (fun v232 => #[.val (.int x0), .val (.int x1), .val (.int x2), .val (.int x3), .val (.int (4 : Int32)), .val (.ref a198), .val (.int (1540483477 : Int32)), .val (.int v232), .val (.int (0 : Int32)), .unset]) (pc' := 281) C at_279 rfl rfl ?_
    intro v232 hv232
    refine Wk.aload (pc' := 283) C at_281 rfl rfl rfl ?_
    refine Wk.callS (pc' := 286) (rm := { frames := 0, cells := 0, slots := 0, locals := 0 }) (W0 := 0) (argsL := [.ref a198]) (st := []) C (w8 hw) (w9 hw) (w10 hw) (w11 hw) (by decide) (fun h O => rm2_4 l Z a0 hw a198 ((a198, ArrC Z .byte 4 f199) :: []) 0 f199 h n0 O rfl) (by decide) (by decide) (by decide) (by decide) at_283 rfl pd_1 rfl rfl rfl rfl ?_
    rintro _ h' ⟨rfl, O'⟩
    refine ⟨_, O', ?_⟩
    change Wk p l e _ m _ below meth c _ _ n0 ((a198, ArrC Z .byte 4 f199) :: []) 1 12 286 #[.val (.int x0), .val (.int x1), .val (.int x2), .val (.int x3), .val (.int (4 : Int32)), .val (.ref a198), .val (.int (1540483477 : Int32)), .val (.int v232), .val (.int (0 : Int32)), .unset] [.int (G4 f199)]
    refine Wk.iload (pc' := 288) C at_286 rfl rfl ?_
    have hkey : G4 f199 = v232 := by
      subst hv232 hv231 hv230 hv228 hv227
      exact own_key4 x1 x2 x3 f199 e0 e1 e2 e3 e4 e5 e6 e7 e8 e9 e10 e11
    refine Wk.icmp_ne (pcT := 295) (pcF := 291) C at_288 (by decide) (by decide) rfl (fun c233 => (show False from c233 hkey).elim) (fun c233 => ?_)
    refine Wk.iconst (z := (1 : Int32)) (pc' := 292) C at_291 rfl rfl ?_
    refine Wk.goto (pc' := 296) C at_292 (by decide) (by decide) ?_
    exact Wk.retN C J at_296 (by decide) (by decide) (by simp) rfl (fun h O => rfl)
  · skip
    subst hn
    obtain rfl : nn = 5 := by have q : (5 : Int32).toInt = 5 := rfl; omega
    refine Wk.ldcInt (z := (1540483477 : Int32)) (pc' := 134) C (w6 hw) at_132 rfl ?_
    refine Wk.istore (Ls' := #[.val (.int x0), .val (.int x1), .val (.int x2), .val (.int x3), .val (.int (5 : Int32)), .val (.ref a198), .val (.int (1540483477 : Int32)), .unset, .unset, .unset]) (pc' := 136) C at_134 rfl rfl ?_
    refine Wk.ldcInt (z := (-1756908916 : Int32)) (pc' := 138) C (w7 hw) at_136 rfl ?_
    refine Wk.iload (pc' := 140) C at_138 rfl rfl ?_
    refine Wk.ixor (pc' := 141) C at_140 rfl ?_
    refine Wk.istoreV (fun v234 => #[.val (.int x0), .val (.int x1), .val (.int x2), .val (.int x3), .val (.int (5 : Int32)), .val (.ref a198), .val (.int (1540483477 : Int32)), .val (.int v234), .unset, .unset]) (pc' := 143) C at_141 rfl rfl ?_
    intro v234 hv234
    refine Wk.iload (pc' := 145) C at_143 rfl rfl ?_
    refine Wk.iconst (z := (4 : Int32)) (pc' := 146) C at_145 rfl rfl ?_
    refine Wk.icmp_lt (pcT := 161) (pcF := 149) C at_146 (by decide) (by decide) rfl (fun q => absurd q (by decide)) (fun _ => ?_)
    refine Wk.iload (pc' := 151) C at_149 rfl rfl ?_
    refine Wk.iload (pc' := 153) C at_151 rfl rfl ?_
    refine Wk.imul (pc' := 154) C at_153 rfl ?_
    refine Wk.iloadN (pc' := 155) C at_154 rfl rfl ?_
    refine Wk.callS (pc' := 158) (rm := { frames := 0, cells := 0, slots := 0, locals := 0 }) (W0 := 1) (argsL := [.int x1]) (st := [.int (v234 * (1540483477 : Int32))]) C (w14 hw) (w15 hw) (w4 hw) (w16 hw) (by decide) (fun h O => rm3 l Z a0 hw x1 ((a198, ArrC Z .byte 5 f199) :: []) h n0 O) (by decide) (by decide) (by decide) (by decide) at_155 rfl pd_2 rfl rfl rfl rfl ?_
    rintro _ h' ⟨rfl, O'⟩
    refine ⟨_, O', ?_⟩
    change Wk p l e _ m _ below meth c _ _ n0 ((a198, ArrC Z .byte 5 f199) :: []) 1 12 158 #[.val (.int x0), .val (.int x1), .val (.int x2), .val (.int x3), .val (.int (5 : Int32)), .val (.ref a198), .val (.int (1540483477 : Int32)), .val (.int v234), .unset, .unset] [.int (F3 x1), .int (v234 * (1540483477 : Int32))]
    refine Wk.ixor (pc' := 159) C at_158 rfl ?_
    refine Wk.istoreV (fun v235 => #[.val (.int x0), .val (.int x1), .val (.int x2), .val (.int x3), .val (.int (5 : Int32)), .val (.ref a198), .val (.int (1540483477 : Int32)), .val (.int v235), .unset, .unset]) (pc' := 161) C at_159 rfl rfl ?_
    intro v235 hv235
    refine Wk.iload (pc' := 163) C at_161 rfl rfl ?_
    refine Wk.bipush (z := (8 : Int32)) (pc' := 165) C at_163 rfl rfl ?_
    refine Wk.icmp_lt (pcT := 180) (pcF := 168) C at_165 (by decide) (by decide) rfl (fun _ => ?_) (fun q => absurd q (by decide))
    refine Wk.iload (pc' := 182) C at_180 rfl rfl ?_
    refine Wk.bipush (z := (12 : Int32)) (pc' := 184) C at_182 rfl rfl ?_
    refine Wk.icmp_lt (pcT := 199) (pcF := 187) C at_184 (by decide) (by decide) rfl (fun _ => ?_) (fun q => absurd q (by decide))
    refine Wk.iload (pc' := 201) C at_199 rfl rfl ?_
    refine Wk.iconst (z := (3 : Int32)) (pc' := 202) C at_201 rfl rfl ?_
    refine Wk.iand (pc' := 203) C at_202 rfl ?_
    refine Wk.istoreV (fun v236 => #[.val (.int x0), .val (.int x1), .val (.int x2), .val (.int x3), .val (.int (5 : Int32)), .val (.ref a198), .val (.int (1540483477 : Int32)), .val (.int v235), .val (.int v236), .unset]) (pc' := 205) C at_203 rfl rfl ?_
    intro v236 hv236
    obtain rfl : v236 = (1 : Int32) := hv236.trans (by decide)
    refine Wk.iload (pc' := 207) C at_205 rfl rfl ?_
    refine Wk.if_le (pcT := 254) (pcF := 210) C at_207 (by decide) (by decide) rfl (fun q => absurd q (by decide)) (fun _ => ?_)
    refine Wk.iload (pc' := 212) C at_210 rfl rfl ?_
    refine Wk.iconst (z := (4 : Int32)) (pc' := 213) C at_212 rfl rfl ?_
    refine Wk.icmp_ge (pcT := 220) (pcF := 216) C at_213 (by decide) (by decide) rfl (fun _ => ?_) (fun q => absurd q (by decide))
    refine Wk.iload (pc' := 222) C at_220 rfl rfl ?_
    refine Wk.bipush (z := (8 : Int32)) (pc' := 224) C at_222 rfl rfl ?_
    refine Wk.icmp_ge (pcT := 231) (pcF := 227) C at_224 (by decide) (by decide) rfl (fun q => absurd q (by decide)) (fun _ => ?_)
    refine Wk.iloadN (pc' := 228) C at_227 rfl rfl ?_
    refine Wk.goto (pc' := 232) C at_228 (by decide) (by decide) ?_
    refine Wk.istore (Ls' := #[.val (.int x0), .val (.int x1), .val (.int x2), .val (.int x3), .val (.int (5 : Int32)), .val (.ref a198), .val (.int (1540483477 : Int32)), .val (.int v235), .val (.int (1 : Int32)), .val (.int x2)]) (pc' := 234) C at_232 rfl rfl ?_
    refine Wk.iload (pc' := 236) C at_234 rfl rfl ?_
    refine Wk.iload (pc' := 238) C at_236 rfl rfl ?_
    refine Wk.iconst (z := (1 : Int32)) (pc' := 239) C at_238 rfl rfl ?_
    refine Wk.bipush (z := (8 : Int32)) (pc' := 241) C at_239 rfl rfl ?_
    refine Wk.iload (pc' := 243) C at_241 rfl rfl ?_
    refine Wk.imul (pc' := 244) C at_243 rfl ?_
    refine Wk.ishl (pc' := 245) C at_244 rfl ?_
    refine Wk.iconst (z := (1 : Int32)) (pc' := 246) C at_245 rfl rfl ?_
    refine Wk.isub (pc' := 247) C at_246 rfl ?_
    refine Wk.iand (pc' := 248) C at_247 rfl ?_
    refine Wk.ixor (pc' := 249) C at_248 rfl ?_
    refine Wk.iload (pc' := 251) C at_249 rfl rfl ?_
    refine Wk.imul (pc' := 252) C at_251 rfl ?_
    refine Wk.istoreV (fun v237 => #[.val (.int x0), .val (.int x1), .val (.int x2), .val (.int x3), .val (.int (5 : Int32)), .val (.ref a198), .val (.int (1540483477 : Int32)), .val (.int v237), .val (.int (1 : Int32)), .val (.int x2)]) (pc' := 254) C at_252 rfl rfl ?_
    intro v237 hv237
    refine Wk.iload (pc' := 256) C at_254 rfl rfl ?_
    refine Wk.iload (pc' := 258) C at_256 rfl rfl ?_
    refine Wk.bipush (z := (13 : Int32)) (pc' := 260) C at_258 rfl rfl ?_
    refine Wk.iushr (pc' := 261) C at_260 rfl ?_
    refine Wk.ixor (pc' := 262) C at_261 rfl ?_
    refine Wk.istoreV (fun v238 => #[.val (.int x0), .val (.int x1), .val (.int x2), .val (.int x3), .val (.int (5 : Int32)), .val (.ref a198), .val (.int (1540483477 : Int32)), .val (.int v238), .val (.int (1 : Int32)), .val (.int x2)]) (pc' := 264) C at_262 rfl rfl ?_
    intro v238 hv238
    refine Wk.iload (pc' := 266) C at_264 rfl rfl ?_
    refine Wk.iload (pc' := 268) C at_266 rfl rfl ?_
    refine Wk.imul (pc' := 269) C at_268 rfl ?_
    refine Wk.istoreV (fun v239 => #[.val (.int x0), .val (.int x1), .val (.int x2), .val (.int x3), .val (.int (5 : Int32)), .val (.ref a198), .val (.int (1540483477 : Int32)), .val (.int v239), .val (.int (1 : Int32)), .val (.int x2)]) (pc' := 271) C at_269 rfl rfl ?_
    intro v239 hv239
    refine Wk.iload (pc' := 273) C at_271 rfl rfl ?_
    refine Wk.iload (pc' := 275) C at_273 rfl rfl ?_
    refine Wk.bipush (z := (15 : Int32)) (pc' := 277) C at_275 rfl rfl ?_
    refine Wk.iushr (pc' := 278) C at_277 rfl ?_
    refine Wk.ixor (pc' := 279) C at_278 rfl ?_
    refine Wk.istoreV (fun v240 => #[.val (.int x0), .val (.int x1), .val (.int x2), .val (.int x3), .val (.int (5 : Int32)), .val (.ref a198), .val (.int (1540483477 : Int32)), .val (.int v240), .val (.int (1 : Int32)), .val (.int x2)]) (pc' := 281) C at_279 rfl rfl ?_
    intro v240 hv240
    refine Wk.aload (pc' := 283) C at_281 rfl rfl rfl ?_
    refine Wk.callS (pc' := 286) (rm := { frames := 0, cells := 0, slots := 0, locals := 0 }) (W0 := 0) (argsL := [.ref a198]) (st := []) C (w8 hw) (w9 hw) (w10 hw) (w11 hw) (by decide) (fun h O => rm2_5 l Z a0 hw a198 ((a198, ArrC Z .byte 5 f199) :: []) 0 f199 h n0 O rfl) (by decide) (by decide) (by decide) (by decide) at_283 rfl pd_1 rfl rfl rfl rfl ?_
    rintro _ h' ⟨rfl, O'⟩
    refine ⟨_, O', ?_⟩
    change Wk p l e _ m _ below meth c _ _ n0 ((a198, ArrC Z .byte 5 f199) :: []) 1 12 286 #[.val (.int x0), .val (.int x1), .val (.int x2), .val (.int x3), .val (.int (5 : Int32)), .val (.ref a198), .val (.int (1540483477 : Int32)), .val (.int v240), .val (.int (1 : Int32)), .val (.int x2)] [.int (G5 f199)]
    refine Wk.iload (pc' := 288) C at_286 rfl rfl ?_
    have hkey : G5 f199 = v240 := by
      subst hv240 hv239 hv238 hv237 hv235 hv234
      exact own_key5 x1 x2 x3 f199 e0 e1 e2 e3 e4 e5 e6 e7 e8 e9 e10 e11
    refine Wk.icmp_ne (pcT := 295) (pcF := 291) C at_288 (by decide) (by decide) rfl (fun c241 => (show False from c241 hkey).elim) (fun c241 => ?_)
    refine Wk.iconst (z := (1 : Int32)) (pc' := 292) C at_291 rfl rfl ?_
    refine Wk.goto (pc' := 296) C at_292 (by decide) (by decide) ?_
    exact Wk.retN C J at_296 (by decide) (by decide) (by simp) rfl (fun h O => rfl)
  · skip
    subst hn
    obtain rfl : nn = 6 := by have q : (6 : Int32).toInt = 6 := rfl; omega
    refine Wk.ldcInt (z := (1540483477 : Int32)) (pc' := 134) C (w6 hw) at_132 rfl ?_
    refine Wk.istore (Ls' := #[.val (.int x0), .val (.int x1), .val (.int x2), .val (.int x3), .val (.int (6 : Int32)), .val (.ref a198), .val (.int (1540483477 : Int32)), .unset, .unset, .unset]) (pc' := 136) C at_134 rfl rfl ?_
    refine Wk.ldcInt (z := (-1756908916 : Int32)) (pc' := 138) C (w7 hw) at_136 rfl ?_
    refine Wk.iload (pc' := 140) C at_138 rfl rfl ?_
    refine Wk.ixor (pc' := 141) C at_140 rfl ?_
    refine Wk.istoreV (fun v242 => #[.val (.int x0), .val (.int x1), .val (.int x2), .val (.int x3), .val (.int (6 : Int32)), .val (.ref a198), .val (.int (1540483477 : Int32)), .val (.int v242), .unset, .unset]) (pc' := 143) C at_141 rfl rfl ?_
    intro v242 hv242
    refine Wk.iload (pc' := 145) C at_143 rfl rfl ?_
    refine Wk.iconst (z := (4 : Int32)) (pc' := 146) C at_145 rfl rfl ?_
    refine Wk.icmp_lt (pcT := 161) (pcF := 149) C at_146 (by decide) (by decide) rfl (fun q => absurd q (by decide)) (fun _ => ?_)
    refine Wk.iload (pc' := 151) C at_149 rfl rfl ?_
    refine Wk.iload (pc' := 153) C at_151 rfl rfl ?_
    refine Wk.imul (pc' := 154) C at_153 rfl ?_
    refine Wk.iloadN (pc' := 155) C at_154 rfl rfl ?_
    refine Wk.callS (pc' := 158) (rm := { frames := 0, cells := 0, slots := 0, locals := 0 }) (W0 := 1) (argsL := [.int x1]) (st := [.int (v242 * (1540483477 : Int32))]) C (w14 hw) (w15 hw) (w4 hw) (w16 hw) (by decide) (fun h O => rm3 l Z a0 hw x1 ((a198, ArrC Z .byte 6 f199) :: []) h n0 O) (by decide) (by decide) (by decide) (by decide) at_155 rfl pd_2 rfl rfl rfl rfl ?_
    rintro _ h' ⟨rfl, O'⟩
    refine ⟨_, O', ?_⟩
    change Wk p l e _ m _ below meth c _ _ n0 ((a198, ArrC Z .byte 6 f199) :: []) 1 12 158 #[.val (.int x0), .val (.int x1), .val (.int x2), .val (.int x3), .val (.int (6 : Int32)), .val (.ref a198), .val (.int (1540483477 : Int32)), .val (.int v242), .unset, .unset] [.int (F3 x1), .int (v242 * (1540483477 : Int32))]
    refine Wk.ixor (pc' := 159) C at_158 rfl ?_
    refine Wk.istoreV (fun v243 => #[.val (.int x0), .val (.int x1), .val (.int x2), .val (.int x3), .val (.int (6 : Int32)), .val (.ref a198), .val (.int (1540483477 : Int32)), .val (.int v243), .unset, .unset]) (pc' := 161) C at_159 rfl rfl ?_
    intro v243 hv243
    refine Wk.iload (pc' := 163) C at_161 rfl rfl ?_
    refine Wk.bipush (z := (8 : Int32)) (pc' := 165) C at_163 rfl rfl ?_
    refine Wk.icmp_lt (pcT := 180) (pcF := 168) C at_165 (by decide) (by decide) rfl (fun _ => ?_) (fun q => absurd q (by decide))
    refine Wk.iload (pc' := 182) C at_180 rfl rfl ?_
    refine Wk.bipush (z := (12 : Int32)) (pc' := 184) C at_182 rfl rfl ?_
    refine Wk.icmp_lt (pcT := 199) (pcF := 187) C at_184 (by decide) (by decide) rfl (fun _ => ?_) (fun q => absurd q (by decide))
    refine Wk.iload (pc' := 201) C at_199 rfl rfl ?_
    refine Wk.iconst (z := (3 : Int32)) (pc' := 202) C at_201 rfl rfl ?_
    refine Wk.iand (pc' := 203) C at_202 rfl ?_
    refine Wk.istoreV (fun v244 => #[.val (.int x0), .val (.int x1), .val (.int x2), .val (.int x3), .val (.int (6 : Int32)), .val (.ref a198), .val (.int (1540483477 : Int32)), .val (.int v243), .val (.int v244), .unset]) (pc' := 205) C at_203 rfl rfl ?_
    intro v244 hv244
    obtain rfl : v244 = (2 : Int32) := hv244.trans (by decide)
    refine Wk.iload (pc' := 207) C at_205 rfl rfl ?_
    refine Wk.if_le (pcT := 254) (pcF := 210) C at_207 (by decide) (by decide) rfl (fun q => absurd q (by decide)) (fun _ => ?_)
    refine Wk.iload (pc' := 212) C at_210 rfl rfl ?_
    refine Wk.iconst (z := (4 : Int32)) (pc' := 213) C at_212 rfl rfl ?_
    refine Wk.icmp_ge (pcT := 220) (pcF := 216) C at_213 (by decide) (by decide) rfl (fun _ => ?_) (fun q => absurd q (by decide))
    refine Wk.iload (pc' := 222) C at_220 rfl rfl ?_
    refine Wk.bipush (z := (8 : Int32)) (pc' := 224) C at_222 rfl rfl ?_
    refine Wk.icmp_ge (pcT := 231) (pcF := 227) C at_224 (by decide) (by decide) rfl (fun q => absurd q (by decide)) (fun _ => ?_)
    refine Wk.iloadN (pc' := 228) C at_227 rfl rfl ?_
    refine Wk.goto (pc' := 232) C at_228 (by decide) (by decide) ?_
    refine Wk.istore (Ls' := #[.val (.int x0), .val (.int x1), .val (.int x2), .val (.int x3), .val (.int (6 : Int32)), .val (.ref a198), .val (.int (1540483477 : Int32)), .val (.int v243), .val (.int (2 : Int32)), .val (.int x2)]) (pc' := 234) C at_232 rfl rfl ?_
    refine Wk.iload (pc' := 236) C at_234 rfl rfl ?_
    refine Wk.iload (pc' := 238) C at_236 rfl rfl ?_
    refine Wk.iconst (z := (1 : Int32)) (pc' := 239) C at_238 rfl rfl ?_
    refine Wk.bipush (z := (8 : Int32)) (pc' := 241) C at_239 rfl rfl ?_
    refine Wk.iload (pc' := 243) C at_241 rfl rfl ?_
    refine Wk.imul (pc' := 244) C at_243 rfl ?_
    refine Wk.ishl (pc' := 245) C at_244 rfl ?_
    refine Wk.iconst (z := (1 : Int32)) (pc' := 246) C at_245 rfl rfl ?_
    refine Wk.isub (pc' := 247) C at_246 rfl ?_
    refine Wk.iand (pc' := 248) C at_247 rfl ?_
    refine Wk.ixor (pc' := 249) C at_248 rfl ?_
    refine Wk.iload (pc' := 251) C at_249 rfl rfl ?_
    refine Wk.imul (pc' := 252) C at_251 rfl ?_
    refine Wk.istoreV (fun v245 => #[.val (.int x0), .val (.int x1), .val (.int x2), .val (.int x3), .val (.int (6 : Int32)), .val (.ref a198), .val (.int (1540483477 : Int32)), .val (.int v245), .val (.int (2 : Int32)), .val (.int x2)]) (pc' := 254) C at_252 rfl rfl ?_
    intro v245 hv245
    refine Wk.iload (pc' := 256) C at_254 rfl rfl ?_
    refine Wk.iload (pc' := 258) C at_256 rfl rfl ?_
    refine Wk.bipush (z := (13 : Int32)) (pc' := 260) C at_258 rfl rfl ?_
    refine Wk.iushr (pc' := 261) C at_260 rfl ?_
    refine Wk.ixor (pc' := 262) C at_261 rfl ?_
    refine Wk.istoreV (fun v246 => #[.val (.int x0), .val (.int x1), .val (.int x2), .val (.int x3), .val (.int (6 : Int32)), .val (.ref a198), .val (.int (1540483477 : Int32)), .val (.int v246), .val (.int (2 : Int32)), .val (.int x2)]) (pc' := 264) C at_262 rfl rfl ?_
    intro v246 hv246
    refine Wk.iload (pc' := 266) C at_264 rfl rfl ?_
    refine Wk.iload (pc' := 268) C at_266 rfl rfl ?_
    refine Wk.imul (pc' := 269) C at_268 rfl ?_
    refine Wk.istoreV (fun v247 => #[.val (.int x0), .val (.int x1), .val (.int x2), .val (.int x3), .val (.int (6 : Int32)), .val (.ref a198), .val (.int (1540483477 : Int32)), .val (.int v247), .val (.int (2 : Int32)), .val (.int x2)]) (pc' := 271) C at_269 rfl rfl ?_
    intro v247 hv247
    refine Wk.iload (pc' := 273) C at_271 rfl rfl ?_
    refine Wk.iload (pc' := 275) C at_273 rfl rfl ?_
    refine Wk.bipush (z := (15 : Int32)) (pc' := 277) C at_275 rfl rfl ?_
    refine Wk.iushr (pc' := 278) C at_277 rfl ?_
    refine Wk.ixor (pc' := 279) C at_278 rfl ?_
    refine Wk.istoreV (fun v248 => #[.val (.int x0), .val (.int x1), .val (.int x2), .val (.int x3), .val (.int (6 : Int32)), .val (.ref a198), .val (.int (1540483477 : Int32)), .val (.int v248), .val (.int (2 : Int32)), .val (.int x2)]) (pc' := 281) C at_279 rfl rfl ?_
    intro v248 hv248
    refine Wk.aload (pc' := 283) C at_281 rfl rfl rfl ?_
    refine Wk.callS (pc' := 286) (rm := { frames := 0, cells := 0, slots := 0, locals := 0 }) (W0 := 0) (argsL := [.ref a198]) (st := []) C (w8 hw) (w9 hw) (w10 hw) (w11 hw) (by decide) (fun h O => rm2_6 l Z a0 hw a198 ((a198, ArrC Z .byte 6 f199) :: []) 0 f199 h n0 O rfl) (by decide) (by decide) (by decide) (by decide) at_283 rfl pd_1 rfl rfl rfl rfl ?_
    rintro _ h' ⟨rfl, O'⟩
    refine ⟨_, O', ?_⟩
    change Wk p l e _ m _ below meth c _ _ n0 ((a198, ArrC Z .byte 6 f199) :: []) 1 12 286 #[.val (.int x0), .val (.int x1), .val (.int x2), .val (.int x3), .val (.int (6 : Int32)), .val (.ref a198), .val (.int (1540483477 : Int32)), .val (.int v248), .val (.int (2 : Int32)), .val (.int x2)] [.int (G6 f199)]
    refine Wk.iload (pc' := 288) C at_286 rfl rfl ?_
    have hkey : G6 f199 = v248 := by
      subst hv248 hv247 hv246 hv245 hv243 hv242
      exact own_key6 x1 x2 x3 f199 e0 e1 e2 e3 e4 e5 e6 e7 e8 e9 e10 e11
    refine Wk.icmp_ne (pcT := 295) (pcF := 291) C at_288 (by decide) (by decide) rfl (fun c249 => (show False from c249 hkey).elim) (fun c249 => ?_)
    refine Wk.iconst (z := (1 : Int32)) (pc' := 292) C at_291 rfl rfl ?_
    refine Wk.goto (pc' := 296) C at_292 (by decide) (by decide) ?_
    exact Wk.retN C J at_296 (by decide) (by decide) (by simp) rfl (fun h O => rfl)
  · skip
    subst hn
    obtain rfl : nn = 7 := by have q : (7 : Int32).toInt = 7 := rfl; omega
    refine Wk.ldcInt (z := (1540483477 : Int32)) (pc' := 134) C (w6 hw) at_132 rfl ?_
    refine Wk.istore (Ls' := #[.val (.int x0), .val (.int x1), .val (.int x2), .val (.int x3), .val (.int (7 : Int32)), .val (.ref a198), .val (.int (1540483477 : Int32)), .unset, .unset, .unset]) (pc' := 136) C at_134 rfl rfl ?_
    refine Wk.ldcInt (z := (-1756908916 : Int32)) (pc' := 138) C (w7 hw) at_136 rfl ?_
    refine Wk.iload (pc' := 140) C at_138 rfl rfl ?_
    refine Wk.ixor (pc' := 141) C at_140 rfl ?_
    refine Wk.istoreV (fun v250 => #[.val (.int x0), .val (.int x1), .val (.int x2), .val (.int x3), .val (.int (7 : Int32)), .val (.ref a198), .val (.int (1540483477 : Int32)), .val (.int v250), .unset, .unset]) (pc' := 143) C at_141 rfl rfl ?_
    intro v250 hv250
    refine Wk.iload (pc' := 145) C at_143 rfl rfl ?_
    refine Wk.iconst (z := (4 : Int32)) (pc' := 146) C at_145 rfl rfl ?_
    refine Wk.icmp_lt (pcT := 161) (pcF := 149) C at_146 (by decide) (by decide) rfl (fun q => absurd q (by decide)) (fun _ => ?_)
    refine Wk.iload (pc' := 151) C at_149 rfl rfl ?_
    refine Wk.iload (pc' := 153) C at_151 rfl rfl ?_
    refine Wk.imul (pc' := 154) C at_153 rfl ?_
    refine Wk.iloadN (pc' := 155) C at_154 rfl rfl ?_
    refine Wk.callS (pc' := 158) (rm := { frames := 0, cells := 0, slots := 0, locals := 0 }) (W0 := 1) (argsL := [.int x1]) (st := [.int (v250 * (1540483477 : Int32))]) C (w14 hw) (w15 hw) (w4 hw) (w16 hw) (by decide) (fun h O => rm3 l Z a0 hw x1 ((a198, ArrC Z .byte 7 f199) :: []) h n0 O) (by decide) (by decide) (by decide) (by decide) at_155 rfl pd_2 rfl rfl rfl rfl ?_
    rintro _ h' ⟨rfl, O'⟩
    refine ⟨_, O', ?_⟩
    change Wk p l e _ m _ below meth c _ _ n0 ((a198, ArrC Z .byte 7 f199) :: []) 1 12 158 #[.val (.int x0), .val (.int x1), .val (.int x2), .val (.int x3), .val (.int (7 : Int32)), .val (.ref a198), .val (.int (1540483477 : Int32)), .val (.int v250), .unset, .unset] [.int (F3 x1), .int (v250 * (1540483477 : Int32))]
    refine Wk.ixor (pc' := 159) C at_158 rfl ?_
    refine Wk.istoreV (fun v251 => #[.val (.int x0), .val (.int x1), .val (.int x2), .val (.int x3), .val (.int (7 : Int32)), .val (.ref a198), .val (.int (1540483477 : Int32)), .val (.int v251), .unset, .unset]) (pc' := 161) C at_159 rfl rfl ?_
    intro v251 hv251
    refine Wk.iload (pc' := 163) C at_161 rfl rfl ?_
    refine Wk.bipush (z := (8 : Int32)) (pc' := 165) C at_163 rfl rfl ?_
    refine Wk.icmp_lt (pcT := 180) (pcF := 168) C at_165 (by decide) (by decide) rfl (fun _ => ?_) (fun q => absurd q (by decide))
    refine Wk.iload (pc' := 182) C at_180 rfl rfl ?_
    refine Wk.bipush (z := (12 : Int32)) (pc' := 184) C at_182 rfl rfl ?_
    refine Wk.icmp_lt (pcT := 199) (pcF := 187) C at_184 (by decide) (by decide) rfl (fun _ => ?_) (fun q => absurd q (by decide))
    refine Wk.iload (pc' := 201) C at_199 rfl rfl ?_
    refine Wk.iconst (z := (3 : Int32)) (pc' := 202) C at_201 rfl rfl ?_
    refine Wk.iand (pc' := 203) C at_202 rfl ?_
    refine Wk.istoreV (fun v252 => #[.val (.int x0), .val (.int x1), .val (.int x2), .val (.int x3), .val (.int (7 : Int32)), .val (.ref a198), .val (.int (1540483477 : Int32)), .val (.int v251), .val (.int v252), .unset]) (pc' := 205) C at_203 rfl rfl ?_
    intro v252 hv252
    obtain rfl : v252 = (3 : Int32) := hv252.trans (by decide)
    refine Wk.iload (pc' := 207) C at_205 rfl rfl ?_
    refine Wk.if_le (pcT := 254) (pcF := 210) C at_207 (by decide) (by decide) rfl (fun q => absurd q (by decide)) (fun _ => ?_)
    refine Wk.iload (pc' := 212) C at_210 rfl rfl ?_
    refine Wk.iconst (z := (4 : Int32)) (pc' := 213) C at_212 rfl rfl ?_
    refine Wk.icmp_ge (pcT := 220) (pcF := 216) C at_213 (by decide) (by decide) rfl (fun _ => ?_) (fun q => absurd q (by decide))
    refine Wk.iload (pc' := 222) C at_220 rfl rfl ?_
    refine Wk.bipush (z := (8 : Int32)) (pc' := 224) C at_222 rfl rfl ?_
    refine Wk.icmp_ge (pcT := 231) (pcF := 227) C at_224 (by decide) (by decide) rfl (fun q => absurd q (by decide)) (fun _ => ?_)
    refine Wk.iloadN (pc' := 228) C at_227 rfl rfl ?_
    refine Wk.goto (pc' := 232) C at_228 (by decide) (by decide) ?_
    refine Wk.istore (Ls' := #[.val (.int x0), .val (.int x1), .val (.int x2), .val (.int x3), .val (.int (7 : Int32)), .val (.ref a198), .val (.int (1540483477 : Int32)), .val (.int v251), .val (.int (3 : Int32)), .val (.int x2)]) (pc' := 234) C at_232 rfl rfl ?_
    refine Wk.iload (pc' := 236) C at_234 rfl rfl ?_
    refine Wk.iload (pc' := 238) C at_236 rfl rfl ?_
    refine Wk.iconst (z := (1 : Int32)) (pc' := 239) C at_238 rfl rfl ?_
    refine Wk.bipush (z := (8 : Int32)) (pc' := 241) C at_239 rfl rfl ?_
    refine Wk.iload (pc' := 243) C at_241 rfl rfl ?_
    refine Wk.imul (pc' := 244) C at_243 rfl ?_
    refine Wk.ishl (pc' := 245) C at_244 rfl ?_
    refine Wk.iconst (z := (1 : Int32)) (pc' := 246) C at_245 rfl rfl ?_
    refine Wk.isub (pc' := 247) C at_246 rfl ?_
    refine Wk.iand (pc' := 248) C at_247 rfl ?_
    refine Wk.ixor (pc' := 249) C at_248 rfl ?_
    refine Wk.iload (pc' := 251) C at_249 rfl rfl ?_
    refine Wk.imul (pc' := 252) C at_251 rfl ?_
    refine Wk.istoreV (fun v253 => #[.val (.int x0), .val (.int x1), .val (.int x2), .val (.int x3), .val (.int (7 : Int32)), .val (.ref a198), .val (.int (1540483477 : Int32)), .val (.int v253), .val (.int (3 : Int32)), .val (.int x2)]) (pc' := 254) C at_252 rfl rfl ?_
    intro v253 hv253
    refine Wk.iload (pc' := 256) C at_254 rfl rfl ?_
    refine Wk.iload (pc' := 258) C at_256 rfl rfl ?_
    refine Wk.bipush (z := (13 : Int32)) (pc' := 260) C at_258 rfl rfl ?_
    refine Wk.iushr (pc' := 261) C at_260 rfl ?_
    refine Wk.ixor (pc' := 262) C at_261 rfl ?_
    refine Wk.istoreV (fun v254 => #[.val (.int x0), .val (.int x1), .val (.int x2), .val (.int x3), .val (.int (7 : Int32)), .val (.ref a198), .val (.int (1540483477 : Int32)), .val (.int v254), .val (.int (3 : Int32)), .val (.int x2)]) (pc' := 264) C at_262 rfl rfl ?_
    intro v254 hv254
    refine Wk.iload (pc' := 266) C at_264 rfl rfl ?_
    refine Wk.iload (pc' := 268) C at_266 rfl rfl ?_
    refine Wk.imul (pc' := 269) C at_268 rfl ?_
    refine Wk.istoreV (fun v255 => #[.val (.int x0), .val (.int x1), .val (.int x2), .val (.int x3), .val (.int (7 : Int32)), .val (.ref a198), .val (.int (1540483477 : Int32)), .val (.int v255), .val (.int (3 : Int32)), .val (.int x2)]) (pc' := 271) C at_269 rfl rfl ?_
    intro v255 hv255
    refine Wk.iload (pc' := 273) C at_271 rfl rfl ?_
    refine Wk.iload (pc' := 275) C at_273 rfl rfl ?_
    refine Wk.bipush (z := (15 : Int32)) (pc' := 277) C at_275 rfl rfl ?_
    refine Wk.iushr (pc' := 278) C at_277 rfl ?_
    refine Wk.ixor (pc' := 279) C at_278 rfl ?_
    refine Wk.istoreV (fun v256 => #[.val (.int x0), .val (.int x1), .val (.int x2), .val (.int x3), .val (.int (7 : Int32)), .val (.ref a198), .val (.int (1540483477 : Int32)), .val (.int v256), .val (.int (3 : Int32)), .val (.int x2)]) (pc' := 281) C at_279 rfl rfl ?_
    intro v256 hv256
    refine Wk.aload (pc' := 283) C at_281 rfl rfl rfl ?_
    refine Wk.callS (pc' := 286) (rm := { frames := 0, cells := 0, slots := 0, locals := 0 }) (W0 := 0) (argsL := [.ref a198]) (st := []) C (w8 hw) (w9 hw) (w10 hw) (w11 hw) (by decide) (fun h O => rm2_7 l Z a0 hw a198 ((a198, ArrC Z .byte 7 f199) :: []) 0 f199 h n0 O rfl) (by decide) (by decide) (by decide) (by decide) at_283 rfl pd_1 rfl rfl rfl rfl ?_
    rintro _ h' ⟨rfl, O'⟩
    refine ⟨_, O', ?_⟩
    change Wk p l e _ m _ below meth c _ _ n0 ((a198, ArrC Z .byte 7 f199) :: []) 1 12 286 #[.val (.int x0), .val (.int x1), .val (.int x2), .val (.int x3), .val (.int (7 : Int32)), .val (.ref a198), .val (.int (1540483477 : Int32)), .val (.int v256), .val (.int (3 : Int32)), .val (.int x2)] [.int (G7 f199)]
    refine Wk.iload (pc' := 288) C at_286 rfl rfl ?_
    have hkey : G7 f199 = v256 := by
      subst hv256 hv255 hv254 hv253 hv251 hv250
      exact own_key7 x1 x2 x3 f199 e0 e1 e2 e3 e4 e5 e6 e7 e8 e9 e10 e11
    refine Wk.icmp_ne (pcT := 295) (pcF := 291) C at_288 (by decide) (by decide) rfl (fun c257 => (show False from c257 hkey).elim) (fun c257 => ?_)
    refine Wk.iconst (z := (1 : Int32)) (pc' := 292) C at_291 rfl rfl ?_
    refine Wk.goto (pc' := 296) C at_292 (by decide) (by decide) ?_
    exact Wk.retN C J at_296 (by decide) (by decide) (by simp) rfl (fun h O => rfl)
  · skip
    subst hn
    obtain rfl : nn = 8 := by have q : (8 : Int32).toInt = 8 := rfl; omega
    refine Wk.ldcInt (z := (1540483477 : Int32)) (pc' := 134) C (w6 hw) at_132 rfl ?_
    refine Wk.istore (Ls' := #[.val (.int x0), .val (.int x1), .val (.int x2), .val (.int x3), .val (.int (8 : Int32)), .val (.ref a198), .val (.int (1540483477 : Int32)), .unset, .unset, .unset]) (pc' := 136) C at_134 rfl rfl ?_
    refine Wk.ldcInt (z := (-1756908916 : Int32)) (pc' := 138) C (w7 hw) at_136 rfl ?_
    refine Wk.iload (pc' := 140) C at_138 rfl rfl ?_
    refine Wk.ixor (pc' := 141) C at_140 rfl ?_
    refine Wk.istoreV (fun v258 => #[.val (.int x0), .val (.int x1), .val (.int x2), .val (.int x3), .val (.int (8 : Int32)), .val (.ref a198), .val (.int (1540483477 : Int32)), .val (.int v258), .unset, .unset]) (pc' := 143) C at_141 rfl rfl ?_
    intro v258 hv258
    refine Wk.iload (pc' := 145) C at_143 rfl rfl ?_
    refine Wk.iconst (z := (4 : Int32)) (pc' := 146) C at_145 rfl rfl ?_
    refine Wk.icmp_lt (pcT := 161) (pcF := 149) C at_146 (by decide) (by decide) rfl (fun q => absurd q (by decide)) (fun _ => ?_)
    refine Wk.iload (pc' := 151) C at_149 rfl rfl ?_
    refine Wk.iload (pc' := 153) C at_151 rfl rfl ?_
    refine Wk.imul (pc' := 154) C at_153 rfl ?_
    refine Wk.iloadN (pc' := 155) C at_154 rfl rfl ?_
    refine Wk.callS (pc' := 158) (rm := { frames := 0, cells := 0, slots := 0, locals := 0 }) (W0 := 1) (argsL := [.int x1]) (st := [.int (v258 * (1540483477 : Int32))]) C (w14 hw) (w15 hw) (w4 hw) (w16 hw) (by decide) (fun h O => rm3 l Z a0 hw x1 ((a198, ArrC Z .byte 8 f199) :: []) h n0 O) (by decide) (by decide) (by decide) (by decide) at_155 rfl pd_2 rfl rfl rfl rfl ?_
    rintro _ h' ⟨rfl, O'⟩
    refine ⟨_, O', ?_⟩
    change Wk p l e _ m _ below meth c _ _ n0 ((a198, ArrC Z .byte 8 f199) :: []) 1 12 158 #[.val (.int x0), .val (.int x1), .val (.int x2), .val (.int x3), .val (.int (8 : Int32)), .val (.ref a198), .val (.int (1540483477 : Int32)), .val (.int v258), .unset, .unset] [.int (F3 x1), .int (v258 * (1540483477 : Int32))]
    refine Wk.ixor (pc' := 159) C at_158 rfl ?_
    refine Wk.istoreV (fun v259 => #[.val (.int x0), .val (.int x1), .val (.int x2), .val (.int x3), .val (.int (8 : Int32)), .val (.ref a198), .val (.int (1540483477 : Int32)), .val (.int v259), .unset, .unset]) (pc' := 161) C at_159 rfl rfl ?_
    intro v259 hv259
    refine Wk.iload (pc' := 163) C at_161 rfl rfl ?_
    refine Wk.bipush (z := (8 : Int32)) (pc' := 165) C at_163 rfl rfl ?_
    refine Wk.icmp_lt (pcT := 180) (pcF := 168) C at_165 (by decide) (by decide) rfl (fun q => absurd q (by decide)) (fun _ => ?_)
    refine Wk.iload (pc' := 170) C at_168 rfl rfl ?_
    refine Wk.iload (pc' := 172) C at_170 rfl rfl ?_
    refine Wk.imul (pc' := 173) C at_172 rfl ?_
    refine Wk.iloadN (pc' := 174) C at_173 rfl rfl ?_
    refine Wk.callS (pc' := 177) (rm := { frames := 0, cells := 0, slots := 0, locals := 0 }) (W0 := 1) (argsL := [.int x2]) (st := [.int (v259 * (1540483477 : Int32))]) C (w14 hw) (w15 hw) (w4 hw) (w16 hw) (by decide) (fun h O => rm3 l Z a0 hw x2 ((a198, ArrC Z .byte 8 f199) :: []) h n0 O) (by decide) (by decide) (by decide) (by decide) at_174 rfl pd_2 rfl rfl rfl rfl ?_
    rintro _ h' ⟨rfl, O'⟩
    refine ⟨_, O', ?_⟩
    change Wk p l e _ m _ below meth c _ _ n0 ((a198, ArrC Z .byte 8 f199) :: []) 1 12 177 #[.val (.int x0), .val (.int x1), .val (.int x2), .val (.int x3), .val (.int (8 : Int32)), .val (.ref a198), .val (.int (1540483477 : Int32)), .val (.int v259), .unset, .unset] [.int (F3 x2), .int (v259 * (1540483477 : Int32))]
    refine Wk.ixor (pc' := 178) C at_177 rfl ?_
    refine Wk.istoreV (fun v260 => #[.val (.int x0), .val (.int x1), .val (.int x2), .val (.int x3), .val (.int (8 : Int32)), .val (.ref a198), .val (.int (1540483477 : Int32)), .val (.int v260), .unset, .unset]) (pc' := 180) C at_178 rfl rfl ?_
    intro v260 hv260
    refine Wk.iload (pc' := 182) C at_180 rfl rfl ?_
    refine Wk.bipush (z := (12 : Int32)) (pc' := 184) C at_182 rfl rfl ?_
    refine Wk.icmp_lt (pcT := 199) (pcF := 187) C at_184 (by decide) (by decide) rfl (fun _ => ?_) (fun q => absurd q (by decide))
    refine Wk.iload (pc' := 201) C at_199 rfl rfl ?_
    refine Wk.iconst (z := (3 : Int32)) (pc' := 202) C at_201 rfl rfl ?_
    refine Wk.iand (pc' := 203) C at_202 rfl ?_
    refine Wk.istoreV (fun v261 => #[.val (.int x0), .val (.int x1), .val (.int x2), .val (.int x3), .val (.int (8 : Int32)), .val (.ref a198), .val (.int (1540483477 : Int32)), .val (.int v260), .val (.int v261), .unset]) (pc' := 205) C at_203 rfl rfl ?_
    intro v261 hv261
    obtain rfl : v261 = (0 : Int32) := hv261.trans (by decide)
    refine Wk.iload (pc' := 207) C at_205 rfl rfl ?_
    refine Wk.if_le (pcT := 254) (pcF := 210) C at_207 (by decide) (by decide) rfl (fun _ => ?_) (fun q => absurd q (by decide))
    refine Wk.iload (pc' := 256) C at_254 rfl rfl ?_
    refine Wk.iload (pc' := 258) C at_256 rfl rfl ?_
    refine Wk.bipush (z := (13 : Int32)) (pc' := 260) C at_258 rfl rfl ?_
    refine Wk.iushr (pc' := 261) C at_260 rfl ?_
    refine Wk.ixor (pc' := 262) C at_261 rfl ?_
    refine Wk.istoreV (fun v262 => #[.val (.int x0), .val (.int x1), .val (.int x2), .val (.int x3), .val (.int (8 : Int32)), .val (.ref a198), .val (.int (1540483477 : Int32)), .val (.int v262), .val (.int (0 : Int32)), .unset]) (pc' := 264) C at_262 rfl rfl ?_
    intro v262 hv262
    refine Wk.iload (pc' := 266) C at_264 rfl rfl ?_
    refine Wk.iload (pc' := 268) C at_266 rfl rfl ?_
    refine Wk.imul (pc' := 269) C at_268 rfl ?_
    refine Wk.istoreV (fun v263 => #[.val (.int x0), .val (.int x1), .val (.int x2), .val (.int x3), .val (.int (8 : Int32)), .val (.ref a198), .val (.int (1540483477 : Int32)), .val (.int v263), .val (.int (0 : Int32)), .unset]) (pc' := 271) C at_269 rfl rfl ?_
    intro v263 hv263
    refine Wk.iload (pc' := 273) C at_271 rfl rfl ?_
    refine Wk.iload (pc' := 275) C at_273 rfl rfl ?_
    refine Wk.bipush (z := (15 : Int32)) (pc' := 277) C at_275 rfl rfl ?_
    refine Wk.iushr (pc' := 278) C at_277 rfl ?_
    refine Wk.ixor (pc' := 279) C at_278 rfl ?_
    refine Wk.istoreV (fun v264 => #[.val (.int x0), .val (.int x1), .val (.int x2), .val (.int x3), .val (.int (8 : Int32)), .val (.ref a198), .val (.int (1540483477 : Int32)), .val (.int v264), .val (.int (0 : Int32)), .unset]) (pc' := 281) C at_279 rfl rfl ?_
    intro v264 hv264
    refine Wk.aload (pc' := 283) C at_281 rfl rfl rfl ?_
    refine Wk.callS (pc' := 286) (rm := { frames := 0, cells := 0, slots := 0, locals := 0 }) (W0 := 0) (argsL := [.ref a198]) (st := []) C (w8 hw) (w9 hw) (w10 hw) (w11 hw) (by decide) (fun h O => rm2_8 l Z a0 hw a198 ((a198, ArrC Z .byte 8 f199) :: []) 0 f199 h n0 O rfl) (by decide) (by decide) (by decide) (by decide) at_283 rfl pd_1 rfl rfl rfl rfl ?_
    rintro _ h' ⟨rfl, O'⟩
    refine ⟨_, O', ?_⟩
    change Wk p l e _ m _ below meth c _ _ n0 ((a198, ArrC Z .byte 8 f199) :: []) 1 12 286 #[.val (.int x0), .val (.int x1), .val (.int x2), .val (.int x3), .val (.int (8 : Int32)), .val (.ref a198), .val (.int (1540483477 : Int32)), .val (.int v264), .val (.int (0 : Int32)), .unset] [.int (G8 f199)]
    refine Wk.iload (pc' := 288) C at_286 rfl rfl ?_
    have hkey : G8 f199 = v264 := by
      subst hv264 hv263 hv262 hv260 hv259 hv258
      exact own_key8 x1 x2 x3 f199 e0 e1 e2 e3 e4 e5 e6 e7 e8 e9 e10 e11
    refine Wk.icmp_ne (pcT := 295) (pcF := 291) C at_288 (by decide) (by decide) rfl (fun c265 => (show False from c265 hkey).elim) (fun c265 => ?_)
    refine Wk.iconst (z := (1 : Int32)) (pc' := 292) C at_291 rfl rfl ?_
    refine Wk.goto (pc' := 296) C at_292 (by decide) (by decide) ?_
    exact Wk.retN C J at_296 (by decide) (by decide) (by simp) rfl (fun h O => rfl)
  · skip
    subst hn
    obtain rfl : nn = 9 := by have q : (9 : Int32).toInt = 9 := rfl; omega
    refine Wk.ldcInt (z := (1540483477 : Int32)) (pc' := 134) C (w6 hw) at_132 rfl ?_
    refine Wk.istore (Ls' := #[.val (.int x0), .val (.int x1), .val (.int x2), .val (.int x3), .val (.int (9 : Int32)), .val (.ref a198), .val (.int (1540483477 : Int32)), .unset, .unset, .unset]) (pc' := 136) C at_134 rfl rfl ?_
    refine Wk.ldcInt (z := (-1756908916 : Int32)) (pc' := 138) C (w7 hw) at_136 rfl ?_
    refine Wk.iload (pc' := 140) C at_138 rfl rfl ?_
    refine Wk.ixor (pc' := 141) C at_140 rfl ?_
    refine Wk.istoreV (fun v266 => #[.val (.int x0), .val (.int x1), .val (.int x2), .val (.int x3), .val (.int (9 : Int32)), .val (.ref a198), .val (.int (1540483477 : Int32)), .val (.int v266), .unset, .unset]) (pc' := 143) C at_141 rfl rfl ?_
    intro v266 hv266
    refine Wk.iload (pc' := 145) C at_143 rfl rfl ?_
    refine Wk.iconst (z := (4 : Int32)) (pc' := 146) C at_145 rfl rfl ?_
    refine Wk.icmp_lt (pcT := 161) (pcF := 149) C at_146 (by decide) (by decide) rfl (fun q => absurd q (by decide)) (fun _ => ?_)
    refine Wk.iload (pc' := 151) C at_149 rfl rfl ?_
    refine Wk.iload (pc' := 153) C at_151 rfl rfl ?_
    refine Wk.imul (pc' := 154) C at_153 rfl ?_
    refine Wk.iloadN (pc' := 155) C at_154 rfl rfl ?_
    refine Wk.callS (pc' := 158) (rm := { frames := 0, cells := 0, slots := 0, locals := 0 }) (W0 := 1) (argsL := [.int x1]) (st := [.int (v266 * (1540483477 : Int32))]) C (w14 hw) (w15 hw) (w4 hw) (w16 hw) (by decide) (fun h O => rm3 l Z a0 hw x1 ((a198, ArrC Z .byte 9 f199) :: []) h n0 O) (by decide) (by decide) (by decide) (by decide) at_155 rfl pd_2 rfl rfl rfl rfl ?_
    rintro _ h' ⟨rfl, O'⟩
    refine ⟨_, O', ?_⟩
    change Wk p l e _ m _ below meth c _ _ n0 ((a198, ArrC Z .byte 9 f199) :: []) 1 12 158 #[.val (.int x0), .val (.int x1), .val (.int x2), .val (.int x3), .val (.int (9 : Int32)), .val (.ref a198), .val (.int (1540483477 : Int32)), .val (.int v266), .unset, .unset] [.int (F3 x1), .int (v266 * (1540483477 : Int32))]
    refine Wk.ixor (pc' := 159) C at_158 rfl ?_
    refine Wk.istoreV (fun v267 => #[.val (.int x0), .val (.int x1), .val (.int x2), .val (.int x3), .val (.int (9 : Int32)), .val (.ref a198), .val (.int (1540483477 : Int32)), .val (.int v267), .unset, .unset]) (pc' := 161) C at_159 rfl rfl ?_
    intro v267 hv267
    refine Wk.iload (pc' := 163) C at_161 rfl rfl ?_
    refine Wk.bipush (z := (8 : Int32)) (pc' := 165) C at_163 rfl rfl ?_
    refine Wk.icmp_lt (pcT := 180) (pcF := 168) C at_165 (by decide) (by decide) rfl (fun q => absurd q (by decide)) (fun _ => ?_)
    refine Wk.iload (pc' := 170) C at_168 rfl rfl ?_
    refine Wk.iload (pc' := 172) C at_170 rfl rfl ?_
    refine Wk.imul (pc' := 173) C at_172 rfl ?_
    refine Wk.iloadN (pc' := 174) C at_173 rfl rfl ?_
    refine Wk.callS (pc' := 177) (rm := { frames := 0, cells := 0, slots := 0, locals := 0 }) (W0 := 1) (argsL := [.int x2]) (st := [.int (v267 * (1540483477 : Int32))]) C (w14 hw) (w15 hw) (w4 hw) (w16 hw) (by decide) (fun h O => rm3 l Z a0 hw x2 ((a198, ArrC Z .byte 9 f199) :: []) h n0 O) (by decide) (by decide) (by decide) (by decide) at_174 rfl pd_2 rfl rfl rfl rfl ?_
    rintro _ h' ⟨rfl, O'⟩
    refine ⟨_, O', ?_⟩
    change Wk p l e _ m _ below meth c _ _ n0 ((a198, ArrC Z .byte 9 f199) :: []) 1 12 177 #[.val (.int x0), .val (.int x1), .val (.int x2), .val (.int x3), .val (.int (9 : Int32)), .val (.ref a198), .val (.int (1540483477 : Int32)), .val (.int v267), .unset, .unset] [.int (F3 x2), .int (v267 * (1540483477 : Int32))]
    refine Wk.ixor (pc' := 178) C at_177 rfl ?_
    refine Wk.istoreV (fun v268 => #[.val (.int x0), .val (.int x1), .val (.int x2), .val (.int x3), .val (.int (9 : Int32)), .val (.ref a198), .val (.int (1540483477 : Int32)), .val (.int v268), .unset, .unset]) (pc' := 180) C at_178 rfl rfl ?_
    intro v268 hv268
    refine Wk.iload (pc' := 182) C at_180 rfl rfl ?_
    refine Wk.bipush (z := (12 : Int32)) (pc' := 184) C at_182 rfl rfl ?_
    refine Wk.icmp_lt (pcT := 199) (pcF := 187) C at_184 (by decide) (by decide) rfl (fun _ => ?_) (fun q => absurd q (by decide))
    refine Wk.iload (pc' := 201) C at_199 rfl rfl ?_
    refine Wk.iconst (z := (3 : Int32)) (pc' := 202) C at_201 rfl rfl ?_
    refine Wk.iand (pc' := 203) C at_202 rfl ?_
    refine Wk.istoreV (fun v269 => #[.val (.int x0), .val (.int x1), .val (.int x2), .val (.int x3), .val (.int (9 : Int32)), .val (.ref a198), .val (.int (1540483477 : Int32)), .val (.int v268), .val (.int v269), .unset]) (pc' := 205) C at_203 rfl rfl ?_
    intro v269 hv269
    obtain rfl : v269 = (1 : Int32) := hv269.trans (by decide)
    refine Wk.iload (pc' := 207) C at_205 rfl rfl ?_
    refine Wk.if_le (pcT := 254) (pcF := 210) C at_207 (by decide) (by decide) rfl (fun q => absurd q (by decide)) (fun _ => ?_)
    refine Wk.iload (pc' := 212) C at_210 rfl rfl ?_
    refine Wk.iconst (z := (4 : Int32)) (pc' := 213) C at_212 rfl rfl ?_
    refine Wk.icmp_ge (pcT := 220) (pcF := 216) C at_213 (by decide) (by decide) rfl (fun _ => ?_) (fun q => absurd q (by decide))
    refine Wk.iload (pc' := 222) C at_220 rfl rfl ?_
    refine Wk.bipush (z := (8 : Int32)) (pc' := 224) C at_222 rfl rfl ?_
    refine Wk.icmp_ge (pcT := 231) (pcF := 227) C at_224 (by decide) (by decide) rfl (fun _ => ?_) (fun q => absurd q (by decide))
    refine Wk.iloadN (pc' := 232) C at_231 rfl rfl ?_
    refine Wk.istore (Ls' := #[.val (.int x0), .val (.int x1), .val (.int x2), .val (.int x3), .val (.int (9 : Int32)), .val (.ref a198), .val (.int (1540483477 : Int32)), .val (.int v268), .val (.int (1 : Int32)), .val (.int x3)]) (pc' := 234) C at_232 rfl rfl ?_
    refine Wk.iload (pc' := 236) C at_234 rfl rfl ?_
    refine Wk.iload (pc' := 238) C at_236 rfl rfl ?_
    refine Wk.iconst (z := (1 : Int32)) (pc' := 239) C at_238 rfl rfl ?_
    refine Wk.bipush (z := (8 : Int32)) (pc' := 241) C at_239 rfl rfl ?_
    refine Wk.iload (pc' := 243) C at_241 rfl rfl ?_
    refine Wk.imul (pc' := 244) C at_243 rfl ?_
    refine Wk.ishl (pc' := 245) C at_244 rfl ?_
    refine Wk.iconst (z := (1 : Int32)) (pc' := 246) C at_245 rfl rfl ?_
    refine Wk.isub (pc' := 247) C at_246 rfl ?_
    refine Wk.iand (pc' := 248) C at_247 rfl ?_
    refine Wk.ixor (pc' := 249) C at_248 rfl ?_
    refine Wk.iload (pc' := 251) C at_249 rfl rfl ?_
    refine Wk.imul (pc' := 252) C at_251 rfl ?_
    refine Wk.istoreV (fun v270 => #[.val (.int x0), .val (.int x1), .val (.int x2), .val (.int x3), .val (.int (9 : Int32)), .val (.ref a198), .val (.int (1540483477 : Int32)), .val (.int v270), .val (.int (1 : Int32)), .val (.int x3)]) (pc' := 254) C at_252 rfl rfl ?_
    intro v270 hv270
    refine Wk.iload (pc' := 256) C at_254 rfl rfl ?_
    refine Wk.iload (pc' := 258) C at_256 rfl rfl ?_
    refine Wk.bipush (z := (13 : Int32)) (pc' := 260) C at_258 rfl rfl ?_
    refine Wk.iushr (pc' := 261) C at_260 rfl ?_
    refine Wk.ixor (pc' := 262) C at_261 rfl ?_
    refine Wk.istoreV (fun v271 => #[.val (.int x0), .val (.int x1), .val (.int x2), .val (.int x3), .val (.int (9 : Int32)), .val (.ref a198), .val (.int (1540483477 : Int32)), .val (.int v271), .val (.int (1 : Int32)), .val (.int x3)]) (pc' := 264) C at_262 rfl rfl ?_
    intro v271 hv271
    refine Wk.iload (pc' := 266) C at_264 rfl rfl ?_
    refine Wk.iload (pc' := 268) C at_266 rfl rfl ?_
    refine Wk.imul (pc' := 269) C at_268 rfl ?_
    refine Wk.istoreV (fun v272 => #[.val (.int x0), .val (.int x1), .val (.int x2), .val (.int x3), .val (.int (9 : Int32)), .val (.ref a198), .val (.int (1540483477 : Int32)), .val (.int v272), .val (.int (1 : Int32)), .val (.int x3)]) (pc' := 271) C at_269 rfl rfl ?_
    intro v272 hv272
    refine Wk.iload (pc' := 273) C at_271 rfl rfl ?_
    refine Wk.iload (pc' := 275) C at_273 rfl rfl ?_
    refine Wk.bipush (z := (15 : Int32)) (pc' := 277) C at_275 rfl rfl ?_
    refine Wk.iushr (pc' := 278) C at_277 rfl ?_
    refine Wk.ixor (pc' := 279) C at_278 rfl ?_
    refine Wk.istoreV (fun v273 => #[.val (.int x0), .val (.int x1), .val (.int x2), .val (.int x3), .val (.int (9 : Int32)), .val (.ref a198), .val (.int (1540483477 : Int32)), .val (.int v273), .val (.int (1 : Int32)), .val (.int x3)]) (pc' := 281) C at_279 rfl rfl ?_
    intro v273 hv273
    refine Wk.aload (pc' := 283) C at_281 rfl rfl rfl ?_
    refine Wk.callS (pc' := 286) (rm := { frames := 0, cells := 0, slots := 0, locals := 0 }) (W0 := 0) (argsL := [.ref a198]) (st := []) C (w8 hw) (w9 hw) (w10 hw) (w11 hw) (by decide) (fun h O => rm2_9 l Z a0 hw a198 ((a198, ArrC Z .byte 9 f199) :: []) 0 f199 h n0 O rfl) (by decide) (by decide) (by decide) (by decide) at_283 rfl pd_1 rfl rfl rfl rfl ?_
    rintro _ h' ⟨rfl, O'⟩
    refine ⟨_, O', ?_⟩
    change Wk p l e _ m _ below meth c _ _ n0 ((a198, ArrC Z .byte 9 f199) :: []) 1 12 286 #[.val (.int x0), .val (.int x1), .val (.int x2), .val (.int x3), .val (.int (9 : Int32)), .val (.ref a198), .val (.int (1540483477 : Int32)), .val (.int v273), .val (.int (1 : Int32)), .val (.int x3)] [.int (G9 f199)]
    refine Wk.iload (pc' := 288) C at_286 rfl rfl ?_
    have hkey : G9 f199 = v273 := by
      subst hv273 hv272 hv271 hv270 hv268 hv267 hv266
      exact own_key9 x1 x2 x3 f199 e0 e1 e2 e3 e4 e5 e6 e7 e8 e9 e10 e11
    refine Wk.icmp_ne (pcT := 295) (pcF := 291) C at_288 (by decide) (by decide) rfl (fun c274 => (show False from c274 hkey).elim) (fun c274 => ?_)
    refine Wk.iconst (z := (1 : Int32)) (pc' := 292) C at_291 rfl rfl ?_
    refine Wk.goto (pc' := 296) C at_292 (by decide) (by decide) ?_
    exact Wk.retN C J at_296 (by decide) (by decide) (by simp) rfl (fun h O => rfl)
  · skip
    subst hn
    obtain rfl : nn = 10 := by have q : (10 : Int32).toInt = 10 := rfl; omega
    refine Wk.ldcInt (z := (1540483477 : Int32)) (pc' := 134) C (w6 hw) at_132 rfl ?_
    refine Wk.istore (Ls' := #[.val (.int x0), .val (.int x1), .val (.int x2), .val (.int x3), .val (.int (10 : Int32)), .val (.ref a198), .val (.int (1540483477 : Int32)), .unset, .unset, .unset]) (pc' := 136) C at_134 rfl rfl ?_
    refine Wk.ldcInt (z := (-1756908916 : Int32)) (pc' := 138) C (w7 hw) at_136 rfl ?_
    refine Wk.iload (pc' := 140) C at_138 rfl rfl ?_
    refine Wk.ixor (pc' := 141) C at_140 rfl ?_
    refine Wk.istoreV (fun v275 => #[.val (.int x0), .val (.int x1), .val (.int x2), .val (.int x3), .val (.int (10 : Int32)), .val (.ref a198), .val (.int (1540483477 : Int32)), .val (.int v275), .unset, .unset]) (pc' := 143) C at_141 rfl rfl ?_
    intro v275 hv275
    refine Wk.iload (pc' := 145) C at_143 rfl rfl ?_
    refine Wk.iconst (z := (4 : Int32)) (pc' := 146) C at_145 rfl rfl ?_
    refine Wk.icmp_lt (pcT := 161) (pcF := 149) C at_146 (by decide) (by decide) rfl (fun q => absurd q (by decide)) (fun _ => ?_)
    refine Wk.iload (pc' := 151) C at_149 rfl rfl ?_
    refine Wk.iload (pc' := 153) C at_151 rfl rfl ?_
    refine Wk.imul (pc' := 154) C at_153 rfl ?_
    refine Wk.iloadN (pc' := 155) C at_154 rfl rfl ?_
    refine Wk.callS (pc' := 158) (rm := { frames := 0, cells := 0, slots := 0, locals := 0 }) (W0 := 1) (argsL := [.int x1]) (st := [.int (v275 * (1540483477 : Int32))]) C (w14 hw) (w15 hw) (w4 hw) (w16 hw) (by decide) (fun h O => rm3 l Z a0 hw x1 ((a198, ArrC Z .byte 10 f199) :: []) h n0 O) (by decide) (by decide) (by decide) (by decide) at_155 rfl pd_2 rfl rfl rfl rfl ?_
    rintro _ h' ⟨rfl, O'⟩
    refine ⟨_, O', ?_⟩
    change Wk p l e _ m _ below meth c _ _ n0 ((a198, ArrC Z .byte 10 f199) :: []) 1 12 158 #[.val (.int x0), .val (.int x1), .val (.int x2), .val (.int x3), .val (.int (10 : Int32)), .val (.ref a198), .val (.int (1540483477 : Int32)), .val (.int v275), .unset, .unset] [.int (F3 x1), .int (v275 * (1540483477 : Int32))]
    refine Wk.ixor (pc' := 159) C at_158 rfl ?_
    refine Wk.istoreV (fun v276 => #[.val (.int x0), .val (.int x1), .val (.int x2), .val (.int x3), .val (.int (10 : Int32)), .val (.ref a198), .val (.int (1540483477 : Int32)), .val (.int v276), .unset, .unset]) (pc' := 161) C at_159 rfl rfl ?_
    intro v276 hv276
    refine Wk.iload (pc' := 163) C at_161 rfl rfl ?_
    refine Wk.bipush (z := (8 : Int32)) (pc' := 165) C at_163 rfl rfl ?_
    refine Wk.icmp_lt (pcT := 180) (pcF := 168) C at_165 (by decide) (by decide) rfl (fun q => absurd q (by decide)) (fun _ => ?_)
    refine Wk.iload (pc' := 170) C at_168 rfl rfl ?_
    refine Wk.iload (pc' := 172) C at_170 rfl rfl ?_
    refine Wk.imul (pc' := 173) C at_172 rfl ?_
    refine Wk.iloadN (pc' := 174) C at_173 rfl rfl ?_
    refine Wk.callS (pc' := 177) (rm := { frames := 0, cells := 0, slots := 0, locals := 0 }) (W0 := 1) (argsL := [.int x2]) (st := [.int (v276 * (1540483477 : Int32))]) C (w14 hw) (w15 hw) (w4 hw) (w16 hw) (by decide) (fun h O => rm3 l Z a0 hw x2 ((a198, ArrC Z .byte 10 f199) :: []) h n0 O) (by decide) (by decide) (by decide) (by decide) at_174 rfl pd_2 rfl rfl rfl rfl ?_
    rintro _ h' ⟨rfl, O'⟩
    refine ⟨_, O', ?_⟩
    change Wk p l e _ m _ below meth c _ _ n0 ((a198, ArrC Z .byte 10 f199) :: []) 1 12 177 #[.val (.int x0), .val (.int x1), .val (.int x2), .val (.int x3), .val (.int (10 : Int32)), .val (.ref a198), .val (.int (1540483477 : Int32)), .val (.int v276), .unset, .unset] [.int (F3 x2), .int (v276 * (1540483477 : Int32))]
    refine Wk.ixor (pc' := 178) C at_177 rfl ?_
    refine Wk.istoreV (fun v277 => #[.val (.int x0), .val (.int x1), .val (.int x2), .val (.int x3), .val (.int (10 : Int32)), .val (.ref a198), .val (.int (1540483477 : Int32)), .val (.int v277), .unset, .unset]) (pc' := 180) C at_178 rfl rfl ?_
    intro v277 hv277
    refine Wk.iload (pc' := 182) C at_180 rfl rfl ?_
    refine Wk.bipush (z := (12 : Int32)) (pc' := 184) C at_182 rfl rfl ?_
    refine Wk.icmp_lt (pcT := 199) (pcF := 187) C at_184 (by decide) (by decide) rfl (fun _ => ?_) (fun q => absurd q (by decide))
    refine Wk.iload (pc' := 201) C at_199 rfl rfl ?_
    refine Wk.iconst (z := (3 : Int32)) (pc' := 202) C at_201 rfl rfl ?_
    refine Wk.iand (pc' := 203) C at_202 rfl ?_
    refine Wk.istoreV (fun v278 => #[.val (.int x0), .val (.int x1), .val (.int x2), .val (.int x3), .val (.int (10 : Int32)), .val (.ref a198), .val (.int (1540483477 : Int32)), .val (.int v277), .val (.int v278), .unset]) (pc' := 205) C at_203 rfl rfl ?_
    intro v278 hv278
    obtain rfl : v278 = (2 : Int32) := hv278.trans (by decide)
    refine Wk.iload (pc' := 207) C at_205 rfl rfl ?_
    refine Wk.if_le (pcT := 254) (pcF := 210) C at_207 (by decide) (by decide) rfl (fun q => absurd q (by decide)) (fun _ => ?_)
    refine Wk.iload (pc' := 212) C at_210 rfl rfl ?_
    refine Wk.iconst (z := (4 : Int32)) (pc' := 213) C at_212 rfl rfl ?_
    refine Wk.icmp_ge (pcT := 220) (pcF := 216) C at_213 (by decide) (by decide) rfl (fun _ => ?_) (fun q => absurd q (by decide))
    refine Wk.iload (pc' := 222) C at_220 rfl rfl ?_
    refine Wk.bipush (z := (8 : Int32)) (pc' := 224) C at_222 rfl rfl ?_
    refine Wk.icmp_ge (pcT := 231) (pcF := 227) C at_224 (by decide) (by decide) rfl (fun _ => ?_) (fun q => absurd q (by decide))
    refine Wk.iloadN (pc' := 232) C at_231 rfl rfl ?_
    refine Wk.istore (Ls' := #[.val (.int x0), .val (.int x1), .val (.int x2), .val (.int x3), .val (.int (10 : Int32)), .val (.ref a198), .val (.int (1540483477 : Int32)), .val (.int v277), .val (.int (2 : Int32)), .val (.int x3)]) (pc' := 234) C at_232 rfl rfl ?_
    refine Wk.iload (pc' := 236) C at_234 rfl rfl ?_
    refine Wk.iload (pc' := 238) C at_236 rfl rfl ?_
    refine Wk.iconst (z := (1 : Int32)) (pc' := 239) C at_238 rfl rfl ?_
    refine Wk.bipush (z := (8 : Int32)) (pc' := 241) C at_239 rfl rfl ?_
    refine Wk.iload (pc' := 243) C at_241 rfl rfl ?_
    refine Wk.imul (pc' := 244) C at_243 rfl ?_
    refine Wk.ishl (pc' := 245) C at_244 rfl ?_
    refine Wk.iconst (z := (1 : Int32)) (pc' := 246) C at_245 rfl rfl ?_
    refine Wk.isub (pc' := 247) C at_246 rfl ?_
    refine Wk.iand (pc' := 248) C at_247 rfl ?_
    refine Wk.ixor (pc' := 249) C at_248 rfl ?_
    refine Wk.iload (pc' := 251) C at_249 rfl rfl ?_
    refine Wk.imul (pc' := 252) C at_251 rfl ?_
    refine Wk.istoreV (fun v279 => #[.val (.int x0), .val (.int x1), .val (.int x2), .val (.int x3), .val (.int (10 : Int32)), .val (.ref a198), .val (.int (1540483477 : Int32)), .val (.int v279), .val (.int (2 : Int32)), .val (.int x3)]) (pc' := 254) C at_252 rfl rfl ?_
    intro v279 hv279
    refine Wk.iload (pc' := 256) C at_254 rfl rfl ?_
    refine Wk.iload (pc' := 258) C at_256 rfl rfl ?_
    refine Wk.bipush (z := (13 : Int32)) (pc' := 260) C at_258 rfl rfl ?_
    refine Wk.iushr (pc' := 261) C at_260 rfl ?_
    refine Wk.ixor (pc' := 262) C at_261 rfl ?_
    refine Wk.istoreV (fun v280 => #[.val (.int x0), .val (.int x1), .val (.int x2), .val (.int x3), .val (.int (10 : Int32)), .val (.ref a198), .val (.int (1540483477 : Int32)), .val (.int v280), .val (.int (2 : Int32)), .val (.int x3)]) (pc' := 264) C at_262 rfl rfl ?_
    intro v280 hv280
    refine Wk.iload (pc' := 266) C at_264 rfl rfl ?_
    refine Wk.iload (pc' := 268) C at_266 rfl rfl ?_
    refine Wk.imul (pc' := 269) C at_268 rfl ?_
    refine Wk.istoreV (fun v281 => #[.val (.int x0), .val (.int x1), .val (.int x2), .val (.int x3), .val (.int (10 : Int32)), .val (.ref a198), .val (.int (1540483477 : Int32)), .val (.int v281), .val (.int (2 : Int32)), .val (.int x3)]) (pc' := 271) C at_269 rfl rfl ?_
    intro v281 hv281
    refine Wk.iload (pc' := 273) C at_271 rfl rfl ?_
    refine Wk.iload (pc' := 275) C at_273 rfl rfl ?_
    refine Wk.bipush (z := (15 : Int32)) (pc' := 277) C at_275 rfl rfl ?_
    refine Wk.iushr (pc' := 278) C at_277 rfl ?_
    refine Wk.ixor (pc' := 279) C at_278 rfl ?_
    refine Wk.istoreV (fun v282 => #[.val (.int x0), .val (.int x1), .val (.int x2), .val (.int x3), .val (.int (10 : Int32)), .val (.ref a198), .val (.int (1540483477 : Int32)), .val (.int v282), .val (.int (2 : Int32)), .val (.int x3)]) (pc' := 281) C at_279 rfl rfl ?_
    intro v282 hv282
    refine Wk.aload (pc' := 283) C at_281 rfl rfl rfl ?_
    refine Wk.callS (pc' := 286) (rm := { frames := 0, cells := 0, slots := 0, locals := 0 }) (W0 := 0) (argsL := [.ref a198]) (st := []) C (w8 hw) (w9 hw) (w10 hw) (w11 hw) (by decide) (fun h O => rm2_10 l Z a0 hw a198 ((a198, ArrC Z .byte 10 f199) :: []) 0 f199 h n0 O rfl) (by decide) (by decide) (by decide) (by decide) at_283 rfl pd_1 rfl rfl rfl rfl ?_
    rintro _ h' ⟨rfl, O'⟩
    refine ⟨_, O', ?_⟩
    change Wk p l e _ m _ below meth c _ _ n0 ((a198, ArrC Z .byte 10 f199) :: []) 1 12 286 #[.val (.int x0), .val (.int x1), .val (.int x2), .val (.int x3), .val (.int (10 : Int32)), .val (.ref a198), .val (.int (1540483477 : Int32)), .val (.int v282), .val (.int (2 : Int32)), .val (.int x3)] [.int (G10 f199)]
    refine Wk.iload (pc' := 288) C at_286 rfl rfl ?_
    have hkey : G10 f199 = v282 := by
      subst hv282 hv281 hv280 hv279 hv277 hv276 hv275
      exact own_key10 x1 x2 x3 f199 e0 e1 e2 e3 e4 e5 e6 e7 e8 e9 e10 e11
    refine Wk.icmp_ne (pcT := 295) (pcF := 291) C at_288 (by decide) (by decide) rfl (fun c283 => (show False from c283 hkey).elim) (fun c283 => ?_)
    refine Wk.iconst (z := (1 : Int32)) (pc' := 292) C at_291 rfl rfl ?_
    refine Wk.goto (pc' := 296) C at_292 (by decide) (by decide) ?_
    exact Wk.retN C J at_296 (by decide) (by decide) (by simp) rfl (fun h O => rfl)
  · skip
    subst hn
    obtain rfl : nn = 11 := by have q : (11 : Int32).toInt = 11 := rfl; omega
    refine Wk.ldcInt (z := (1540483477 : Int32)) (pc' := 134) C (w6 hw) at_132 rfl ?_
    refine Wk.istore (Ls' := #[.val (.int x0), .val (.int x1), .val (.int x2), .val (.int x3), .val (.int (11 : Int32)), .val (.ref a198), .val (.int (1540483477 : Int32)), .unset, .unset, .unset]) (pc' := 136) C at_134 rfl rfl ?_
    refine Wk.ldcInt (z := (-1756908916 : Int32)) (pc' := 138) C (w7 hw) at_136 rfl ?_
    refine Wk.iload (pc' := 140) C at_138 rfl rfl ?_
    refine Wk.ixor (pc' := 141) C at_140 rfl ?_
    refine Wk.istoreV (fun v284 => #[.val (.int x0), .val (.int x1), .val (.int x2), .val (.int x3), .val (.int (11 : Int32)), .val (.ref a198), .val (.int (1540483477 : Int32)), .val (.int v284), .unset, .unset]) (pc' := 143) C at_141 rfl rfl ?_
    intro v284 hv284
    refine Wk.iload (pc' := 145) C at_143 rfl rfl ?_
    refine Wk.iconst (z := (4 : Int32)) (pc' := 146) C at_145 rfl rfl ?_
    refine Wk.icmp_lt (pcT := 161) (pcF := 149) C at_146 (by decide) (by decide) rfl (fun q => absurd q (by decide)) (fun _ => ?_)
    refine Wk.iload (pc' := 151) C at_149 rfl rfl ?_
    refine Wk.iload (pc' := 153) C at_151 rfl rfl ?_
    refine Wk.imul (pc' := 154) C at_153 rfl ?_
    refine Wk.iloadN (pc' := 155) C at_154 rfl rfl ?_
    refine Wk.callS (pc' := 158) (rm := { frames := 0, cells := 0, slots := 0, locals := 0 }) (W0 := 1) (argsL := [.int x1]) (st := [.int (v284 * (1540483477 : Int32))]) C (w14 hw) (w15 hw) (w4 hw) (w16 hw) (by decide) (fun h O => rm3 l Z a0 hw x1 ((a198, ArrC Z .byte 11 f199) :: []) h n0 O) (by decide) (by decide) (by decide) (by decide) at_155 rfl pd_2 rfl rfl rfl rfl ?_
    rintro _ h' ⟨rfl, O'⟩
    refine ⟨_, O', ?_⟩
    change Wk p l e _ m _ below meth c _ _ n0 ((a198, ArrC Z .byte 11 f199) :: []) 1 12 158 #[.val (.int x0), .val (.int x1), .val (.int x2), .val (.int x3), .val (.int (11 : Int32)), .val (.ref a198), .val (.int (1540483477 : Int32)), .val (.int v284), .unset, .unset] [.int (F3 x1), .int (v284 * (1540483477 : Int32))]
    refine Wk.ixor (pc' := 159) C at_158 rfl ?_
    refine Wk.istoreV (fun v285 => #[.val (.int x0), .val (.int x1), .val (.int x2), .val (.int x3), .val (.int (11 : Int32)), .val (.ref a198), .val (.int (1540483477 : Int32)), .val (.int v285), .unset, .unset]) (pc' := 161) C at_159 rfl rfl ?_
    intro v285 hv285
    refine Wk.iload (pc' := 163) C at_161 rfl rfl ?_
    refine Wk.bipush (z := (8 : Int32)) (pc' := 165) C at_163 rfl rfl ?_
    refine Wk.icmp_lt (pcT := 180) (pcF := 168) C at_165 (by decide) (by decide) rfl (fun q => absurd q (by decide)) (fun _ => ?_)
    refine Wk.iload (pc' := 170) C at_168 rfl rfl ?_
    refine Wk.iload (pc' := 172) C at_170 rfl rfl ?_
    refine Wk.imul (pc' := 173) C at_172 rfl ?_
    refine Wk.iloadN (pc' := 174) C at_173 rfl rfl ?_
    refine Wk.callS (pc' := 177) (rm := { frames := 0, cells := 0, slots := 0, locals := 0 }) (W0 := 1) (argsL := [.int x2]) (st := [.int (v285 * (1540483477 : Int32))]) C (w14 hw) (w15 hw) (w4 hw) (w16 hw) (by decide) (fun h O => rm3 l Z a0 hw x2 ((a198, ArrC Z .byte 11 f199) :: []) h n0 O) (by decide) (by decide) (by decide) (by decide) at_174 rfl pd_2 rfl rfl rfl rfl ?_
    rintro _ h' ⟨rfl, O'⟩
    refine ⟨_, O', ?_⟩
    change Wk p l e _ m _ below meth c _ _ n0 ((a198, ArrC Z .byte 11 f199) :: []) 1 12 177 #[.val (.int x0), .val (.int x1), .val (.int x2), .val (.int x3), .val (.int (11 : Int32)), .val (.ref a198), .val (.int (1540483477 : Int32)), .val (.int v285), .unset, .unset] [.int (F3 x2), .int (v285 * (1540483477 : Int32))]
    refine Wk.ixor (pc' := 178) C at_177 rfl ?_
    refine Wk.istoreV (fun v286 => #[.val (.int x0), .val (.int x1), .val (.int x2), .val (.int x3), .val (.int (11 : Int32)), .val (.ref a198), .val (.int (1540483477 : Int32)), .val (.int v286), .unset, .unset]) (pc' := 180) C at_178 rfl rfl ?_
    intro v286 hv286
    refine Wk.iload (pc' := 182) C at_180 rfl rfl ?_
    refine Wk.bipush (z := (12 : Int32)) (pc' := 184) C at_182 rfl rfl ?_
    refine Wk.icmp_lt (pcT := 199) (pcF := 187) C at_184 (by decide) (by decide) rfl (fun _ => ?_) (fun q => absurd q (by decide))
    refine Wk.iload (pc' := 201) C at_199 rfl rfl ?_
    refine Wk.iconst (z := (3 : Int32)) (pc' := 202) C at_201 rfl rfl ?_
    refine Wk.iand (pc' := 203) C at_202 rfl ?_
    refine Wk.istoreV (fun v287 => #[.val (.int x0), .val (.int x1), .val (.int x2), .val (.int x3), .val (.int (11 : Int32)), .val (.ref a198), .val (.int (1540483477 : Int32)), .val (.int v286), .val (.int v287), .unset]) (pc' := 205) C at_203 rfl rfl ?_
    intro v287 hv287
    obtain rfl : v287 = (3 : Int32) := hv287.trans (by decide)
    refine Wk.iload (pc' := 207) C at_205 rfl rfl ?_
    refine Wk.if_le (pcT := 254) (pcF := 210) C at_207 (by decide) (by decide) rfl (fun q => absurd q (by decide)) (fun _ => ?_)
    refine Wk.iload (pc' := 212) C at_210 rfl rfl ?_
    refine Wk.iconst (z := (4 : Int32)) (pc' := 213) C at_212 rfl rfl ?_
    refine Wk.icmp_ge (pcT := 220) (pcF := 216) C at_213 (by decide) (by decide) rfl (fun _ => ?_) (fun q => absurd q (by decide))
    refine Wk.iload (pc' := 222) C at_220 rfl rfl ?_
    refine Wk.bipush (z := (8 : Int32)) (pc' := 224) C at_222 rfl rfl ?_
    refine Wk.icmp_ge (pcT := 231) (pcF := 227) C at_224 (by decide) (by decide) rfl (fun _ => ?_) (fun q => absurd q (by decide))
    refine Wk.iloadN (pc' := 232) C at_231 rfl rfl ?_
    refine Wk.istore (Ls' := #[.val (.int x0), .val (.int x1), .val (.int x2), .val (.int x3), .val (.int (11 : Int32)), .val (.ref a198), .val (.int (1540483477 : Int32)), .val (.int v286), .val (.int (3 : Int32)), .val (.int x3)]) (pc' := 234) C at_232 rfl rfl ?_
    refine Wk.iload (pc' := 236) C at_234 rfl rfl ?_
    refine Wk.iload (pc' := 238) C at_236 rfl rfl ?_
    refine Wk.iconst (z := (1 : Int32)) (pc' := 239) C at_238 rfl rfl ?_
    refine Wk.bipush (z := (8 : Int32)) (pc' := 241) C at_239 rfl rfl ?_
    refine Wk.iload (pc' := 243) C at_241 rfl rfl ?_
    refine Wk.imul (pc' := 244) C at_243 rfl ?_
    refine Wk.ishl (pc' := 245) C at_244 rfl ?_
    refine Wk.iconst (z := (1 : Int32)) (pc' := 246) C at_245 rfl rfl ?_
    refine Wk.isub (pc' := 247) C at_246 rfl ?_
    refine Wk.iand (pc' := 248) C at_247 rfl ?_
    refine Wk.ixor (pc' := 249) C at_248 rfl ?_
    refine Wk.iload (pc' := 251) C at_249 rfl rfl ?_
    refine Wk.imul (pc' := 252) C at_251 rfl ?_
    refine Wk.istoreV (fun v288 => #[.val (.int x0), .val (.int x1), .val (.int x2), .val (.int x3), .val (.int (11 : Int32)), .val (.ref a198), .val (.int (1540483477 : Int32)), .val (.int v288), .val (.int (3 : Int32)), .val (.int x3)]) (pc' := 254) C at_252 rfl rfl ?_
    intro v288 hv288
    refine Wk.iload (pc' := 256) C at_254 rfl rfl ?_
    refine Wk.iload (pc' := 258) C at_256 rfl rfl ?_
    refine Wk.bipush (z := (13 : Int32)) (pc' := 260) C at_258 rfl rfl ?_
    refine Wk.iushr (pc' := 261) C at_260 rfl ?_
    refine Wk.ixor (pc' := 262) C at_261 rfl ?_
    refine Wk.istoreV (fun v289 => #[.val (.int x0), .val (.int x1), .val (.int x2), .val (.int x3), .val (.int (11 : Int32)), .val (.ref a198), .val (.int (1540483477 : Int32)), .val (.int v289), .val (.int (3 : Int32)), .val (.int x3)]) (pc' := 264) C at_262 rfl rfl ?_
    intro v289 hv289
    refine Wk.iload (pc' := 266) C at_264 rfl rfl ?_
    refine Wk.iload (pc' := 268) C at_266 rfl rfl ?_
    refine Wk.imul (pc' := 269) C at_268 rfl ?_
    refine Wk.istoreV (fun v290 => #[.val (.int x0), .val (.int x1), .val (.int x2), .val (.int x3), .val (.int (11 : Int32)), .val (.ref a198), .val (.int (1540483477 : Int32)), .val (.int v290), .val (.int (3 : Int32)), .val (.int x3)]) (pc' := 271) C at_269 rfl rfl ?_
    intro v290 hv290
    refine Wk.iload (pc' := 273) C at_271 rfl rfl ?_
    refine Wk.iload (pc' := 275) C at_273 rfl rfl ?_
    refine Wk.bipush (z := (15 : Int32)) (pc' := 277) C at_275 rfl rfl ?_
    refine Wk.iushr (pc' := 278) C at_277 rfl ?_
    refine Wk.ixor (pc' := 279) C at_278 rfl ?_
    refine Wk.istoreV (fun v291 => #[.val (.int x0), .val (.int x1), .val (.int x2), .val (.int x3), .val (.int (11 : Int32)), .val (.ref a198), .val (.int (1540483477 : Int32)), .val (.int v291), .val (.int (3 : Int32)), .val (.int x3)]) (pc' := 281) C at_279 rfl rfl ?_
    intro v291 hv291
    refine Wk.aload (pc' := 283) C at_281 rfl rfl rfl ?_
    refine Wk.callS (pc' := 286) (rm := { frames := 0, cells := 0, slots := 0, locals := 0 }) (W0 := 0) (argsL := [.ref a198]) (st := []) C (w8 hw) (w9 hw) (w10 hw) (w11 hw) (by decide) (fun h O => rm2_11 l Z a0 hw a198 ((a198, ArrC Z .byte 11 f199) :: []) 0 f199 h n0 O rfl) (by decide) (by decide) (by decide) (by decide) at_283 rfl pd_1 rfl rfl rfl rfl ?_
    rintro _ h' ⟨rfl, O'⟩
    refine ⟨_, O', ?_⟩
    change Wk p l e _ m _ below meth c _ _ n0 ((a198, ArrC Z .byte 11 f199) :: []) 1 12 286 #[.val (.int x0), .val (.int x1), .val (.int x2), .val (.int x3), .val (.int (11 : Int32)), .val (.ref a198), .val (.int (1540483477 : Int32)), .val (.int v291), .val (.int (3 : Int32)), .val (.int x3)] [.int (G11 f199)]
    refine Wk.iload (pc' := 288) C at_286 rfl rfl ?_
    have hkey : G11 f199 = v291 := by
      subst hv291 hv290 hv289 hv288 hv286 hv285 hv284
      exact own_key11 x1 x2 x3 f199 e0 e1 e2 e3 e4 e5 e6 e7 e8 e9 e10 e11
    refine Wk.icmp_ne (pcT := 295) (pcF := 291) C at_288 (by decide) (by decide) rfl (fun c292 => (show False from c292 hkey).elim) (fun c292 => ?_)
    refine Wk.iconst (z := (1 : Int32)) (pc' := 292) C at_291 rfl rfl ?_
    refine Wk.goto (pc' := 296) C at_292 (by decide) (by decide) ?_
    exact Wk.retN C J at_296 (by decide) (by decide) (by simp) rfl (fun h O => rfl)
  · skip
    subst hn
    obtain rfl : nn = 12 := by have q : (12 : Int32).toInt = 12 := rfl; omega
    refine Wk.ldcInt (z := (1540483477 : Int32)) (pc' := 134) C (w6 hw) at_132 rfl ?_
    refine Wk.istore (Ls' := #[.val (.int x0), .val (.int x1), .val (.int x2), .val (.int x3), .val (.int (12 : Int32)), .val (.ref a198), .val (.int (1540483477 : Int32)), .unset, .unset, .unset]) (pc' := 136) C at_134 rfl rfl ?_
    refine Wk.ldcInt (z := (-1756908916 : Int32)) (pc' := 138) C (w7 hw) at_136 rfl ?_
    refine Wk.iload (pc' := 140) C at_138 rfl rfl ?_
    refine Wk.ixor (pc' := 141) C at_140 rfl ?_
    refine Wk.istoreV (fun v293 => #[.val (.int x0), .val (.int x1), .val (.int x2), .val (.int x3), .val (.int (12 : Int32)), .val (.ref a198), .val (.int (1540483477 : Int32)), .val (.int v293), .unset, .unset]) (pc' := 143) C at_141 rfl rfl ?_
    intro v293 hv293
    refine Wk.iload (pc' := 145) C at_143 rfl rfl ?_
    refine Wk.iconst (z := (4 : Int32)) (pc' := 146) C at_145 rfl rfl ?_
    refine Wk.icmp_lt (pcT := 161) (pcF := 149) C at_146 (by decide) (by decide) rfl (fun q => absurd q (by decide)) (fun _ => ?_)
    refine Wk.iload (pc' := 151) C at_149 rfl rfl ?_
    refine Wk.iload (pc' := 153) C at_151 rfl rfl ?_
    refine Wk.imul (pc' := 154) C at_153 rfl ?_
    refine Wk.iloadN (pc' := 155) C at_154 rfl rfl ?_
    refine Wk.callS (pc' := 158) (rm := { frames := 0, cells := 0, slots := 0, locals := 0 }) (W0 := 1) (argsL := [.int x1]) (st := [.int (v293 * (1540483477 : Int32))]) C (w14 hw) (w15 hw) (w4 hw) (w16 hw) (by decide) (fun h O => rm3 l Z a0 hw x1 ((a198, ArrC Z .byte 12 f199) :: []) h n0 O) (by decide) (by decide) (by decide) (by decide) at_155 rfl pd_2 rfl rfl rfl rfl ?_
    rintro _ h' ⟨rfl, O'⟩
    refine ⟨_, O', ?_⟩
    change Wk p l e _ m _ below meth c _ _ n0 ((a198, ArrC Z .byte 12 f199) :: []) 1 12 158 #[.val (.int x0), .val (.int x1), .val (.int x2), .val (.int x3), .val (.int (12 : Int32)), .val (.ref a198), .val (.int (1540483477 : Int32)), .val (.int v293), .unset, .unset] [.int (F3 x1), .int (v293 * (1540483477 : Int32))]
    refine Wk.ixor (pc' := 159) C at_158 rfl ?_
    refine Wk.istoreV (fun v294 => #[.val (.int x0), .val (.int x1), .val (.int x2), .val (.int x3), .val (.int (12 : Int32)), .val (.ref a198), .val (.int (1540483477 : Int32)), .val (.int v294), .unset, .unset]) (pc' := 161) C at_159 rfl rfl ?_
    intro v294 hv294
    refine Wk.iload (pc' := 163) C at_161 rfl rfl ?_
    refine Wk.bipush (z := (8 : Int32)) (pc' := 165) C at_163 rfl rfl ?_
    refine Wk.icmp_lt (pcT := 180) (pcF := 168) C at_165 (by decide) (by decide) rfl (fun q => absurd q (by decide)) (fun _ => ?_)
    refine Wk.iload (pc' := 170) C at_168 rfl rfl ?_
    refine Wk.iload (pc' := 172) C at_170 rfl rfl ?_
    refine Wk.imul (pc' := 173) C at_172 rfl ?_
    refine Wk.iloadN (pc' := 174) C at_173 rfl rfl ?_
    refine Wk.callS (pc' := 177) (rm := { frames := 0, cells := 0, slots := 0, locals := 0 }) (W0 := 1) (argsL := [.int x2]) (st := [.int (v294 * (1540483477 : Int32))]) C (w14 hw) (w15 hw) (w4 hw) (w16 hw) (by decide) (fun h O => rm3 l Z a0 hw x2 ((a198, ArrC Z .byte 12 f199) :: []) h n0 O) (by decide) (by decide) (by decide) (by decide) at_174 rfl pd_2 rfl rfl rfl rfl ?_
    rintro _ h' ⟨rfl, O'⟩
    refine ⟨_, O', ?_⟩
    change Wk p l e _ m _ below meth c _ _ n0 ((a198, ArrC Z .byte 12 f199) :: []) 1 12 177 #[.val (.int x0), .val (.int x1), .val (.int x2), .val (.int x3), .val (.int (12 : Int32)), .val (.ref a198), .val (.int (1540483477 : Int32)), .val (.int v294), .unset, .unset] [.int (F3 x2), .int (v294 * (1540483477 : Int32))]
    refine Wk.ixor (pc' := 178) C at_177 rfl ?_
    refine Wk.istoreV (fun v295 => #[.val (.int x0), .val (.int x1), .val (.int x2), .val (.int x3), .val (.int (12 : Int32)), .val (.ref a198), .val (.int (1540483477 : Int32)), .val (.int v295), .unset, .unset]) (pc' := 180) C at_178 rfl rfl ?_
    intro v295 hv295
    refine Wk.iload (pc' := 182) C at_180 rfl rfl ?_
    refine Wk.bipush (z := (12 : Int32)) (pc' := 184) C at_182 rfl rfl ?_
    refine Wk.icmp_lt (pcT := 199) (pcF := 187) C at_184 (by decide) (by decide) rfl (fun q => absurd q (by decide)) (fun _ => ?_)
    refine Wk.iload (pc' := 189) C at_187 rfl rfl ?_
    refine Wk.iload (pc' := 191) C at_189 rfl rfl ?_
    refine Wk.imul (pc' := 192) C at_191 rfl ?_
    refine Wk.iloadN (pc' := 193) C at_192 rfl rfl ?_
    refine Wk.callS (pc' := 196) (rm := { frames := 0, cells := 0, slots := 0, locals := 0 }) (W0 := 1) (argsL := [.int x3]) (st := [.int (v295 * (1540483477 : Int32))]) C (w14 hw) (w15 hw) (w4 hw) (w16 hw) (by decide) (fun h O => rm3 l Z a0 hw x3 ((a198, ArrC Z .byte 12 f199) :: []) h n0 O) (by decide) (by decide) (by decide) (by decide) at_193 rfl pd_2 rfl rfl rfl rfl ?_
    rintro _ h' ⟨rfl, O'⟩
    refine ⟨_, O', ?_⟩
    change Wk p l e _ m _ below meth c _ _ n0 ((a198, ArrC Z .byte 12 f199) :: []) 1 12 196 #[.val (.int x0), .val (.int x1), .val (.int x2), .val (.int x3), .val (.int (12 : Int32)), .val (.ref a198), .val (.int (1540483477 : Int32)), .val (.int v295), .unset, .unset] [.int (F3 x3), .int (v295 * (1540483477 : Int32))]
    refine Wk.ixor (pc' := 197) C at_196 rfl ?_
    refine Wk.istoreV (fun v296 => #[.val (.int x0), .val (.int x1), .val (.int x2), .val (.int x3), .val (.int (12 : Int32)), .val (.ref a198), .val (.int (1540483477 : Int32)), .val (.int v296), .unset, .unset]) (pc' := 199) C at_197 rfl rfl ?_
    intro v296 hv296
    refine Wk.iload (pc' := 201) C at_199 rfl rfl ?_
    refine Wk.iconst (z := (3 : Int32)) (pc' := 202) C at_201 rfl rfl ?_
    refine Wk.iand (pc' := 203) C at_202 rfl ?_
    refine Wk.istoreV (fun v297 => #[.val (.int x0), .val (.int x1), .val (.int x2), .val (.int x3), .val (.int (12 : Int32)), .val (.ref a198), .val (.int (1540483477 : Int32)), .val (.int v296), .val (.int v297), .unset]) (pc' := 205) C at_203 rfl rfl ?_
    intro v297 hv297
    obtain rfl : v297 = (0 : Int32) := hv297.trans (by decide)
    refine Wk.iload (pc' := 207) C at_205 rfl rfl ?_
    refine Wk.if_le (pcT := 254) (pcF := 210) C at_207 (by decide) (by decide) rfl (fun _ => ?_) (fun q => absurd q (by decide))
    refine Wk.iload (pc' := 256) C at_254 rfl rfl ?_
    refine Wk.iload (pc' := 258) C at_256 rfl rfl ?_
    refine Wk.bipush (z := (13 : Int32)) (pc' := 260) C at_258 rfl rfl ?_
    refine Wk.iushr (pc' := 261) C at_260 rfl ?_
    refine Wk.ixor (pc' := 262) C at_261 rfl ?_
    refine Wk.istoreV (fun v298 => #[.val (.int x0), .val (.int x1), .val (.int x2), .val (.int x3), .val (.int (12 : Int32)), .val (.ref a198), .val (.int (1540483477 : Int32)), .val (.int v298), .val (.int (0 : Int32)), .unset]) (pc' := 264) C at_262 rfl rfl ?_
    intro v298 hv298
    refine Wk.iload (pc' := 266) C at_264 rfl rfl ?_
    refine Wk.iload (pc' := 268) C at_266 rfl rfl ?_
    refine Wk.imul (pc' := 269) C at_268 rfl ?_
    refine Wk.istoreV (fun v299 => #[.val (.int x0), .val (.int x1), .val (.int x2), .val (.int x3), .val (.int (12 : Int32)), .val (.ref a198), .val (.int (1540483477 : Int32)), .val (.int v299), .val (.int (0 : Int32)), .unset]) (pc' := 271) C at_269 rfl rfl ?_
    intro v299 hv299
    refine Wk.iload (pc' := 273) C at_271 rfl rfl ?_
    refine Wk.iload (pc' := 275) C at_273 rfl rfl ?_
    refine Wk.bipush (z := (15 : Int32)) (pc' := 277) C at_275 rfl rfl ?_
    refine Wk.iushr (pc' := 278) C at_277 rfl ?_
    refine Wk.ixor (pc' := 279) C at_278 rfl ?_
    refine Wk.istoreV (fun v300 => #[.val (.int x0), .val (.int x1), .val (.int x2), .val (.int x3), .val (.int (12 : Int32)), .val (.ref a198), .val (.int (1540483477 : Int32)), .val (.int v300), .val (.int (0 : Int32)), .unset]) (pc' := 281) C at_279 rfl rfl ?_
    intro v300 hv300
    refine Wk.aload (pc' := 283) C at_281 rfl rfl rfl ?_
    refine Wk.callS (pc' := 286) (rm := { frames := 0, cells := 0, slots := 0, locals := 0 }) (W0 := 0) (argsL := [.ref a198]) (st := []) C (w8 hw) (w9 hw) (w10 hw) (w11 hw) (by decide) (fun h O => rm2_12 l Z a0 hw a198 ((a198, ArrC Z .byte 12 f199) :: []) 0 f199 h n0 O rfl) (by decide) (by decide) (by decide) (by decide) at_283 rfl pd_1 rfl rfl rfl rfl ?_
    rintro _ h' ⟨rfl, O'⟩
    refine ⟨_, O', ?_⟩
    change Wk p l e _ m _ below meth c _ _ n0 ((a198, ArrC Z .byte 12 f199) :: []) 1 12 286 #[.val (.int x0), .val (.int x1), .val (.int x2), .val (.int x3), .val (.int (12 : Int32)), .val (.ref a198), .val (.int (1540483477 : Int32)), .val (.int v300), .val (.int (0 : Int32)), .unset] [.int (G12 f199)]
    refine Wk.iload (pc' := 288) C at_286 rfl rfl ?_
    have hkey : G12 f199 = v300 := by
      subst hv300 hv299 hv298 hv296 hv295 hv294 hv293
      exact own_key12 x1 x2 x3 f199 e0 e1 e2 e3 e4 e5 e6 e7 e8 e9 e10 e11
    refine Wk.icmp_ne (pcT := 295) (pcF := 291) C at_288 (by decide) (by decide) rfl (fun c301 => (show False from c301 hkey).elim) (fun c301 => ?_)
    refine Wk.iconst (z := (1 : Int32)) (pc' := 292) C at_291 rfl rfl ?_
    refine Wk.goto (pc' := 296) C at_292 (by decide) (by decide) ?_
    exact Wk.retN C J at_296 (by decide) (by decide) (by simp) rfl (fun h O => rfl)
set_option maxRecDepth 65536 in
set_option maxHeartbeats 40000000 in
theorem comes_1 {Post : Tables → Env → Array Value → State → Outcome → State → Prop} (hpost : ∀ tb e args s v u, (limb_1_1.after args s (.returned v) u = true ∧ limb_1_2.after args s (.returned v) u = true ∧ True) → FrameEnd s (.returned v) u (Jvm.fieldLocs frame_1_writes args s ++ Jvm.arrayLocs frame_1_arrays args s ++ Jvm.staticLocs frame_1_statics s) 16 128 → Post tb e args s (.returned v) u) :
    ArmFor flags0 classFile x code maxLocals ret World_1 tables_1 room_1 Calls_1 rest_1 Pre_1 Post := by
  intro l hfl _ _ p e ha hc hk s m args below hf hA hF happ hP
  obtain ⟨hcalls, hrest, hpre⟩ := hP
  obtain ⟨-, -, -, hnamed, -, -, -, hat⟩ := (Spec.applies_iff hf).mp happ
  obtain ⟨hg, hn⟩ := and_e (Cond.before_iff.mp (show (Jvm.Cond.and given_1 narrow_1).before args s = true from hpre))
  obtain ⟨hcount, hr0⟩ := and_e hg
  obtain ⟨hi0, hr1⟩ := and_e hr0
  obtain ⟨hi1, hr2⟩ := and_e hr1
  obtain ⟨hi2, hr3⟩ := and_e hr2
  have hi3 := hr3
  obtain ⟨w0, w1, w2, w3, rfl⟩ : ∃ w0 w1 w2 w3 : Value, args = #[w0, w1, w2, w3] := by
    have hs : args.size = 4 := by simpa [Cond.value, given_1] using hcount
    obtain ⟨L⟩ := args
    match L, hs with
    | [w0, w1, w2, w3], _ => exact ⟨w0, w1, w2, w3, rfl⟩
  have hw : HW s _ := fun d (hd : d ∈ tables_1) => atoms_spec (ws := Jvm.Cond.code x code maxLocals ret :: tables_1) hat d (List.mem_cons_of_mem _ hd)
  obtain ⟨i0, e0⟩ := is_v hi0
  obtain rfl : w0 = (.int i0) := Option.some.inj e0
  obtain ⟨i1, e1⟩ := is_v hi1
  obtain rfl : w1 = (.int i1) := Option.some.inj e1
  obtain ⟨i2, e2⟩ := is_v hi2
  obtain rfl : w2 = (.int i2) := Option.some.inj e2
  obtain ⟨i3, e3⟩ := is_v hi3
  obtain rfl : w3 = (.int i3) := Option.some.inj e3
  obtain ⟨n, o, h1, h2, h3, _, L, rfl, ⟨rfl, -, N⟩, hq⟩ := rmLaw l s _ hw i0 i1 i2 i3 s.heap s.heap.size (Own.nil (Nat.le_refl _)) p e ha hc hk s m _ below hf ((Spec.applies_iff_loose hf).mp happ).1 ⟨rfl, State.Warmed39.refl s, rfl⟩ trivial
  refine ⟨n, _, h1, h2, h3, hpost _ _ _ _ _ _ ⟨Cond.after_iff.mpr rfl, Cond.after_iff.mpr (eq_i res_at (Term.int_eval (1)) rfl), trivial⟩ ⟨hq.1, hq.2.1, (hq.2.2.sift fun y hy => Or.inr (N y hy)).mono (by decide) (by decide)⟩⟩
theorem main_1_1 : Claimed_1_1 := comes_1 fun _ _ _ _ _ _ h hF => ⟨h.1, hF⟩
theorem main_1_2 : Claimed_1_2 := comes_1 fun _ _ _ _ _ _ h hF => ⟨h.2.1, hF⟩
end Jvm.Pilot.@@N@@
namespace Jvm.Pilot.@@N@@
open Jvm Jvm.ClassFile Sem Op Lib Jvm.Free Jvm.Stand Jvm.Pilot.@@N@@.Jvm.D
/-! MADE BY PROGRAM (witnessworld.py) out of the Statement's table words and the real class files: 9 classes; the members and pool entries that the words name. The judged class is class 1, her method 3. -/
namespace start1
open Jvm.ClassFile
def u (s : String) : CpInfo := .utf8 (stringToUtf16 s)
/-- a pool by its gaps: so many unusable entries, then the entry; so many at the end -/
def gap : Nat → List CpInfo → List CpInfo
  | 0, r => r
  | n + 1, r => .unusable :: gap n r
def poolList (es : List (Nat × CpInfo)) (last : Nat) : List CpInfo := es.foldr (fun e r => gap e.1 (e.2 :: r)) (gap last [])
def pool (es : List (Nat × CpInfo)) (last : Nat) : Array CpInfo := ⟨poolList es last⟩
def fileOf (pool : Array CpInfo) (this : Nat) (attrs : Array Attribute := #[]) (ms : Array MethodInfo := #[]) (fl : Nat := 33) (sup : Nat := 0) (ifs : Array Nat := #[]) (fds : Array FieldInfo := #[]) : ClassFile where
  minorVersion := 0
  majorVersion := 65
  constantPool := pool
  accessFlags := fl
  thisClass := this
  superClass := sup
  interfaces := ifs
  fields := fds
  methods := ms
  attributes := attrs
def plain (name : String) (sup : Option ClassId) : Class where
  name := name
  kind := .ordinary
  loader := none
  accessFlags := 33
  super := sup
  interfaces := #[]
  cf := none
  fields := #[]
  methods := #[]
  instanceTypes := #[]
  staticTypes := #[]
  resolved := #[]
  callSites := []
  init := .initialized
  statics := none
  mirror := none

def pool0 : Array CpInfo := pool [(5, u "<init>"), (0, u "()V"), (1, .class_ 10), (1, u "java/lang/Object")] 113

def k0m0 : Method := { name := "<init>", desc := "()V", sig := { parameters := [], returnType := none }, accessFlags := 1, code := none }
/-- java/lang/Object -/
def k0 : Class := { plain "java/lang/Object" none with
  accessFlags := 33
  interfaces := #[]
  cf := some (fileOf pool0 8 #[] #[{ accessFlags := 1, nameIndex := 5, descriptorIndex := 6, attributes := #[] }] 33 0 #[] #[])
  fields := #[]
  methods := #[k0m0]
  instanceTypes := #[]
  staticTypes := #[]
  resolved := Array.replicate 124 none
  statics := none }

def pool1 : Array CpInfo := pool [(2, .class_ 4), (1, u "java/lang/Object"), (0, u "<init>"), (0, u "()V"), (0, .integer 1540483477), (0, .integer 2147483647), (0, .methodref 10 11), (0, .class_ 12), (0, .nameAndType 13 14), (0, u "com/example/onlyonce/onlyonce/PartitionerMurmur2PinLaw"), (0, u "put"), (0, u "([BII)V"), (0, .integer 2538058380), (0, .methodref 10 17), (0, .nameAndType 18 19), (0, u "mixK"), (0, u "(I)I"), (0, .methodref 21 22), (0, .class_ 23), (0, .nameAndType 24 25), (0, u "com/example/onlyonce/onlyonce/Partitioner"), (0, u "murmur2"), (0, u "([B)I"), (3, u "law"), (0, u "(IIII)Z")] 4

def k1m0 : Method := { name := "<init>", desc := "()V", sig := { parameters := [], returnType := none }, accessFlags := 2, code := none }
def k1c1 : Code := { maxStack := 3, maxLocals := 3, code := method_2_code, exceptionTable := #[], attributes := #[] }
def k1m1 : Method := { name := "put", desc := "([BII)V", sig := { parameters := [(.array .byte), .int, .int], returnType := none }, accessFlags := 10, code := some k1c1 }
def k1c2 : Code := { maxStack := 3, maxLocals := 3, code := method_3_code, exceptionTable := #[], attributes := #[] }
def k1m2 : Method := { name := "mixK", desc := "(I)I", sig := { parameters := [.int], returnType := some .int }, accessFlags := 10, code := some k1c2 }
def k1c3 : Code := { maxStack := 5, maxLocals := 10, code := code, exceptionTable := #[], attributes := #[] }
def k1m3 : Method := { name := "law", desc := "(IIII)Z", sig := { parameters := [.int, .int, .int, .int], returnType := some .boolean }, accessFlags := 9, code := some k1c3 }
/-- com/example/onlyonce/onlyonce/PartitionerMurmur2PinLaw -/
def k1 : Class := { plain "com/example/onlyonce/onlyonce/PartitionerMurmur2PinLaw" (some 0) with
  accessFlags := 49
  interfaces := #[]
  cf := some (fileOf pool1 10 #[] #[{ accessFlags := 2, nameIndex := 5, descriptorIndex := 6, attributes := #[] }, { accessFlags := 10, nameIndex := 13, descriptorIndex := 14, attributes := #[] }, { accessFlags := 10, nameIndex := 18, descriptorIndex := 19, attributes := #[] }, { accessFlags := 9, nameIndex := 29, descriptorIndex := 30, attributes := #[] }] 49 2 #[] #[])
  fields := #[]
  methods := #[k1m0, k1m1, k1m2, k1m3]
  instanceTypes := #[]
  staticTypes := #[]
  resolved := Array.replicate 35 none
  statics := none }

def pool2 : Array CpInfo := pool [(2, .class_ 4), (1, u "java/lang/Object"), (0, u "<init>"), (0, u "()V"), (10, .class_ 19), (1, u "com/example/onlyonce/onlyonce/Partitioner"), (0, u "murmur2"), (0, u "([B)I"), (1, .integer 2538058380), (0, .integer 1540483477), (0, u "SEED"), (0, u "I"), (1, u "M"), (0, u "R")] 25

def k2m0 : Method := { name := "<init>", desc := "()V", sig := { parameters := [], returnType := none }, accessFlags := 2, code := none }
def k2c1 : Code := { maxStack := 4, maxLocals := 6, code := prog_55_method_3_code, exceptionTable := #[], attributes := #[] }
def k2m1 : Method := { name := "murmur2", desc := "([B)I", sig := { parameters := [(.array .byte)], returnType := some .int }, accessFlags := 8, code := some k2c1 }
/-- com/example/onlyonce/onlyonce/Partitioner -/
def k2 : Class := { plain "com/example/onlyonce/onlyonce/Partitioner" (some 0) with
  accessFlags := 49
  interfaces := #[]
  cf := some (fileOf pool2 17 #[] #[{ accessFlags := 2, nameIndex := 5, descriptorIndex := 6, attributes := #[] }, { accessFlags := 8, nameIndex := 20, descriptorIndex := 21, attributes := #[] }] 49 2 #[] #[{ accessFlags := 26, nameIndex := 25, descriptorIndex := 26, attributes := #[] }, { accessFlags := 26, nameIndex := 28, descriptorIndex := 26, attributes := #[] }, { accessFlags := 26, nameIndex := 29, descriptorIndex := 26, attributes := #[] }])
  fields := #[{ name := "SEED", type := .int, accessFlags := 26, slot := 0, constantValue := 0 }, { name := "M", type := .int, accessFlags := 26, slot := 1, constantValue := 0 }, { name := "R", type := .int, accessFlags := 26, slot := 2, constantValue := 0 }]
  methods := #[k2m0, k2m1]
  instanceTypes := #[]
  staticTypes := #[.int, .int, .int]
  resolved := Array.replicate 55 none
  statics := none }

def pool3 : Array CpInfo := pool [(1, u "java/lang/Cloneable"), (0, .class_ 1), (0, u "java/lang/Object"), (0, .class_ 3)] 3

/-- java/lang/Cloneable -/
def k3 : Class := { plain "java/lang/Cloneable" (some 0) with
  accessFlags := 1537
  interfaces := #[]
  cf := some (fileOf pool3 2 #[] #[] 1537 4 #[] #[])
  fields := #[]
  methods := #[]
  instanceTypes := #[]
  staticTypes := #[]
  resolved := Array.replicate 8 none
  statics := none }

def pool4 : Array CpInfo := pool [(1, u "java/io/Serializable"), (0, .class_ 1), (0, u "java/lang/Object"), (0, .class_ 3)] 3

/-- java/io/Serializable -/
def k4 : Class := { plain "java/io/Serializable" (some 0) with
  accessFlags := 1537
  interfaces := #[]
  cf := some (fileOf pool4 2 #[] #[] 1537 4 #[] #[])
  fields := #[]
  methods := #[]
  instanceTypes := #[]
  staticTypes := #[]
  resolved := Array.replicate 8 none
  statics := none }

/-- the primitive byte -/
def k5 : Class := { plain "byte" none with kind := .primitive 'B', accessFlags := 0x411 }
/-- [B -/
def k6 : Class := { plain "[B" (some 0) with kind := .array 5 .byte, interfaces := #[3, 4], accessFlags := 1041 }

/-- the primitive int -/
def k7 : Class := { plain "int" none with kind := .primitive 'I', accessFlags := 0x411 }
/-- [I -/
def k8 : Class := { plain "[I" (some 0) with kind := .array 7 .int, interfaces := #[3, 4], accessFlags := 1041 }

def heap : Heap := #[]
def classes : Array Class := #[k0, k1, k2, k3, k4, k5, k6, k7, k8]
def interned : List (Array UInt16 × Addr) := []
def slotsUsed : Nat := 0
def theMethod : MethodId := ⟨1, 3⟩
def args0 : Array Value := #[.int 7, .int 200, .int 3, .int 9]
def aboutOver (below : List Frame) : State where
  vm := { classes := classes, interned := interned.toArray }
  heap := heap
  slotsUsed := slotsUsed
  threads := #[{ frames := .invoking theMethod args0 :: below }]
def below0 : List Frame := [.native { method := ⟨0, 0⟩, args := #[] }]
def about1 : State := aboutOver below0
def p0 : Program := .bare "" "" ""
def e0 : Env := launch0.env 0 0 0
theorem w_frames : about1.frames = Frame.invoking theMethod args0 :: below0 := rfl
set_option maxRecDepth 65536 in
theorem w_args : argsFit about1.vm theMethod args0 = true := by decide +kernel
set_option maxRecDepth 65536 in
theorem w_heap : heapFits about1 = true := by decide +kernel
set_option maxRecDepth 65536 in
theorem w_runnable : about1.curStatus? = some .runnable := by decide +kernel
set_option maxRecDepth 65536 in
theorem w_alone : about1.alone = true := by decide +kernel
set_option maxRecDepth 65536 in
theorem w_named : about1.methodNamed? x = some theMethod := by decide +kernel
set_option maxRecDepth 65536 in
theorem w_hears : about1.hears theMethod below0 = true := by decide +kernel
set_option maxRecDepth 65536 in
theorem w_ripe : about1.ripe theMethod args0 below0 = true := by decide +kernel
theorem w_running : about1.status = .running := rfl
set_option maxRecDepth 65536 in
theorem w_room : about1.hasRoom e0.platform room_1 = true :=
  launch0.hasRoom_least _ room_1 (by decide +kernel) (by decide +kernel) (by decide +kernel) (by decide +kernel) (by decide +kernel) (by decide +kernel)
theorem allAtoms_all (ts : List Jvm.Cond) (a : Array Jvm.Value) (st : Jvm.State) : (allAtoms ts).before a st = ts.all (fun c => c.before a st) := by
  induction ts with
  | nil => rfl
  | cons c t ih =>
    show (Jvm.Cond.and c (allAtoms t)).before a st = _
    rw [Jvm.Cond.before_and, ih, List.all_cons]
def words1 : List Jvm.Cond := Jvm.Cond.code x code maxLocals ret :: tables_1
/-- a 'code' word, met by the world's own term for the bytes: nothing is compared byte by byte -/
theorem code_word {y : MethodName} {bytes : ByteArray} {mx : Nat} {rt : Option FieldType} {a : Array Value} {s : State} {m : MethodId} {meth : Method} {c : Code} (h1 : s.methodNamed? y = some m) (h2 : s.vm.method? m = some meth) (h3 : meth.code = some c) (h4 : c.code = bytes)
    (h5 : (c.maxLocals == mx && c.exceptionTable.isEmpty && decide (c.maxStack ≤ mostOperands) && decide (meth.sig.returnType = rt) && !meth.locks && decide (parseMethodDescriptor y.desc = some meth.sig)) = true) : (Jvm.Cond.code y bytes mx rt).before a s = true := by
  simp only [Bool.and_eq_true, beq_iff_eq, Bool.not_eq_true', decide_eq_true_eq] at h5
  obtain ⟨⟨⟨⟨⟨g1, g2⟩, g3⟩, g4⟩, g5⟩, g6⟩ := h5
  simp [Cond.before, Cond.holds, Cond.value, h1, h2, h3, h4, g1, g2, g3, g4, g5, g6]
def isCode : Jvm.Cond → Bool
  | .code _ _ _ _ => true
  | _ => false
theorem all_split {L : List Jvm.Cond} {P : Jvm.Cond → Bool} (h1 : L.all (fun c => isCode c || P c) = true) (h2 : ∀ c ∈ L.filter isCode, P c = true) : L.all P = true := by
  refine List.all_eq_true.mpr fun c hc => ?_
  have h := List.all_eq_true.mp h1 c hc
  rcases Bool.eq_false_or_eq_true (isCode c) with hi | hi
  · exact h2 c (List.mem_filter.mpr ⟨hc, hi⟩)
  · simpa [hi] using h
set_option maxRecDepth 65536 in
theorem w_c0 : (Jvm.Cond.code x code maxLocals ret).before args0 about1 = true := code_word (m := ⟨1, 3⟩) (meth := k1m3) (c := k1c3) (by decide +kernel) rfl rfl rfl (by decide +kernel)
set_option maxRecDepth 65536 in
theorem w_c1 : (Jvm.Cond.code ({ cls := "com/example/onlyonce/onlyonce/PartitionerMurmur2PinLaw", name := "put", desc := "([BII)V" } : Jvm.MethodName) method_2_code (3 : Nat) (Option.none : Option Jvm.ClassFile.FieldType)).before args0 about1 = true := code_word (m := ⟨1, 1⟩) (meth := k1m1) (c := k1c1) (by decide +kernel) rfl rfl rfl (by decide +kernel)
set_option maxRecDepth 65536 in
theorem w_c2 : (Jvm.Cond.code ({ cls := "com/example/onlyonce/onlyonce/Partitioner", name := "murmur2", desc := "([B)I" } : Jvm.MethodName) prog_55_method_3_code (6 : Nat) (Option.some Jvm.ClassFile.FieldType.int)).before args0 about1 = true := code_word (m := ⟨2, 1⟩) (meth := k2m1) (c := k2c1) (by decide +kernel) rfl rfl rfl (by decide +kernel)
set_option maxRecDepth 65536 in
theorem w_c3 : (Jvm.Cond.code ({ cls := "com/example/onlyonce/onlyonce/PartitionerMurmur2PinLaw", name := "mixK", desc := "(I)I" } : Jvm.MethodName) method_3_code (3 : Nat) (Option.some Jvm.ClassFile.FieldType.int)).before args0 about1 = true := code_word (m := ⟨1, 2⟩) (meth := k1m2) (c := k1c2) (by decide +kernel) rfl rfl rfl (by decide +kernel)
def codes1 : List Jvm.Cond := [Jvm.Cond.code x code maxLocals ret, Jvm.Cond.code ({ cls := "com/example/onlyonce/onlyonce/PartitionerMurmur2PinLaw", name := "put", desc := "([BII)V" } : Jvm.MethodName) method_2_code (3 : Nat) (Option.none : Option Jvm.ClassFile.FieldType), Jvm.Cond.code ({ cls := "com/example/onlyonce/onlyonce/Partitioner", name := "murmur2", desc := "([B)I" } : Jvm.MethodName) prog_55_method_3_code (6 : Nat) (Option.some Jvm.ClassFile.FieldType.int), Jvm.Cond.code ({ cls := "com/example/onlyonce/onlyonce/PartitionerMurmur2PinLaw", name := "mixK", desc := "(I)I" } : Jvm.MethodName) method_3_code (3 : Nat) (Option.some Jvm.ClassFile.FieldType.int)]
set_option maxRecDepth 65536 in
theorem codes_eq : words1.filter isCode = codes1 := rfl
theorem w_codes : ∀ c ∈ words1.filter isCode, c.before args0 about1 = true := by
  rw [codes_eq]
  intro c hc
  simp only [codes1, List.mem_cons, List.not_mem_nil, or_false] at hc
  rcases hc with rfl | rfl | rfl | rfl
  · exact w_c0
  · exact w_c1
  · exact w_c2
  · exact w_c3
set_option maxRecDepth 65536 in
theorem w_t1 : words1.all (fun c => isCode c || c.before args0 about1) = true := by decide +kernel
theorem w_tables : (allAtoms (Jvm.Cond.code x code maxLocals ret :: tables_1)).before args0 about1 = true := by
  rw [allAtoms_all]
  show words1.all (fun c => c.before args0 about1) = true
  refine all_split ?_ w_codes
  rw [w_t1]
set_option maxRecDepth 65536 in
theorem w_case : (Jvm.Cond.and given_1 narrow_1).before args0 about1 = true := by decide +kernel
theorem w_applies : (headSpec (Jvm.Cond.code x code maxLocals ret :: tables_1) room_1).applies x e0.platform about1 = true :=
  (Spec.applies_iff w_frames).mpr ⟨w_running, w_runnable, w_alone, w_named, w_hears, w_ripe, w_room, w_tables⟩
theorem atStart : AtStart classFile x code maxLocals ret World_1 tables_1 room_1 Calls_1 rest_1 Pre_1 launch0 p0 e0 about1 theMethod args0 below0 :=
  ⟨lists_1, trivial, launch0.admits_env _ _ _, launch0.least_env, fairChoices_fair.cas, fairChoices_fair.clock, w_frames, w_args, w_heap, w_applies, trivial, trivial, w_case⟩
end start1
theorem witness_1 : WitnessClaimed_1 := ⟨start1.p0, start1.e0, start1.about1, start1.theMethod, start1.args0, start1.below0, start1.atStart⟩
end Jvm.Pilot.@@N@@
