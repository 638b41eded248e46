import JvmDerived
import JvmDerived.Pilot.@@N@@Statement
import JvmDerived.Pilot.@@N@@Code
set_option linter.unusedVariables false
set_option linter.unusedSimpArgs false
namespace Jvm.RoadKit
open Sem ClassFile Op Lib Jvm.Stand Jvm.Free Jvm.LawKit
section New
variable {p : Program} {l : Launch} {e : Env} {R : Room} {s : State} {m : MethodId} {args : Array Value} {below : List Frame} {meth : Method} {c : Code} {T : State} {locs : List Loc} {cells slots : Nat}
theorem retI (X : Stand p l e R s m args below meth c T locs cells slots) (hx : p.tables.exec = Jvm.exec) {pc : Nat} {Ls : Array Slot} {z : Int32} {rest : List Value} (hret : meth.sig.returnType = some .int) (hd : decode c.code pc = .ok (.ireturn, 1)) {fs : List Frame}
    (hl : ∀ (f : JFrame) (acts : List Action), f.method = m → f.locked = none → f.entered = [] → (doReturn e (T.setTop f) acts (some (.int z))).1 = T.setFrames fs) : Steps p.tables e below (T.setTop (mkF m pc Ls (.int z :: rest))) (T.setFrames fs) :=
  retOut X hx hret rfl (Or.inl ⟨rfl, Or.inl rfl, z, rfl⟩) hd hl
end New
end Jvm.RoadKit
namespace Jvm.Pilot.@@N@@
open Jvm Jvm.ClassFile Sem Op Lib Jvm.Free Jvm.Stand Jvm.LawKit Jvm.RoadKit Bundle Jvm.Pilot.@@N@@.Jvm.D
section OwnKit
variable {p : Program} {l : Launch} {e : Env} {R : Room} {m : MethodId} {args : Array Value} {below : List Frame} {meth : Method} {c : Code} {M : State → Heap → Prop} {P : State → Prop} {n0 : Nat} {Z : State} {a0 : Array Value} {own name : String} {bytes : ByteArray} {maxL : Nat} {ret : Option FieldType} {L : List (Addr × (Cell → Prop))} {k n pc pc' : Nat} {Ls Ls' : Array Slot} {st : List Value}
/-! what is known of the heap: a list of the own cells, each with what it holds -/
def Hs (h : Heap) (a : Addr) (φ : Cell → Prop) : Prop := ∃ c : Cell, h[a]? = some c ∧ φ c
def Own (n0 : Nat) (h : Heap) (L : List (Addr × (Cell → Prop))) : Prop := n0 ≤ h.size ∧ (∀ (i j : Nat) x y, L[i]? = some x → L[j]? = some y → x.1 = y.1 → i = j) ∧ ∀ (i : Nat) x, L[i]? = some x → n0 ≤ x.1 ∧ Hs h x.1 x.2
theorem Own.nil {h : Heap} (q : n0 ≤ h.size) : Own n0 h [] := ⟨q, fun i j x y hx => by simp at hx, fun i x hx => by simp at hx⟩
theorem Own.lt {h : Heap} (O : Own n0 h L) {i : Nat} {x : Addr × (Cell → Prop)} (hi : L[i]? = some x) : x.1 < h.size := by
  obtain ⟨c, h1, -⟩ := (O.2.2 i x hi).2
  exact (Array.getElem?_eq_some_iff.mp h1).1
theorem Own.ext {h h' : Heap} (O : Own n0 h L) (E : Ext h h') : Own n0 h' L :=
  ⟨Nat.le_trans O.1 E.1, O.2.1, fun i x hx => ⟨(O.2.2 i x hx).1, by obtain ⟨c, h1, h2⟩ := (O.2.2 i x hx).2; exact ⟨c, E.2 _ _ h1, h2⟩⟩⟩
theorem Own.cons {h h' : Heap} {φ : Cell → Prop} (O : Own n0 h L) (E : Ext h h') (F : Hs h' h.size φ) : Own n0 h' ((h.size, φ) :: L) := by
  have O' := O.ext E
  refine ⟨O'.1, fun i j x y hx hy e => ?_, fun i x hx => ?_⟩
  · match i, j with
    | 0, 0 => rfl
    | 0, j + 1 =>
      simp only [List.getElem?_cons_zero, Option.some.injEq] at hx
      simp only [List.getElem?_cons_succ] at hy
      subst hx; exact absurd e (Nat.ne_of_gt (O.lt hy))
    | i + 1, 0 =>
      simp only [List.getElem?_cons_zero, Option.some.injEq] at hy
      simp only [List.getElem?_cons_succ] at hx
      subst hy; exact absurd e (Nat.ne_of_lt (O.lt hx))
    | i + 1, j + 1 =>
      simp only [List.getElem?_cons_succ] at hx hy
      rw [O.2.1 i j x y hx hy e]
  · match i with
    | 0 =>
      simp only [List.getElem?_cons_zero, Option.some.injEq] at hx
      subst hx; exact ⟨O.1, F⟩
    | i + 1 =>
      simp only [List.getElem?_cons_succ] at hx
      exact O'.2.2 i x hx
theorem Own.set {h h' : Heap} {i : Nat} {a : Addr} {φ φ' : Cell → Prop} (O : Own n0 h L) (hi : L[i]? = some (a, φ)) (hs : h.size ≤ h'.size) (ho : ∀ (b : Addr) (c : Cell), b ≠ a → h[b]? = some c → h'[b]? = some c) (F : Hs h' a φ') : Own n0 h' (L.set i (a, φ')) := by
  have key : ∀ j x, (L.set i (a, φ'))[j]? = some x → (j = i ∧ x = (a, φ')) ∨ (j ≠ i ∧ L[j]? = some x) := by
    intro j x hx
    rw [List.getElem?_set] at hx
    by_cases q : i = j
    · rw [if_pos q] at hx
      split at hx
      · exact Or.inl ⟨q.symm, (Option.some.inj hx).symm⟩
      · cases hx
    · rw [if_neg q] at hx; exact Or.inr ⟨fun e => q e.symm, hx⟩
  refine ⟨Nat.le_trans O.1 hs, fun j j' x y hx hy e => ?_, fun j x hx => ?_⟩
  · rcases key j x hx with ⟨rfl, rfl⟩ | ⟨q1, q2⟩ <;> rcases key j' y hy with ⟨rfl, rfl⟩ | ⟨r1, r2⟩
    · rfl
    · exact O.2.1 _ _ _ _ hi r2 e
    · exact O.2.1 _ _ _ _ q2 hi e
    · exact O.2.1 _ _ _ _ q2 r2 e
  · rcases key j x hx with ⟨rfl, rfl⟩ | ⟨q1, q2⟩
    · exact ⟨(O.2.2 _ _ hi).1, F⟩
    · obtain ⟨c, h1, h2⟩ := (O.2.2 _ _ q2).2
      exact ⟨(O.2.2 _ _ q2).1, c, ho _ _ (fun e => q1 (O.2.1 _ _ _ _ q2 hi e)) h1, h2⟩
theorem Own.wr {h h' : Heap} {i sl : Nat} {v : Value} {a : Addr} {φ φ' : Cell → Prop} (O : Own n0 h L) (Wh : Wr h h' a sl v) (hi : L[i]? = some (a, φ)) (hφ : ∀ c : Cell, φ c → sl < c.slots.size → φ' (c.setSlot sl v)) : Own n0 h' (L.set i (a, φ')) := by
  obtain ⟨c, h1, h2⟩ := (O.2.2 _ _ hi).2
  have hsl : sl < c.slots.size := by
    obtain ⟨cell, g1, -, g3, -⟩ := Wh
    cases h1.symm.trans g1; exact g3
  refine O.set hi (Nat.le_of_eq Wh.size.symm) (fun b cb hb hc => ?_) ?_
  · obtain ⟨c', e1, -, -, -, e5, -⟩ := wr_at Wh hc
    rw [e5 hb] at e1; exact e1
  · obtain ⟨c', e1, -, -, -, -, -, e7⟩ := wr_at Wh h1
    exact ⟨c', e1, by rw [(e7 rfl).1]; exact hφ c h2 hsl⟩
theorem Own.re {h : Heap} {L' : List (Addr × (Cell → Prop))} (O : Own n0 h L) (f : Nat → Nat) (hf : ∀ j x, L'[j]? = some x → L[f j]? = some x) (hinj : ∀ i j, i < L'.length → j < L'.length → f i = f j → i = j) : Own n0 h L' :=
  ⟨O.1, fun i j x y hx hy e => hinj i j (List.getElem?_eq_some_iff.mp hx).1 (List.getElem?_eq_some_iff.mp hy).1 (O.2.1 _ _ _ _ (hf i x hx) (hf j y hy) e), fun i x hx => O.2.2 _ _ (hf i x hx)⟩
theorem Own.front {h : Heap} (O : Own n0 h L) (i : Nat) {x : Addr × (Cell → Prop)} (hi : L[i]? = some x) : Own n0 h (x :: L.eraseIdx i) := by
  refine O.re (fun j => match j with | 0 => i | j + 1 => if j < i then j else j + 1) (fun j y hy => ?_) (fun j j' _ _ e => ?_)
  · match j with
    | 0 => simp only [List.getElem?_cons_zero, Option.some.injEq] at hy; subst hy; exact hi
    | j + 1 =>
      simp only [List.getElem?_cons_succ, List.getElem?_eraseIdx] at hy
      dsimp only
      split at hy
      · rename_i q; rw [if_pos q]; exact hy
      · rename_i q; rw [if_neg q]; exact hy
  · match j, j' with
    | 0, 0 => rfl
    | 0, j' + 1 => dsimp only at e; split at e <;> omega
    | j + 1, 0 => dsimp only at e; split at e <;> omega
    | j + 1, j' + 1 => dsimp only at e; split at e <;> split at e <;> omega
theorem Own.imp {h : Heap} {i : Nat} {a : Addr} {φ φ' : Cell → Prop} (O : Own n0 h L) (hi : L[i]? = some (a, φ)) (q : ∀ c, φ c → φ' c) : Own n0 h (L.set i (a, φ')) :=
  O.set hi (Nat.le_refl _) (fun _ _ _ r => r) (by obtain ⟨c, h1, h2⟩ := (O.2.2 _ _ hi).2; exact ⟨c, h1, q c h2⟩)
theorem Own.drop {h : Heap} (O : Own n0 h L) (i : Nat) : Own n0 h (L.eraseIdx i) := by
  refine O.re (fun j => if j < i then j else j + 1) (fun j y hy => ?_) (fun j j' _ _ e => ?_)
  · rw [List.getElem?_eraseIdx] at hy
    split at hy
    · rename_i q; show L[if j < i then j else j + 1]? = _; rw [if_pos q]; exact hy
    · rename_i q; show L[if j < i then j else j + 1]? = _; rw [if_neg q]; exact hy
  · split at e <;> split at e <;> omega
theorem Own.tail {h : Heap} {x : Addr × (Cell → Prop)} (O : Own n0 h (x :: L)) : Own n0 h L :=
  O.re (fun j => j + 1) (fun j y hy => by simpa using hy) (fun i j _ _ e => by omega)
theorem Own.ne {h : Heap} {i j : Nat} {a b : Addr} {φ ψ : Cell → Prop} (O : Own n0 h L) (hi : L[i]? = some (a, φ)) (hj : L[j]? = some (b, ψ)) (q : i ≠ j) : a ≠ b := fun e => q (O.2.1 _ _ _ _ hi hj e)
/-! arrays of ints, bytes, chars ..: n places, the i-th holds f i -/
def upd (f : Nat → Int32) (i : Nat) (v : Int32) : Nat → Int32 := fun j => if j = i then v else f j
theorem upd_hit (f : Nat → Int32) (i : Nat) (v : Int32) : upd f i v i = v := if_pos rfl
theorem upd_miss (f : Nat → Int32) {i j : Nat} (v : Int32) (q : j ≠ i) : upd f i v j = f j := if_neg q
def ExaC (Z : State) (C : String) (cell : Cell) : Prop := ∃ k : Class, Z.vm.findClass C = some cell.cls ∧ Z.vm.classes[cell.cls]? = some k ∧ cell.vm.isStatics = false ∧ (k.kind = .ordinary → cell.slots.size = k.instanceTypes.size)
def ArrC (Z : State) (ty : FieldType) (n : Nat) (f : Nat → Int32) (c : Cell) : Prop := Z.isArrayOf c ty ∧ c.vm ≠ .unknown ∧ c.slots.size = n ∧ (∀ i, i < n → c.slots[i]? = some (.int (f i))) ∧ (∀ i, i < n → fits ty (.int (f i)) = true) ∧ ExaC Z ("[" ++ ty.toString) c
theorem ArrC.congr {ty : FieldType} {f g : Nat → Int32} {c : Cell} (A : ArrC Z ty n f c) (q : ∀ i, i < n → f i = g i) : ArrC Z ty n g c := ⟨A.1, A.2.1, A.2.2.1, fun i hi => by rw [← q i hi]; exact A.2.2.2.1 i hi, fun i hi => by rw [← q i hi]; exact A.2.2.2.2.1 i hi, A.2.2.2.2.2⟩
theorem ArrC.set {ty : FieldType} {f : Nat → Int32} {c : Cell} {i : Nat} {v : Int32} (A : ArrC Z ty n f c) (hi : i < n) (hv : fits ty (.int v) = true) : ArrC Z ty n (upd f i v) (c.setSlot i (.int v)) := by
  obtain ⟨A1, A2, hs, A4, A5, k, x1, x2, x3, x4⟩ := A
  refine ⟨A1, A2, (sz_set c i _).trans hs, fun j hj => ?_, fun j hj => ?_, k, x1, x2, x3, fun q => (sz_set c i _).trans (x4 q)⟩
  · by_cases q : j = i
    · subst q; rw [upd_hit]; simp [Cell.setSlot, hs, hi]
    · rw [upd_miss _ _ q, ← A4 j hj]
      show (c.slots.setIfInBounds i _)[j]? = _
      exact Array.getElem?_setIfInBounds_ne (Ne.symm q)
  · by_cases q : j = i
    · subst q; rw [upd_hit]; exact hv
    · rw [upd_miss _ _ q]; exact A5 j hj
/-! objects: class C; the fields ks (owner, name, descriptor, type) hold vs -/
def FldC (Z : State) (C n d : String) (v : Value) (cell : Cell) : Prop := ∃ (cf : ClassId) (k : Class) (i : Nat) (f : Field), Z.fieldFound? C n d = some (cf, k, i, f) ∧ f.isStatic = false ∧ cell.vm ≠ .unknown ∧ cell.vm.isStatics = false ∧ Z.vm.assignable cell.cls cf = true ∧ cell.slots[f.slot]? = some v
def ObjC (Z : State) (C : String) (ks : List (String × String × String × FieldType)) (vs : List Value) (c : Cell) : Prop := ExaC Z C c ∧ ∀ (i : Nat) kk v, ks[i]? = some kk → vs[i]? = some v → FldC Z kk.1 kk.2.1 kk.2.2.1 v c
theorem fld_of {h : Heap} {a : Addr} {C nm d : String} {v : Value} {c : Cell} (h1 : h[a]? = some c) (F : FldC Z C nm d v c) : Fld Z h a C nm d v := by
  obtain ⟨cf, k, i, f, r⟩ := F; exact ⟨c, cf, k, i, f, h1, r⟩
theorem of_fld {h : Heap} {a : Addr} {C nm d : String} {v : Value} {c : Cell} (h1 : h[a]? = some c) (F : Fld Z h a C nm d v) : FldC Z C nm d v c := by
  obtain ⟨c', cf, k, i, f, h2, r⟩ := F
  cases h1.symm.trans h2; exact ⟨cf, k, i, f, r⟩
theorem exa_of {h : Heap} {a : Addr} {C : String} {c : Cell} (h1 : h[a]? = some c) (F : ExaC Z C c) : Exa Z h a C := by
  obtain ⟨k, r⟩ := F; exact ⟨c, k, h1, r⟩
theorem of_exa {h : Heap} {a : Addr} {C : String} {c : Cell} (h1 : h[a]? = some c) (F : Exa Z h a C) : ExaC Z C c := by
  obtain ⟨c', k, h2, r⟩ := F
  cases h1.symm.trans h2; exact ⟨k, r⟩
def Lays (Z : State) (a0 : Array Value) (C : String) (ks : List (String × String × String × FieldType)) : Prop := (∀ kk ∈ ks, Laid Z a0 C kk.1 kk.2.1 kk.2.2.1 ∧ parseFieldDescriptor kk.2.2.1 = some kk.2.2.2) ∧ (ks.map (fun kk => kk.2.1)).Nodup
theorem Lays.ne {C : String} {ks : List (String × String × String × FieldType)} (H : Lays Z a0 C ks) {i j : Nat} {x y : String × String × String × FieldType} (hx : ks[i]? = some x) (hy : ks[j]? = some y) (q : i ≠ j) : Jvm.RoadKit.slotOf Z x.1 x.2.1 x.2.2.1 ≠ Jvm.RoadKit.slotOf Z y.1 y.2.1 y.2.2.1 := by
  have h1 := H.1 x (List.mem_of_getElem? hx)
  have h2 := H.1 y (List.mem_of_getElem? hy)
  refine slot_ne h1.1 h2.1 (fun e => q ?_) h1.2 h2.2
  have hi : i < (ks.map (fun kk => kk.2.1)).length := by rw [List.length_map]; exact (List.getElem?_eq_some_iff.mp hx).1
  exact (List.getElem?_inj hi H.2).mp (by rw [List.getElem?_map, List.getElem?_map, hx, hy]; exact congrArg some e)
theorem ObjC.set {C : String} {ks : List (String × String × String × FieldType)} {vs : List Value} {c : Cell} {j : Nat} {kk : String × String × String × FieldType} {v : Value} (A : ObjC Z C ks vs c) (H : Lays Z a0 C ks) (hj : ks[j]? = some kk) (hv : j < vs.length) (hsl : Jvm.RoadKit.slotOf Z kk.1 kk.2.1 kk.2.2.1 < c.slots.size) : ObjC Z C ks (vs.set j v) (c.setSlot (Jvm.RoadKit.slotOf Z kk.1 kk.2.1 kk.2.2.1) v) := by
  obtain ⟨⟨k, e1, e2, e3, e4⟩, F⟩ := A
  refine ⟨⟨k, e1, e2, e3, fun q => (sz_set c _ _).trans (e4 q)⟩, fun i kk' w hk hw => ?_⟩
  rw [List.getElem?_set] at hw
  by_cases q : j = i
  · subst q
    rw [if_pos rfl, if_pos hv] at hw
    cases hj.symm.trans hk
    cases hw
    obtain ⟨v0, hv0⟩ : ∃ v0, vs[j]? = some v0 := ⟨_, List.getElem?_eq_getElem hv⟩
    obtain ⟨cf, kc, ii, f, f1, f2, f3, f4, f5, -⟩ := F j kk v0 hj hv0
    have es : Jvm.RoadKit.slotOf Z kk.1 kk.2.1 kk.2.2.1 = f.slot := by simp [Jvm.RoadKit.slotOf, f1]
    rw [es] at hsl ⊢
    exact ⟨cf, kc, ii, f, f1, f2, f3, f4, f5, by simp [Cell.setSlot, hsl]⟩
  · rw [if_neg q] at hw
    obtain ⟨cf, kc, ii, f, f1, f2, f3, f4, f5, f6⟩ := F i kk' w hk hw
    refine ⟨cf, kc, ii, f, f1, f2, f3, f4, f5, ?_⟩
    have es : Jvm.RoadKit.slotOf Z kk'.1 kk'.2.1 kk'.2.2.1 = f.slot := by simp [Jvm.RoadKit.slotOf, f1]
    have hne := H.ne hk hj (Ne.symm q)
    rw [es] at hne
    rw [← f6]
    exact Array.getElem?_setIfInBounds_ne (Ne.symm hne)
/-! a walk: from every state that stands at pc with these locals and this stack, the end P is reached -/
def Wk (p : Program) (l : Launch) (e : Env) (R : Room) (m : MethodId) (args : Array Value) (below : List Frame) (meth : Method) (c : Code) (M : State → Heap → Prop) (P : State → Prop) (n0 : Nat) (L : List (Addr × (Cell → Prop))) (k n pc : Nat) (Ls : Array Slot) (st : List Value) : Prop :=
  ∀ s T locs, Stand p l e R s m args below meth c T locs k n → M s T.heap → Fr n0 locs → Own n0 T.heap L → ∃ t, Steps p.tables e below (T.setTop (mkF m pc Ls st)) t ∧ P t
def Cx (Z : State) (own name : String) (bytes : ByteArray) (maxL : Nat) (ret : Option FieldType) (p : Program) (m : MethodId) (meth : Method) (c : Code) (M : State → Heap → Prop) : Prop :=
  p.tables.exec = Jvm.exec ∧ c.code = bytes ∧ c.maxLocals = maxL ∧ meth.sig.returnType = ret ∧ meth.locks = false ∧ meth.name = name ∧ (∀ s h, M s h → Z.Warmed39 s.vm ∧ s.vm.findClass own = some m.cls) ∧ ∀ (s : State) (h h' : Heap), h.size ≤ h'.size → M s h → M s h'
theorem Wk.via {st' : List Value} (W : Wk p l e R m args below meth c M P n0 L k n pc' Ls' st') (hs : ∀ (s T : State) (locs : List Loc), Stand p l e R s m args below meth c T locs k n → M s T.heap → Own n0 T.heap L → ∀ t, Steps p.tables e below (T.setTop (mkF m pc' Ls' st')) t → Steps p.tables e below (T.setTop (mkF m pc Ls st)) t) : Wk p l e R m args below meth c M P n0 L k n pc Ls st := by
  intro s T locs X hM hF hO
  obtain ⟨t, h1, h2⟩ := W s T locs X hM hF hO
  exact ⟨t, hs s T locs X hM hO t h1, h2⟩
theorem Wk.more {k' n' : Nat} (W : Wk p l e R m args below meth c M P n0 L k' n' pc Ls st) (hk : k ≤ k') (hn : n ≤ n') : Wk p l e R m args below meth c M P n0 L k n pc Ls st :=
  fun s T locs X hM hF hO => W s T locs (X.more hk hn) hM hF hO
theorem Wk.recast {L' : List (Addr × (Cell → Prop))} (W : Wk p l e R m args below meth c M P n0 L' k n pc Ls st) (q : ∀ h, Own n0 h L → Own n0 h L') : Wk p l e R m args below meth c M P n0 L k n pc Ls st :=
  fun s T locs X hM hF hO => W s T locs X hM hF (q _ hO)
theorem Wk.know {B : Prop} (q : ∀ h, Own n0 h L → B) (W : B → Wk p l e R m args below meth c M P n0 L k n pc Ls st) : Wk p l e R m args below meth c M P n0 L k n pc Ls st :=
  fun s T locs X hM hF hO => W (q _ hO) s T locs X hM hF hO
theorem Wk.cast {Ls2 : Array Slot} {st2 : List Value} (W : Wk p l e R m args below meth c M P n0 L k n pc Ls2 st2) (q : Ls = Ls2) (r : st = st2) : Wk p l e R m args below meth c M P n0 L k n pc Ls st := by subst q r; exact W
theorem Wk.iload {i : Nat} {v : Int32} (C : Cx Z own name bytes maxL ret p m meth c M) (hd : decode bytes pc = .ok (.iload i, 2)) (hl : Ls[i]? = some (.val (.int v))) (hp : pc' = pc + 2) (W : Wk p l e R m args below meth c M P n0 L k n pc' Ls (.int v :: st)) : Wk p l e R m args below meth c M P n0 L k n pc Ls (st) := by
  subst hp
  exact W.via fun s T locs X hM hO t h1 => XS.iload X.here C.1 rfl (hb C.2.1 hd) hl h1
theorem Wk.iloadN {i : Fin 4} {v : Int32} (C : Cx Z own name bytes maxL ret p m meth c M) (hd : decode bytes pc = .ok (.iload_n i, 1)) (hl : Ls[i.val]? = some (.val (.int v))) (hp : pc' = pc + 1) (W : Wk p l e R m args below meth c M P n0 L k n pc' Ls (.int v :: st)) : Wk p l e R m args below meth c M P n0 L k n pc Ls (st) := by
  subst hp
  exact W.via fun s T locs X hM hO t h1 => XS.iloadN X.here C.1 rfl (hb C.2.1 hd) hl h1
theorem Wk.lload {i : Nat} {v : Int64} (C : Cx Z own name bytes maxL ret p m meth c M) (hd : decode bytes pc = .ok (.lload i, 2)) (hl : Ls[i]? = some (.val (.long v))) (hp : pc' = pc + 2) (W : Wk p l e R m args below meth c M P n0 L k n pc' Ls (.long v :: st)) : Wk p l e R m args below meth c M P n0 L k n pc Ls (st) := by
  subst hp
  exact W.via fun s T locs X hM hO t h1 => XS.lload X.here C.1 rfl (hb C.2.1 hd) hl h1
theorem Wk.lloadN {i : Fin 4} {v : Int64} (C : Cx Z own name bytes maxL ret p m meth c M) (hd : decode bytes pc = .ok (.lload_n i, 1)) (hl : Ls[i.val]? = some (.val (.long v))) (hp : pc' = pc + 1) (W : Wk p l e R m args below meth c M P n0 L k n pc' Ls (.long v :: st)) : Wk p l e R m args below meth c M P n0 L k n pc Ls (st) := by
  subst hp
  exact W.via fun s T locs X hM hO t h1 => XS.lloadN X.here C.1 rfl (hb C.2.1 hd) hl h1
theorem Wk.aload {i : Nat} {v : Value} (C : Cx Z own name bytes maxL ret p m meth c M) (hd : decode bytes pc = .ok (.aload i, 2)) (hl : Ls[i]? = some (.val v)) (hr : v.isRef = true) (hp : pc' = pc + 2) (W : Wk p l e R m args below meth c M P n0 L k n pc' Ls (v :: st)) : Wk p l e R m args below meth c M P n0 L k n pc Ls (st) := by
  subst hp
  exact W.via fun s T locs X hM hO t h1 => XS.aload X.here C.1 rfl (hb C.2.1 hd) hl hr h1
theorem Wk.aloadN {i : Fin 4} {v : Value} (C : Cx Z own name bytes maxL ret p m meth c M) (hd : decode bytes pc = .ok (.aload_n i, 1)) (hl : Ls[i.val]? = some (.val v)) (hr : v.isRef = true) (hp : pc' = pc + 1) (W : Wk p l e R m args below meth c M P n0 L k n pc' Ls (v :: st)) : Wk p l e R m args below meth c M P n0 L k n pc Ls (st) := by
  subst hp
  exact W.via fun s T locs X hM hO t h1 => XS.aloadN X.here C.1 rfl (hb C.2.1 hd) hl hr h1
theorem Wk.istore {i : Nat} {x : Int32} (C : Cx Z own name bytes maxL ret p m meth c M) (hd : decode bytes pc = .ok (.istore i, 2)) (hl : storeLocals Ls i (.int x) = some Ls') (hp : pc' = pc + 2) (W : Wk p l e R m args below meth c M P n0 L k n pc' Ls' (st)) : Wk p l e R m args below meth c M P n0 L k n pc Ls (.int x :: st) := by
  subst hp
  exact W.via fun s T locs X hM hO t h1 => XS.istore X.here C.1 rfl (hb C.2.1 hd) rfl hl h1
theorem Wk.istoreV {i : Nat} {x : Int32} (F : Int32 → Array Slot) (C : Cx Z own name bytes maxL ret p m meth c M) (hd : decode bytes pc = .ok (.istore i, 2)) (hl : storeLocals Ls i (.int x) = some (F x)) (hp : pc' = pc + 2) (W : ∀ v : Int32, v = x → Wk p l e R m args below meth c M P n0 L k n pc' (F v) (st)) : Wk p l e R m args below meth c M P n0 L k n pc Ls (.int x :: st) := Wk.istore C hd hl hp (W x rfl)
theorem Wk.istoreN {i : Fin 4} {x : Int32} (C : Cx Z own name bytes maxL ret p m meth c M) (hd : decode bytes pc = .ok (.istore_n i, 1)) (hl : storeLocals Ls i.val (.int x) = some Ls') (hp : pc' = pc + 1) (W : Wk p l e R m args below meth c M P n0 L k n pc' Ls' (st)) : Wk p l e R m args below meth c M P n0 L k n pc Ls (.int x :: st) := by
  subst hp
  exact W.via fun s T locs X hM hO t h1 => XS.istoreN X.here C.1 rfl (hb C.2.1 hd) rfl hl h1
theorem Wk.istoreNV {i : Fin 4} {x : Int32} (F : Int32 → Array Slot) (C : Cx Z own name bytes maxL ret p m meth c M) (hd : decode bytes pc = .ok (.istore_n i, 1)) (hl : storeLocals Ls i.val (.int x) = some (F x)) (hp : pc' = pc + 1) (W : ∀ v : Int32, v = x → Wk p l e R m args below meth c M P n0 L k n pc' (F v) (st)) : Wk p l e R m args below meth c M P n0 L k n pc Ls (.int x :: st) := Wk.istoreN C hd hl hp (W x rfl)
theorem Wk.lstore {i : Nat} {x : Int64} (C : Cx Z own name bytes maxL ret p m meth c M) (hd : decode bytes pc = .ok (.lstore i, 2)) (hl : storeLocals Ls i (.long x) = some Ls') (hp : pc' = pc + 2) (W : Wk p l e R m args below meth c M P n0 L k n pc' Ls' (st)) : Wk p l e R m args below meth c M P n0 L k n pc Ls (.long x :: st) := by
  subst hp
  exact W.via fun s T locs X hM hO t h1 => XS.lstore X.here C.1 rfl (hb C.2.1 hd) rfl hl h1
theorem Wk.lstoreV {i : Nat} {x : Int64} (F : Int64 → Array Slot) (C : Cx Z own name bytes maxL ret p m meth c M) (hd : decode bytes pc = .ok (.lstore i, 2)) (hl : storeLocals Ls i (.long x) = some (F x)) (hp : pc' = pc + 2) (W : ∀ v : Int64, v = x → Wk p l e R m args below meth c M P n0 L k n pc' (F v) (st)) : Wk p l e R m args below meth c M P n0 L k n pc Ls (.long x :: st) := Wk.lstore C hd hl hp (W x rfl)
theorem Wk.lstoreN {i : Fin 4} {x : Int64} (C : Cx Z own name bytes maxL ret p m meth c M) (hd : decode bytes pc = .ok (.lstore_n i, 1)) (hl : storeLocals Ls i.val (.long x) = some Ls') (hp : pc' = pc + 1) (W : Wk p l e R m args below meth c M P n0 L k n pc' Ls' (st)) : Wk p l e R m args below meth c M P n0 L k n pc Ls (.long x :: st) := by
  subst hp
  exact W.via fun s T locs X hM hO t h1 => XS.lstoreN X.here C.1 rfl (hb C.2.1 hd) rfl hl h1
theorem Wk.lstoreNV {i : Fin 4} {x : Int64} (F : Int64 → Array Slot) (C : Cx Z own name bytes maxL ret p m meth c M) (hd : decode bytes pc = .ok (.lstore_n i, 1)) (hl : storeLocals Ls i.val (.long x) = some (F x)) (hp : pc' = pc + 1) (W : ∀ v : Int64, v = x → Wk p l e R m args below meth c M P n0 L k n pc' (F v) (st)) : Wk p l e R m args below meth c M P n0 L k n pc Ls (.long x :: st) := Wk.lstoreN C hd hl hp (W x rfl)
theorem Wk.astore {i : Nat} {x : Value} (C : Cx Z own name bytes maxL ret p m meth c M) (hd : decode bytes pc = .ok (.astore i, 2)) (hr : x.isRef = true) (hl : storeLocals Ls i x = some Ls') (hp : pc' = pc + 2) (W : Wk p l e R m args below meth c M P n0 L k n pc' Ls' (st)) : Wk p l e R m args below meth c M P n0 L k n pc Ls (x :: st) := by
  subst hp
  exact W.via fun s T locs X hM hO t h1 => XS.astore X.here C.1 rfl (hb C.2.1 hd) rfl hr hl h1
theorem Wk.astoreN {i : Fin 4} {x : Value} (C : Cx Z own name bytes maxL ret p m meth c M) (hd : decode bytes pc = .ok (.astore_n i, 1)) (hr : x.isRef = true) (hl : storeLocals Ls i.val x = some Ls') (hp : pc' = pc + 1) (W : Wk p l e R m args below meth c M P n0 L k n pc' Ls' (st)) : Wk p l e R m args below meth c M P n0 L k n pc Ls (x :: st) := by
  subst hp
  exact W.via fun s T locs X hM hO t h1 => XS.astoreN X.here C.1 rfl (hb C.2.1 hd) rfl hr hl h1
theorem Wk.iinc {i : Nat} {cst : Int} {x z : Int32} (C : Cx Z own name bytes maxL ret p m meth c M) (hd : decode bytes pc = .ok (.iinc i cst, 3)) (hl : Ls[i]? = some (.val (.int x))) (hz : x + Int32.ofInt cst = z) (hl' : storeLocals Ls i (.int z) = some Ls') (hp : pc' = pc + 3) (W : Wk p l e R m args below meth c M P n0 L k n pc' Ls' (st)) : Wk p l e R m args below meth c M P n0 L k n pc Ls (st) := by
  subst hp
  exact W.via fun s T locs X hM hO t h1 => XS.iinc X.here C.1 rfl (hb C.2.1 hd) hl (by rw [hz]; exact hl') h1
theorem Wk.iconst {i : Int} {z : Int32} (C : Cx Z own name bytes maxL ret p m meth c M) (hd : decode bytes pc = .ok (.iconst i, 1)) (hz : Int32.ofInt i = z) (hp : pc' = pc + 1) (W : Wk p l e R m args below meth c M P n0 L k n pc' Ls (.int z :: st)) : Wk p l e R m args below meth c M P n0 L k n pc Ls (st) := by
  subst hp
  subst hz
  exact W.via fun s T locs X hM hO t h1 => XS.iconst X.here C.1 rfl (hb C.2.1 hd) h1
theorem Wk.bipush {i : Int} {z : Int32} (C : Cx Z own name bytes maxL ret p m meth c M) (hd : decode bytes pc = .ok (.bipush i, 2)) (hz : (Int8.ofInt i).toInt32 = z) (hp : pc' = pc + 2) (W : Wk p l e R m args below meth c M P n0 L k n pc' Ls (.int z :: st)) : Wk p l e R m args below meth c M P n0 L k n pc Ls (st) := by
  subst hp
  subst hz
  exact W.via fun s T locs X hM hO t h1 => XS.bipush X.here C.1 rfl (hb C.2.1 hd) h1
theorem Wk.sipush {i : Int} {z : Int32} (C : Cx Z own name bytes maxL ret p m meth c M) (hd : decode bytes pc = .ok (.sipush i, 3)) (hz : (Int16.ofInt i).toInt32 = z) (hp : pc' = pc + 3) (W : Wk p l e R m args below meth c M P n0 L k n pc' Ls (.int z :: st)) : Wk p l e R m args below meth c M P n0 L k n pc Ls (st) := by
  subst hp
  subst hz
  exact W.via fun s T locs X hM hO t h1 => XS.sipush X.here C.1 rfl (hb C.2.1 hd) h1
theorem Wk.lconst {i : Fin 2} {z : Int64} (C : Cx Z own name bytes maxL ret p m meth c M) (hd : decode bytes pc = .ok (.lconst i, 1)) (hz : Int64.ofNat i = z) (hp : pc' = pc + 1) (W : Wk p l e R m args below meth c M P n0 L k n pc' Ls (.long z :: st)) : Wk p l e R m args below meth c M P n0 L k n pc Ls (st) := by
  subst hp
  subst hz
  exact W.via fun s T locs X hM hO t h1 => XS.lconst X.here C.1 rfl (hb C.2.1 hd) h1
theorem Wk.aconstNull (C : Cx Z own name bytes maxL ret p m meth c M) (hd : decode bytes pc = .ok (.aconst_null, 1)) (hp : pc' = pc + 1) (W : Wk p l e R m args below meth c M P n0 L k n pc' Ls (.null :: st)) : Wk p l e R m args below meth c M P n0 L k n pc Ls (st) := by
  subst hp
  exact W.via fun s T locs X hM hO t h1 => XS.aconstNull X.here C.1 rfl (hb C.2.1 hd) h1
theorem Wk.ldcInt {i : Nat} {z : Int32} (C : Cx Z own name bytes maxL ret p m meth c M) (w : (Cond.constant own i z).before a0 Z = true) (hd : decode bytes pc = .ok (.ldc i, 2)) (hp : pc' = pc + 2) (W : Wk p l e R m args below meth c M P n0 L k n pc' Ls (.int z :: st)) : Wk p l e R m args below meth c M P n0 L k n pc Ls (st) := by
  subst hp
  exact W.via fun s T locs X hM hO t h1 => X.ldcInt C.1 (C.2.2.2.2.2.2.1 _ _ hM).2 (mvT (C.2.2.2.2.2.2.1 _ _ hM).1 w) (g := mkF m pc Ls st) rfl (hb C.2.1 hd) t h1
theorem Wk.ldcwInt {i : Nat} {z : Int32} (C : Cx Z own name bytes maxL ret p m meth c M) (w : (Cond.constant own i z).before a0 Z = true) (hd : decode bytes pc = .ok (.ldc_w i, 3)) (hp : pc' = pc + 3) (W : Wk p l e R m args below meth c M P n0 L k n pc' Ls (.int z :: st)) : Wk p l e R m args below meth c M P n0 L k n pc Ls (st) := by
  subst hp
  exact W.via fun s T locs X hM hO t h1 => X.ldcwInt C.1 (C.2.2.2.2.2.2.1 _ _ hM).2 (mvT (C.2.2.2.2.2.2.1 _ _ hM).1 w) (g := mkF m pc Ls st) rfl (hb C.2.1 hd) t h1
theorem Wk.ldc2Long {i : Nat} {z : Int64} (C : Cx Z own name bytes maxL ret p m meth c M) (w : (Cond.constantLong own i z).before a0 Z = true) (hd : decode bytes pc = .ok (.ldc2_w i, 3)) (hp : pc' = pc + 3) (W : Wk p l e R m args below meth c M P n0 L k n pc' Ls (.long z :: st)) : Wk p l e R m args below meth c M P n0 L k n pc Ls (st) := by
  subst hp
  exact W.via fun s T locs X hM hO t h1 => X.ldc2Long C.1 (C.2.2.2.2.2.2.1 _ _ hM).2 (mvT (C.2.2.2.2.2.2.1 _ _ hM).1 w) (g := mkF m pc Ls st) rfl (hb C.2.1 hd) t h1
theorem Wk.iadd {x y : Int32} (C : Cx Z own name bytes maxL ret p m meth c M) (hd : decode bytes pc = .ok (.iadd, 1)) (hp : pc' = pc + 1) (W : Wk p l e R m args below meth c M P n0 L k n pc' Ls (.int (x + y) :: st)) : Wk p l e R m args below meth c M P n0 L k n pc Ls (.int y :: .int x :: st) := by
  subst hp
  exact W.via fun s T locs X hM hO t h1 => XS.iadd X.here C.1 rfl (hb C.2.1 hd) rfl h1
theorem Wk.isub {x y : Int32} (C : Cx Z own name bytes maxL ret p m meth c M) (hd : decode bytes pc = .ok (.isub, 1)) (hp : pc' = pc + 1) (W : Wk p l e R m args below meth c M P n0 L k n pc' Ls (.int (x - y) :: st)) : Wk p l e R m args below meth c M P n0 L k n pc Ls (.int y :: .int x :: st) := by
  subst hp
  exact W.via fun s T locs X hM hO t h1 => XS.isub X.here C.1 rfl (hb C.2.1 hd) rfl h1
theorem Wk.imul {x y : Int32} (C : Cx Z own name bytes maxL ret p m meth c M) (hd : decode bytes pc = .ok (.imul, 1)) (hp : pc' = pc + 1) (W : Wk p l e R m args below meth c M P n0 L k n pc' Ls (.int (x * y) :: st)) : Wk p l e R m args below meth c M P n0 L k n pc Ls (.int y :: .int x :: st) := by
  subst hp
  exact W.via fun s T locs X hM hO t h1 => XS.imul X.here C.1 rfl (hb C.2.1 hd) rfl h1
theorem Wk.iand {x y : Int32} (C : Cx Z own name bytes maxL ret p m meth c M) (hd : decode bytes pc = .ok (.iand, 1)) (hp : pc' = pc + 1) (W : Wk p l e R m args below meth c M P n0 L k n pc' Ls (.int (x &&& y) :: st)) : Wk p l e R m args below meth c M P n0 L k n pc Ls (.int y :: .int x :: st) := by
  subst hp
  exact W.via fun s T locs X hM hO t h1 => XS.iand X.here C.1 rfl (hb C.2.1 hd) rfl h1
theorem Wk.ior {x y : Int32} (C : Cx Z own name bytes maxL ret p m meth c M) (hd : decode bytes pc = .ok (.ior, 1)) (hp : pc' = pc + 1) (W : Wk p l e R m args below meth c M P n0 L k n pc' Ls (.int (x ||| y) :: st)) : Wk p l e R m args below meth c M P n0 L k n pc Ls (.int y :: .int x :: st) := by
  subst hp
  exact W.via fun s T locs X hM hO t h1 => XS.ior X.here C.1 rfl (hb C.2.1 hd) rfl h1
theorem Wk.ixor {x y : Int32} (C : Cx Z own name bytes maxL ret p m meth c M) (hd : decode bytes pc = .ok (.ixor, 1)) (hp : pc' = pc + 1) (W : Wk p l e R m args below meth c M P n0 L k n pc' Ls (.int (x ^^^ y) :: st)) : Wk p l e R m args below meth c M P n0 L k n pc Ls (.int y :: .int x :: st) := by
  subst hp
  exact W.via fun s T locs X hM hO t h1 => XS.ixor X.here C.1 rfl (hb C.2.1 hd) rfl h1
theorem Wk.ishl {x y : Int32} (C : Cx Z own name bytes maxL ret p m meth c M) (hd : decode bytes pc = .ok (.ishl, 1)) (hp : pc' = pc + 1) (W : Wk p l e R m args below meth c M P n0 L k n pc' Ls (.int (x <<< (y &&& 31)) :: st)) : Wk p l e R m args below meth c M P n0 L k n pc Ls (.int y :: .int x :: st) := by
  subst hp
  exact W.via fun s T locs X hM hO t h1 => XS.ishl X.here C.1 rfl (hb C.2.1 hd) rfl h1
theorem Wk.ishr {x y : Int32} (C : Cx Z own name bytes maxL ret p m meth c M) (hd : decode bytes pc = .ok (.ishr, 1)) (hp : pc' = pc + 1) (W : Wk p l e R m args below meth c M P n0 L k n pc' Ls (.int (x >>> (y &&& 31)) :: st)) : Wk p l e R m args below meth c M P n0 L k n pc Ls (.int y :: .int x :: st) := by
  subst hp
  exact W.via fun s T locs X hM hO t h1 => XS.ishr X.here C.1 rfl (hb C.2.1 hd) rfl h1
theorem Wk.iushr {x y : Int32} (C : Cx Z own name bytes maxL ret p m meth c M) (hd : decode bytes pc = .ok (.iushr, 1)) (hp : pc' = pc + 1) (W : Wk p l e R m args below meth c M P n0 L k n pc' Ls (.int ((x.toUInt32 >>> (y &&& 31).toUInt32).toInt32) :: st)) : Wk p l e R m args below meth c M P n0 L k n pc Ls (.int y :: .int x :: st) := by
  subst hp
  exact W.via fun s T locs X hM hO t h1 => XS.iushr X.here C.1 rfl (hb C.2.1 hd) rfl h1
theorem Wk.irem {x y : Int32} (C : Cx Z own name bytes maxL ret p m meth c M) (hd : decode bytes pc = .ok (.irem, 1)) (hy : y ≠ 0) (hp : pc' = pc + 1) (W : Wk p l e R m args below meth c M P n0 L k n pc' Ls (.int (x % y) :: st)) : Wk p l e R m args below meth c M P n0 L k n pc Ls (.int y :: .int x :: st) := by
  subst hp
  exact W.via fun s T locs X hM hO t h1 => iremM X C.1 rfl (hb C.2.1 hd) rfl hy h1
theorem Wk.idiv {x y : Int32} (C : Cx Z own name bytes maxL ret p m meth c M) (hd : decode bytes pc = .ok (.idiv, 1)) (hy : y ≠ 0) (hp : pc' = pc + 1) (W : Wk p l e R m args below meth c M P n0 L k n pc' Ls (.int (x / y) :: st)) : Wk p l e R m args below meth c M P n0 L k n pc Ls (.int y :: .int x :: st) := by
  subst hp
  exact W.via fun s T locs X hM hO t h1 => XS.idiv X.here C.1 rfl (hb C.2.1 hd) rfl hy h1
theorem Wk.ladd {x y : Int64} (C : Cx Z own name bytes maxL ret p m meth c M) (hd : decode bytes pc = .ok (.ladd, 1)) (hp : pc' = pc + 1) (W : Wk p l e R m args below meth c M P n0 L k n pc' Ls (.long (x + y) :: st)) : Wk p l e R m args below meth c M P n0 L k n pc Ls (.long y :: .long x :: st) := by
  subst hp
  exact W.via fun s T locs X hM hO t h1 => XS.ladd X.here C.1 rfl (hb C.2.1 hd) rfl h1
theorem Wk.lsub {x y : Int64} (C : Cx Z own name bytes maxL ret p m meth c M) (hd : decode bytes pc = .ok (.lsub, 1)) (hp : pc' = pc + 1) (W : Wk p l e R m args below meth c M P n0 L k n pc' Ls (.long (x - y) :: st)) : Wk p l e R m args below meth c M P n0 L k n pc Ls (.long y :: .long x :: st) := by
  subst hp
  exact W.via fun s T locs X hM hO t h1 => XS.lsub X.here C.1 rfl (hb C.2.1 hd) rfl h1
theorem Wk.lmul {x y : Int64} (C : Cx Z own name bytes maxL ret p m meth c M) (hd : decode bytes pc = .ok (.lmul, 1)) (hp : pc' = pc + 1) (W : Wk p l e R m args below meth c M P n0 L k n pc' Ls (.long (x * y) :: st)) : Wk p l e R m args below meth c M P n0 L k n pc Ls (.long y :: .long x :: st) := by
  subst hp
  exact W.via fun s T locs X hM hO t h1 => XS.lmul X.here C.1 rfl (hb C.2.1 hd) rfl h1
theorem Wk.land {x y : Int64} (C : Cx Z own name bytes maxL ret p m meth c M) (hd : decode bytes pc = .ok (.land, 1)) (hp : pc' = pc + 1) (W : Wk p l e R m args below meth c M P n0 L k n pc' Ls (.long (x &&& y) :: st)) : Wk p l e R m args below meth c M P n0 L k n pc Ls (.long y :: .long x :: st) := by
  subst hp
  exact W.via fun s T locs X hM hO t h1 => XS.land X.here C.1 rfl (hb C.2.1 hd) rfl h1
theorem Wk.lor {x y : Int64} (C : Cx Z own name bytes maxL ret p m meth c M) (hd : decode bytes pc = .ok (.lor, 1)) (hp : pc' = pc + 1) (W : Wk p l e R m args below meth c M P n0 L k n pc' Ls (.long (x ||| y) :: st)) : Wk p l e R m args below meth c M P n0 L k n pc Ls (.long y :: .long x :: st) := by
  subst hp
  exact W.via fun s T locs X hM hO t h1 => XS.lor X.here C.1 rfl (hb C.2.1 hd) rfl h1
theorem Wk.lxor {x y : Int64} (C : Cx Z own name bytes maxL ret p m meth c M) (hd : decode bytes pc = .ok (.lxor, 1)) (hp : pc' = pc + 1) (W : Wk p l e R m args below meth c M P n0 L k n pc' Ls (.long (x ^^^ y) :: st)) : Wk p l e R m args below meth c M P n0 L k n pc Ls (.long y :: .long x :: st) := by
  subst hp
  exact W.via fun s T locs X hM hO t h1 => XS.lxor X.here C.1 rfl (hb C.2.1 hd) rfl h1
theorem Wk.lshl {x : Int64} {y : Int32} (C : Cx Z own name bytes maxL ret p m meth c M) (hd : decode bytes pc = .ok (.lshl, 1)) (hp : pc' = pc + 1) (W : Wk p l e R m args below meth c M P n0 L k n pc' Ls (.long (x <<< (y &&& 0x3f).toInt64) :: st)) : Wk p l e R m args below meth c M P n0 L k n pc Ls (.int y :: .long x :: st) := by
  subst hp
  exact W.via fun s T locs X hM hO t h1 => XS.lshl X.here C.1 rfl (hb C.2.1 hd) rfl h1
theorem Wk.lshr {x : Int64} {y : Int32} (C : Cx Z own name bytes maxL ret p m meth c M) (hd : decode bytes pc = .ok (.lshr, 1)) (hp : pc' = pc + 1) (W : Wk p l e R m args below meth c M P n0 L k n pc' Ls (.long (x >>> (y &&& 0x3f).toInt64) :: st)) : Wk p l e R m args below meth c M P n0 L k n pc Ls (.int y :: .long x :: st) := by
  subst hp
  exact W.via fun s T locs X hM hO t h1 => XS.lshr X.here C.1 rfl (hb C.2.1 hd) rfl h1
theorem Wk.lushr {x : Int64} {y : Int32} (C : Cx Z own name bytes maxL ret p m meth c M) (hd : decode bytes pc = .ok (.lushr, 1)) (hp : pc' = pc + 1) (W : Wk p l e R m args below meth c M P n0 L k n pc' Ls (.long ((x.toUInt64 >>> (y &&& 0x3f).toInt64.toUInt64).toInt64) :: st)) : Wk p l e R m args below meth c M P n0 L k n pc Ls (.int y :: .long x :: st) := by
  subst hp
  exact W.via fun s T locs X hM hO t h1 => XS.lushr X.here C.1 rfl (hb C.2.1 hd) rfl h1
theorem Wk.lrem {x y : Int64} (C : Cx Z own name bytes maxL ret p m meth c M) (hd : decode bytes pc = .ok (.lrem, 1)) (hy : y ≠ 0) (hp : pc' = pc + 1) (W : Wk p l e R m args below meth c M P n0 L k n pc' Ls (.long (x % y) :: st)) : Wk p l e R m args below meth c M P n0 L k n pc Ls (.long y :: .long x :: st) := by
  subst hp
  exact W.via fun s T locs X hM hO t h1 => XS.lrem X.here C.1 rfl (hb C.2.1 hd) rfl hy (by rw [lrem_mod]; exact h1)
theorem Wk.i2b {x : Int32} (C : Cx Z own name bytes maxL ret p m meth c M) (hd : decode bytes pc = .ok (.i2b, 1)) (hp : pc' = pc + 1) (W : Wk p l e R m args below meth c M P n0 L k n pc' Ls (.int (x.toInt8.toInt32) :: st)) : Wk p l e R m args below meth c M P n0 L k n pc Ls (.int x :: st) := by
  subst hp
  exact W.via fun s T locs X hM hO t h1 => XS.i2b X.here C.1 rfl (hb C.2.1 hd) rfl h1
theorem Wk.i2c {x : Int32} (C : Cx Z own name bytes maxL ret p m meth c M) (hd : decode bytes pc = .ok (.i2c, 1)) (hp : pc' = pc + 1) (W : Wk p l e R m args below meth c M P n0 L k n pc' Ls (.int (x.toUInt32.toUInt16.toUInt32.toInt32) :: st)) : Wk p l e R m args below meth c M P n0 L k n pc Ls (.int x :: st) := by
  subst hp
  exact W.via fun s T locs X hM hO t h1 => XS.i2c X.here C.1 rfl (hb C.2.1 hd) rfl h1
theorem Wk.i2s {x : Int32} (C : Cx Z own name bytes maxL ret p m meth c M) (hd : decode bytes pc = .ok (.i2s, 1)) (hp : pc' = pc + 1) (W : Wk p l e R m args below meth c M P n0 L k n pc' Ls (.int (x.toInt16.toInt32) :: st)) : Wk p l e R m args below meth c M P n0 L k n pc Ls (.int x :: st) := by
  subst hp
  exact W.via fun s T locs X hM hO t h1 => XS.i2s X.here C.1 rfl (hb C.2.1 hd) rfl h1
theorem Wk.i2l {x : Int32} (C : Cx Z own name bytes maxL ret p m meth c M) (hd : decode bytes pc = .ok (.i2l, 1)) (hp : pc' = pc + 1) (W : Wk p l e R m args below meth c M P n0 L k n pc' Ls (.long (x.toInt64) :: st)) : Wk p l e R m args below meth c M P n0 L k n pc Ls (.int x :: st) := by
  subst hp
  exact W.via fun s T locs X hM hO t h1 => XS.i2l X.here C.1 rfl (hb C.2.1 hd) rfl h1
theorem Wk.l2i {x : Int64} (C : Cx Z own name bytes maxL ret p m meth c M) (hd : decode bytes pc = .ok (.l2i, 1)) (hp : pc' = pc + 1) (W : Wk p l e R m args below meth c M P n0 L k n pc' Ls (.int (x.toInt32) :: st)) : Wk p l e R m args below meth c M P n0 L k n pc Ls (.long x :: st) := by
  subst hp
  exact W.via fun s T locs X hM hO t h1 => XS.l2i X.here C.1 rfl (hb C.2.1 hd) rfl h1
theorem Wk.lneg {x : Int64} (C : Cx Z own name bytes maxL ret p m meth c M) (hd : decode bytes pc = .ok (.lneg, 1)) (hp : pc' = pc + 1) (W : Wk p l e R m args below meth c M P n0 L k n pc' Ls (.long (-x) :: st)) : Wk p l e R m args below meth c M P n0 L k n pc Ls (.long x :: st) := by
  subst hp
  exact W.via fun s T locs X hM hO t h1 => XS.lneg X.here C.1 rfl (hb C.2.1 hd) rfl h1
theorem Wk.ineg {x : Int32} (C : Cx Z own name bytes maxL ret p m meth c M) (hd : decode bytes pc = .ok (.ineg, 1)) (hp : pc' = pc + 1) (W : Wk p l e R m args below meth c M P n0 L k n pc' Ls (.int (-x) :: st)) : Wk p l e R m args below meth c M P n0 L k n pc Ls (.int x :: st) := by
  subst hp
  exact W.via fun s T locs X hM hO t h1 => XS.ineg X.here C.1 rfl (hb C.2.1 hd) rfl h1
theorem Wk.dup {x : Value} (C : Cx Z own name bytes maxL ret p m meth c M) (hd : decode bytes pc = .ok (.dup, 1)) (hc : x.category = 1) (hp : pc' = pc + 1) (W : Wk p l e R m args below meth c M P n0 L k n pc' Ls (x :: x :: st)) : Wk p l e R m args below meth c M P n0 L k n pc Ls (x :: st) := by
  subst hp
  exact W.via fun s T locs X hM hO t h1 => XS.dup X.here C.1 rfl (hb C.2.1 hd) rfl hc h1
theorem Wk.pop {x : Value} (C : Cx Z own name bytes maxL ret p m meth c M) (hd : decode bytes pc = .ok (.pop, 1)) (hc : x.category = 1) (hp : pc' = pc + 1) (W : Wk p l e R m args below meth c M P n0 L k n pc' Ls (st)) : Wk p l e R m args below meth c M P n0 L k n pc Ls (x :: st) := by
  subst hp
  exact W.via fun s T locs X hM hO t h1 => XS.pop X.here C.1 rfl (hb C.2.1 hd) rfl hc h1
theorem Wk.dupX1 {x y : Value} (C : Cx Z own name bytes maxL ret p m meth c M) (hd : decode bytes pc = .ok (.dup_x1, 1)) (hc : x.category = 1) (hc' : y.category = 1) (hp : pc' = pc + 1) (W : Wk p l e R m args below meth c M P n0 L k n pc' Ls (x :: y :: x :: st)) : Wk p l e R m args below meth c M P n0 L k n pc Ls (x :: y :: st) := by
  subst hp
  exact W.via fun s T locs X hM hO t h1 => XS.dupX1 X.here C.1 rfl (hb C.2.1 hd) rfl hc hc' h1
theorem Wk.dup2 {x y : Value} (C : Cx Z own name bytes maxL ret p m meth c M) (hd : decode bytes pc = .ok (.dup2, 1)) (hc : x.category = 1) (hc' : y.category = 1) (hp : pc' = pc + 1) (W : Wk p l e R m args below meth c M P n0 L k n pc' Ls (x :: y :: x :: y :: st)) : Wk p l e R m args below meth c M P n0 L k n pc Ls (x :: y :: st) := by
  subst hp
  exact W.via fun s T locs X hM hO t h1 => Jvm.Free.XT.dup2 X.here C.1 rfl (hb C.2.1 hd) rfl hc hc' h1
theorem Wk.goto {o : Int} (C : Cx Z own name bytes maxL ret p m meth c M) (hd : decode bytes pc = .ok (.goto o, 3)) (ho : 0 ≤ (pc : Int) + o) (hp : ((pc : Int) + o).toNat = pc') (W : Wk p l e R m args below meth c M P n0 L k n pc' Ls (st)) : Wk p l e R m args below meth c M P n0 L k n pc Ls (st) :=
  W.via fun s T locs X hM hO t h1 => XS.goto X.here C.1 rfl (pc0 := pc) rfl (hb C.2.1 hd) ho hp h1
theorem Wk.icmp_lt {x y : Int32} {o : Int} {pcT pcF : Nat} (C : Cx Z own name bytes maxL ret p m meth c M) (hd : decode bytes pc = .ok (.if_icmp .lt o, 3)) (ho : 0 ≤ (pc : Int) + o) (hp : ((pc : Int) + o).toNat = pcT) (hp' : pcF = pc + 3) (hT : x < y → Wk p l e R m args below meth c M P n0 L k n pcT Ls (st)) (hF : ¬ x < y → Wk p l e R m args below meth c M P n0 L k n pcF Ls (st)) : Wk p l e R m args below meth c M P n0 L k n pc Ls (.int y :: .int x :: st) := by
  subst hp'
  by_cases h : x < y
  · exact (hT h).via fun s T locs X hM hO t h1 => XS.icmpYes X.here C.1 rfl (pc0 := pc) rfl (hb C.2.1 hd) rfl (tlt h).1 ho hp h1
  · exact (hF h).via fun s T locs X hM hO t h1 => XS.icmpNo X.here C.1 rfl (hb C.2.1 hd) rfl (flt h).1 h1
theorem Wk.if_lt {x : Int32} {o : Int} {pcT pcF : Nat} (C : Cx Z own name bytes maxL ret p m meth c M) (hd : decode bytes pc = .ok (.ifCond .lt o, 3)) (ho : 0 ≤ (pc : Int) + o) (hp : ((pc : Int) + o).toNat = pcT) (hp' : pcF = pc + 3) (hT : x < 0 → Wk p l e R m args below meth c M P n0 L k n pcT Ls (st)) (hF : ¬ x < 0 → Wk p l e R m args below meth c M P n0 L k n pcF Ls (st)) : Wk p l e R m args below meth c M P n0 L k n pc Ls (.int x :: st) := by
  subst hp'
  by_cases h : x < 0
  · exact (hT h).via fun s T locs X hM hO t h1 => XS.ifYes X.here C.1 rfl (pc0 := pc) rfl (hb C.2.1 hd) rfl ((if0 _ _).trans (tlt h).1) ho hp h1
  · exact (hF h).via fun s T locs X hM hO t h1 => XS.ifNo X.here C.1 rfl (hb C.2.1 hd) rfl ((if0 _ _).trans (flt h).1) h1
theorem Wk.lcmp_lt {x y : Int64} {o : Int} {pc1 pcT pcF : Nat} (C : Cx Z own name bytes maxL ret p m meth c M) (hd0 : decode bytes pc = .ok (.lcmp, 1)) (hp1 : pc1 = pc + 1) (hd : decode bytes pc1 = .ok (.ifCond .lt o, 3)) (ho : 0 ≤ (pc1 : Int) + o) (hp : ((pc1 : Int) + o).toNat = pcT) (hp' : pcF = pc1 + 3) (hT : x < y → Wk p l e R m args below meth c M P n0 L k n pcT Ls (st)) (hF : ¬ x < y → Wk p l e R m args below meth c M P n0 L k n pcF Ls (st)) : Wk p l e R m args below meth c M P n0 L k n pc Ls (.long y :: .long x :: st) := by
  subst hp1
  have W1 : Wk p l e R m args below meth c M P n0 L k n (pc + 1) Ls (.int (lcmpW x y) :: st) := Wk.if_lt C hd ho hp hp' (fun h => hT ((lw_lt x y).mp h)) (fun h => hF (fun q => h ((lw_lt x y).mpr q)))
  exact W1.via fun s T locs X hM hO t h1 => XS.lcmp X.here C.1 rfl (hb C.2.1 hd0) rfl h1
theorem Wk.icmp_ge {x y : Int32} {o : Int} {pcT pcF : Nat} (C : Cx Z own name bytes maxL ret p m meth c M) (hd : decode bytes pc = .ok (.if_icmp .ge o, 3)) (ho : 0 ≤ (pc : Int) + o) (hp : ((pc : Int) + o).toNat = pcT) (hp' : pcF = pc + 3) (hT : ¬ x < y → Wk p l e R m args below meth c M P n0 L k n pcT Ls (st)) (hF : x < y → Wk p l e R m args below meth c M P n0 L k n pcF Ls (st)) : Wk p l e R m args below meth c M P n0 L k n pc Ls (.int y :: .int x :: st) := by
  subst hp'
  by_cases h : x < y
  · exact (hF h).via fun s T locs X hM hO t h1 => XS.icmpNo X.here C.1 rfl (hb C.2.1 hd) rfl (tlt h).2.1 h1
  · exact (hT h).via fun s T locs X hM hO t h1 => XS.icmpYes X.here C.1 rfl (pc0 := pc) rfl (hb C.2.1 hd) rfl (flt h).2.1 ho hp h1
theorem Wk.if_ge {x : Int32} {o : Int} {pcT pcF : Nat} (C : Cx Z own name bytes maxL ret p m meth c M) (hd : decode bytes pc = .ok (.ifCond .ge o, 3)) (ho : 0 ≤ (pc : Int) + o) (hp : ((pc : Int) + o).toNat = pcT) (hp' : pcF = pc + 3) (hT : ¬ x < 0 → Wk p l e R m args below meth c M P n0 L k n pcT Ls (st)) (hF : x < 0 → Wk p l e R m args below meth c M P n0 L k n pcF Ls (st)) : Wk p l e R m args below meth c M P n0 L k n pc Ls (.int x :: st) := by
  subst hp'
  by_cases h : x < 0
  · exact (hF h).via fun s T locs X hM hO t h1 => XS.ifNo X.here C.1 rfl (hb C.2.1 hd) rfl ((if0 _ _).trans (tlt h).2.1) h1
  · exact (hT h).via fun s T locs X hM hO t h1 => XS.ifYes X.here C.1 rfl (pc0 := pc) rfl (hb C.2.1 hd) rfl ((if0 _ _).trans (flt h).2.1) ho hp h1
theorem Wk.lcmp_ge {x y : Int64} {o : Int} {pc1 pcT pcF : Nat} (C : Cx Z own name bytes maxL ret p m meth c M) (hd0 : decode bytes pc = .ok (.lcmp, 1)) (hp1 : pc1 = pc + 1) (hd : decode bytes pc1 = .ok (.ifCond .ge o, 3)) (ho : 0 ≤ (pc1 : Int) + o) (hp : ((pc1 : Int) + o).toNat = pcT) (hp' : pcF = pc1 + 3) (hT : ¬ x < y → Wk p l e R m args below meth c M P n0 L k n pcT Ls (st)) (hF : x < y → Wk p l e R m args below meth c M P n0 L k n pcF Ls (st)) : Wk p l e R m args below meth c M P n0 L k n pc Ls (.long y :: .long x :: st) := by
  subst hp1
  have W1 : Wk p l e R m args below meth c M P n0 L k n (pc + 1) Ls (.int (lcmpW x y) :: st) := Wk.if_ge C hd ho hp hp' (fun h => hT (fun q => h ((lw_lt x y).mpr q))) (fun h => hF ((lw_lt x y).mp h))
  exact W1.via fun s T locs X hM hO t h1 => XS.lcmp X.here C.1 rfl (hb C.2.1 hd0) rfl h1
theorem Wk.icmp_gt {x y : Int32} {o : Int} {pcT pcF : Nat} (C : Cx Z own name bytes maxL ret p m meth c M) (hd : decode bytes pc = .ok (.if_icmp .gt o, 3)) (ho : 0 ≤ (pc : Int) + o) (hp : ((pc : Int) + o).toNat = pcT) (hp' : pcF = pc + 3) (hT : y < x → Wk p l e R m args below meth c M P n0 L k n pcT Ls (st)) (hF : ¬ y < x → Wk p l e R m args below meth c M P n0 L k n pcF Ls (st)) : Wk p l e R m args below meth c M P n0 L k n pc Ls (.int y :: .int x :: st) := by
  subst hp'
  by_cases h : y < x
  · exact (hT h).via fun s T locs X hM hO t h1 => XS.icmpYes X.here C.1 rfl (pc0 := pc) rfl (hb C.2.1 hd) rfl (tlt h).2.2.1 ho hp h1
  · exact (hF h).via fun s T locs X hM hO t h1 => XS.icmpNo X.here C.1 rfl (hb C.2.1 hd) rfl (flt h).2.2.1 h1
theorem Wk.if_gt {x : Int32} {o : Int} {pcT pcF : Nat} (C : Cx Z own name bytes maxL ret p m meth c M) (hd : decode bytes pc = .ok (.ifCond .gt o, 3)) (ho : 0 ≤ (pc : Int) + o) (hp : ((pc : Int) + o).toNat = pcT) (hp' : pcF = pc + 3) (hT : 0 < x → Wk p l e R m args below meth c M P n0 L k n pcT Ls (st)) (hF : ¬ 0 < x → Wk p l e R m args below meth c M P n0 L k n pcF Ls (st)) : Wk p l e R m args below meth c M P n0 L k n pc Ls (.int x :: st) := by
  subst hp'
  by_cases h : 0 < x
  · exact (hT h).via fun s T locs X hM hO t h1 => XS.ifYes X.here C.1 rfl (pc0 := pc) rfl (hb C.2.1 hd) rfl ((if0 _ _).trans (tlt h).2.2.1) ho hp h1
  · exact (hF h).via fun s T locs X hM hO t h1 => XS.ifNo X.here C.1 rfl (hb C.2.1 hd) rfl ((if0 _ _).trans (flt h).2.2.1) h1
theorem Wk.lcmp_gt {x y : Int64} {o : Int} {pc1 pcT pcF : Nat} (C : Cx Z own name bytes maxL ret p m meth c M) (hd0 : decode bytes pc = .ok (.lcmp, 1)) (hp1 : pc1 = pc + 1) (hd : decode bytes pc1 = .ok (.ifCond .gt o, 3)) (ho : 0 ≤ (pc1 : Int) + o) (hp : ((pc1 : Int) + o).toNat = pcT) (hp' : pcF = pc1 + 3) (hT : y < x → Wk p l e R m args below meth c M P n0 L k n pcT Ls (st)) (hF : ¬ y < x → Wk p l e R m args below meth c M P n0 L k n pcF Ls (st)) : Wk p l e R m args below meth c M P n0 L k n pc Ls (.long y :: .long x :: st) := by
  subst hp1
  have W1 : Wk p l e R m args below meth c M P n0 L k n (pc + 1) Ls (.int (lcmpW x y) :: st) := Wk.if_gt C hd ho hp hp' (fun h => hT ((lw_gt x y).mp h)) (fun h => hF (fun q => h ((lw_gt x y).mpr q)))
  exact W1.via fun s T locs X hM hO t h1 => XS.lcmp X.here C.1 rfl (hb C.2.1 hd0) rfl h1
theorem Wk.icmp_le {x y : Int32} {o : Int} {pcT pcF : Nat} (C : Cx Z own name bytes maxL ret p m meth c M) (hd : decode bytes pc = .ok (.if_icmp .le o, 3)) (ho : 0 ≤ (pc : Int) + o) (hp : ((pc : Int) + o).toNat = pcT) (hp' : pcF = pc + 3) (hT : ¬ y < x → Wk p l e R m args below meth c M P n0 L k n pcT Ls (st)) (hF : y < x → Wk p l e R m args below meth c M P n0 L k n pcF Ls (st)) : Wk p l e R m args below meth c M P n0 L k n pc Ls (.int y :: .int x :: st) := by
  subst hp'
  by_cases h : y < x
  · exact (hF h).via fun s T locs X hM hO t h1 => XS.icmpNo X.here C.1 rfl (hb C.2.1 hd) rfl (tlt h).2.2.2 h1
  · exact (hT h).via fun s T locs X hM hO t h1 => XS.icmpYes X.here C.1 rfl (pc0 := pc) rfl (hb C.2.1 hd) rfl (flt h).2.2.2 ho hp h1
theorem Wk.if_le {x : Int32} {o : Int} {pcT pcF : Nat} (C : Cx Z own name bytes maxL ret p m meth c M) (hd : decode bytes pc = .ok (.ifCond .le o, 3)) (ho : 0 ≤ (pc : Int) + o) (hp : ((pc : Int) + o).toNat = pcT) (hp' : pcF = pc + 3) (hT : ¬ 0 < x → Wk p l e R m args below meth c M P n0 L k n pcT Ls (st)) (hF : 0 < x → Wk p l e R m args below meth c M P n0 L k n pcF Ls (st)) : Wk p l e R m args below meth c M P n0 L k n pc Ls (.int x :: st) := by
  subst hp'
  by_cases h : 0 < x
  · exact (hF h).via fun s T locs X hM hO t h1 => XS.ifNo X.here C.1 rfl (hb C.2.1 hd) rfl ((if0 _ _).trans (tlt h).2.2.2) h1
  · exact (hT h).via fun s T locs X hM hO t h1 => XS.ifYes X.here C.1 rfl (pc0 := pc) rfl (hb C.2.1 hd) rfl ((if0 _ _).trans (flt h).2.2.2) ho hp h1
theorem Wk.lcmp_le {x y : Int64} {o : Int} {pc1 pcT pcF : Nat} (C : Cx Z own name bytes maxL ret p m meth c M) (hd0 : decode bytes pc = .ok (.lcmp, 1)) (hp1 : pc1 = pc + 1) (hd : decode bytes pc1 = .ok (.ifCond .le o, 3)) (ho : 0 ≤ (pc1 : Int) + o) (hp : ((pc1 : Int) + o).toNat = pcT) (hp' : pcF = pc1 + 3) (hT : ¬ y < x → Wk p l e R m args below meth c M P n0 L k n pcT Ls (st)) (hF : y < x → Wk p l e R m args below meth c M P n0 L k n pcF Ls (st)) : Wk p l e R m args below meth c M P n0 L k n pc Ls (.long y :: .long x :: st) := by
  subst hp1
  have W1 : Wk p l e R m args below meth c M P n0 L k n (pc + 1) Ls (.int (lcmpW x y) :: st) := Wk.if_le C hd ho hp hp' (fun h => hT (fun q => h ((lw_gt x y).mpr q))) (fun h => hF ((lw_gt x y).mp h))
  exact W1.via fun s T locs X hM hO t h1 => XS.lcmp X.here C.1 rfl (hb C.2.1 hd0) rfl h1
theorem Wk.icmp_eq {x y : Int32} {o : Int} {pcT pcF : Nat} (C : Cx Z own name bytes maxL ret p m meth c M) (hd : decode bytes pc = .ok (.if_icmp .eq o, 3)) (ho : 0 ≤ (pc : Int) + o) (hp : ((pc : Int) + o).toNat = pcT) (hp' : pcF = pc + 3) (hT : x = y → Wk p l e R m args below meth c M P n0 L k n pcT Ls (st)) (hF : ¬ x = y → Wk p l e R m args below meth c M P n0 L k n pcF Ls (st)) : Wk p l e R m args below meth c M P n0 L k n pc Ls (.int y :: .int x :: st) := by
  subst hp'
  by_cases h : x = y
  · exact (hT h).via fun s T locs X hM hO t h1 => XS.icmpYes X.here C.1 rfl (pc0 := pc) rfl (hb C.2.1 hd) rfl (teq h).1 ho hp h1
  · exact (hF h).via fun s T locs X hM hO t h1 => XS.icmpNo X.here C.1 rfl (hb C.2.1 hd) rfl (feq h).1 h1
theorem Wk.if_eq {x : Int32} {o : Int} {pcT pcF : Nat} (C : Cx Z own name bytes maxL ret p m meth c M) (hd : decode bytes pc = .ok (.ifCond .eq o, 3)) (ho : 0 ≤ (pc : Int) + o) (hp : ((pc : Int) + o).toNat = pcT) (hp' : pcF = pc + 3) (hT : x = 0 → Wk p l e R m args below meth c M P n0 L k n pcT Ls (st)) (hF : ¬ x = 0 → Wk p l e R m args below meth c M P n0 L k n pcF Ls (st)) : Wk p l e R m args below meth c M P n0 L k n pc Ls (.int x :: st) := by
  subst hp'
  by_cases h : x = 0
  · exact (hT h).via fun s T locs X hM hO t h1 => XS.ifYes X.here C.1 rfl (pc0 := pc) rfl (hb C.2.1 hd) rfl ((if0 _ _).trans (teq h).1) ho hp h1
  · exact (hF h).via fun s T locs X hM hO t h1 => XS.ifNo X.here C.1 rfl (hb C.2.1 hd) rfl ((if0 _ _).trans (feq h).1) h1
theorem Wk.lcmp_eq {x y : Int64} {o : Int} {pc1 pcT pcF : Nat} (C : Cx Z own name bytes maxL ret p m meth c M) (hd0 : decode bytes pc = .ok (.lcmp, 1)) (hp1 : pc1 = pc + 1) (hd : decode bytes pc1 = .ok (.ifCond .eq o, 3)) (ho : 0 ≤ (pc1 : Int) + o) (hp : ((pc1 : Int) + o).toNat = pcT) (hp' : pcF = pc1 + 3) (hT : x = y → Wk p l e R m args below meth c M P n0 L k n pcT Ls (st)) (hF : ¬ x = y → Wk p l e R m args below meth c M P n0 L k n pcF Ls (st)) : Wk p l e R m args below meth c M P n0 L k n pc Ls (.long y :: .long x :: st) := by
  subst hp1
  have W1 : Wk p l e R m args below meth c M P n0 L k n (pc + 1) Ls (.int (lcmpW x y) :: st) := Wk.if_eq C hd ho hp hp' (fun h => hT ((lw_eq x y).mp h)) (fun h => hF (fun q => h ((lw_eq x y).mpr q)))
  exact W1.via fun s T locs X hM hO t h1 => XS.lcmp X.here C.1 rfl (hb C.2.1 hd0) rfl h1
theorem Wk.icmp_ne {x y : Int32} {o : Int} {pcT pcF : Nat} (C : Cx Z own name bytes maxL ret p m meth c M) (hd : decode bytes pc = .ok (.if_icmp .ne o, 3)) (ho : 0 ≤ (pc : Int) + o) (hp : ((pc : Int) + o).toNat = pcT) (hp' : pcF = pc + 3) (hT : ¬ x = y → Wk p l e R m args below meth c M P n0 L k n pcT Ls (st)) (hF : x = y → Wk p l e R m args below meth c M P n0 L k n pcF Ls (st)) : Wk p l e R m args below meth c M P n0 L k n pc Ls (.int y :: .int x :: st) := by
  subst hp'
  by_cases h : x = y
  · exact (hF h).via fun s T locs X hM hO t h1 => XS.icmpNo X.here C.1 rfl (hb C.2.1 hd) rfl (teq h).2 h1
  · exact (hT h).via fun s T locs X hM hO t h1 => XS.icmpYes X.here C.1 rfl (pc0 := pc) rfl (hb C.2.1 hd) rfl (feq h).2 ho hp h1
theorem Wk.if_ne {x : Int32} {o : Int} {pcT pcF : Nat} (C : Cx Z own name bytes maxL ret p m meth c M) (hd : decode bytes pc = .ok (.ifCond .ne o, 3)) (ho : 0 ≤ (pc : Int) + o) (hp : ((pc : Int) + o).toNat = pcT) (hp' : pcF = pc + 3) (hT : ¬ x = 0 → Wk p l e R m args below meth c M P n0 L k n pcT Ls (st)) (hF : x = 0 → Wk p l e R m args below meth c M P n0 L k n pcF Ls (st)) : Wk p l e R m args below meth c M P n0 L k n pc Ls (.int x :: st) := by
  subst hp'
  by_cases h : x = 0
  · exact (hF h).via fun s T locs X hM hO t h1 => XS.ifNo X.here C.1 rfl (hb C.2.1 hd) rfl ((if0 _ _).trans (teq h).2) h1
  · exact (hT h).via fun s T locs X hM hO t h1 => XS.ifYes X.here C.1 rfl (pc0 := pc) rfl (hb C.2.1 hd) rfl ((if0 _ _).trans (feq h).2) ho hp h1
theorem Wk.lcmp_ne {x y : Int64} {o : Int} {pc1 pcT pcF : Nat} (C : Cx Z own name bytes maxL ret p m meth c M) (hd0 : decode bytes pc = .ok (.lcmp, 1)) (hp1 : pc1 = pc + 1) (hd : decode bytes pc1 = .ok (.ifCond .ne o, 3)) (ho : 0 ≤ (pc1 : Int) + o) (hp : ((pc1 : Int) + o).toNat = pcT) (hp' : pcF = pc1 + 3) (hT : ¬ x = y → Wk p l e R m args below meth c M P n0 L k n pcT Ls (st)) (hF : x = y → Wk p l e R m args below meth c M P n0 L k n pcF Ls (st)) : Wk p l e R m args below meth c M P n0 L k n pc Ls (.long y :: .long x :: st) := by
  subst hp1
  have W1 : Wk p l e R m args below meth c M P n0 L k n (pc + 1) Ls (.int (lcmpW x y) :: st) := Wk.if_ne C hd ho hp hp' (fun h => hT (fun q => h ((lw_eq x y).mpr q))) (fun h => hF ((lw_eq x y).mp h))
  exact W1.via fun s T locs X hM hO t h1 => XS.lcmp X.here C.1 rfl (hb C.2.1 hd0) rfl h1
theorem Wk.ifnullYes {o : Int} (C : Cx Z own name bytes maxL ret p m meth c M) (hd : decode bytes pc = .ok (.ifnull o, 3)) (ho : 0 ≤ (pc : Int) + o) (hp : ((pc : Int) + o).toNat = pc') (W : Wk p l e R m args below meth c M P n0 L k n pc' Ls (st)) : Wk p l e R m args below meth c M P n0 L k n pc Ls (.null :: st) :=
  W.via fun s T locs X hM hO t h1 => XS.ifnullYes X.here C.1 rfl (pc0 := pc) rfl (hb C.2.1 hd) rfl ho hp h1
theorem Wk.ifnullNo {b : Addr} {o : Int} (C : Cx Z own name bytes maxL ret p m meth c M) (hd : decode bytes pc = .ok (.ifnull o, 3)) (hp : pc' = pc + 3) (W : Wk p l e R m args below meth c M P n0 L k n pc' Ls (st)) : Wk p l e R m args below meth c M P n0 L k n pc Ls (.ref b :: st) := by
  subst hp
  exact W.via fun s T locs X hM hO t h1 => XS.ifnullNo X.here C.1 rfl (hb C.2.1 hd) rfl h1
theorem Wk.ifnonnullYes {b : Addr} {o : Int} (C : Cx Z own name bytes maxL ret p m meth c M) (hd : decode bytes pc = .ok (.ifnonnull o, 3)) (ho : 0 ≤ (pc : Int) + o) (hp : ((pc : Int) + o).toNat = pc') (W : Wk p l e R m args below meth c M P n0 L k n pc' Ls (st)) : Wk p l e R m args below meth c M P n0 L k n pc Ls (.ref b :: st) :=
  W.via fun s T locs X hM hO t h1 => XS.ifnonnullYes X.here C.1 rfl (pc0 := pc) rfl (hb C.2.1 hd) rfl ho hp h1
theorem Wk.ifnonnullNo {o : Int} (C : Cx Z own name bytes maxL ret p m meth c M) (hd : decode bytes pc = .ok (.ifnonnull o, 3)) (hp : pc' = pc + 3) (W : Wk p l e R m args below meth c M P n0 L k n pc' Ls (st)) : Wk p l e R m args below meth c M P n0 L k n pc Ls (.null :: st) := by
  subst hp
  exact W.via fun s T locs X hM hO t h1 => XS.ifnonnullNo X.here C.1 rfl (hb C.2.1 hd) rfl h1
theorem Wk.acmp {cd : ACond} {x y : Value} {o : Int} {same : Bool} (C : Cx Z own name bytes maxL ret p m meth c M) (hd : decode bytes pc = .ok (.if_acmp cd o, 3)) (h1 : x.isRef = true) (h2 : y.isRef = true) (hq : decide (x = y) = same) (ho : 0 ≤ (pc : Int) + o) (hp : pc' = if acV cd same = true then ((pc : Int) + o).toNat else pc + 3) (W : Wk p l e R m args below meth c M P n0 L k n pc' Ls (st)) : Wk p l e R m args below meth c M P n0 L k n pc Ls (y :: x :: st) :=
  W.via fun s T locs X hM hO t r => Jvm.RoadKit.acmp (g := mkF m pc Ls (y :: x :: st)) X C.1 rfl h1 h2 (pc0 := pc) rfl (hb C.2.1 hd) rfl hq ho hp r
theorem Wk.join0 {pcj : Nat} (Lj : Array Slot) (sj : List Value) (J : Wk p l e R m args below meth c M P n0 L k n pcj Lj (sj)) (K : Wk p l e R m args below meth c M P n0 L k n pcj Lj (sj) → Wk p l e R m args below meth c M P n0 L k n pc Ls (st)) : Wk p l e R m args below meth c M P n0 L k n pc Ls (st) := K J
theorem Wk.join1 {pcj : Nat} {A0 : Type} (F : A0 → Array Slot) (G : A0 → List Value) (E0 : A0) (J : ∀ v0, v0 = E0 → Wk p l e R m args below meth c M P n0 L k n pcj (F v0) (G v0)) (K : (∀ v0, v0 = E0 → Wk p l e R m args below meth c M P n0 L k n pcj (F v0) (G v0)) → Wk p l e R m args below meth c M P n0 L k n pc Ls (st)) : Wk p l e R m args below meth c M P n0 L k n pc Ls (st) := K J
theorem Wk.join2 {pcj : Nat} {A0 A1 : Type} (F : A0 → A1 → Array Slot) (G : A0 → A1 → List Value) (E0 : A0) (E1 : A1) (J : ∀ v0 v1, v0 = E0 → v1 = E1 → Wk p l e R m args below meth c M P n0 L k n pcj (F v0 v1) (G v0 v1)) (K : (∀ v0 v1, v0 = E0 → v1 = E1 → Wk p l e R m args below meth c M P n0 L k n pcj (F v0 v1) (G v0 v1)) → Wk p l e R m args below meth c M P n0 L k n pc Ls (st)) : Wk p l e R m args below meth c M P n0 L k n pc Ls (st) := K J
theorem Wk.join3 {pcj : Nat} {A0 A1 A2 : Type} (F : A0 → A1 → A2 → Array Slot) (G : A0 → A1 → A2 → List Value) (E0 : A0) (E1 : A1) (E2 : A2) (J : ∀ v0 v1 v2, v0 = E0 → v1 = E1 → v2 = E2 → Wk p l e R m args below meth c M P n0 L k n pcj (F v0 v1 v2) (G v0 v1 v2)) (K : (∀ v0 v1 v2, v0 = E0 → v1 = E1 → v2 = E2 → Wk p l e R m args below meth c M P n0 L k n pcj (F v0 v1 v2) (G v0 v1 v2)) → Wk p l e R m args below meth c M P n0 L k n pc Ls (st)) : Wk p l e R m args below meth c M P n0 L k n pc Ls (st) := K J
theorem Wk.join4 {pcj : Nat} {A0 A1 A2 A3 : Type} (F : A0 → A1 → A2 → A3 → Array Slot) (G : A0 → A1 → A2 → A3 → List Value) (E0 : A0) (E1 : A1) (E2 : A2) (E3 : A3) (J : ∀ v0 v1 v2 v3, v0 = E0 → v1 = E1 → v2 = E2 → v3 = E3 → Wk p l e R m args below meth c M P n0 L k n pcj (F v0 v1 v2 v3) (G v0 v1 v2 v3)) (K : (∀ v0 v1 v2 v3, v0 = E0 → v1 = E1 → v2 = E2 → v3 = E3 → Wk p l e R m args below meth c M P n0 L k n pcj (F v0 v1 v2 v3) (G v0 v1 v2 v3)) → Wk p l e R m args below meth c M P n0 L k n pc Ls (st)) : Wk p l e R m args below meth c M P n0 L k n pc Ls (st) := K J
theorem Wk.ind {A : Type} (μ : A → Nat) (F : A → Array Slot) (H : A → List (Addr × (Cell → Prop))) (I : A → Prop) (step : ∀ a, I a → (∀ b, I b → μ b < μ a → Wk p l e R m args below meth c M P n0 (H b) k n pc (F b) (st)) → Wk p l e R m args below meth c M P n0 (H a) k n pc (F a) (st)) (a : A) (ha : I a) : Wk p l e R m args below meth c M P n0 (H a) k n pc (F a) (st) := by
  have key : ∀ (N : Nat) (a : A), μ a < N → I a → Wk p l e R m args below meth c M P n0 (H a) k n pc (F a) (st) := by
    intro N
    induction N with
    | zero => intro a h; exact absurd h (Nat.not_lt_zero _)
    | succ N ih => intro a h hI; exact step a hI fun b hb hlt => ih b (by omega) hb
  exact key _ a (Nat.lt_succ_self _) ha
theorem idx_of {j : Int32} {i nn : Nat} (hj : j.toInt = (i : Int)) (hi : i < nn) : ¬ (j < 0 ∨ nn ≤ j.toNatClampNeg) ∧ j.toNatClampNeg = i := by
  have e : j.toNatClampNeg = i := by show j.toInt.toNat = i; omega
  refine ⟨fun q => ?_, e⟩
  rcases q with q | q
  · rw [Int32.lt_iff_toInt_lt] at q
    have : (0 : Int32).toInt = 0 := rfl
    omega
  · omega
theorem Wk.iaload {a : Addr} {j : Int32} {q i nn : Nat} {f : Nat → Int32} (C : Cx Z own name bytes maxL ret p m meth c M) (hd : decode bytes pc = .ok (.iaload, 1)) (hL : L[q]? = some (a, ArrC Z .int nn f)) (hj : j.toInt = (i : Int)) (hi : i < nn) (hp : pc' = pc + 1) (W : Wk p l e R m args below meth c M P n0 L k n pc' Ls (.int (f i) :: st)) : Wk p l e R m args below meth c M P n0 L k n pc Ls (.int j :: .ref a :: st) := by
  subst hp
  refine W.via fun s T locs X hM hO t r => ?_
  obtain ⟨cl, g1, g2, g3, g4, g5, -⟩ := (hO.2.2 _ _ hL).2
  obtain ⟨b1, b2⟩ := idx_of hj hi
  rw [← g4] at b1
  exact X.iaload C.1 (j := j) (v := .int (f i)) g1 (State.isArrayOf_alike (C.2.2.2.2.2.2.1 _ _ hM).1.alike g2) g3 b1 (by rw [b2]; exact g5 i hi) (g := mkF m pc Ls (.int j :: .ref a :: st)) rfl rfl (hb C.2.1 hd) t r
theorem Wk.baload {a : Addr} {j : Int32} {q i nn : Nat} {f : Nat → Int32} (C : Cx Z own name bytes maxL ret p m meth c M) (hd : decode bytes pc = .ok (.baload, 1)) (hL : L[q]? = some (a, ArrC Z .byte nn f)) (hj : j.toInt = (i : Int)) (hi : i < nn) (hp : pc' = pc + 1) (W : Wk p l e R m args below meth c M P n0 L k n pc' Ls (.int (f i) :: st)) : Wk p l e R m args below meth c M P n0 L k n pc Ls (.int j :: .ref a :: st) := by
  subst hp
  refine W.via fun s T locs X hM hO t r => ?_
  obtain ⟨cl, g1, g2, g3, g4, g5, -⟩ := (hO.2.2 _ _ hL).2
  obtain ⟨b1, b2⟩ := idx_of hj hi
  rw [← g4] at b1
  exact X.baloadBytes C.1 (j := j) (v := .int (f i)) g1 (State.isArrayOf_alike (C.2.2.2.2.2.2.1 _ _ hM).1.alike g2) g3 b1 (by rw [b2]; exact g5 i hi) (g := mkF m pc Ls (.int j :: .ref a :: st)) rfl rfl (hb C.2.1 hd) t r
theorem Wk.caload {a : Addr} {j : Int32} {q i nn : Nat} {f : Nat → Int32} (C : Cx Z own name bytes maxL ret p m meth c M) (hd : decode bytes pc = .ok (.caload, 1)) (hL : L[q]? = some (a, ArrC Z .char nn f)) (hj : j.toInt = (i : Int)) (hi : i < nn) (hp : pc' = pc + 1) (W : Wk p l e R m args below meth c M P n0 L k n pc' Ls (.int (f i) :: st)) : Wk p l e R m args below meth c M P n0 L k n pc Ls (.int j :: .ref a :: st) := by
  subst hp
  refine W.via fun s T locs X hM hO t r => ?_
  obtain ⟨cl, g1, g2, g3, g4, g5, -⟩ := (hO.2.2 _ _ hL).2
  obtain ⟨b1, b2⟩ := idx_of hj hi
  rw [← g4] at b1
  exact X.caload C.1 (j := j) (v := .int (f i)) g1 (State.isArrayOf_alike (C.2.2.2.2.2.2.1 _ _ hM).1.alike g2) g3 b1 (by rw [b2]; exact g5 i hi) (g := mkF m pc Ls (.int j :: .ref a :: st)) rfl rfl (hb C.2.1 hd) t r
theorem Wk.arraylength {a : Addr} {q nn : Nat} {ty : FieldType} {z : Int32} {φ : Cell → Prop} (C : Cx Z own name bytes maxL ret p m meth c M) (hd : decode bytes pc = .ok (.arraylength, 1)) (hL : L[q]? = some (a, φ)) (hφ : ∀ c, φ c → Z.isArrayOf c ty ∧ c.slots.size = nn) (hz : nn.toInt32 = z) (hp : pc' = pc + 1) (W : Wk p l e R m args below meth c M P n0 L k n pc' Ls (.int z :: st)) : Wk p l e R m args below meth c M P n0 L k n pc Ls (.ref a :: st) := by
  subst hp hz
  refine W.via fun s T locs X hM hO t r => ?_
  obtain ⟨cl, g1, g2⟩ := (hO.2.2 _ _ hL).2
  obtain ⟨g3, g4⟩ := hφ cl g2
  subst g4
  exact X.arraylength C.1 g1 (State.isArrayOf_alike (C.2.2.2.2.2.2.1 _ _ hM).1.alike g3) (g := mkF m pc Ls (.ref a :: st)) rfl rfl (hb C.2.1 hd) t r
theorem Wk.iastore {a : Addr} {j x : Int32} {q i nn : Nat} {f : Nat → Int32} (C : Cx Z own name bytes maxL ret p m meth c M) (hd : decode bytes pc = .ok (.iastore, 1)) (hL : L[q]? = some (a, ArrC Z .int nn f)) (hj : j.toInt = (i : Int)) (hi : i < nn) (hp : pc' = pc + 1) (W : Wk p l e R m args below meth c M P n0 (L.set q (a, ArrC Z .int nn (upd f i (x)))) k n pc' Ls (st)) : Wk p l e R m args below meth c M P n0 L k n pc Ls (.int x :: .int j :: .ref a :: st) := by
  subst hp
  intro s T locs X hM hF hO
  obtain ⟨h0, cl, g1, g2, g3, g4, -⟩ := hO.2.2 _ _ hL
  obtain ⟨b1, b2⟩ := idx_of hj hi
  rw [← g4] at b1
  obtain ⟨T', h', X', e', Wh, stp⟩ := stI X C.1 (C.2.2.2.2.2.2.1 _ _ hM).1 rfl ⟨g1, g2, g3⟩ (j := j) b1 (g := mkF m pc Ls (.int x :: .int j :: .ref a :: st)) rfl rfl (hb C.2.1 hd)
  rw [b2] at Wh
  subst e'
  obtain ⟨t, r1, r2⟩ := W s T' _ X' (C.2.2.2.2.2.2.2 s _ _ (Nat.le_of_eq Wh.size.symm) hM) (Fr.snoc X' hF h0) (hO.wr Wh hL (φ' := ArrC Z .int nn (upd f i (x))) fun c hc _ => hc.set hi rfl)
  exact ⟨t, stp t r1, r2⟩
theorem Wk.bastore {a : Addr} {j x : Int32} {q i nn : Nat} {f : Nat → Int32} (C : Cx Z own name bytes maxL ret p m meth c M) (hd : decode bytes pc = .ok (.bastore, 1)) (hL : L[q]? = some (a, ArrC Z .byte nn f)) (hj : j.toInt = (i : Int)) (hi : i < nn) (hp : pc' = pc + 1) (W : Wk p l e R m args below meth c M P n0 (L.set q (a, ArrC Z .byte nn (upd f i (x.toInt8.toInt32)))) k n pc' Ls (st)) : Wk p l e R m args below meth c M P n0 L k n pc Ls (.int x :: .int j :: .ref a :: st) := by
  subst hp
  intro s T locs X hM hF hO
  obtain ⟨h0, cl, g1, g2, g3, g4, -⟩ := hO.2.2 _ _ hL
  obtain ⟨b1, b2⟩ := idx_of hj hi
  rw [← g4] at b1
  obtain ⟨T', h', X', e', Wh, stp⟩ := stB X C.1 (C.2.2.2.2.2.2.1 _ _ hM).1 rfl ⟨g1, g2, g3⟩ (j := j) b1 (g := mkF m pc Ls (.int x :: .int j :: .ref a :: st)) rfl rfl (hb C.2.1 hd)
  rw [b2] at Wh
  subst e'
  obtain ⟨t, r1, r2⟩ := W s T' _ X' (C.2.2.2.2.2.2.2 s _ _ (Nat.le_of_eq Wh.size.symm) hM) (Fr.snoc X' hF h0) (hO.wr Wh hL (φ' := ArrC Z .byte nn (upd f i (x.toInt8.toInt32))) fun c hc _ => hc.set hi (fits_nar_byte x))
  exact ⟨t, stp t r1, r2⟩
theorem Wk.castore {a : Addr} {j x : Int32} {q i nn : Nat} {f : Nat → Int32} (C : Cx Z own name bytes maxL ret p m meth c M) (hd : decode bytes pc = .ok (.castore, 1)) (hL : L[q]? = some (a, ArrC Z .char nn f)) (hj : j.toInt = (i : Int)) (hi : i < nn) (hp : pc' = pc + 1) (W : Wk p l e R m args below meth c M P n0 (L.set q (a, ArrC Z .char nn (upd f i (nar .char x)))) k n pc' Ls (st)) : Wk p l e R m args below meth c M P n0 L k n pc Ls (.int x :: .int j :: .ref a :: st) := by
  subst hp
  intro s T locs X hM hF hO
  obtain ⟨h0, cl, g1, g2, g3, g4, -⟩ := hO.2.2 _ _ hL
  obtain ⟨b1, b2⟩ := idx_of hj hi
  rw [← g4] at b1
  obtain ⟨T', h', X', e', Wh, stp⟩ := stC X C.1 (C.2.2.2.2.2.2.1 _ _ hM).1 rfl ⟨g1, g2, g3⟩ (j := j) b1 (g := mkF m pc Ls (.int x :: .int j :: .ref a :: st)) rfl rfl (hb C.2.1 hd)
  rw [b2] at Wh
  subst e'
  obtain ⟨t, r1, r2⟩ := W s T' _ X' (C.2.2.2.2.2.2.2 s _ _ (Nat.le_of_eq Wh.size.symm) hM) (Fr.snoc X' hF h0) (hO.wr Wh hL (φ' := ArrC Z .char nn (upd f i (nar .char x))) fun c hc _ => hc.set hi (fits_nar_char x))
  exact ⟨t, stp t r1, r2⟩
theorem Wk.newarray {aty : ArrayType} {z : Int32} {nn cap : Nat} {d : Int32} (C : Cx Z own name bytes maxL ret p m meth c M) (w : (Cond.arrayClass (newarray.typeOf aty)).before a0 Z = true) (hd : decode bytes pc = .ok (.newarray aty, 2)) (hdv : defaultValue (newarray.typeOf aty) = .int d) (hfd : fits (newarray.typeOf aty) (.int d) = true) (hz : z.toInt = (nn : Int)) (hcap : nn ≤ cap) (hb8 : cap * 8 ≤ 536870912) (hk : k + 1 ≤ R.cells) (hn : n + cap ≤ R.slots) (hp : pc' = pc + 2)
    (W : ∀ a : Addr, Wk p l e R m args below meth c M P n0 ((a, ArrC Z (newarray.typeOf aty) nn (fun _ => d)) :: L) (k + 1) (n + cap) pc' Ls (.ref a :: st)) : Wk p l e R m args below meth c M P n0 L k n pc Ls (.int z :: st) := by
  subst hp
  intro s T locs X hM hF hO
  have ez : z.toNatClampNeg = nn := by show z.toInt.toNat = nn; omega
  have nz : ¬ z < 0 := fun q => by
    rw [Int32.lt_iff_toInt_lt] at q
    have : (0 : Int32).toInt = 0 := rfl
    omega
  obtain ⟨T', h', cA, X', e', E, A, Ex, stp⟩ := newPE X C.1 (C.2.2.2.2.2.2.1 _ _ hM).1 w rfl (g := mkF m pc Ls (.int z :: st)) rfl (hb C.2.1 hd) rfl nz (cap := cap) (by rw [ez]; exact hcap) hb8 hk hn (ad := "[" ++ (newarray.typeOf aty).toString) rfl
  subst e'
  obtain ⟨t, r1, r2⟩ := W T.heap.size s T' _ X' (C.2.2.2.2.2.2.2 s _ _ E.1 hM) hF (hO.cons E ⟨_, A.1, A.2.1, A.2.2, (sz_new _ _ _).trans ez, fun i hi => by
    show (Array.replicate z.toNatClampNeg (defaultValue (newarray.typeOf aty)))[i]? = _
    rw [ez, hdv]; simp [hi], fun _ _ => hfd, of_exa A.1 Ex⟩)
  exact ⟨t, stp t r1, r2⟩
def AnyC : Cell → Prop := fun _ => True
theorem Wk.anewarray {C' : String} {index : Nat} {z : Int32} {nn cap : Nat} (C : Cx Z own name bytes maxL ret p m meth c M) (w1 : (Cond.classLink own index C').before a0 Z = true) (w2 : (Cond.arrayOver (.object C')).before a0 Z = true) (hd : decode bytes pc = .ok (.anewarray index, 3)) (hz : z.toInt = (nn : Int)) (hcap : nn ≤ cap) (hb8 : cap * 8 ≤ 536870912) (hk : k + 1 ≤ R.cells) (hn : n + cap ≤ R.slots) (hp : pc' = pc + 3)
    (W : ∀ a : Addr, Wk p l e R m args below meth c M P n0 ((a, AnyC) :: L) (k + 1) (n + cap) pc' Ls (.ref a :: st)) : Wk p l e R m args below meth c M P n0 L k n pc Ls (.int z :: st) := by
  subst hp
  intro s T locs X hM hF hO
  have ez : z.toNatClampNeg = nn := by show z.toInt.toNat = nn; omega
  have nz : ¬ z < 0 := fun q => by
    rw [Int32.lt_iff_toInt_lt] at q
    have : (0 : Int32).toInt = 0 := rfl
    omega
  obtain ⟨T', h', cA, X', e', E, A, -, stp⟩ := newR X C.1 (C.2.2.2.2.2.2.1 _ _ hM).1 (C.2.2.2.2.2.2.1 _ _ hM).2 w1 w2 rfl (g := mkF m pc Ls (.int z :: st)) rfl (hb C.2.1 hd) rfl nz (cap := cap) (by rw [ez]; exact hcap) hb8 hk hn
  subst e'
  obtain ⟨t, r1, r2⟩ := W T.heap.size s T' _ X' (C.2.2.2.2.2.2.2 s _ _ E.1 hM) hF (hO.cons E ⟨_, A.1, trivial⟩)
  exact ⟨t, stp t r1, r2⟩
theorem Wk.new {C' : String} {index nf : Nat} {ks : List (String × String × String × FieldType)} {vs : List Value} (C : Cx Z own name bytes maxL ret p m meth c M) (w : (Cond.classLink own index C').before a0 Z = true) (wi : (Cond.instantiable C' nf).before a0 Z = true) (wz : (Cond.initialized C').before a0 Z = true) (H : Lays Z a0 C' ks) (hd : decode bytes pc = .ok (.new index, 3)) (hv : vs = ks.map (fun kk => defaultValue kk.2.2.2)) (hk : k + 1 ≤ R.cells) (hn : n + nf ≤ R.slots) (hp : pc' = pc + 3)
    (W : ∀ a : Addr, Wk p l e R m args below meth c M P n0 ((a, ObjC Z C' ks vs) :: L) (k + 1) (n + nf) pc' Ls (.ref a :: st)) : Wk p l e R m args below meth c M P n0 L k n pc Ls (st) := by
  subst hp hv
  intro s T locs X hM hF hO
  obtain ⟨T', h', X', e', E, A, D, -, stp⟩ := newO X C.1 (C.2.2.2.2.2.2.1 _ _ hM).1 (C.2.2.2.2.2.2.1 _ _ hM).2 w wi wz rfl (g := mkF m pc Ls st) rfl (hb C.2.1 hd) hk hn
  subst e'
  obtain ⟨cl, kc, g1, -⟩ := id A
  obtain ⟨t, r1, r2⟩ := W T.heap.size s T' _ X' (C.2.2.2.2.2.2.2 s _ _ E.1 hM) hF (hO.cons E ⟨cl, g1, of_exa g1 A, fun i kk v hkk hvv => by
    rw [List.getElem?_map, hkk] at hvv
    cases hvv
    have q := H.1 kk (List.mem_of_getElem? hkk)
    exact of_fld g1 (D q.1 q.2)⟩)
  exact ⟨t, stp t r1, r2⟩
theorem Wk.getfield {C' O nm d host : String} {ty : FieldType} {index i q : Nat} {a : Addr} {ks : List (String × String × String × FieldType)} {vs : List Value} {v : Value} (C : Cx Z own name bytes maxL ret p m meth c M) (w : (Cond.fieldLink own index O nm d).before a0 Z = true ∨ (Cond.fieldLinkNest own index O nm d host).before a0 Z = true) (hd : decode bytes pc = .ok (.getfield index, 3)) (hL : L[q]? = some (a, ObjC Z C' ks vs)) (hk : ks[i]? = some (O, nm, d, ty)) (hv : vs[i]? = some v) (hp : pc' = pc + 3)
    (W : Wk p l e R m args below meth c M P n0 L k n pc' Ls (v :: st)) : Wk p l e R m args below meth c M P n0 L k n pc Ls (.ref a :: st) := by
  subst hp
  intro s T locs X hM hF hO
  obtain ⟨h0, cl, g1, g2, g3⟩ := hO.2.2 _ _ hL
  obtain ⟨T', X', e', stp⟩ := getF X C.1 (C.2.2.2.2.2.2.1 _ _ hM).1 (C.2.2.2.2.2.2.1 _ _ hM).2 w Via.refl rfl (fld_of g1 (g3 i _ v hk hv)) (g := mkF m pc Ls (.ref a :: st)) rfl rfl (hb C.2.1 hd)
  rw [← e'] at hM hO
  obtain ⟨t, r1, r2⟩ := W s T' _ X' hM hF hO
  exact ⟨t, stp t r1, r2⟩
theorem Wk.putfield {C' O nm d host : String} {ty : FieldType} {index i q nf : Nat} {a : Addr} {ks : List (String × String × String × FieldType)} {vs : List Value} {v : Value} (C : Cx Z own name bytes maxL ret p m meth c M) (w : (Cond.fieldLink own index O nm d).before a0 Z = true ∨ (Cond.fieldLinkNest own index O nm d host).before a0 Z = true) (H : Lays Z a0 C' ks) (hlay : (Cond.lays C' O nm d).before a0 Z = true ∨ ((Cond.laysFinal C' O nm d).before a0 Z = true ∧ own = O ∧ name = "<init>")) (wi : (Cond.instantiable C' nf).before a0 Z = true) (hd : decode bytes pc = .ok (.putfield index, 3)) (hL : L[q]? = some (a, ObjC Z C' ks vs)) (hk : ks[i]? = some (O, nm, d, ty)) (hv : i < vs.length) (hnar : narrow ty v = v) (hfit : fits ty v = true) (hp : pc' = pc + 3)
    (W : Wk p l e R m args below meth c M P n0 (L.set q (a, ObjC Z C' ks (vs.set i v))) k n pc' Ls (st)) : Wk p l e R m args below meth c M P n0 L k n pc Ls (v :: .ref a :: st) := by
  subst hp
  intro s T locs X hM hF hO
  obtain ⟨h0, cl, g1, g2, g3⟩ := hO.2.2 _ _ hL
  obtain ⟨v0, hv0⟩ : ∃ v0, vs[i]? = some v0 := ⟨_, List.getElem?_eq_getElem hv⟩
  have hpf : parseFieldDescriptor d = some ty := (H.1 (O, nm, d, ty) (List.mem_of_getElem? hk)).2
  obtain ⟨T', h', X', e', Wh, stp⟩ := putF (own := own) (R0 := O) (O := O) (n := nm) (d := d) (host := host) (C := C') (kk := nf) (v := v) (old := v0) X C.1 (C.2.2.2.2.2.2.1 _ _ hM).1 (C.2.2.2.2.2.2.1 _ _ hM).2 w Via.refl rfl (fld_of g1 (g3 i _ v0 hk hv0)) (exa_of g1 g2) (hlay.imp id fun q => ⟨q.1, q.2.1, C.2.2.2.2.2.1.trans q.2.2⟩) wi (ty := ty) hpf hnar hfit (g := mkF m pc Ls (v :: .ref a :: st)) rfl rfl (hb C.2.1 hd)
  subst e'
  have hset : ∀ c, ObjC Z C' ks vs c → Jvm.RoadKit.slotOf Z O nm d < c.slots.size → ObjC Z C' ks (vs.set i v) (c.setSlot (Jvm.RoadKit.slotOf Z O nm d) v) := fun c hc hsl => ObjC.set (kk := (O, nm, d, ty)) hc H hk hv hsl
  obtain ⟨t, r1, r2⟩ := W s T' _ X' (C.2.2.2.2.2.2.2 s _ _ (Nat.le_of_eq Wh.size.symm) hM) (Fr.snoc X' hF h0) (hO.wr Wh hL hset)
  exact ⟨t, stp t r1, r2⟩
theorem Wk.objInit {idx W0 : Nat} {a : Addr} (C : Cx Z own name bytes maxL ret p m meth c M) (w1 : (Cond.methodLink own idx Lib.objectInit).before a0 Z = true) (w2 : (Cond.instanceMethod Lib.objectInit).before a0 Z = true) (w3 : (Cond.code Lib.objectInit object_method_1_code 1 none).before a0 Z = true) (hd : decode bytes pc = .ok (.invokespecial idx, 3)) (hsz : Ls.size = maxL) (hf : 1 ≤ R.frames) (hW : (st.map fun v => v.category).sum = W0) (hl : W0 + 12 ≤ R.locals) (hp : pc' = pc + 3)
    (W : Wk p l e R m args below meth c M P n0 L k n pc' Ls (st)) : Wk p l e R m args below meth c M P n0 L k n pc Ls (.ref a :: st) := by
  subst hp
  intro s T locs X hM hF hO
  obtain ⟨T', X', e', stp⟩ := initO X C.1 (C.2.2.2.2.2.2.1 _ _ hM).1 (C.2.2.2.2.2.2.1 _ _ hM).2 w1 w2 w3 rfl (g := mkF m pc Ls (.ref a :: st)) rfl (hsz.trans C.2.2.1.symm) (rest := st) rfl (hb C.2.1 hd) hf (W := W0) (by show 2 * 0 + _ ≤ _; omega) hl
  rw [← e'] at hM hO
  obtain ⟨t, r1, r2⟩ := W s T' _ X' hM hF hO
  exact ⟨t, stp t r1, r2⟩
/-! the end: v is returned, Q holds of it and of the heap -/
def Pend (below : List Frame) (FE : Outcome → State → List Loc → Prop) (n0 : Nat) (Q : Option Value → Heap → Prop) (t : State) : Prop := ∃ v L, t.status = .running ∧ Ended t below (.returned v) ∧ Q v t.heap ∧ Fr n0 L ∧ FE (.returned v) t L
def Ok (M : State → Heap → Prop) (FE : Outcome → State → List Loc → Prop) (K N : Nat) : Prop := ∀ (s t : State) (L : List Loc) (k n : Nat) (v : Option Value), M s t.heap → s.WarmedH t.vm → s.sameButNew ({ t with vm := s.vm } : State) L k n → k ≤ K → n ≤ N → FE (.returned v) t L
theorem Wk.retI {z : Int32} {FE : Outcome → State → List Loc → Prop} {Q : Option Value → Heap → Prop} {K N : Nat} (C : Cx Z own name bytes maxL (some .int) p m meth c M) (J : Ok M FE K N) (hd : decode bytes pc = .ok (.ireturn, 1)) (hk : k ≤ K) (hn : n ≤ N) (hq : ∀ h, Own n0 h L → Q (some (.int z)) h) : Wk p l e R m args below meth c M (Pend below FE n0 Q) n0 L k n pc Ls (.int z :: st) := by
  intro s T locs X hM hF hO
  obtain ⟨fs, hr, hrun, hended, hW, hsame⟩ := X.leave (v := some (.int z)) (fun h => by rw [C.2.2.2.1] at h; cases h) C.2.2.2.2.1
  exact ⟨_, Jvm.RoadKit.retI X C.1 C.2.2.2.1 (hb C.2.1 hd) hr, _, locs, hrun, hended, hq _ hO, hF, J s _ locs k n _ hM hW hsame hk hn⟩
theorem Wk.retN {z z' : Int32} {ty : FieldType} {FE : Outcome → State → List Loc → Prop} {Q : Option Value → Heap → Prop} {K N : Nat} (C : Cx Z own name bytes maxL (some ty) p m meth c M) (J : Ok M FE K N) (hd : decode bytes pc = .ok (.ireturn, 1)) (hk : k ≤ K) (hn : n ≤ N) (ht : ty = .boolean ∨ ty = .byte ∨ ty = .char ∨ ty = .short) (hz : nar ty z = z') (hq : ∀ h, Own n0 h L → Q (some (.int z')) h) : Wk p l e R m args below meth c M (Pend below FE n0 Q) n0 L k n pc Ls (.int z :: st) := by
  subst hz
  intro s T locs X hM hF hO
  obtain ⟨fs, hr, hrun, hended, hW, hsame⟩ := X.leave (v := some (.int (nar ty z))) (fun h => by rw [C.2.2.2.1] at h; cases h) C.2.2.2.2.1
  exact ⟨_, Jvm.RoadKit.retN X C.1 C.2.2.2.1 ht (hb C.2.1 hd) hr, _, locs, hrun, hended, hq _ hO, hF, J s _ locs k n _ hM hW hsame hk hn⟩
theorem Wk.retL {z : Int64} {FE : Outcome → State → List Loc → Prop} {Q : Option Value → Heap → Prop} {K N : Nat} (C : Cx Z own name bytes maxL (some .long) p m meth c M) (J : Ok M FE K N) (hd : decode bytes pc = .ok (.lreturn, 1)) (hk : k ≤ K) (hn : n ≤ N) (hq : ∀ h, Own n0 h L → Q (some (.long z)) h) : Wk p l e R m args below meth c M (Pend below FE n0 Q) n0 L k n pc Ls (.long z :: []) := by
  intro s T locs X hM hF hO
  obtain ⟨fs, hr, hrun, hended, hW, hsame⟩ := X.leave (v := some (.long z)) (fun h => by rw [C.2.2.2.1] at h; cases h) C.2.2.2.2.1
  exact ⟨_, X.lreturnOut C.1 C.2.2.2.1 (hb C.2.1 hd) hr, _, locs, hrun, hended, hq _ hO, hF, J s _ locs k n _ hM hW hsame hk hn⟩
theorem Wk.retA {z : Value} {ty : FieldType} {FE : Outcome → State → List Loc → Prop} {Q : Option Value → Heap → Prop} {K N : Nat} (C : Cx Z own name bytes maxL (some ty) p m meth c M) (J : Ok M FE K N) (hd : decode bytes pc = .ok (.areturn, 1)) (hk : k ≤ K) (hn : n ≤ N) (hz : z.isRef = true) (ht : ty.isReference = true) (hq : ∀ h, Own n0 h L → Q (some z) h) : Wk p l e R m args below meth c M (Pend below FE n0 Q) n0 L k n pc Ls (z :: []) := by
  intro s T locs X hM hF hO
  obtain ⟨fs, hr, hrun, hended, hW, hsame⟩ := X.leave (v := some z) (fun h => by rw [C.2.2.2.1] at h; cases h) C.2.2.2.2.1
  exact ⟨_, X.areturnOut C.1 hz C.2.2.2.1 ht (hb C.2.1 hd) hr, _, locs, hrun, hended, hq _ hO, hF, J s _ locs k n _ hM hW hsame hk hn⟩
theorem Wk.retV {FE : Outcome → State → List Loc → Prop} {Q : Option Value → Heap → Prop} {K N : Nat} (C : Cx Z own name bytes maxL none p m meth c M) (J : Ok M FE K N) (hd : decode bytes pc = .ok (.return_, 1)) (hk : k ≤ K) (hn : n ≤ N) (hq : ∀ h, Own n0 h L → Q none h) : Wk p l e R m args below meth c M (Pend below FE n0 Q) n0 L k n pc Ls ([]) := by
  intro s T locs X hM hF hO
  obtain ⟨fs, hr, hrun, hended, hW, hsame⟩ := X.leave (v := none) (fun h => by rfl) C.2.2.2.2.1
  exact ⟨_, X.returnOut C.1 C.2.2.2.1 (hb C.2.1 hd) hr, _, locs, hrun, hended, hq _ hO, hF, J s _ locs k n _ hM hW hsame hk hn⟩
/-- a method's contract: called with as' over the heap h it returns, and Q holds -/
def Meth (l : Launch) (Z : State) (y : MethodName) (bytes : ByteArray) (maxL : Nat) (ret : Option FieldType) (ws : List Jvm.Cond) (rm : Room) (as' : Array Value) (h : Heap) (n0 : Nat) (Q : Option Value → Heap → Prop) : Prop :=
  MetFree l y (head1 (Jvm.Cond.code y bytes maxL ret :: ws) rm) (fun a U => a = as' ∧ Z.Warmed39 U.vm ∧ U.heap = h) (fun _ _ _ _ _ => True) (fun _ U o U' => ∃ v L, o = .returned v ∧ (Q v U'.heap ∧ h.size ≤ U'.heap.size ∧ Fr n0 L) ∧ FrameEnd U o U' L rm.cells rm.slots)
theorem Meth.of {y : MethodName} {ws : List Jvm.Cond} {rm : Room} {as' : Array Value} {h : Heap} {Q : Option Value → Heap → Prop} (hp : plainFor y = true) (hE : ∀ m, entryFrame m as' maxL = mkF m 0 Ls []) (hO : Own n0 h L)
    (body : ∀ (p : Program) (e : Env) (m : MethodId) (below : List Frame) (meth : Method) (c : Code) (M : State → Heap → Prop) (FE : Outcome → State → List Loc → Prop), Cx Z y.cls y.name bytes maxL ret p m meth c M → Ok M FE rm.cells rm.slots → Wk p l e rm m as' below meth c M (Pend below FE n0 Q) n0 L 0 0 0 Ls []) :
    Meth l Z y bytes maxL ret ws rm as' h n0 Q := by
  refine MetFree.of_bodySF hp hisR ?_
  intro p e s m args below meth c s₁ Bd hml0 hP hK
  obtain ⟨rfl, hZ, hh⟩ := hP
  have hnm := (name_of_methodNamed Bd.named Bd.method).1
  have e0 : s₁.heap = h := by rw [← hh, Bd.state]; rfl
  have CC : Cx Z y.cls y.name bytes maxL ret p m meth c (fun s' _ => s' = s) := ⟨Bd.exec, Bd.bytes, hml0, Bd.returns, Bd.notSynchronized, hnm, fun s' _ q => by subst q; exact ⟨hZ, findClass_of_methodNamed Bd.named⟩, fun _ _ _ _ q => q⟩
  have JJ : Ok (fun s' _ => s' = s) (fun o t L => FrameEnd s o t L rm.cells rm.slots) rm.cells rm.slots := fun s' t L k n v q hW hs hk hn => by subst q; exact ⟨⟨_, rfl⟩, hW, hs.mono hk hn⟩
  obtain ⟨t, r1, v, Lo, r2, r3, r4, r5, r6⟩ := body p e m below meth c _ _ CC JJ s s₁ [] (Stand.of_body Bd) rfl (Fr.nil n0) (by rw [e0]; exact hO)
  refine ⟨t, .returned v, castTop (hE m) r1, r2, r3, v, Lo, rfl, ⟨r4, ?_, r5⟩, r6⟩
  rw [← hh]; exact r6.2.2.2.1
theorem Wk.callS {y : MethodName} {bytes' : ByteArray} {maxL' : Nat} {ret' : Option FieldType} {index W0 : Nat} {rm : Room} {Q : Option Value → Heap → Prop} {argsL st0 : List Value} {ps : List FieldType} {rt : Option FieldType} (C : Cx Z own name bytes maxL ret p m meth c M) (w1 : (Jvm.Cond.methodLink own index y).before a0 Z = true) (w2 : (Jvm.Cond.static y).before a0 Z = true) (w3 : (Jvm.Cond.initialized y.cls).before a0 Z = true) (w4 : (Jvm.Cond.code y bytes' maxL' ret').before a0 Z = true) (hy : y.cls ≠ "java/lang/invoke/MethodHandle" ∧ y.cls ≠ "java/lang/invoke/VarHandle")
    (hM : ∀ h, Own n0 h L → Meth l Z y bytes' maxL' ret' [] rm argsL.toArray h n0 Q) (hf : rm.frames + 1 ≤ R.frames) (hl : W0 + (maxL' + 11) + rm.locals ≤ R.locals) (hk : k + rm.cells ≤ R.cells) (hn : n + rm.slots ≤ R.slots) (hd : decode bytes pc = .ok (.invokestatic index, 3)) (hsz : Ls.size = maxL) (hpd : parseMethodDescriptor y.desc = some ⟨ps, rt⟩) (hlen : argsL.length = ps.length) (hst : st0 = argsL.reverse ++ st) (hW : (st.map fun v => v.category).sum = W0) (hp : pc' = pc + 3)
    (W : ∀ v h', Q v h' → ∃ L', Own n0 h' L' ∧ Wk p l e R m args below meth c M P n0 L' (k + rm.cells) (n + rm.slots) pc' Ls (v.toList ++ st)) : Wk p l e R m args below meth c M P n0 L k n pc Ls (st0) := by
  subst hp hst
  intro s T locs X hMs hF hO
  obtain ⟨hZ, hown⟩ := C.2.2.2.2.2.2.1 _ _ hMs
  obtain ⟨_, _, ⟨T1, L1, k1, n1⟩, -, X', ⟨Lc, hQ, l1, y1, z1⟩, stp⟩ := Jvm.LawKit.callS X C.1 (y := y) hown (mvT hZ w1) (mvT hZ w2) (mvT hZ w3) (mvT hZ w4) hy (backOf (W := W0) (Q := fun v h' L => Q v h' ∧ T.heap.size ≤ h'.size ∧ Fr n0 L) (hM _ hO) hZ w4 w3 hf hl) (g := mkF m pc Ls (argsL.reverse ++ st)) rfl (hsz.trans C.2.2.1.symm) (argsL := argsL) (rest := st) (lenOf hpd hlen) rfl (by show 2 * 0 + _ ≤ _; omega) (hb C.2.1 hd) (fun _ _ => ⟨rfl, rfl, hk, hn⟩)
  dsimp only [Pt.U, Pt.locs, Pt.cells, Pt.slots] at X' l1 y1 z1 stp hQ
  subst l1 y1 z1
  obtain ⟨hQ1, hQ2, hQ3⟩ := hQ
  obtain ⟨L', O', W'⟩ := W _ _ hQ1
  obtain ⟨t, r1, r2⟩ := W' s T1 _ X' (C.2.2.2.2.2.2.2 s _ _ hQ2 hMs) (Fr.app hF hQ3) O'
  exact ⟨t, stp t r1, r2⟩
theorem Wk.callI {y : MethodName} {bytes' : ByteArray} {maxL' : Nat} {ret' : Option FieldType} {index W0 : Nat} {rm : Room} {Q : Option Value → Heap → Prop} {a : Addr} {argsL st0 : List Value} {ps : List FieldType} {rt : Option FieldType} (C : Cx Z own name bytes maxL ret p m meth c M) (hret' : ret' = none) (hy1 : y.name = "<init>") (w1 : (Jvm.Cond.methodLink own index y).before a0 Z = true) (w2 : (Jvm.Cond.instanceMethod y).before a0 Z = true) (w3 : (Jvm.Cond.initialized y.cls).before a0 Z = true) (w4 : (Jvm.Cond.code y bytes' maxL' ret').before a0 Z = true) (hy : y.cls ≠ "java/lang/invoke/MethodHandle" ∧ y.cls ≠ "java/lang/invoke/VarHandle")
    (hM : ∀ h, Own n0 h L → Meth l Z y bytes' maxL' ret' [] rm (.ref a :: argsL).toArray h n0 Q) (hf : rm.frames + 1 ≤ R.frames) (hl : W0 + (maxL' + 11) + rm.locals ≤ R.locals) (hk : k + rm.cells ≤ R.cells) (hn : n + rm.slots ≤ R.slots) (hd : decode bytes pc = .ok (.invokespecial index, 3)) (hsz : Ls.size = maxL) (hpd : parseMethodDescriptor y.desc = some ⟨ps, rt⟩) (hlen : argsL.length = ps.length) (hst : st0 = argsL.reverse ++ .ref a :: st) (hW : (st.map fun v => v.category).sum = W0) (hp : pc' = pc + 3)
    (W : ∀ v h', Q v h' → ∃ L', Own n0 h' L' ∧ Wk p l e R m args below meth c M P n0 L' (k + rm.cells) (n + rm.slots) pc' Ls (v.toList ++ st)) : Wk p l e R m args below meth c M P n0 L k n pc Ls (st0) := by
  subst hp hst
  intro s T locs X hMs hF hO
  subst hret'
  obtain ⟨hZ, hown⟩ := C.2.2.2.2.2.2.1 _ _ hMs
  obtain ⟨_, _, ⟨T1, L1, k1, n1⟩, -, X', ⟨Lc, hQ, l1, y1, z1⟩, stp⟩ := X.specialBack C.1 (y := y) hy1 hown (mvT hZ w1) (mvT hZ w2) (mvT hZ w4) hy (backOf (W := W0) (Q := fun v h' L => Q v h' ∧ T.heap.size ≤ h'.size ∧ Fr n0 L) (hM _ hO) hZ w4 w3 hf hl) (g := mkF m pc Ls (argsL.reverse ++ .ref a :: st)) rfl (hsz.trans C.2.2.1.symm) (Steps.refl _) (a := a) (argsL := argsL) (rest := st) (lenOf hpd hlen) rfl (by show 2 * 0 + _ ≤ _; omega) (hb C.2.1 hd) (fun _ _ => ⟨rfl, rfl, hk, hn⟩)
  dsimp only [Pt.U, Pt.locs, Pt.cells, Pt.slots] at X' l1 y1 z1 stp hQ
  subst l1 y1 z1
  obtain ⟨hQ1, hQ2, hQ3⟩ := hQ
  obtain ⟨L', O', W'⟩ := W _ _ hQ1
  obtain ⟨t, r1, r2⟩ := W' s T1 _ X' (C.2.2.2.2.2.2.2 s _ _ hQ2 hMs) (Fr.app hF hQ3) O'
  exact ⟨t, stp.trans r1, r2⟩
theorem Wk.callV {y : MethodName} {C' : String} {bytes' : ByteArray} {maxL' : Nat} {ret' : Option FieldType} {index W0 q : Nat} {rm : Room} {Q : Option Value → Heap → Prop} {a : Addr} {ks : List (String × String × String × FieldType)} {vs : List Value} {argsL st0 : List Value} {ps : List FieldType} {rt : Option FieldType} (C : Cx Z own name bytes maxL ret p m meth c M) (hL : L[q]? = some (a, ObjC Z C' ks vs)) (w1 : (Jvm.Cond.methodLink own index y).before a0 Z = true) (w5 : (Jvm.Cond.declares y).before a0 Z = true) (w6 : (Jvm.Cond.selects C' y y).before a0 Z = true) (w2 : (Jvm.Cond.instanceMethod y).before a0 Z = true) (w3 : (Jvm.Cond.initialized y.cls).before a0 Z = true) (w4 : (Jvm.Cond.code y bytes' maxL' ret').before a0 Z = true) (hy : y.cls ≠ "java/lang/invoke/MethodHandle" ∧ y.cls ≠ "java/lang/invoke/VarHandle")
    (hM : ∀ h, Own n0 h L → Meth l Z y bytes' maxL' ret' [] rm (.ref a :: argsL).toArray h n0 Q) (hf : rm.frames + 1 ≤ R.frames) (hl : W0 + (maxL' + 11) + rm.locals ≤ R.locals) (hk : k + rm.cells ≤ R.cells) (hn : n + rm.slots ≤ R.slots) (hd : decode bytes pc = .ok (.invokevirtual index, 3)) (hsz : Ls.size = maxL) (hpd : parseMethodDescriptor y.desc = some ⟨ps, rt⟩) (hlen : argsL.length = ps.length) (hst : st0 = argsL.reverse ++ .ref a :: st) (hW : (st.map fun v => v.category).sum = W0) (hp : pc' = pc + 3)
    (W : ∀ v h', Q v h' → ∃ L', Own n0 h' L' ∧ Wk p l e R m args below meth c M P n0 L' (k + rm.cells) (n + rm.slots) pc' Ls (v.toList ++ st)) : Wk p l e R m args below meth c M P n0 L k n pc Ls (st0) := by
  subst hp hst
  intro s T locs X hMs hF hO
  obtain ⟨hZ, hown⟩ := C.2.2.2.2.2.2.1 _ _ hMs
  obtain ⟨h0, cl, g1, g2, g3⟩ := hO.2.2 _ _ hL
  obtain ⟨cq, kq, qa, qb, qc⟩ := isOf hZ rfl (exa_of g1 g2)
  obtain ⟨_, _, ⟨T1, L1, k1, n1⟩, -, X', ⟨Lc, hQ, l1, y1, z1⟩, stp⟩ := X.virtualBack C.1 (y := y) (z := y) hown (mvT hZ w1) (mvT hZ w5) (notFace_of_selects (args := #[]) (mvT hZ w6)) (mvT hZ w6) (mvT hZ w2) hy (backOf (W := W0) (Q := fun v h' L => Q v h' ∧ T.heap.size ≤ h'.size ∧ Fr n0 L) (hM _ hO) hZ w4 w3 hf hl) qa qc (g := mkF m pc Ls (argsL.reverse ++ .ref a :: st)) rfl (hsz.trans C.2.2.1.symm) (Steps.refl _) (argsL := argsL) (rest := st) (lenOf hpd hlen) rfl (by show 2 * 0 + _ ≤ _; omega) (hb C.2.1 hd) (fun _ _ => ⟨rfl, rfl, hk, hn⟩)
  dsimp only [Pt.U, Pt.locs, Pt.cells, Pt.slots] at X' l1 y1 z1 stp hQ
  subst l1 y1 z1
  obtain ⟨hQ1, hQ2, hQ3⟩ := hQ
  obtain ⟨L', O', W'⟩ := W _ _ hQ1
  obtain ⟨t, r1, r2⟩ := W' s T1 _ X' (C.2.2.2.2.2.2.2 s _ _ hQ2 hMs) (Fr.app hF hQ3) O'
  exact ⟨t, stp.trans r1, r2⟩
end OwnKit
section OwnMore
variable {p : Program} {l : Launch} {e : Env} {R : Room} {m : MethodId} {args : Array Value} {below : List Frame} {meth : Method} {c : Code} {M : State → Heap → Prop} {P : State → Prop} {n0 : Nat} {Z : State} {a0 : Array Value} {own name : String} {bytes : ByteArray} {maxL : Nat} {ret : Option FieldType} {L : List (Addr × (Cell → Prop))} {k n pc pc' : Nat} {Ls Ls' : Array Slot} {st : List Value}
def vals (f : Nat → Int32) (n : Nat) : List Value := (List.range n).map fun i => .int (f i)
theorem vals_len (f : Nat → Int32) (n : Nat) : (vals f n).length = n := by simp [vals]
theorem vals_at (f : Nat → Int32) {n i : Nat} (h : i < n) : (vals f n)[i]? = some (.int (f i)) := by simp [vals, h]
theorem vals_getD (f : Nat → Int32) {n i : Nat} (d : Value) (h : i < n) : (vals f n).getD i d = .int (f i) := by rw [List.getD_eq_getElem?_getD, vals_at f h]; rfl
theorem clamp32 {n : Nat} (h : n < 2 ^ 31) : n.toInt32.toNatClampNeg = n ∧ ¬ n.toInt32 < 0 := by
  have e : n.toInt32.toInt = n := len_toInt h
  refine ⟨by show n.toInt32.toInt.toNat = n; omega, fun q => ?_⟩
  rw [Int32.lt_iff_toInt_lt] at q
  have : (0 : Int32).toInt = 0 := rfl
  omega
theorem clampI {z : Int32} {i : Nat} (h : z.toInt = (i : Int)) : z.toNatClampNeg = i ∧ ¬ z < 0 := by
  refine ⟨by show z.toInt.toNat = i; omega, fun q => ?_⟩
  rw [Int32.lt_iff_toInt_lt] at q
  have : (0 : Int32).toInt = 0 := rfl
  omega
theorem toArv {ty : FieldType} {f : Nat → Int32} {n : Nat} {h : Heap} {a : Addr} {c : Cell} (h1 : h[a]? = some c) (A : ArrC Z ty n f c) (hn : n < 2 ^ 31) : Arv Z h a c.cls ty n.toInt32 (vals f n) (.int 0) := by
  obtain ⟨A1, A2, A3, A4, A5, -⟩ := A
  have e := clamp32 hn
  exact ⟨c, ⟨h1, A1, A2⟩, rfl, by rw [A3, e.1], e.2, fun i hi => by rw [A3] at hi; rw [vals_getD f _ hi]; exact A4 i hi, fun i hi => by rw [A3] at hi; rw [vals_getD f _ hi]; exact A5 i hi⟩
theorem ofArv {ty : FieldType} {g : Nat → Int32} {n : Nat} {h : Heap} {a : Addr} {k : ClassId} {vs : List Value} {d : Value} (B : Arv Z h a k ty n.toInt32 vs d) (hn : n < 2 ^ 31) (hv : ∀ i, i < n → vs.getD i d = .int (g i)) (E : Exa Z h a ("[" ++ ty.toString)) : Hs h a (ArrC Z ty n g) := by
  obtain ⟨c, A, -, S, -, H, G⟩ := B
  have e := clamp32 hn
  rw [e.1] at S
  refine ⟨c, A.1, A.2.1, A.2.2, S, fun i hi => ?_, fun i hi => ?_, of_exa A.1 E⟩
  · rw [← hv i hi]; exact H i (by rw [S]; exact hi)
  · rw [← hv i hi]; exact G i (by rw [S]; exact hi)
def cpy (f g : Nat → Int32) (i j k : Nat) : Nat → Int32 := fun x => if j ≤ x ∧ x < j + k then f (i + (x - j)) else g x
theorem cpy_at (f g : Nat → Int32) {na nb i j k x : Nat} (d d' : Value) (h4 : i + k ≤ na) (h5 : j + k ≤ nb) (hx : x < nb) :
    ((vals g nb).take j ++ ((List.range k).map fun t => (vals f na).getD (i + t) d') ++ (vals g nb).drop (j + k)).getD x d = .int (cpy f g i j k x) := by
  have l1 : ((vals g nb).take j).length = j := by rw [List.length_take, vals_len]; omega
  have l2 : ((List.range k).map fun t => (vals f na).getD (i + t) d').length = k := by simp
  rw [List.getD_eq_getElem?_getD]
  unfold cpy
  by_cases h1 : x < j
  · rw [if_neg (by omega), List.append_assoc, List.getElem?_append_left (by rw [l1]; exact h1), List.getElem?_take_of_lt h1, vals_at g hx]; rfl
  · by_cases h2 : x < j + k
    · rw [if_pos ⟨by omega, h2⟩, List.getElem?_append_left (by rw [List.length_append, l1, l2]; exact h2), List.getElem?_append_right (by rw [l1]; omega), l1, List.getElem?_map, List.getElem?_range (by omega)]
      show ((vals f na).getD (i + (x - j)) d') = _
      rw [vals_getD f _ (by omega)]
    · rw [if_neg (by omega), List.getElem?_append_right (by rw [List.length_append, l1, l2]; omega), List.length_append, l1, l2, List.getElem?_drop, show j + k + (x - (j + k)) = x by omega, vals_at g hx]; rfl
theorem Wk.arraycopy {ty : FieldType} {a b : Addr} {f g : Nat → Int32} {na nb q1 q2 i j kk W0 index : Nat} {sp dp ln : Int32} (C : Cx Z own name bytes maxL ret p m meth c M) (w1 : (Jvm.Cond.methodLink own index Jvm.Stand.acN).before a0 Z = true) (w2 : (Jvm.Cond.native Jvm.Stand.acN).before a0 Z = true) (w3 : (Jvm.Cond.static Jvm.Stand.acN).before a0 Z = true) (w4 : (Jvm.Cond.initialized "java/lang/System").before a0 Z = true)
    (hd : decode bytes pc = .ok (.invokestatic index, 3)) (hq1 : L[q1]? = some (a, ArrC Z ty na f)) (hq2 : L[q2]? = some (b, ArrC Z ty nb g)) (hprim : refKind ty = false) (hna : na < 2 ^ 31) (hnb : nb < 2 ^ 31) (hsp : sp.toInt = (i : Int)) (hdp : dp.toInt = (j : Int)) (hln : ln.toInt = (kk : Int)) (h4 : i + kk ≤ na) (h5 : j + kk ≤ nb) (hsz : Ls.size = maxL) (hf : 1 ≤ R.frames) (hW : (st.map fun v => v.category).sum = W0) (hlo : W0 + (nativeFrameWords "java/lang/System" "arraycopy" 5 + 11) ≤ R.locals) (hp : pc' = pc + 3)
    (W : Wk p l e R m args below meth c M P n0 (L.set q2 (b, ArrC Z ty nb (cpy f g i j kk))) k n pc' Ls (st)) : Wk p l e R m args below meth c M P n0 L k n pc Ls (.int ln :: .int dp :: .ref b :: .int sp :: .ref a :: st) := by
  subst hp
  intro s T locs X hM hF hO
  obtain ⟨hZ, hown⟩ := C.2.2.2.2.2.2.1 _ _ hM
  obtain ⟨-, ca, ga, Aa⟩ := hO.2.2 _ _ hq1
  obtain ⟨hb0, cb, gb, Ab⟩ := hO.2.2 _ _ hq2
  have es := clampI hsp
  have ed := clampI hdp
  have el := clampI hln
  have ea := clamp32 hna
  have eb := clamp32 hnb
  obtain ⟨T', h', L', X', e', N', K', B', stp⟩ := cpA X C.1 hZ hown w1 w2 w3 w4 rfl (toArv ga Aa hna) (toArv gb Ab hnb) (Or.inl ⟨rfl, hprim⟩) es.2 ed.2 el.2 (by rw [es.1, el.1, ea.1]; exact h4) (by rw [ed.1, el.1, eb.1]; exact h5) rfl (by rw [ed.1, el.1, vals_len]; exact h5) hF hb0 (g := mkF m pc Ls (.int ln :: .int dp :: .ref b :: .int sp :: .ref a :: st)) rfl (hsz.trans C.2.2.1.symm) rfl (hb C.2.1 hd) hf (W := W0) (by show 2 * 0 + _ ≤ _; omega) hlo
  subst e'
  have E' : Exa Z T'.heap b ("[" ++ ty.toString) := (exa_of gb Ab.2.2.2.2.2).keep K'
  rw [es.1, ed.1, el.1] at B'
  have HB : Hs T'.heap b (ArrC Z ty nb (cpy f g i j kk)) := ofArv B' hnb (fun x hx => cpy_at f g _ _ h4 h5 hx) E'
  obtain ⟨t, r1, r2⟩ := W s T' L' X' (C.2.2.2.2.2.2.2 s _ _ K'.1 hM) N' (hO.set hq2 K'.1 (fun x cx hx hc => K'.2.1 x cx hc (fun q => hx (List.mem_singleton.mp q))) HB)
  exact ⟨t, stp t r1, r2⟩
theorem Wk.cloneA {ty : FieldType} {a : Addr} {f : Nat → Int32} {nn q W0 cap index : Nat} {ad : String} (C : Cx Z own name bytes maxL ret p m meth c M) (w1 : (Jvm.Cond.methodLink own index ⟨ad, "clone", "()Ljava/lang/Object;"⟩).before a0 Z = true) (w2 : (Jvm.Cond.sameMethod ad "java/lang/Object" "clone" "()Ljava/lang/Object;").before a0 Z = true) (w3 : (Jvm.Cond.native ⟨"java/lang/Object", "clone", "()Ljava/lang/Object;"⟩).before a0 Z = true) (w4 : (Jvm.Cond.instanceMethod ⟨"java/lang/Object", "clone", "()Ljava/lang/Object;"⟩).before a0 Z = true) (w5 : (Jvm.Cond.selects ad ⟨ad, "clone", "()Ljava/lang/Object;"⟩ ⟨"java/lang/Object", "clone", "()Ljava/lang/Object;"⟩).before a0 Z = true) (w6 : (Jvm.Cond.castable ad "java/lang/Cloneable").before a0 Z = true)
    (hd : decode bytes pc = .ok (.invokevirtual index, 3)) (had : "[" ++ ty.toString = ad) (hq : L[q]? = some (a, ArrC Z ty nn f)) (hnn : nn < 2 ^ 31) (hcap : nn ≤ cap) (hsz : Ls.size = maxL) (hf : 1 ≤ R.frames) (hW : (st.map fun v => v.category).sum = W0) (hlo : W0 + 14 ≤ R.locals) (hk : k + 1 ≤ R.cells) (hn : n + cap ≤ R.slots) (hp : pc' = pc + 3)
    (W : ∀ b : Addr, Wk p l e R m args below meth c M P n0 ((b, ArrC Z ty nn f) :: L) (k + 1) (n + cap) pc' Ls (.ref b :: st)) : Wk p l e R m args below meth c M P n0 L k n pc Ls (.ref a :: st) := by
  subst hp
  intro s T locs X hM hF hO
  obtain ⟨hZ, hown⟩ := C.2.2.2.2.2.2.1 _ _ hM
  obtain ⟨-, ca, ga, Aa⟩ := hO.2.2 _ _ hq
  have ea := clamp32 hnn
  obtain ⟨T', h', X', e', E, F', Ex, stp⟩ := cloneH X C.1 hZ hown w1 w2 w3 w4 w5 w6 rfl (toArv ga Aa hnn).arh (had ▸ exa_of ga Aa.2.2.2.2.2) (g := mkF m pc Ls (.ref a :: st)) rfl (hsz.trans C.2.2.1.symm) rfl (hb C.2.1 hd) hf (W := W0) (cap := cap) (by show 2 * 0 + _ ≤ _; omega) hlo (by rw [ea.1]; exact hcap) hk hn
  subst e'
  have HB : Hs T'.heap T.heap.size (ArrC Z ty nn f) := ofArv F' hnn (fun x hx => vals_getD f _ hx) (had ▸ Ex)
  obtain ⟨t, r1, r2⟩ := W T.heap.size s T' _ X' (C.2.2.2.2.2.2.2 s _ _ E.1 hM) hF (hO.cons E HB)
  exact ⟨t, stp t r1, r2⟩
theorem Wk.castA {ty : FieldType} {a : Addr} {f : Nat → Int32} {nn q index : Nat} {ad : String} (C : Cx Z own name bytes maxL ret p m meth c M) (w : (Jvm.Cond.classLink own index ad).before a0 Z = true) (hd : decode bytes pc = .ok (.checkcast index, 3)) (had : "[" ++ ty.toString = ad) (hq : L[q]? = some (a, ArrC Z ty nn f)) (hp : pc' = pc + 3)
    (W : Wk p l e R m args below meth c M P n0 L k n pc' Ls (.ref a :: st)) : Wk p l e R m args below meth c M P n0 L k n pc Ls (.ref a :: st) := by
  subst hp
  intro s T locs X hM hF hO
  obtain ⟨hZ, hown⟩ := C.2.2.2.2.2.2.1 _ _ hM
  obtain ⟨-, ca, ga, Aa⟩ := hO.2.2 _ _ hq
  have Ex : Exa Z T.heap a ad := had ▸ exa_of ga Aa.2.2.2.2.2
  obtain ⟨T', X', e', stp⟩ := castY X C.1 hZ hown w rfl (Ins.self Ex) (g := mkF m pc Ls (.ref a :: st)) rfl rfl (hb C.2.1 hd)
  rw [← e'] at hM hO
  obtain ⟨t, r1, r2⟩ := W s T' _ X' hM hF hO
  exact ⟨t, stp t r1, r2⟩
theorem notFace_same {C' : String} {y x' z : MethodName} (w : (Jvm.Cond.selects C' x' z).before a0 Z = true) (hc : y.cls = z.cls) : ∀ s : State, Z.Warmed39 s.vm → NotFace s y := by
  intro s hZ r0 h0
  obtain ⟨c2, r2, m2, -, -, q3, -, kP, hkP, hkPi⟩ := Cond.selects_spec (mvT (args := #[]) hZ w)
  have e1 := findClass_of_methodNamed h0
  have e2 := findClass_of_methodNamed q3
  rw [hc] at e1
  have e3 : r0.cls = m2.cls := Option.some.inj (e1.symm.trans e2)
  exact ⟨kP, e3 ▸ hkP, hkPi⟩
theorem mvMN {s : State} {args' : Array Value} {own' host : String} {y : MethodName} {index : Nat} (hZ : Z.Warmed39 s.vm) (w : (Jvm.Cond.methodLinkNest own' index y host).before a0 Z = true) : (Jvm.Cond.methodLinkNest own' index y host).before args' s = true := (Cond.methodLinkNest_wide hZ w :)
theorem Wk.callIN {y : MethodName} {host : String} {bytes' : ByteArray} {maxL' : Nat} {ret' : Option FieldType} {index W0 : Nat} {rm : Room} {Q : Option Value → Heap → Prop} {a : Addr} {argsL st0 : List Value} {ps : List FieldType} {rt : Option FieldType} (C : Cx Z own name bytes maxL ret p m meth c M) (hret' : ret' = none) (hy1 : y.name = "<init>") (w1 : (Jvm.Cond.methodLinkNest own index y host).before a0 Z = true) (w2 : (Jvm.Cond.instanceMethod y).before a0 Z = true) (w3 : (Jvm.Cond.initialized y.cls).before a0 Z = true) (w4 : (Jvm.Cond.code y bytes' maxL' ret').before a0 Z = true) (hy : y.cls ≠ "java/lang/invoke/MethodHandle" ∧ y.cls ≠ "java/lang/invoke/VarHandle")
    (hM : ∀ h, Own n0 h L → Meth l Z y bytes' maxL' ret' [] rm (.ref a :: argsL).toArray h n0 Q) (hf : rm.frames + 1 ≤ R.frames) (hl : W0 + (maxL' + 11) + rm.locals ≤ R.locals) (hk : k + rm.cells ≤ R.cells) (hn : n + rm.slots ≤ R.slots) (hd : decode bytes pc = .ok (.invokespecial index, 3)) (hsz : Ls.size = maxL) (hpd : parseMethodDescriptor y.desc = some ⟨ps, rt⟩) (hlen : argsL.length = ps.length) (hst : st0 = argsL.reverse ++ .ref a :: st) (hW : (st.map fun v => v.category).sum = W0) (hp : pc' = pc + 3)
    (W : ∀ v h', Q v h' → ∃ L', Own n0 h' L' ∧ Wk p l e R m args below meth c M P n0 L' (k + rm.cells) (n + rm.slots) pc' Ls (v.toList ++ st)) : Wk p l e R m args below meth c M P n0 L k n pc Ls (st0) := by
  subst hp hst hret'
  intro s T locs X hMs hF hO
  obtain ⟨hZ, hown⟩ := C.2.2.2.2.2.2.1 _ _ hMs
  obtain ⟨_, _, ⟨T1, L1, k1, n1⟩, -, X', ⟨Lc, hQ, l1, y1, z1⟩, stp⟩ := X.specialBackNest C.1 (y := y) hy1 hown (mvMN hZ w1) (mvT hZ w2) (mvT hZ w4) hy (backOf (W := W0) (Q := fun v h' L => Q v h' ∧ T.heap.size ≤ h'.size ∧ Fr n0 L) (hM _ hO) hZ w4 w3 hf hl) (g := mkF m pc Ls (argsL.reverse ++ .ref a :: st)) rfl (hsz.trans C.2.2.1.symm) (Steps.refl _) (a := a) (argsL := argsL) (rest := st) (lenOf hpd hlen) rfl (by show 2 * 0 + _ ≤ _; omega) (hb C.2.1 hd) (fun _ _ => ⟨rfl, rfl, hk, hn⟩)
  dsimp only [Pt.U, Pt.locs, Pt.cells, Pt.slots] at X' l1 y1 z1 stp hQ
  subst l1 y1 z1
  obtain ⟨hQ1, hQ2, hQ3⟩ := hQ
  obtain ⟨L', O', W'⟩ := W _ _ hQ1
  obtain ⟨t, r1, r2⟩ := W' s T1 _ X' (C.2.2.2.2.2.2.2 s _ _ hQ2 hMs) (Fr.app hF hQ3) O'
  exact ⟨t, stp.trans r1, r2⟩
theorem Wk.callP {y : MethodName} {C' : String} {bytes' : ByteArray} {maxL' : Nat} {ret' : Option FieldType} {index W0 q : Nat} {rm : Room} {Q : Option Value → Heap → Prop} {a : Addr} {ks : List (String × String × String × FieldType)} {vs : List Value} {argsL st0 : List Value} {ps : List FieldType} {rt : Option FieldType} (C : Cx Z own name bytes maxL ret p m meth c M) (hL : L[q]? = some (a, ObjC Z C' ks vs)) (w1 : (Jvm.Cond.methodLink own index y).before a0 Z = true) (w2 : (Jvm.Cond.instanceMethod y).before a0 Z = true) (w5 : (Jvm.Cond.privateMethod y).before a0 Z = true) (hnf : ∀ s : State, Z.Warmed39 s.vm → NotFace s y) (w3 : (Jvm.Cond.initialized y.cls).before a0 Z = true) (w4 : (Jvm.Cond.code y bytes' maxL' ret').before a0 Z = true) (hy : y.cls ≠ "java/lang/invoke/MethodHandle" ∧ y.cls ≠ "java/lang/invoke/VarHandle")
    (hM : ∀ h, Own n0 h L → Meth l Z y bytes' maxL' ret' [] rm (.ref a :: argsL).toArray h n0 Q) (hf : rm.frames + 1 ≤ R.frames) (hl : W0 + (maxL' + 11) + rm.locals ≤ R.locals) (hk : k + rm.cells ≤ R.cells) (hn : n + rm.slots ≤ R.slots) (hd : decode bytes pc = .ok (.invokevirtual index, 3)) (hsz : Ls.size = maxL) (hpd : parseMethodDescriptor y.desc = some ⟨ps, rt⟩) (hlen : argsL.length = ps.length) (hst : st0 = argsL.reverse ++ .ref a :: st) (hW : (st.map fun v => v.category).sum = W0) (hp : pc' = pc + 3)
    (W : ∀ v h', Q v h' → ∃ L', Own n0 h' L' ∧ Wk p l e R m args below meth c M P n0 L' (k + rm.cells) (n + rm.slots) pc' Ls (v.toList ++ st)) : Wk p l e R m args below meth c M P n0 L k n pc Ls (st0) := by
  subst hp hst
  intro s T locs X hMs hF hO
  obtain ⟨hZ, hown⟩ := C.2.2.2.2.2.2.1 _ _ hMs
  obtain ⟨h0, cl, g1, g2, g3⟩ := hO.2.2 _ _ hL
  have hobj : ∀ z, cl.vm ≠ .statics z := fun z r => by obtain ⟨_, -, -, x3, -⟩ := g2; rw [r] at x3; cases x3
  have v2 := mvT (args := args) hZ w2
  have v4 := mvT (args := args) hZ w4
  obtain ⟨mk, methM, hnamed, hmethM, hstM, habM⟩ := Cond.instanceMethod_spec v2
  obtain ⟨methM', cM, hmethM', -, -, -, -, -, -, hsigM⟩ := Cond.code_spec hnamed v4
  cases hmethM.symm.trans hmethM'
  obtain ⟨kP, hkP, hkPi⟩ := hnf s hZ mk hnamed
  have hselP : selectMethod e.platform s.vm cl.cls mk = .method mk := selectMethod_private hmethM (Cond.privateMethod_at (mvP (args := #[]) hZ w5) mk methM hnamed hmethM)
  obtain ⟨vm₁, X₁, hstep₁⟩ := X.invokevirtual C.1 hown (mvT hZ w1) hnamed hmethM hstM hkP hkPi hy (a := a) (cell := cl) g1 hobj hselP hmethM habM hkP hkPi (g := mkF m pc Ls (argsL.reverse ++ .ref a :: st)) rfl (argsL := argsL) (rest := st) (lenOf hpd hlen _ hsigM) rfl (hb C.2.1 hd)
  have hK := backOf (R := R) (p := p) (e := e) (below := below) (s := s) (args := args) (len := 3) (W := W0) (Q := fun v h' L => Q v h' ∧ T.heap.size ≤ h'.size ∧ Fr n0 L) (hM _ hO) hZ w4 w3 hf hl
  obtain ⟨v, ⟨T1, L1, k1, n1⟩, X', ⟨Lc, hQ, l1, y1, z1⟩, stp⟩ := hK m meth c ⟨T.setVm vm₁, locs, k, n⟩ { mkF m pc Ls (argsL.reverse ++ .ref a :: st) with stack := st } (.invokevirtual index) mk (.ref a :: argsL).toArray X₁ rfl (hsz.trans C.2.2.1.symm) (hb C.2.1 hd) (by show 2 * 0 + (st.map fun v => v.category).sum ≤ W0; omega) (X₁.named hnamed) ⟨rfl, rfl, hk, hn⟩
  dsimp only [Pt.U, Pt.locs, Pt.cells, Pt.slots] at X' l1 y1 z1 stp hQ
  subst l1 y1 z1
  obtain ⟨hQ1, hQ2, hQ3⟩ := hQ
  obtain ⟨L', O', W'⟩ := W _ _ hQ1
  obtain ⟨t, r1, r2⟩ := W' s T1 _ X' (C.2.2.2.2.2.2.2 s _ _ hQ2 hMs) (Fr.app hF hQ3) O'
  exact ⟨t, (hstep₁ _ fun acts => by rw [doInvoke_state]; exact Steps.refl _).trans (stp.trans r1), r2⟩
end OwnMore
abbrev HW (Z : State) (a0 : Array Value) : Prop := ∀ d ∈ tables_1, d.before a0 Z = true
theorem w0 {Z : State} {a0 : Array Value} (hw : HW Z a0) : (Jvm.Cond.constant "com/example/kensaku/kensaku/index/BuilderBuildPinLaw" (7 : Nat) (1073741823 : Int32)).before a0 Z = true := hw _ (List.mem_of_getElem? (i := 0) rfl)
theorem w1 {Z : State} {a0 : Array Value} (hw : HW Z a0) : (Jvm.Cond.methodLink "com/example/kensaku/kensaku/index/BuilderBuildPinLaw" (8 : Nat) ({ cls := "com/example/kensaku/kensaku/index/BuilderBuildPinLaw", name := "run", desc := "(I)[I" } : Jvm.MethodName)).before a0 Z = true := hw _ (List.mem_of_getElem? (i := 1) rfl)
theorem w2 {Z : State} {a0 : Array Value} (hw : HW Z a0) : (Jvm.Cond.static ({ cls := "com/example/kensaku/kensaku/index/BuilderBuildPinLaw", name := "run", desc := "(I)[I" } : Jvm.MethodName)).before a0 Z = true := hw _ (List.mem_of_getElem? (i := 2) rfl)
theorem w3 {Z : State} {a0 : Array Value} (hw : HW Z a0) : (Jvm.Cond.initialized "com/example/kensaku/kensaku/index/BuilderBuildPinLaw").before a0 Z = true := hw _ (List.mem_of_getElem? (i := 3) rfl)
theorem w4 {Z : State} {a0 : Array Value} (hw : HW Z a0) : (Jvm.Cond.code ({ cls := "com/example/kensaku/kensaku/index/BuilderBuildPinLaw", name := "run", desc := "(I)[I" } : Jvm.MethodName) method_3_code (1 : Nat) (Option.some (Jvm.ClassFile.FieldType.array Jvm.ClassFile.FieldType.int))).before a0 Z = true := hw _ (List.mem_of_getElem? (i := 4) rfl)
theorem w5 {Z : State} {a0 : Array Value} (hw : HW Z a0) : (Jvm.Cond.arrayClass Jvm.ClassFile.FieldType.int).before a0 Z = true := hw _ (List.mem_of_getElem? (i := 5) rfl)
theorem w6 {Z : State} {a0 : Array Value} (hw : HW Z a0) : (Jvm.Cond.classLink "com/example/kensaku/kensaku/index/BuilderBuildPinLaw" (14 : Nat) "com/example/kensaku/kensaku/index/Postings$Builder").before a0 Z = true := hw _ (List.mem_of_getElem? (i := 6) rfl)
theorem w7 {Z : State} {a0 : Array Value} (hw : HW Z a0) : (Jvm.Cond.instantiable "com/example/kensaku/kensaku/index/Postings$Builder" (4 : Nat)).before a0 Z = true := hw _ (List.mem_of_getElem? (i := 7) rfl)
theorem w8 {Z : State} {a0 : Array Value} (hw : HW Z a0) : (Jvm.Cond.initialized "com/example/kensaku/kensaku/index/Postings$Builder").before a0 Z = true := hw _ (List.mem_of_getElem? (i := 8) rfl)
theorem w9 {Z : State} {a0 : Array Value} (hw : HW Z a0) : (Jvm.Cond.methodLink "com/example/kensaku/kensaku/index/BuilderBuildPinLaw" (16 : Nat) ({ cls := "com/example/kensaku/kensaku/index/Postings$Builder", name := "<init>", desc := "()V" } : Jvm.MethodName)).before a0 Z = true := hw _ (List.mem_of_getElem? (i := 9) rfl)
theorem w10 {Z : State} {a0 : Array Value} (hw : HW Z a0) : (Jvm.Cond.instanceMethod ({ cls := "com/example/kensaku/kensaku/index/Postings$Builder", name := "<init>", desc := "()V" } : Jvm.MethodName)).before a0 Z = true := hw _ (List.mem_of_getElem? (i := 10) rfl)
theorem w11 {Z : State} {a0 : Array Value} (hw : HW Z a0) : (Jvm.Cond.code ({ cls := "com/example/kensaku/kensaku/index/Postings$Builder", name := "<init>", desc := "()V" } : Jvm.MethodName) prog_20_method_1_code (1 : Nat) (Option.none : Option Jvm.ClassFile.FieldType)).before a0 Z = true := hw _ (List.mem_of_getElem? (i := 11) rfl)
theorem w12 {Z : State} {a0 : Array Value} (hw : HW Z a0) : (Jvm.Cond.methodLink "com/example/kensaku/kensaku/index/Postings$Builder" (1 : Nat) ({ cls := "java/lang/Object", name := "<init>", desc := "()V" } : Jvm.MethodName)).before a0 Z = true := hw _ (List.mem_of_getElem? (i := 12) rfl)
theorem w13 {Z : State} {a0 : Array Value} (hw : HW Z a0) : (Jvm.Cond.instanceMethod ({ cls := "java/lang/Object", name := "<init>", desc := "()V" } : Jvm.MethodName)).before a0 Z = true := hw _ (List.mem_of_getElem? (i := 13) rfl)
theorem w14 {Z : State} {a0 : Array Value} (hw : HW Z a0) : (Jvm.Cond.code ({ cls := "java/lang/Object", name := "<init>", desc := "()V" } : Jvm.MethodName) object_method_1_code (1 : Nat) (Option.none : Option Jvm.ClassFile.FieldType)).before a0 Z = true := hw _ (List.mem_of_getElem? (i := 14) rfl)
theorem w15 {Z : State} {a0 : Array Value} (hw : HW Z a0) : (Jvm.Cond.fieldLink "com/example/kensaku/kensaku/index/Postings$Builder" (7 : Nat) "com/example/kensaku/kensaku/index/Postings$Builder" "documents" "[I").before a0 Z = true := hw _ (List.mem_of_getElem? (i := 15) rfl)
theorem w16 {Z : State} {a0 : Array Value} (hw : HW Z a0) : (Jvm.Cond.lays "com/example/kensaku/kensaku/index/Postings$Builder" "com/example/kensaku/kensaku/index/Postings$Builder" "documents" "[I").before a0 Z = true := hw _ (List.mem_of_getElem? (i := 16) rfl)
theorem w17 {Z : State} {a0 : Array Value} (hw : HW Z a0) : (Jvm.Cond.fieldLink "com/example/kensaku/kensaku/index/Postings$Builder" (13 : Nat) "com/example/kensaku/kensaku/index/Postings$Builder" "starts" "[I").before a0 Z = true := hw _ (List.mem_of_getElem? (i := 17) rfl)
theorem w18 {Z : State} {a0 : Array Value} (hw : HW Z a0) : (Jvm.Cond.lays "com/example/kensaku/kensaku/index/Postings$Builder" "com/example/kensaku/kensaku/index/Postings$Builder" "starts" "[I").before a0 Z = true := hw _ (List.mem_of_getElem? (i := 18) rfl)
theorem w19 {Z : State} {a0 : Array Value} (hw : HW Z a0) : (Jvm.Cond.fieldLink "com/example/kensaku/kensaku/index/Postings$Builder" (16 : Nat) "com/example/kensaku/kensaku/index/Postings$Builder" "positions" "[I").before a0 Z = true := hw _ (List.mem_of_getElem? (i := 19) rfl)
theorem w20 {Z : State} {a0 : Array Value} (hw : HW Z a0) : (Jvm.Cond.lays "com/example/kensaku/kensaku/index/Postings$Builder" "com/example/kensaku/kensaku/index/Postings$Builder" "positions" "[I").before a0 Z = true := hw _ (List.mem_of_getElem? (i := 20) rfl)
theorem w21 {Z : State} {a0 : Array Value} (hw : HW Z a0) : (Jvm.Cond.methodLink "com/example/kensaku/kensaku/index/BuilderBuildPinLaw" (21 : Nat) ({ cls := "com/example/kensaku/kensaku/index/Postings$Builder", name := "build", desc := "()Lcom/example/kensaku/kensaku/index/Postings;" } : Jvm.MethodName)).before a0 Z = true := hw _ (List.mem_of_getElem? (i := 21) rfl)
theorem w22 {Z : State} {a0 : Array Value} (hw : HW Z a0) : (Jvm.Cond.declares ({ cls := "com/example/kensaku/kensaku/index/Postings$Builder", name := "build", desc := "()Lcom/example/kensaku/kensaku/index/Postings;" } : Jvm.MethodName)).before a0 Z = true := hw _ (List.mem_of_getElem? (i := 22) rfl)
theorem w23 {Z : State} {a0 : Array Value} (hw : HW Z a0) : (Jvm.Cond.instanceMethod ({ cls := "com/example/kensaku/kensaku/index/Postings$Builder", name := "build", desc := "()Lcom/example/kensaku/kensaku/index/Postings;" } : Jvm.MethodName)).before a0 Z = true := hw _ (List.mem_of_getElem? (i := 23) rfl)
theorem w24 {Z : State} {a0 : Array Value} (hw : HW Z a0) : (Jvm.Cond.selects "com/example/kensaku/kensaku/index/Postings$Builder" ({ cls := "com/example/kensaku/kensaku/index/Postings$Builder", name := "build", desc := "()Lcom/example/kensaku/kensaku/index/Postings;" } : Jvm.MethodName) ({ cls := "com/example/kensaku/kensaku/index/Postings$Builder", name := "build", desc := "()Lcom/example/kensaku/kensaku/index/Postings;" } : Jvm.MethodName)).before a0 Z = true := hw _ (List.mem_of_getElem? (i := 24) rfl)
theorem w25 {Z : State} {a0 : Array Value} (hw : HW Z a0) : (Jvm.Cond.code ({ cls := "com/example/kensaku/kensaku/index/Postings$Builder", name := "build", desc := "()Lcom/example/kensaku/kensaku/index/Postings;" } : Jvm.MethodName) prog_20_method_3_code (1 : Nat) (Option.some (Jvm.ClassFile.FieldType.object "com/example/kensaku/kensaku/index/Postings"))).before a0 Z = true := hw _ (List.mem_of_getElem? (i := 25) rfl)
theorem w26 {Z : State} {a0 : Array Value} (hw : HW Z a0) : (Jvm.Cond.classLink "com/example/kensaku/kensaku/index/Postings$Builder" (41 : Nat) "com/example/kensaku/kensaku/index/Postings").before a0 Z = true := hw _ (List.mem_of_getElem? (i := 26) rfl)
theorem w27 {Z : State} {a0 : Array Value} (hw : HW Z a0) : (Jvm.Cond.instantiable "com/example/kensaku/kensaku/index/Postings" (3 : Nat)).before a0 Z = true := hw _ (List.mem_of_getElem? (i := 27) rfl)
theorem w28 {Z : State} {a0 : Array Value} (hw : HW Z a0) : (Jvm.Cond.initialized "com/example/kensaku/kensaku/index/Postings").before a0 Z = true := hw _ (List.mem_of_getElem? (i := 28) rfl)
theorem w29 {Z : State} {a0 : Array Value} (hw : HW Z a0) : (Jvm.Cond.fieldLink "com/example/kensaku/kensaku/index/Postings$Builder" (19 : Nat) "com/example/kensaku/kensaku/index/Postings$Builder" "size" "I").before a0 Z = true := hw _ (List.mem_of_getElem? (i := 29) rfl)
theorem w30 {Z : State} {a0 : Array Value} (hw : HW Z a0) : (Jvm.Cond.lays "com/example/kensaku/kensaku/index/Postings$Builder" "com/example/kensaku/kensaku/index/Postings$Builder" "size" "I").before a0 Z = true := hw _ (List.mem_of_getElem? (i := 30) rfl)
theorem w31 {Z : State} {a0 : Array Value} (hw : HW Z a0) : (Jvm.Cond.methodLink "com/example/kensaku/kensaku/index/Postings$Builder" (23 : Nat) ({ cls := "java/util/Arrays", name := "copyOf", desc := "([II)[I" } : Jvm.MethodName)).before a0 Z = true := hw _ (List.mem_of_getElem? (i := 31) rfl)
theorem w32 {Z : State} {a0 : Array Value} (hw : HW Z a0) : (Jvm.Cond.static ({ cls := "java/util/Arrays", name := "copyOf", desc := "([II)[I" } : Jvm.MethodName)).before a0 Z = true := hw _ (List.mem_of_getElem? (i := 32) rfl)
theorem w33 {Z : State} {a0 : Array Value} (hw : HW Z a0) : (Jvm.Cond.initialized "java/util/Arrays").before a0 Z = true := hw _ (List.mem_of_getElem? (i := 33) rfl)
theorem w34 {Z : State} {a0 : Array Value} (hw : HW Z a0) : (Jvm.Cond.code ({ cls := "java/util/Arrays", name := "copyOf", desc := "([II)[I" } : Jvm.MethodName) jdk_65_method_123_code (3 : Nat) (Option.some (Jvm.ClassFile.FieldType.array Jvm.ClassFile.FieldType.int))).before a0 Z = true := hw _ (List.mem_of_getElem? (i := 34) rfl)
theorem w35 {Z : State} {a0 : Array Value} (hw : HW Z a0) : (Jvm.Cond.methodLink "java/util/Arrays" (304 : Nat) ({ cls := "java/lang/Math", name := "min", desc := "(II)I" } : Jvm.MethodName)).before a0 Z = true := hw _ (List.mem_of_getElem? (i := 35) rfl)
theorem w36 {Z : State} {a0 : Array Value} (hw : HW Z a0) : (Jvm.Cond.static ({ cls := "java/lang/Math", name := "min", desc := "(II)I" } : Jvm.MethodName)).before a0 Z = true := hw _ (List.mem_of_getElem? (i := 36) rfl)
theorem w37 {Z : State} {a0 : Array Value} (hw : HW Z a0) : (Jvm.Cond.initialized "java/lang/Math").before a0 Z = true := hw _ (List.mem_of_getElem? (i := 37) rfl)
theorem w38 {Z : State} {a0 : Array Value} (hw : HW Z a0) : (Jvm.Cond.code ({ cls := "java/lang/Math", name := "min", desc := "(II)I" } : Jvm.MethodName) jdk_29_method_69_code (2 : Nat) (Option.some Jvm.ClassFile.FieldType.int)).before a0 Z = true := hw _ (List.mem_of_getElem? (i := 38) rfl)
theorem w39 {Z : State} {a0 : Array Value} (hw : HW Z a0) : (Jvm.Cond.methodLink "java/util/Arrays" (150 : Nat) ({ cls := "java/lang/System", name := "arraycopy", desc := "(Ljava/lang/Object;ILjava/lang/Object;II)V" } : Jvm.MethodName)).before a0 Z = true := hw _ (List.mem_of_getElem? (i := 39) rfl)
theorem w40 {Z : State} {a0 : Array Value} (hw : HW Z a0) : (Jvm.Cond.static ({ cls := "java/lang/System", name := "arraycopy", desc := "(Ljava/lang/Object;ILjava/lang/Object;II)V" } : Jvm.MethodName)).before a0 Z = true := hw _ (List.mem_of_getElem? (i := 40) rfl)
theorem w41 {Z : State} {a0 : Array Value} (hw : HW Z a0) : (Jvm.Cond.initialized "java/lang/System").before a0 Z = true := hw _ (List.mem_of_getElem? (i := 41) rfl)
theorem w42 {Z : State} {a0 : Array Value} (hw : HW Z a0) : (Jvm.Cond.native ({ cls := "java/lang/System", name := "arraycopy", desc := "(Ljava/lang/Object;ILjava/lang/Object;II)V" } : Jvm.MethodName)).before a0 Z = true := hw _ (List.mem_of_getElem? (i := 42) rfl)
theorem w43 {Z : State} {a0 : Array Value} (hw : HW Z a0) : (Jvm.Cond.methodLinkNest "com/example/kensaku/kensaku/index/Postings$Builder" (43 : Nat) ({ cls := "com/example/kensaku/kensaku/index/Postings", name := "<init>", desc := "([I[I[I)V" } : Jvm.MethodName) "com/example/kensaku/kensaku/index/Postings").before a0 Z = true := hw _ (List.mem_of_getElem? (i := 43) rfl)
theorem w44 {Z : State} {a0 : Array Value} (hw : HW Z a0) : (Jvm.Cond.instanceMethod ({ cls := "com/example/kensaku/kensaku/index/Postings", name := "<init>", desc := "([I[I[I)V" } : Jvm.MethodName)).before a0 Z = true := hw _ (List.mem_of_getElem? (i := 44) rfl)
theorem w45 {Z : State} {a0 : Array Value} (hw : HW Z a0) : (Jvm.Cond.code ({ cls := "com/example/kensaku/kensaku/index/Postings", name := "<init>", desc := "([I[I[I)V" } : Jvm.MethodName) prog_19_method_1_code (4 : Nat) (Option.none : Option Jvm.ClassFile.FieldType)).before a0 Z = true := hw _ (List.mem_of_getElem? (i := 45) rfl)
theorem w46 {Z : State} {a0 : Array Value} (hw : HW Z a0) : (Jvm.Cond.methodLink "com/example/kensaku/kensaku/index/Postings" (1 : Nat) ({ cls := "java/lang/Object", name := "<init>", desc := "()V" } : Jvm.MethodName)).before a0 Z = true := hw _ (List.mem_of_getElem? (i := 46) rfl)
theorem w47 {Z : State} {a0 : Array Value} (hw : HW Z a0) : (Jvm.Cond.fieldLink "com/example/kensaku/kensaku/index/Postings" (7 : Nat) "com/example/kensaku/kensaku/index/Postings" "documents" "[I").before a0 Z = true := hw _ (List.mem_of_getElem? (i := 47) rfl)
theorem w48 {Z : State} {a0 : Array Value} (hw : HW Z a0) : (Jvm.Cond.laysFinal "com/example/kensaku/kensaku/index/Postings" "com/example/kensaku/kensaku/index/Postings" "documents" "[I").before a0 Z = true := hw _ (List.mem_of_getElem? (i := 48) rfl)
theorem w49 {Z : State} {a0 : Array Value} (hw : HW Z a0) : (Jvm.Cond.fieldLink "com/example/kensaku/kensaku/index/Postings" (13 : Nat) "com/example/kensaku/kensaku/index/Postings" "starts" "[I").before a0 Z = true := hw _ (List.mem_of_getElem? (i := 49) rfl)
theorem w50 {Z : State} {a0 : Array Value} (hw : HW Z a0) : (Jvm.Cond.laysFinal "com/example/kensaku/kensaku/index/Postings" "com/example/kensaku/kensaku/index/Postings" "starts" "[I").before a0 Z = true := hw _ (List.mem_of_getElem? (i := 50) rfl)
theorem w51 {Z : State} {a0 : Array Value} (hw : HW Z a0) : (Jvm.Cond.fieldLink "com/example/kensaku/kensaku/index/Postings" (16 : Nat) "com/example/kensaku/kensaku/index/Postings" "positions" "[I").before a0 Z = true := hw _ (List.mem_of_getElem? (i := 51) rfl)
theorem w52 {Z : State} {a0 : Array Value} (hw : HW Z a0) : (Jvm.Cond.laysFinal "com/example/kensaku/kensaku/index/Postings" "com/example/kensaku/kensaku/index/Postings" "positions" "[I").before a0 Z = true := hw _ (List.mem_of_getElem? (i := 52) rfl)
theorem w53 {Z : State} {a0 : Array Value} (hw : HW Z a0) : (Jvm.Cond.methodLink "com/example/kensaku/kensaku/index/BuilderBuildPinLaw" (25 : Nat) ({ cls := "com/example/kensaku/kensaku/index/Postings", name := "size", desc := "()I" } : Jvm.MethodName)).before a0 Z = true := hw _ (List.mem_of_getElem? (i := 53) rfl)
theorem w54 {Z : State} {a0 : Array Value} (hw : HW Z a0) : (Jvm.Cond.declares ({ cls := "com/example/kensaku/kensaku/index/Postings", name := "size", desc := "()I" } : Jvm.MethodName)).before a0 Z = true := hw _ (List.mem_of_getElem? (i := 54) rfl)
theorem w55 {Z : State} {a0 : Array Value} (hw : HW Z a0) : (Jvm.Cond.instanceMethod ({ cls := "com/example/kensaku/kensaku/index/Postings", name := "size", desc := "()I" } : Jvm.MethodName)).before a0 Z = true := hw _ (List.mem_of_getElem? (i := 55) rfl)
theorem w56 {Z : State} {a0 : Array Value} (hw : HW Z a0) : (Jvm.Cond.selects "com/example/kensaku/kensaku/index/Postings" ({ cls := "com/example/kensaku/kensaku/index/Postings", name := "size", desc := "()I" } : Jvm.MethodName) ({ cls := "com/example/kensaku/kensaku/index/Postings", name := "size", desc := "()I" } : Jvm.MethodName)).before a0 Z = true := hw _ (List.mem_of_getElem? (i := 56) rfl)
theorem w57 {Z : State} {a0 : Array Value} (hw : HW Z a0) : (Jvm.Cond.code ({ cls := "com/example/kensaku/kensaku/index/Postings", name := "size", desc := "()I" } : Jvm.MethodName) prog_19_method_2_code (1 : Nat) (Option.some Jvm.ClassFile.FieldType.int)).before a0 Z = true := hw _ (List.mem_of_getElem? (i := 57) rfl)
theorem w58 {Z : State} {a0 : Array Value} (hw : HW Z a0) : (Jvm.Cond.methodLink "com/example/kensaku/kensaku/index/BuilderBuildPinLaw" (17 : Nat) ({ cls := "com/example/kensaku/kensaku/index/Postings$Builder", name := "add", desc := "(I[II)V" } : Jvm.MethodName)).before a0 Z = true := hw _ (List.mem_of_getElem? (i := 58) rfl)
theorem w59 {Z : State} {a0 : Array Value} (hw : HW Z a0) : (Jvm.Cond.declares ({ cls := "com/example/kensaku/kensaku/index/Postings$Builder", name := "add", desc := "(I[II)V" } : Jvm.MethodName)).before a0 Z = true := hw _ (List.mem_of_getElem? (i := 59) rfl)
theorem w60 {Z : State} {a0 : Array Value} (hw : HW Z a0) : (Jvm.Cond.instanceMethod ({ cls := "com/example/kensaku/kensaku/index/Postings$Builder", name := "add", desc := "(I[II)V" } : Jvm.MethodName)).before a0 Z = true := hw _ (List.mem_of_getElem? (i := 60) rfl)
theorem w61 {Z : State} {a0 : Array Value} (hw : HW Z a0) : (Jvm.Cond.selects "com/example/kensaku/kensaku/index/Postings$Builder" ({ cls := "com/example/kensaku/kensaku/index/Postings$Builder", name := "add", desc := "(I[II)V" } : Jvm.MethodName) ({ cls := "com/example/kensaku/kensaku/index/Postings$Builder", name := "add", desc := "(I[II)V" } : Jvm.MethodName)).before a0 Z = true := hw _ (List.mem_of_getElem? (i := 61) rfl)
theorem w62 {Z : State} {a0 : Array Value} (hw : HW Z a0) : (Jvm.Cond.code ({ cls := "com/example/kensaku/kensaku/index/Postings$Builder", name := "add", desc := "(I[II)V" } : Jvm.MethodName) prog_20_method_2_code (5 : Nat) (Option.none : Option Jvm.ClassFile.FieldType)).before a0 Z = true := hw _ (List.mem_of_getElem? (i := 62) rfl)
theorem w63 {Z : State} {a0 : Array Value} (hw : HW Z a0) : (Jvm.Cond.methodLink "com/example/kensaku/kensaku/index/Postings$Builder" (35 : Nat) ({ cls := "java/lang/System", name := "arraycopy", desc := "(Ljava/lang/Object;ILjava/lang/Object;II)V" } : Jvm.MethodName)).before a0 Z = true := hw _ (List.mem_of_getElem? (i := 63) rfl)
theorem w64 {Z : State} {a0 : Array Value} (hw : HW Z a0) : (Jvm.Cond.methodLink "java/util/Arrays" (316 : Nat) ({ cls := "[I", name := "clone", desc := "()Ljava/lang/Object;" } : Jvm.MethodName)).before a0 Z = true := hw _ (List.mem_of_getElem? (i := 64) rfl)
theorem w65 {Z : State} {a0 : Array Value} (hw : HW Z a0) : (Jvm.Cond.sameMethod "[I" "java/lang/Object" "clone" "()Ljava/lang/Object;").before a0 Z = true := hw _ (List.mem_of_getElem? (i := 65) rfl)
theorem w67 {Z : State} {a0 : Array Value} (hw : HW Z a0) : (Jvm.Cond.instanceMethod ({ cls := "java/lang/Object", name := "clone", desc := "()Ljava/lang/Object;" } : Jvm.MethodName)).before a0 Z = true := hw _ (List.mem_of_getElem? (i := 67) rfl)
theorem w68 {Z : State} {a0 : Array Value} (hw : HW Z a0) : (Jvm.Cond.selects "[I" ({ cls := "[I", name := "clone", desc := "()Ljava/lang/Object;" } : Jvm.MethodName) ({ cls := "java/lang/Object", name := "clone", desc := "()Ljava/lang/Object;" } : Jvm.MethodName)).before a0 Z = true := hw _ (List.mem_of_getElem? (i := 68) rfl)
theorem w69 {Z : State} {a0 : Array Value} (hw : HW Z a0) : (Jvm.Cond.native ({ cls := "java/lang/Object", name := "clone", desc := "()Ljava/lang/Object;" } : Jvm.MethodName)).before a0 Z = true := hw _ (List.mem_of_getElem? (i := 69) rfl)
theorem w70 {Z : State} {a0 : Array Value} (hw : HW Z a0) : (Jvm.Cond.castable "[I" "java/lang/Cloneable").before a0 Z = true := hw _ (List.mem_of_getElem? (i := 70) rfl)
theorem w71 {Z : State} {a0 : Array Value} (hw : HW Z a0) : (Jvm.Cond.classLink "java/util/Arrays" (317 : Nat) "[I").before a0 Z = true := hw _ (List.mem_of_getElem? (i := 71) rfl)
theorem w73 {Z : State} {a0 : Array Value} (hw : HW Z a0) : (Jvm.Cond.methodLink "com/example/kensaku/kensaku/index/BuilderBuildPinLaw" (31 : Nat) ({ cls := "com/example/kensaku/kensaku/index/BuilderBuildPinLaw", name := "entry", desc := "(Lcom/example/kensaku/kensaku/index/Postings;IIIII)Z" } : Jvm.MethodName)).before a0 Z = true := hw _ (List.mem_of_getElem? (i := 73) rfl)
theorem w74 {Z : State} {a0 : Array Value} (hw : HW Z a0) : (Jvm.Cond.static ({ cls := "com/example/kensaku/kensaku/index/BuilderBuildPinLaw", name := "entry", desc := "(Lcom/example/kensaku/kensaku/index/Postings;IIIII)Z" } : Jvm.MethodName)).before a0 Z = true := hw _ (List.mem_of_getElem? (i := 74) rfl)
theorem w75 {Z : State} {a0 : Array Value} (hw : HW Z a0) : (Jvm.Cond.code ({ cls := "com/example/kensaku/kensaku/index/BuilderBuildPinLaw", name := "entry", desc := "(Lcom/example/kensaku/kensaku/index/Postings;IIIII)Z" } : Jvm.MethodName) method_4_code (6 : Nat) (Option.some Jvm.ClassFile.FieldType.boolean)).before a0 Z = true := hw _ (List.mem_of_getElem? (i := 75) rfl)
theorem w76 {Z : State} {a0 : Array Value} (hw : HW Z a0) : (Jvm.Cond.methodLink "com/example/kensaku/kensaku/index/BuilderBuildPinLaw" (35 : Nat) ({ cls := "com/example/kensaku/kensaku/index/Postings", name := "document", desc := "(I)I" } : Jvm.MethodName)).before a0 Z = true := hw _ (List.mem_of_getElem? (i := 76) rfl)
theorem w77 {Z : State} {a0 : Array Value} (hw : HW Z a0) : (Jvm.Cond.declares ({ cls := "com/example/kensaku/kensaku/index/Postings", name := "document", desc := "(I)I" } : Jvm.MethodName)).before a0 Z = true := hw _ (List.mem_of_getElem? (i := 77) rfl)
theorem w78 {Z : State} {a0 : Array Value} (hw : HW Z a0) : (Jvm.Cond.instanceMethod ({ cls := "com/example/kensaku/kensaku/index/Postings", name := "document", desc := "(I)I" } : Jvm.MethodName)).before a0 Z = true := hw _ (List.mem_of_getElem? (i := 78) rfl)
theorem w79 {Z : State} {a0 : Array Value} (hw : HW Z a0) : (Jvm.Cond.selects "com/example/kensaku/kensaku/index/Postings" ({ cls := "com/example/kensaku/kensaku/index/Postings", name := "document", desc := "(I)I" } : Jvm.MethodName) ({ cls := "com/example/kensaku/kensaku/index/Postings", name := "document", desc := "(I)I" } : Jvm.MethodName)).before a0 Z = true := hw _ (List.mem_of_getElem? (i := 79) rfl)
theorem w80 {Z : State} {a0 : Array Value} (hw : HW Z a0) : (Jvm.Cond.code ({ cls := "com/example/kensaku/kensaku/index/Postings", name := "document", desc := "(I)I" } : Jvm.MethodName) prog_19_method_3_code (2 : Nat) (Option.some Jvm.ClassFile.FieldType.int)).before a0 Z = true := hw _ (List.mem_of_getElem? (i := 80) rfl)
theorem w81 {Z : State} {a0 : Array Value} (hw : HW Z a0) : (Jvm.Cond.methodLink "com/example/kensaku/kensaku/index/BuilderBuildPinLaw" (39 : Nat) ({ cls := "com/example/kensaku/kensaku/index/Postings", name := "frequency", desc := "(I)I" } : Jvm.MethodName)).before a0 Z = true := hw _ (List.mem_of_getElem? (i := 81) rfl)
theorem w82 {Z : State} {a0 : Array Value} (hw : HW Z a0) : (Jvm.Cond.declares ({ cls := "com/example/kensaku/kensaku/index/Postings", name := "frequency", desc := "(I)I" } : Jvm.MethodName)).before a0 Z = true := hw _ (List.mem_of_getElem? (i := 82) rfl)
theorem w83 {Z : State} {a0 : Array Value} (hw : HW Z a0) : (Jvm.Cond.instanceMethod ({ cls := "com/example/kensaku/kensaku/index/Postings", name := "frequency", desc := "(I)I" } : Jvm.MethodName)).before a0 Z = true := hw _ (List.mem_of_getElem? (i := 83) rfl)
theorem w84 {Z : State} {a0 : Array Value} (hw : HW Z a0) : (Jvm.Cond.selects "com/example/kensaku/kensaku/index/Postings" ({ cls := "com/example/kensaku/kensaku/index/Postings", name := "frequency", desc := "(I)I" } : Jvm.MethodName) ({ cls := "com/example/kensaku/kensaku/index/Postings", name := "frequency", desc := "(I)I" } : Jvm.MethodName)).before a0 Z = true := hw _ (List.mem_of_getElem? (i := 84) rfl)
theorem w85 {Z : State} {a0 : Array Value} (hw : HW Z a0) : (Jvm.Cond.code ({ cls := "com/example/kensaku/kensaku/index/Postings", name := "frequency", desc := "(I)I" } : Jvm.MethodName) prog_19_method_4_code (2 : Nat) (Option.some Jvm.ClassFile.FieldType.int)).before a0 Z = true := hw _ (List.mem_of_getElem? (i := 85) rfl)
theorem w86 {Z : State} {a0 : Array Value} (hw : HW Z a0) : (Jvm.Cond.methodLink "com/example/kensaku/kensaku/index/BuilderBuildPinLaw" (42 : Nat) ({ cls := "com/example/kensaku/kensaku/index/Postings", name := "position", desc := "(II)I" } : Jvm.MethodName)).before a0 Z = true := hw _ (List.mem_of_getElem? (i := 86) rfl)
theorem w87 {Z : State} {a0 : Array Value} (hw : HW Z a0) : (Jvm.Cond.declares ({ cls := "com/example/kensaku/kensaku/index/Postings", name := "position", desc := "(II)I" } : Jvm.MethodName)).before a0 Z = true := hw _ (List.mem_of_getElem? (i := 87) rfl)
theorem w88 {Z : State} {a0 : Array Value} (hw : HW Z a0) : (Jvm.Cond.instanceMethod ({ cls := "com/example/kensaku/kensaku/index/Postings", name := "position", desc := "(II)I" } : Jvm.MethodName)).before a0 Z = true := hw _ (List.mem_of_getElem? (i := 88) rfl)
theorem w89 {Z : State} {a0 : Array Value} (hw : HW Z a0) : (Jvm.Cond.selects "com/example/kensaku/kensaku/index/Postings" ({ cls := "com/example/kensaku/kensaku/index/Postings", name := "position", desc := "(II)I" } : Jvm.MethodName) ({ cls := "com/example/kensaku/kensaku/index/Postings", name := "position", desc := "(II)I" } : Jvm.MethodName)).before a0 Z = true := hw _ (List.mem_of_getElem? (i := 89) rfl)
theorem w90 {Z : State} {a0 : Array Value} (hw : HW Z a0) : (Jvm.Cond.code ({ cls := "com/example/kensaku/kensaku/index/Postings", name := "position", desc := "(II)I" } : Jvm.MethodName) prog_19_method_5_code (3 : Nat) (Option.some Jvm.ClassFile.FieldType.int)).before a0 Z = true := hw _ (List.mem_of_getElem? (i := 90) rfl)
theorem w91 {Z : State} {a0 : Array Value} (hw : HW Z a0) : (Jvm.Cond.methodLink "com/example/kensaku/kensaku/index/Postings$Builder" (29 : Nat) ({ cls := "java/lang/Math", name := "max", desc := "(II)I" } : Jvm.MethodName)).before a0 Z = true := hw _ (List.mem_of_getElem? (i := 91) rfl)
theorem w92 {Z : State} {a0 : Array Value} (hw : HW Z a0) : (Jvm.Cond.static ({ cls := "java/lang/Math", name := "max", desc := "(II)I" } : Jvm.MethodName)).before a0 Z = true := hw _ (List.mem_of_getElem? (i := 92) rfl)
theorem w93 {Z : State} {a0 : Array Value} (hw : HW Z a0) : (Jvm.Cond.code ({ cls := "java/lang/Math", name := "max", desc := "(II)I" } : Jvm.MethodName) jdk_29_method_65_code (2 : Nat) (Option.some Jvm.ClassFile.FieldType.int)).before a0 Z = true := hw _ (List.mem_of_getElem? (i := 93) rfl)
theorem d1_0 : decode method_3_code 0 = .ok (.bipush 9, 2) := by decide +kernel
theorem d1_2 : decode method_3_code 2 = .ok (.newarray .int, 2) := by decide +kernel
theorem d1_4 : decode method_3_code 4 = .ok (.dup, 1) := by decide +kernel
theorem d1_5 : decode method_3_code 5 = .ok (.iconst 0, 1) := by decide +kernel
theorem d1_6 : decode method_3_code 6 = .ok (.iload_n 0, 1) := by decide +kernel
theorem d1_7 : decode method_3_code 7 = .ok (.iastore, 1) := by decide +kernel
theorem d1_8 : decode method_3_code 8 = .ok (.dup, 1) := by decide +kernel
theorem d1_9 : decode method_3_code 9 = .ok (.iconst 1, 1) := by decide +kernel
theorem d1_10 : decode method_3_code 10 = .ok (.iload_n 0, 1) := by decide +kernel
theorem d1_11 : decode method_3_code 11 = .ok (.iconst 1, 1) := by decide +kernel
theorem d1_12 : decode method_3_code 12 = .ok (.iadd, 1) := by decide +kernel
theorem d1_13 : decode method_3_code 13 = .ok (.iastore, 1) := by decide +kernel
theorem d1_14 : decode method_3_code 14 = .ok (.dup, 1) := by decide +kernel
theorem d1_15 : decode method_3_code 15 = .ok (.iconst 2, 1) := by decide +kernel
theorem d1_16 : decode method_3_code 16 = .ok (.iload_n 0, 1) := by decide +kernel
theorem d1_17 : decode method_3_code 17 = .ok (.iconst 2, 1) := by decide +kernel
theorem d1_18 : decode method_3_code 18 = .ok (.iadd, 1) := by decide +kernel
theorem d1_19 : decode method_3_code 19 = .ok (.iastore, 1) := by decide +kernel
theorem d1_20 : decode method_3_code 20 = .ok (.dup, 1) := by decide +kernel
theorem d1_21 : decode method_3_code 21 = .ok (.iconst 3, 1) := by decide +kernel
theorem d1_22 : decode method_3_code 22 = .ok (.iload_n 0, 1) := by decide +kernel
theorem d1_23 : decode method_3_code 23 = .ok (.iconst 3, 1) := by decide +kernel
theorem d1_24 : decode method_3_code 24 = .ok (.iadd, 1) := by decide +kernel
theorem d1_25 : decode method_3_code 25 = .ok (.iastore, 1) := by decide +kernel
theorem d1_26 : decode method_3_code 26 = .ok (.dup, 1) := by decide +kernel
theorem d1_27 : decode method_3_code 27 = .ok (.iconst 4, 1) := by decide +kernel
theorem d1_28 : decode method_3_code 28 = .ok (.iload_n 0, 1) := by decide +kernel
theorem d1_29 : decode method_3_code 29 = .ok (.iconst 4, 1) := by decide +kernel
theorem d1_30 : decode method_3_code 30 = .ok (.iadd, 1) := by decide +kernel
theorem d1_31 : decode method_3_code 31 = .ok (.iastore, 1) := by decide +kernel
theorem d1_32 : decode method_3_code 32 = .ok (.dup, 1) := by decide +kernel
theorem d1_33 : decode method_3_code 33 = .ok (.iconst 5, 1) := by decide +kernel
theorem d1_34 : decode method_3_code 34 = .ok (.iload_n 0, 1) := by decide +kernel
theorem d1_35 : decode method_3_code 35 = .ok (.iconst 5, 1) := by decide +kernel
theorem d1_36 : decode method_3_code 36 = .ok (.iadd, 1) := by decide +kernel
theorem d1_37 : decode method_3_code 37 = .ok (.iastore, 1) := by decide +kernel
theorem d1_38 : decode method_3_code 38 = .ok (.dup, 1) := by decide +kernel
theorem d1_39 : decode method_3_code 39 = .ok (.bipush 6, 2) := by decide +kernel
theorem d1_41 : decode method_3_code 41 = .ok (.iload_n 0, 1) := by decide +kernel
theorem d1_42 : decode method_3_code 42 = .ok (.bipush 6, 2) := by decide +kernel
theorem d1_44 : decode method_3_code 44 = .ok (.iadd, 1) := by decide +kernel
theorem d1_45 : decode method_3_code 45 = .ok (.iastore, 1) := by decide +kernel
theorem d1_46 : decode method_3_code 46 = .ok (.dup, 1) := by decide +kernel
theorem d1_47 : decode method_3_code 47 = .ok (.bipush 7, 2) := by decide +kernel
theorem d1_49 : decode method_3_code 49 = .ok (.iload_n 0, 1) := by decide +kernel
theorem d1_50 : decode method_3_code 50 = .ok (.bipush 7, 2) := by decide +kernel
theorem d1_52 : decode method_3_code 52 = .ok (.iadd, 1) := by decide +kernel
theorem d1_53 : decode method_3_code 53 = .ok (.iastore, 1) := by decide +kernel
theorem d1_54 : decode method_3_code 54 = .ok (.dup, 1) := by decide +kernel
theorem d1_55 : decode method_3_code 55 = .ok (.bipush 8, 2) := by decide +kernel
theorem d1_57 : decode method_3_code 57 = .ok (.iload_n 0, 1) := by decide +kernel
theorem d1_58 : decode method_3_code 58 = .ok (.bipush 8, 2) := by decide +kernel
theorem d1_60 : decode method_3_code 60 = .ok (.iadd, 1) := by decide +kernel
theorem d1_61 : decode method_3_code 61 = .ok (.iastore, 1) := by decide +kernel
theorem d1_62 : decode method_3_code 62 = .ok (.areturn, 1) := by decide +kernel
theorem d2_0 : decode prog_20_method_1_code 0 = .ok (.aload_n 0, 1) := by decide +kernel
theorem d2_1 : decode prog_20_method_1_code 1 = .ok (.invokespecial 1, 3) := by decide +kernel
theorem d2_4 : decode prog_20_method_1_code 4 = .ok (.aload_n 0, 1) := by decide +kernel
theorem d2_5 : decode prog_20_method_1_code 5 = .ok (.bipush 8, 2) := by decide +kernel
theorem d2_7 : decode prog_20_method_1_code 7 = .ok (.newarray .int, 2) := by decide +kernel
theorem d2_9 : decode prog_20_method_1_code 9 = .ok (.putfield 7, 3) := by decide +kernel
theorem d2_12 : decode prog_20_method_1_code 12 = .ok (.aload_n 0, 1) := by decide +kernel
theorem d2_13 : decode prog_20_method_1_code 13 = .ok (.bipush 9, 2) := by decide +kernel
theorem d2_15 : decode prog_20_method_1_code 15 = .ok (.newarray .int, 2) := by decide +kernel
theorem d2_17 : decode prog_20_method_1_code 17 = .ok (.putfield 13, 3) := by decide +kernel
theorem d2_20 : decode prog_20_method_1_code 20 = .ok (.aload_n 0, 1) := by decide +kernel
theorem d2_21 : decode prog_20_method_1_code 21 = .ok (.bipush 8, 2) := by decide +kernel
theorem d2_23 : decode prog_20_method_1_code 23 = .ok (.newarray .int, 2) := by decide +kernel
theorem d2_25 : decode prog_20_method_1_code 25 = .ok (.putfield 16, 3) := by decide +kernel
theorem d2_28 : decode prog_20_method_1_code 28 = .ok (.return_, 1) := by decide +kernel
theorem d4_0 : decode prog_20_method_3_code 0 = .ok (.new 41, 3) := by decide +kernel
theorem d4_3 : decode prog_20_method_3_code 3 = .ok (.dup, 1) := by decide +kernel
theorem d4_4 : decode prog_20_method_3_code 4 = .ok (.aload_n 0, 1) := by decide +kernel
theorem d4_5 : decode prog_20_method_3_code 5 = .ok (.getfield 7, 3) := by decide +kernel
theorem d4_8 : decode prog_20_method_3_code 8 = .ok (.aload_n 0, 1) := by decide +kernel
theorem d4_9 : decode prog_20_method_3_code 9 = .ok (.getfield 19, 3) := by decide +kernel
theorem d4_12 : decode prog_20_method_3_code 12 = .ok (.invokestatic 23, 3) := by decide +kernel
theorem d4_15 : decode prog_20_method_3_code 15 = .ok (.aload_n 0, 1) := by decide +kernel
theorem d4_16 : decode prog_20_method_3_code 16 = .ok (.getfield 13, 3) := by decide +kernel
theorem d4_19 : decode prog_20_method_3_code 19 = .ok (.aload_n 0, 1) := by decide +kernel
theorem d4_20 : decode prog_20_method_3_code 20 = .ok (.getfield 19, 3) := by decide +kernel
theorem d4_23 : decode prog_20_method_3_code 23 = .ok (.iconst 1, 1) := by decide +kernel
theorem d4_24 : decode prog_20_method_3_code 24 = .ok (.iadd, 1) := by decide +kernel
theorem d4_25 : decode prog_20_method_3_code 25 = .ok (.invokestatic 23, 3) := by decide +kernel
theorem d4_28 : decode prog_20_method_3_code 28 = .ok (.aload_n 0, 1) := by decide +kernel
theorem d4_29 : decode prog_20_method_3_code 29 = .ok (.getfield 16, 3) := by decide +kernel
theorem d4_32 : decode prog_20_method_3_code 32 = .ok (.aload_n 0, 1) := by decide +kernel
theorem d4_33 : decode prog_20_method_3_code 33 = .ok (.getfield 13, 3) := by decide +kernel
theorem d4_36 : decode prog_20_method_3_code 36 = .ok (.aload_n 0, 1) := by decide +kernel
theorem d4_37 : decode prog_20_method_3_code 37 = .ok (.getfield 19, 3) := by decide +kernel
theorem d4_40 : decode prog_20_method_3_code 40 = .ok (.iaload, 1) := by decide +kernel
theorem d4_41 : decode prog_20_method_3_code 41 = .ok (.invokestatic 23, 3) := by decide +kernel
theorem d4_44 : decode prog_20_method_3_code 44 = .ok (.invokespecial 43, 3) := by decide +kernel
theorem d4_47 : decode prog_20_method_3_code 47 = .ok (.areturn, 1) := by decide +kernel
theorem d5_0 : decode jdk_65_method_123_code 0 = .ok (.iload_n 1, 1) := by decide +kernel
theorem d5_1 : decode jdk_65_method_123_code 1 = .ok (.aload_n 0, 1) := by decide +kernel
theorem d5_2 : decode jdk_65_method_123_code 2 = .ok (.arraylength, 1) := by decide +kernel
theorem d5_3 : decode jdk_65_method_123_code 3 = .ok (.if_icmp .ne 11, 3) := by decide +kernel
theorem d5_6 : decode jdk_65_method_123_code 6 = .ok (.aload_n 0, 1) := by decide +kernel
theorem d5_7 : decode jdk_65_method_123_code 7 = .ok (.invokevirtual 316, 3) := by decide +kernel
theorem d5_10 : decode jdk_65_method_123_code 10 = .ok (.checkcast 317, 3) := by decide +kernel
theorem d5_13 : decode jdk_65_method_123_code 13 = .ok (.areturn, 1) := by decide +kernel
theorem d5_14 : decode jdk_65_method_123_code 14 = .ok (.iload_n 1, 1) := by decide +kernel
theorem d5_15 : decode jdk_65_method_123_code 15 = .ok (.newarray .int, 2) := by decide +kernel
theorem d5_17 : decode jdk_65_method_123_code 17 = .ok (.astore_n 2, 1) := by decide +kernel
theorem d5_18 : decode jdk_65_method_123_code 18 = .ok (.aload_n 0, 1) := by decide +kernel
theorem d5_19 : decode jdk_65_method_123_code 19 = .ok (.iconst 0, 1) := by decide +kernel
theorem d5_20 : decode jdk_65_method_123_code 20 = .ok (.aload_n 2, 1) := by decide +kernel
theorem d5_21 : decode jdk_65_method_123_code 21 = .ok (.iconst 0, 1) := by decide +kernel
theorem d5_22 : decode jdk_65_method_123_code 22 = .ok (.aload_n 0, 1) := by decide +kernel
theorem d5_23 : decode jdk_65_method_123_code 23 = .ok (.arraylength, 1) := by decide +kernel
theorem d5_24 : decode jdk_65_method_123_code 24 = .ok (.iload_n 1, 1) := by decide +kernel
theorem d5_25 : decode jdk_65_method_123_code 25 = .ok (.invokestatic 304, 3) := by decide +kernel
theorem d5_28 : decode jdk_65_method_123_code 28 = .ok (.invokestatic 150, 3) := by decide +kernel
theorem d5_31 : decode jdk_65_method_123_code 31 = .ok (.aload_n 2, 1) := by decide +kernel
theorem d5_32 : decode jdk_65_method_123_code 32 = .ok (.areturn, 1) := by decide +kernel
theorem d6_0 : decode jdk_29_method_69_code 0 = .ok (.iload_n 0, 1) := by decide +kernel
theorem d6_1 : decode jdk_29_method_69_code 1 = .ok (.iload_n 1, 1) := by decide +kernel
theorem d6_2 : decode jdk_29_method_69_code 2 = .ok (.if_icmp .gt 7, 3) := by decide +kernel
theorem d6_5 : decode jdk_29_method_69_code 5 = .ok (.iload_n 0, 1) := by decide +kernel
theorem d6_6 : decode jdk_29_method_69_code 6 = .ok (.goto 4, 3) := by decide +kernel
theorem d6_9 : decode jdk_29_method_69_code 9 = .ok (.iload_n 1, 1) := by decide +kernel
theorem d6_10 : decode jdk_29_method_69_code 10 = .ok (.ireturn, 1) := by decide +kernel
theorem d7_0 : decode prog_19_method_1_code 0 = .ok (.aload_n 0, 1) := by decide +kernel
theorem d7_1 : decode prog_19_method_1_code 1 = .ok (.invokespecial 1, 3) := by decide +kernel
theorem d7_4 : decode prog_19_method_1_code 4 = .ok (.aload_n 0, 1) := by decide +kernel
theorem d7_5 : decode prog_19_method_1_code 5 = .ok (.aload_n 1, 1) := by decide +kernel
theorem d7_6 : decode prog_19_method_1_code 6 = .ok (.putfield 7, 3) := by decide +kernel
theorem d7_9 : decode prog_19_method_1_code 9 = .ok (.aload_n 0, 1) := by decide +kernel
theorem d7_10 : decode prog_19_method_1_code 10 = .ok (.aload_n 2, 1) := by decide +kernel
theorem d7_11 : decode prog_19_method_1_code 11 = .ok (.putfield 13, 3) := by decide +kernel
theorem d7_14 : decode prog_19_method_1_code 14 = .ok (.aload_n 0, 1) := by decide +kernel
theorem d7_15 : decode prog_19_method_1_code 15 = .ok (.aload_n 3, 1) := by decide +kernel
theorem d7_16 : decode prog_19_method_1_code 16 = .ok (.putfield 16, 3) := by decide +kernel
theorem d7_19 : decode prog_19_method_1_code 19 = .ok (.return_, 1) := by decide +kernel
theorem d8_0 : decode prog_19_method_2_code 0 = .ok (.aload_n 0, 1) := by decide +kernel
theorem d8_1 : decode prog_19_method_2_code 1 = .ok (.getfield 7, 3) := by decide +kernel
theorem d8_4 : decode prog_19_method_2_code 4 = .ok (.arraylength, 1) := by decide +kernel
theorem d8_5 : decode prog_19_method_2_code 5 = .ok (.ireturn, 1) := by decide +kernel
theorem d9_0 : decode prog_20_method_2_code 0 = .ok (.aload_n 0, 1) := by decide +kernel
theorem d9_1 : decode prog_20_method_2_code 1 = .ok (.getfield 19, 3) := by decide +kernel
theorem d9_4 : decode prog_20_method_2_code 4 = .ok (.aload_n 0, 1) := by decide +kernel
theorem d9_5 : decode prog_20_method_2_code 5 = .ok (.getfield 7, 3) := by decide +kernel
theorem d9_8 : decode prog_20_method_2_code 8 = .ok (.arraylength, 1) := by decide +kernel
theorem d9_9 : decode prog_20_method_2_code 9 = .ok (.if_icmp .ne 39, 3) := by decide +kernel
theorem d9_48 : decode prog_20_method_2_code 48 = .ok (.aload_n 0, 1) := by decide +kernel
theorem d9_49 : decode prog_20_method_2_code 49 = .ok (.getfield 13, 3) := by decide +kernel
theorem d9_52 : decode prog_20_method_2_code 52 = .ok (.aload_n 0, 1) := by decide +kernel
theorem d9_53 : decode prog_20_method_2_code 53 = .ok (.getfield 19, 3) := by decide +kernel
theorem d9_56 : decode prog_20_method_2_code 56 = .ok (.iaload, 1) := by decide +kernel
theorem d9_57 : decode prog_20_method_2_code 57 = .ok (.istore 4, 2) := by decide +kernel
theorem d9_59 : decode prog_20_method_2_code 59 = .ok (.aload_n 0, 1) := by decide +kernel
theorem d9_60 : decode prog_20_method_2_code 60 = .ok (.getfield 16, 3) := by decide +kernel
theorem d9_63 : decode prog_20_method_2_code 63 = .ok (.arraylength, 1) := by decide +kernel
theorem d9_64 : decode prog_20_method_2_code 64 = .ok (.iload 4, 2) := by decide +kernel
theorem d9_66 : decode prog_20_method_2_code 66 = .ok (.iload_n 3, 1) := by decide +kernel
theorem d9_67 : decode prog_20_method_2_code 67 = .ok (.iadd, 1) := by decide +kernel
theorem d9_68 : decode prog_20_method_2_code 68 = .ok (.if_icmp .ge 28, 3) := by decide +kernel
theorem d9_71 : decode prog_20_method_2_code 71 = .ok (.aload_n 0, 1) := by decide +kernel
theorem d9_72 : decode prog_20_method_2_code 72 = .ok (.aload_n 0, 1) := by decide +kernel
theorem d9_73 : decode prog_20_method_2_code 73 = .ok (.getfield 16, 3) := by decide +kernel
theorem d9_76 : decode prog_20_method_2_code 76 = .ok (.iconst 2, 1) := by decide +kernel
theorem d9_77 : decode prog_20_method_2_code 77 = .ok (.aload_n 0, 1) := by decide +kernel
theorem d9_78 : decode prog_20_method_2_code 78 = .ok (.getfield 16, 3) := by decide +kernel
theorem d9_81 : decode prog_20_method_2_code 81 = .ok (.arraylength, 1) := by decide +kernel
theorem d9_82 : decode prog_20_method_2_code 82 = .ok (.imul, 1) := by decide +kernel
theorem d9_83 : decode prog_20_method_2_code 83 = .ok (.iload 4, 2) := by decide +kernel
theorem d9_85 : decode prog_20_method_2_code 85 = .ok (.iload_n 3, 1) := by decide +kernel
theorem d9_86 : decode prog_20_method_2_code 86 = .ok (.iadd, 1) := by decide +kernel
theorem d9_87 : decode prog_20_method_2_code 87 = .ok (.invokestatic 29, 3) := by decide +kernel
theorem d9_90 : decode prog_20_method_2_code 90 = .ok (.invokestatic 23, 3) := by decide +kernel
theorem d9_93 : decode prog_20_method_2_code 93 = .ok (.putfield 16, 3) := by decide +kernel
theorem d9_96 : decode prog_20_method_2_code 96 = .ok (.aload_n 2, 1) := by decide +kernel
theorem d9_97 : decode prog_20_method_2_code 97 = .ok (.iconst 0, 1) := by decide +kernel
theorem d9_98 : decode prog_20_method_2_code 98 = .ok (.aload_n 0, 1) := by decide +kernel
theorem d9_99 : decode prog_20_method_2_code 99 = .ok (.getfield 16, 3) := by decide +kernel
theorem d9_102 : decode prog_20_method_2_code 102 = .ok (.iload 4, 2) := by decide +kernel
theorem d9_104 : decode prog_20_method_2_code 104 = .ok (.iload_n 3, 1) := by decide +kernel
theorem d9_105 : decode prog_20_method_2_code 105 = .ok (.invokestatic 35, 3) := by decide +kernel
theorem d9_108 : decode prog_20_method_2_code 108 = .ok (.aload_n 0, 1) := by decide +kernel
theorem d9_109 : decode prog_20_method_2_code 109 = .ok (.getfield 7, 3) := by decide +kernel
theorem d9_112 : decode prog_20_method_2_code 112 = .ok (.aload_n 0, 1) := by decide +kernel
theorem d9_113 : decode prog_20_method_2_code 113 = .ok (.getfield 19, 3) := by decide +kernel
theorem d9_116 : decode prog_20_method_2_code 116 = .ok (.iload_n 1, 1) := by decide +kernel
theorem d9_117 : decode prog_20_method_2_code 117 = .ok (.iastore, 1) := by decide +kernel
theorem d9_118 : decode prog_20_method_2_code 118 = .ok (.aload_n 0, 1) := by decide +kernel
theorem d9_119 : decode prog_20_method_2_code 119 = .ok (.dup, 1) := by decide +kernel
theorem d9_120 : decode prog_20_method_2_code 120 = .ok (.getfield 19, 3) := by decide +kernel
theorem d9_123 : decode prog_20_method_2_code 123 = .ok (.iconst 1, 1) := by decide +kernel
theorem d9_124 : decode prog_20_method_2_code 124 = .ok (.iadd, 1) := by decide +kernel
theorem d9_125 : decode prog_20_method_2_code 125 = .ok (.putfield 19, 3) := by decide +kernel
theorem d9_128 : decode prog_20_method_2_code 128 = .ok (.aload_n 0, 1) := by decide +kernel
theorem d9_129 : decode prog_20_method_2_code 129 = .ok (.getfield 13, 3) := by decide +kernel
theorem d9_132 : decode prog_20_method_2_code 132 = .ok (.aload_n 0, 1) := by decide +kernel
theorem d9_133 : decode prog_20_method_2_code 133 = .ok (.getfield 19, 3) := by decide +kernel
theorem d9_136 : decode prog_20_method_2_code 136 = .ok (.iload 4, 2) := by decide +kernel
theorem d9_138 : decode prog_20_method_2_code 138 = .ok (.iload_n 3, 1) := by decide +kernel
theorem d9_139 : decode prog_20_method_2_code 139 = .ok (.iadd, 1) := by decide +kernel
theorem d9_140 : decode prog_20_method_2_code 140 = .ok (.iastore, 1) := by decide +kernel
theorem d9_141 : decode prog_20_method_2_code 141 = .ok (.return_, 1) := by decide +kernel
theorem d10_0 : decode method_4_code 0 = .ok (.aload_n 0, 1) := by decide +kernel
theorem d10_1 : decode method_4_code 1 = .ok (.iload_n 1, 1) := by decide +kernel
theorem d10_2 : decode method_4_code 2 = .ok (.invokevirtual 35, 3) := by decide +kernel
theorem d10_5 : decode method_4_code 5 = .ok (.iload_n 2, 1) := by decide +kernel
theorem d10_6 : decode method_4_code 6 = .ok (.if_icmp .ne 31, 3) := by decide +kernel
theorem d10_9 : decode method_4_code 9 = .ok (.aload_n 0, 1) := by decide +kernel
theorem d10_10 : decode method_4_code 10 = .ok (.iload_n 1, 1) := by decide +kernel
theorem d10_11 : decode method_4_code 11 = .ok (.invokevirtual 39, 3) := by decide +kernel
theorem d10_14 : decode method_4_code 14 = .ok (.iload_n 3, 1) := by decide +kernel
theorem d10_15 : decode method_4_code 15 = .ok (.if_icmp .ne 22, 3) := by decide +kernel
theorem d10_18 : decode method_4_code 18 = .ok (.aload_n 0, 1) := by decide +kernel
theorem d10_19 : decode method_4_code 19 = .ok (.iload_n 1, 1) := by decide +kernel
theorem d10_20 : decode method_4_code 20 = .ok (.iload 5, 2) := by decide +kernel
theorem d10_22 : decode method_4_code 22 = .ok (.invokevirtual 42, 3) := by decide +kernel
theorem d10_25 : decode method_4_code 25 = .ok (.iload 4, 2) := by decide +kernel
theorem d10_27 : decode method_4_code 27 = .ok (.iload 5, 2) := by decide +kernel
theorem d10_29 : decode method_4_code 29 = .ok (.iadd, 1) := by decide +kernel
theorem d10_30 : decode method_4_code 30 = .ok (.if_icmp .ne 7, 3) := by decide +kernel
theorem d10_33 : decode method_4_code 33 = .ok (.iconst 1, 1) := by decide +kernel
theorem d10_34 : decode method_4_code 34 = .ok (.goto 4, 3) := by decide +kernel
theorem d10_38 : decode method_4_code 38 = .ok (.ireturn, 1) := by decide +kernel
theorem d11_0 : decode prog_19_method_3_code 0 = .ok (.aload_n 0, 1) := by decide +kernel
theorem d11_1 : decode prog_19_method_3_code 1 = .ok (.getfield 7, 3) := by decide +kernel
theorem d11_4 : decode prog_19_method_3_code 4 = .ok (.iload_n 1, 1) := by decide +kernel
theorem d11_5 : decode prog_19_method_3_code 5 = .ok (.iaload, 1) := by decide +kernel
theorem d11_6 : decode prog_19_method_3_code 6 = .ok (.ireturn, 1) := by decide +kernel
theorem d12_0 : decode prog_19_method_4_code 0 = .ok (.aload_n 0, 1) := by decide +kernel
theorem d12_1 : decode prog_19_method_4_code 1 = .ok (.getfield 13, 3) := by decide +kernel
theorem d12_4 : decode prog_19_method_4_code 4 = .ok (.iload_n 1, 1) := by decide +kernel
theorem d12_5 : decode prog_19_method_4_code 5 = .ok (.iconst 1, 1) := by decide +kernel
theorem d12_6 : decode prog_19_method_4_code 6 = .ok (.iadd, 1) := by decide +kernel
theorem d12_7 : decode prog_19_method_4_code 7 = .ok (.iaload, 1) := by decide +kernel
theorem d12_8 : decode prog_19_method_4_code 8 = .ok (.aload_n 0, 1) := by decide +kernel
theorem d12_9 : decode prog_19_method_4_code 9 = .ok (.getfield 13, 3) := by decide +kernel
theorem d12_12 : decode prog_19_method_4_code 12 = .ok (.iload_n 1, 1) := by decide +kernel
theorem d12_13 : decode prog_19_method_4_code 13 = .ok (.iaload, 1) := by decide +kernel
theorem d12_14 : decode prog_19_method_4_code 14 = .ok (.isub, 1) := by decide +kernel
theorem d12_15 : decode prog_19_method_4_code 15 = .ok (.ireturn, 1) := by decide +kernel
theorem d13_0 : decode prog_19_method_5_code 0 = .ok (.aload_n 0, 1) := by decide +kernel
theorem d13_1 : decode prog_19_method_5_code 1 = .ok (.getfield 16, 3) := by decide +kernel
theorem d13_4 : decode prog_19_method_5_code 4 = .ok (.aload_n 0, 1) := by decide +kernel
theorem d13_5 : decode prog_19_method_5_code 5 = .ok (.getfield 13, 3) := by decide +kernel
theorem d13_8 : decode prog_19_method_5_code 8 = .ok (.iload_n 1, 1) := by decide +kernel
theorem d13_9 : decode prog_19_method_5_code 9 = .ok (.iaload, 1) := by decide +kernel
theorem d13_10 : decode prog_19_method_5_code 10 = .ok (.iload_n 2, 1) := by decide +kernel
theorem d13_11 : decode prog_19_method_5_code 11 = .ok (.iadd, 1) := by decide +kernel
theorem d13_12 : decode prog_19_method_5_code 12 = .ok (.iaload, 1) := by decide +kernel
theorem d13_13 : decode prog_19_method_5_code 13 = .ok (.ireturn, 1) := by decide +kernel
theorem d14_0 : decode jdk_29_method_65_code 0 = .ok (.iload_n 0, 1) := by decide +kernel
theorem d14_1 : decode jdk_29_method_65_code 1 = .ok (.iload_n 1, 1) := by decide +kernel
theorem d14_2 : decode jdk_29_method_65_code 2 = .ok (.if_icmp .lt 7, 3) := by decide +kernel
theorem d14_5 : decode jdk_29_method_65_code 5 = .ok (.iload_n 0, 1) := by decide +kernel
theorem d14_6 : decode jdk_29_method_65_code 6 = .ok (.goto 4, 3) := by decide +kernel
theorem d14_9 : decode jdk_29_method_65_code 9 = .ok (.iload_n 1, 1) := by decide +kernel
theorem d14_10 : decode jdk_29_method_65_code 10 = .ok (.ireturn, 1) := by decide +kernel
theorem pd_0 : parseMethodDescriptor "(II)I" = some ⟨[.int, .int], some .int⟩ := by decide +kernel
theorem pd_1 : parseMethodDescriptor "([II)[I" = some ⟨[(.array .int), .int], some (.array .int)⟩ := by decide +kernel
theorem pd_2 : parseMethodDescriptor "([I[I[I)V" = some ⟨[(.array .int), (.array .int), (.array .int)], none⟩ := by decide +kernel
theorem pd_3 : parseMethodDescriptor "(I)I" = some ⟨[.int], some .int⟩ := by decide +kernel
theorem pd_4 : parseMethodDescriptor "(I)[I" = some ⟨[.int], some (.array .int)⟩ := by decide +kernel
theorem pd_5 : parseMethodDescriptor "()V" = some ⟨[], none⟩ := by decide +kernel
theorem pd_6 : parseMethodDescriptor "()Lcom/example/kensaku/kensaku/index/Postings;" = some ⟨[], some (.object "com/example/kensaku/kensaku/index/Postings")⟩ := by decide +kernel
theorem pd_7 : parseMethodDescriptor "()I" = some ⟨[], some .int⟩ := by decide +kernel
theorem pd_8 : parseMethodDescriptor "(I[II)V" = some ⟨[.int, (.array .int), .int], none⟩ := by decide +kernel
theorem pd_9 : parseMethodDescriptor "(Lcom/example/kensaku/kensaku/index/Postings;IIIII)Z" = some ⟨[(.object "com/example/kensaku/kensaku/index/Postings"), .int, .int, .int, .int, .int], some .boolean⟩ := by decide +kernel
theorem pn_0 : plainName "com/example/kensaku/kensaku/index/BuilderBuildPinLaw" = true := by first | (simp [plainName, overriddenIn]; done) | decide +kernel
theorem pn_1 : plainName "com/example/kensaku/kensaku/index/Postings$Builder" = true := by first | (simp [plainName, overriddenIn]; done) | decide +kernel
theorem pn_2 : plainName "java/util/Arrays" = true := by first | (simp [plainName, overriddenIn]; done) | decide +kernel
theorem pn_3 : plainName "com/example/kensaku/kensaku/index/Postings" = true := by first | (simp [plainName, overriddenIn]; done) | decide +kernel
theorem pf_0 : plainFor (⟨"java/lang/Math", "min", "(II)I"⟩ : MethodName) = true := by decide +kernel
theorem pf_1 : plainFor (⟨"java/lang/Math", "max", "(II)I"⟩ : MethodName) = true := by decide +kernel
def ks_0 : List (String × String × String × FieldType) := [("com/example/kensaku/kensaku/index/Postings$Builder", "documents", "[I", (.array .int)), ("com/example/kensaku/kensaku/index/Postings$Builder", "starts", "[I", (.array .int)), ("com/example/kensaku/kensaku/index/Postings$Builder", "positions", "[I", (.array .int)), ("com/example/kensaku/kensaku/index/Postings$Builder", "size", "I", .int)]
theorem lays_ks_0 {Z : State} {a0 : Array Value} (hw : HW Z a0) : Lays Z a0 "com/example/kensaku/kensaku/index/Postings$Builder" ks_0 := by
  refine ⟨fun kk hk => ?_, by decide⟩
  simp only [ks_0, List.mem_cons, List.not_mem_nil, or_false] at hk
  rcases hk with rfl | rfl | rfl | rfl
  · exact ⟨Or.inl (w16 hw), by decide⟩
  · exact ⟨Or.inl (w18 hw), by decide⟩
  · exact ⟨Or.inl (w20 hw), by decide⟩
  · exact ⟨Or.inl (w30 hw), by decide⟩
def ks_1 : List (String × String × String × FieldType) := [("com/example/kensaku/kensaku/index/Postings", "documents", "[I", (.array .int)), ("com/example/kensaku/kensaku/index/Postings", "starts", "[I", (.array .int)), ("com/example/kensaku/kensaku/index/Postings", "positions", "[I", (.array .int))]
theorem lays_ks_1 {Z : State} {a0 : Array Value} (hw : HW Z a0) : Lays Z a0 "com/example/kensaku/kensaku/index/Postings" ks_1 := by
  refine ⟨fun kk hk => ?_, by decide⟩
  simp only [ks_1, List.mem_cons, List.not_mem_nil, or_false] at hk
  rcases hk with rfl | rfl | rfl
  · exact ⟨Or.inr (w48 hw), by decide⟩
  · exact ⟨Or.inr (w50 hw), by decide⟩
  · exact ⟨Or.inr (w52 hw), by decide⟩
def Fmin (x0 : Int32) (x1 : Int32) : Int32 := (if x1 < x0 then x1 else x0)
theorem ef_rm6 (m : MethodId) (x0 : Int32) (x1 : Int32) : entryFrame m #[.int x0, .int x1] 2 = mkF m 0 #[.val (.int x0), .val (.int x1)] [] := by first | (simp [entryFrame, mkF, argsToLocals, Value.category]; done) | rfl
set_option maxRecDepth 65536 in
set_option maxHeartbeats 4000000 in
theorem rm6 (l : Launch) (Z : State) (a0 : Array Value) (hw : HW Z a0) (x0 : Int32) (x1 : Int32) (L : List (Addr × (Cell → Prop))) (h : Heap) (n0 : Nat) (O : Own n0 h L) :
    Meth l Z (⟨"java/lang/Math", "min", "(II)I"⟩ : MethodName) jdk_29_method_69_code 2 (some .int) [] ({ frames := 0, cells := 0, slots := 0, locals := 0 } : Room) #[.int x0, .int x1] h n0 (fun v h' => v = some (.int (Fmin x0 x1)) ∧ Own n0 h' L) := by
  refine Meth.of pf_0 (fun m => ef_rm6 m x0 x1) O ?_
  intro p e m below meth c M FE C J
  change Cx Z "java/lang/Math" "min" jdk_29_method_69_code 2 (some .int) p m meth c M at C
  clear O
  refine Wk.iloadN (pc' := 1) C d6_0 rfl rfl ?_
  refine Wk.iloadN (pc' := 2) C d6_1 rfl rfl ?_
  refine Wk.icmp_gt (pcT := 9) (pcF := 5) C d6_2 (by decide) (by decide) rfl (fun c1 => ?_) (fun c1 => ?_)
  · skip
    refine Wk.iloadN (pc' := 10) C d6_9 rfl rfl ?_
    exact Wk.retI C J d6_10 (by decide) (by decide) (fun h O => ⟨by rw [Fmin, if_pos c1], O⟩)
  · skip
    refine Wk.iloadN (pc' := 6) C d6_5 rfl rfl ?_
    refine Wk.goto (pc' := 10) C d6_6 (by decide) (by decide) ?_
    exact Wk.retI C J d6_10 (by decide) (by decide) (fun h O => ⟨by rw [Fmin, if_neg c1], O⟩)
def Fmax (x0 : Int32) (x1 : Int32) : Int32 := (if x0 < x1 then x1 else x0)
theorem ef_rm14 (m : MethodId) (x0 : Int32) (x1 : Int32) : entryFrame m #[.int x0, .int x1] 2 = mkF m 0 #[.val (.int x0), .val (.int x1)] [] := by first | (simp [entryFrame, mkF, argsToLocals, Value.category]; done) | rfl
set_option maxRecDepth 65536 in
set_option maxHeartbeats 4000000 in
theorem rm14 (l : Launch) (Z : State) (a0 : Array Value) (hw : HW Z a0) (x0 : Int32) (x1 : Int32) (L : List (Addr × (Cell → Prop))) (h : Heap) (n0 : Nat) (O : Own n0 h L) :
    Meth l Z (⟨"java/lang/Math", "max", "(II)I"⟩ : MethodName) jdk_29_method_65_code 2 (some .int) [] ({ frames := 0, cells := 0, slots := 0, locals := 0 } : Room) #[.int x0, .int x1] h n0 (fun v h' => v = some (.int (Fmax x0 x1)) ∧ Own n0 h' L) := by
  refine Meth.of pf_1 (fun m => ef_rm14 m x0 x1) O ?_
  intro p e m below meth c M FE C J
  change Cx Z "java/lang/Math" "max" jdk_29_method_65_code 2 (some .int) p m meth c M at C
  clear O
  refine Wk.iloadN (pc' := 1) C d14_0 rfl rfl ?_
  refine Wk.iloadN (pc' := 2) C d14_1 rfl rfl ?_
  refine Wk.icmp_lt (pcT := 9) (pcF := 5) C d14_2 (by decide) (by decide) rfl (fun c2 => ?_) (fun c2 => ?_)
  · skip
    refine Wk.iloadN (pc' := 10) C d14_9 rfl rfl ?_
    exact Wk.retI C J d14_10 (by decide) (by decide) (fun h O => ⟨by rw [Fmax, if_pos c2], O⟩)
  · skip
    refine Wk.iloadN (pc' := 6) C d14_5 rfl rfl ?_
    refine Wk.goto (pc' := 10) C d14_6 (by decide) (by decide) ?_
    exact Wk.retI C J d14_10 (by decide) (by decide) (fun h O => ⟨by rw [Fmax, if_neg c2], O⟩)
theorem ofN {z : Int32} {i : Nat} (h : z.toInt = (i : Int)) : i.toInt32 = z := by
  refine Int32.toInt_inj.mp ?_
  have r := rng32 z
  rw [h]; exact len_toInt (by omega)
theorem toI {n : Nat} (h : n < 1000) : n.toInt32.toInt = (n : Int) := len_toInt (by omega)
theorem own_add {x y : Int32} {i j : Nat} (hx : x.toInt = (i : Int)) (hy : y.toInt = (j : Int)) (h : i + j < 1000) : (x + y).toInt = ((i + j : Nat) : Int) := by
  have e := c_iadd x y
  have r := rng32 (x + y)
  omega
theorem own_two {n : Nat} (h : n < 1000) : ((2 : Int32) * n.toInt32).toInt = ((2 * n : Nat) : Int) := by
  have e := c_imul 2 n.toInt32
  have e2 := toI h
  have z2 : (2 : Int32).toInt = 2 := rfl
  have r := rng32 ((2 : Int32) * n.toInt32)
  rw [e2, z2] at e
  omega
theorem own_max {x y : Int32} {i j : Nat} (hx : x.toInt = (i : Int)) (hy : y.toInt = (j : Int)) : (Fmax x y).toInt = ((max i j : Nat) : Int) := by
  unfold Fmax
  by_cases q : x < y
  · rw [if_pos q]; rw [Int32.lt_iff_toInt_lt] at q; omega
  · rw [if_neg q]; rw [Int32.lt_iff_toInt_lt] at q; omega
theorem own_min {x y : Int32} {i j : Nat} (hx : x.toInt = (i : Int)) (hy : y.toInt = (j : Int)) : (Fmin x y).toInt = ((min i j : Nat) : Int) := by
  unfold Fmin
  by_cases q : y < x
  · rw [if_pos q]; rw [Int32.lt_iff_toInt_lt] at q; omega
  · rw [if_neg q]; rw [Int32.lt_iff_toInt_lt] at q; omega
theorem cpy_lo (f g : Nat → Int32) {k x : Nat} (h : x < k) : cpy f g 0 0 k x = f x := by unfold cpy; rw [if_pos ⟨by omega, by omega⟩, show 0 + (x - 0) = x by omega]
theorem cpy_old (f g : Nat → Int32) {i j k x : Nat} (h : x < j) : cpy f g i j k x = g x := by unfold cpy; rw [if_neg (by omega)]
theorem cpy_new (f g : Nat → Int32) {j k x : Nat} (h : x < k) : cpy f g 0 j k (j + x) = f x := by unfold cpy; rw [if_pos ⟨by omega, by omega⟩, show 0 + (j + x - j) = x by omega]
theorem ef_rm1 (m : MethodId) (x0 : Int32) : entryFrame m #[.int x0] 1 = mkF m 0 #[.val (.int x0)] [] := by first | (simp [entryFrame, mkF, argsToLocals, Value.category]; done) | rfl
set_option maxRecDepth 65536 in
set_option maxHeartbeats 4000000 in
theorem rm1 (l : Launch) (Z : State) (a0 : Array Value) (hw : HW Z a0) (x0 : Int32) (L : List (Addr × (Cell → Prop))) (h : Heap) (n0 : Nat) (O : Own n0 h L) :
    Meth l Z (⟨"com/example/kensaku/kensaku/index/BuilderBuildPinLaw", "run", "(I)[I"⟩ : MethodName) method_3_code 1 (some (.array .int)) [] ({ frames := 0, cells := 1, slots := 9, locals := 0 } : Room) #[.int x0] h n0 (fun v h' => ∃ (a : Addr) (f : Nat → Int32), v = some (.ref a) ∧ (f 0 = x0 ∧ f 1 = x0 + (1 : Int32) ∧ f 2 = x0 + (2 : Int32) ∧ f 3 = x0 + (3 : Int32) ∧ f 4 = x0 + (4 : Int32) ∧ f 5 = x0 + (5 : Int32) ∧ f 6 = x0 + (6 : Int32) ∧ f 7 = x0 + (7 : Int32) ∧ f 8 = x0 + (8 : Int32)) ∧ Own n0 h' ((a, ArrC Z .int 9 f) :: L)) := by
  refine Meth.of (plainFor_of_name pn_0) (fun m => ef_rm1 m x0) O ?_
  intro p e m below meth c M FE C J
  change Cx Z "com/example/kensaku/kensaku/index/BuilderBuildPinLaw" "run" method_3_code 1 (some (.array .int)) p m meth c M at C
  clear O
  refine Wk.bipush (z := (9 : Int32)) (pc' := 2) C d1_0 rfl rfl ?_
  refine Wk.newarray (pc' := 4) (aty := .int) (nn := 9) (cap := 9) (d := 0) C (w5 hw) d1_2 rfl rfl (by decide) (by decide) (by decide) (by decide) (by decide) rfl ?_
  intro a3
  change Wk p l e _ m _ below meth c _ _ n0 ((a3, ArrC Z .int 9 (fun _ => 0)) :: L) 1 9 4 #[.val (.int x0)] [.ref a3]
  refine Wk.dup (pc' := 5) C d1_4 rfl rfl ?_
  refine Wk.iconst (z := (0 : Int32)) (pc' := 6) C d1_5 rfl rfl ?_
  refine Wk.iloadN (pc' := 7) C d1_6 rfl rfl ?_
  refine Wk.iastore (pc' := 8) (q := 0) (i := 0) C d1_7 rfl (by decide) (by decide) rfl ?_
  change Wk p l e _ m _ below meth c _ _ n0 ((a3, ArrC Z .int 9 (upd (fun _ => 0) 0 x0)) :: L) 1 9 8 #[.val (.int x0)] [.ref a3]
  refine Wk.dup (pc' := 9) C d1_8 rfl rfl ?_
  refine Wk.iconst (z := (1 : Int32)) (pc' := 10) C d1_9 rfl rfl ?_
  refine Wk.iloadN (pc' := 11) C d1_10 rfl rfl ?_
  refine Wk.iconst (z := (1 : Int32)) (pc' := 12) C d1_11 rfl rfl ?_
  refine Wk.iadd (pc' := 13) C d1_12 rfl ?_
  refine Wk.iastore (pc' := 14) (q := 0) (i := 1) C d1_13 rfl (by decide) (by decide) rfl ?_
  change Wk p l e _ m _ below meth c _ _ n0 ((a3, ArrC Z .int 9 (upd (upd (fun _ => 0) 0 x0) 1 (x0 + (1 : Int32)))) :: L) 1 9 14 #[.val (.int x0)] [.ref a3]
  refine Wk.dup (pc' := 15) C d1_14 rfl rfl ?_
  refine Wk.iconst (z := (2 : Int32)) (pc' := 16) C d1_15 rfl rfl ?_
  refine Wk.iloadN (pc' := 17) C d1_16 rfl rfl ?_
  refine Wk.iconst (z := (2 : Int32)) (pc' := 18) C d1_17 rfl rfl ?_
  refine Wk.iadd (pc' := 19) C d1_18 rfl ?_
  refine Wk.iastore (pc' := 20) (q := 0) (i := 2) C d1_19 rfl (by decide) (by decide) rfl ?_
  change Wk p l e _ m _ below meth c _ _ n0 ((a3, ArrC Z .int 9 (upd (upd (upd (fun _ => 0) 0 x0) 1 (x0 + (1 : Int32))) 2 (x0 + (2 : Int32)))) :: L) 1 9 20 #[.val (.int x0)] [.ref a3]
  refine Wk.dup (pc' := 21) C d1_20 rfl rfl ?_
  refine Wk.iconst (z := (3 : Int32)) (pc' := 22) C d1_21 rfl rfl ?_
  refine Wk.iloadN (pc' := 23) C d1_22 rfl rfl ?_
  refine Wk.iconst (z := (3 : Int32)) (pc' := 24) C d1_23 rfl rfl ?_
  refine Wk.iadd (pc' := 25) C d1_24 rfl ?_
  refine Wk.iastore (pc' := 26) (q := 0) (i := 3) C d1_25 rfl (by decide) (by decide) rfl ?_
  change Wk p l e _ m _ below meth c _ _ n0 ((a3, ArrC Z .int 9 (upd (upd (upd (upd (fun _ => 0) 0 x0) 1 (x0 + (1 : Int32))) 2 (x0 + (2 : Int32))) 3 (x0 + (3 : Int32)))) :: L) 1 9 26 #[.val (.int x0)] [.ref a3]
  refine Wk.dup (pc' := 27) C d1_26 rfl rfl ?_
  refine Wk.iconst (z := (4 : Int32)) (pc' := 28) C d1_27 rfl rfl ?_
  refine Wk.iloadN (pc' := 29) C d1_28 rfl rfl ?_
  refine Wk.iconst (z := (4 : Int32)) (pc' := 30) C d1_29 rfl rfl ?_
  refine Wk.iadd (pc' := 31) C d1_30 rfl ?_
  refine Wk.iastore (pc' := 32) (q := 0) (i := 4) C d1_31 rfl (by decide) (by decide) rfl ?_
  change Wk p l e _ m _ below meth c _ _ n0 ((a3, ArrC Z .int 9 (upd (upd (upd (upd (upd (fun _ => 0) 0 x0) 1 (x0 + (1 : Int32))) 2 (x0 + (2 : Int32))) 3 (x0 + (3 : Int32))) 4 (x0 + (4 : Int32)))) :: L) 1 9 32 #[.val (.int x0)] [.ref a3]
  refine Wk.dup (pc' := 33) C d1_32 rfl rfl ?_
  refine Wk.iconst (z := (5 : Int32)) (pc' := 34) C d1_33 rfl rfl ?_
  refine Wk.iloadN (pc' := 35) C d1_34 rfl rfl ?_
  refine Wk.iconst (z := (5 : Int32)) (pc' := 36) C d1_35 rfl rfl ?_
  refine Wk.iadd (pc' := 37) C d1_36 rfl ?_
  refine Wk.iastore (pc' := 38) (q := 0) (i := 5) C d1_37 rfl (by decide) (by decide) rfl ?_
  change Wk p l e _ m _ below meth c _ _ n0 ((a3, ArrC Z .int 9 (upd (upd (upd (upd (upd (upd (fun _ => 0) 0 x0) 1 (x0 + (1 : Int32))) 2 (x0 + (2 : Int32))) 3 (x0 + (3 : Int32))) 4 (x0 + (4 : Int32))) 5 (x0 + (5 : Int32)))) :: L) 1 9 38 #[.val (.int x0)] [.ref a3]
  refine Wk.dup (pc' := 39) C d1_38 rfl rfl ?_
  refine Wk.bipush (z := (6 : Int32)) (pc' := 41) C d1_39 rfl rfl ?_
  refine Wk.iloadN (pc' := 42) C d1_41 rfl rfl ?_
  refine Wk.bipush (z := (6 : Int32)) (pc' := 44) C d1_42 rfl rfl ?_
  refine Wk.iadd (pc' := 45) C d1_44 rfl ?_
  refine Wk.iastore (pc' := 46) (q := 0) (i := 6) C d1_45 rfl (by decide) (by decide) rfl ?_
  change Wk p l e _ m _ below meth c _ _ n0 ((a3, ArrC Z .int 9 (upd (upd (upd (upd (upd (upd (upd (fun _ => 0) 0 x0) 1 (x0 + (1 : Int32))) 2 (x0 + (2 : Int32))) 3 (x0 + (3 : Int32))) 4 (x0 + (4 : Int32))) 5 (x0 + (5 : Int32))) 6 (x0 + (6 : Int32)))) :: L) 1 9 46 #[.val (.int x0)] [.ref a3]
  refine Wk.dup (pc' := 47) C d1_46 rfl rfl ?_
  refine Wk.bipush (z := (7 : Int32)) (pc' := 49) C d1_47 rfl rfl ?_
  refine Wk.iloadN (pc' := 50) C d1_49 rfl rfl ?_
  refine Wk.bipush (z := (7 : Int32)) (pc' := 52) C d1_50 rfl rfl ?_
  refine Wk.iadd (pc' := 53) C d1_52 rfl ?_
  refine Wk.iastore (pc' := 54) (q := 0) (i := 7) C d1_53 rfl (by decide) (by decide) rfl ?_
  change Wk p l e _ m _ below meth c _ _ n0 ((a3, ArrC Z .int 9 (upd (upd (upd (upd (upd (upd (upd (upd (fun _ => 0) 0 x0) 1 (x0 + (1 : Int32))) 2 (x0 + (2 : Int32))) 3 (x0 + (3 : Int32))) 4 (x0 + (4 : Int32))) 5 (x0 + (5 : Int32))) 6 (x0 + (6 : Int32))) 7 (x0 + (7 : Int32)))) :: L) 1 9 54 #[.val (.int x0)] [.ref a3]
  refine Wk.dup (pc' := 55) C d1_54 rfl rfl ?_
  refine Wk.bipush (z := (8 : Int32)) (pc' := 57) C d1_55 rfl rfl ?_
  refine Wk.iloadN (pc' := 58) C d1_57 rfl rfl ?_
  refine Wk.bipush (z := (8 : Int32)) (pc' := 60) C d1_58 rfl rfl ?_
  refine Wk.iadd (pc' := 61) C d1_60 rfl ?_
  refine Wk.iastore (pc' := 62) (q := 0) (i := 8) C d1_61 rfl (by decide) (by decide) rfl ?_
  change Wk p l e _ m _ below meth c _ _ n0 ((a3, ArrC Z .int 9 (upd (upd (upd (upd (upd (upd (upd (upd (upd (fun _ => 0) 0 x0) 1 (x0 + (1 : Int32))) 2 (x0 + (2 : Int32))) 3 (x0 + (3 : Int32))) 4 (x0 + (4 : Int32))) 5 (x0 + (5 : Int32))) 6 (x0 + (6 : Int32))) 7 (x0 + (7 : Int32))) 8 (x0 + (8 : Int32)))) :: L) 1 9 62 #[.val (.int x0)] [.ref a3]
  exact Wk.retA C J d1_62 (by decide) (by decide) rfl rfl (fun h O => ⟨_, _, rfl, ⟨rfl, rfl, rfl, rfl, rfl, rfl, rfl, rfl, rfl⟩, O⟩)
theorem ef_rm2 (m : MethodId) (r0 : Addr) : entryFrame m #[.ref r0] 1 = mkF m 0 #[.val (.ref r0)] [] := by first | (simp [entryFrame, mkF, argsToLocals, Value.category]; done) | rfl
set_option maxRecDepth 65536 in
set_option maxHeartbeats 4000000 in
theorem rm2 (l : Launch) (Z : State) (a0 : Array Value) (hw : HW Z a0) (r0 : Addr) (L : List (Addr × (Cell → Prop))) (h : Heap) (n0 : Nat) (O : Own n0 h ((r0, ObjC Z "com/example/kensaku/kensaku/index/Postings$Builder" ks_0 [.null, .null, .null, .int (0 : Int32)]) :: L)) :
    Meth l Z (⟨"com/example/kensaku/kensaku/index/Postings$Builder", "<init>", "()V"⟩ : MethodName) prog_20_method_1_code 1 none [] ({ frames := 1, cells := 3, slots := 25, locals := 12 } : Room) #[.ref r0] h n0 (fun v h' => ∃ b1 b2 b3 : Addr, v = none ∧ Own n0 h' ((b3, ArrC Z .int 8 (fun _ => 0)) :: (b2, ArrC Z .int 9 (fun _ => 0)) :: (b1, ArrC Z .int 8 (fun _ => 0)) :: (r0, ObjC Z "com/example/kensaku/kensaku/index/Postings$Builder" ks_0 [.ref b1, .ref b2, .ref b3, .int (0 : Int32)]) :: L)) := by
  refine Meth.of (plainFor_of_name pn_1) (fun m => ef_rm2 m r0) O ?_
  intro p e m below meth c M FE C J
  change Cx Z "com/example/kensaku/kensaku/index/Postings$Builder" "<init>" prog_20_method_1_code 1 none p m meth c M at C
  clear O
  refine Wk.aloadN (pc' := 1) C d2_0 rfl rfl rfl ?_
  refine Wk.objInit (pc' := 4) (W0 := 0) C (w12 hw) (w13 hw) (w14 hw) d2_1 rfl (by decide) rfl (by decide) rfl ?_
  refine Wk.aloadN (pc' := 5) C d2_4 rfl rfl rfl ?_
  refine Wk.bipush (z := (8 : Int32)) (pc' := 7) C d2_5 rfl rfl ?_
  refine Wk.newarray (pc' := 9) (aty := .int) (nn := 8) (cap := 8) (d := 0) C (w5 hw) d2_7 rfl rfl (by decide) (by decide) (by decide) (by decide) (by decide) rfl ?_
  intro a4
  change Wk p l e _ m _ below meth c _ _ n0 ((a4, ArrC Z .int 8 (fun _ => 0)) :: (r0, ObjC Z "com/example/kensaku/kensaku/index/Postings$Builder" ks_0 [.null, .null, .null, .int (0 : Int32)]) :: L) 1 8 9 #[.val (.ref r0)] [.ref a4, .ref r0]
  refine Wk.putfield (pc' := 12) (host := "") (q := 1) (i := 0) C (Or.inl (w15 hw)) (lays_ks_0 hw) (Or.inl (w16 hw)) (w7 hw) d2_9 rfl rfl (Nat.le_of_ble_eq_true rfl) rfl rfl rfl ?_
  change Wk p l e _ m _ below meth c _ _ n0 ((a4, ArrC Z .int 8 (fun _ => 0)) :: (r0, ObjC Z "com/example/kensaku/kensaku/index/Postings$Builder" ks_0 [.ref a4, .null, .null, .int (0 : Int32)]) :: L) 1 8 12 #[.val (.ref r0)] []
  refine Wk.aloadN (pc' := 13) C d2_12 rfl rfl rfl ?_
  refine Wk.bipush (z := (9 : Int32)) (pc' := 15) C d2_13 rfl rfl ?_
  refine Wk.newarray (pc' := 17) (aty := .int) (nn := 9) (cap := 9) (d := 0) C (w5 hw) d2_15 rfl rfl (by decide) (by decide) (by decide) (by decide) (by decide) rfl ?_
  intro a5
  change Wk p l e _ m _ below meth c _ _ n0 ((a5, ArrC Z .int 9 (fun _ => 0)) :: (a4, ArrC Z .int 8 (fun _ => 0)) :: (r0, ObjC Z "com/example/kensaku/kensaku/index/Postings$Builder" ks_0 [.ref a4, .null, .null, .int (0 : Int32)]) :: L) 2 17 17 #[.val (.ref r0)] [.ref a5, .ref r0]
  refine Wk.putfield (pc' := 20) (host := "") (q := 2) (i := 1) C (Or.inl (w17 hw)) (lays_ks_0 hw) (Or.inl (w18 hw)) (w7 hw) d2_17 rfl rfl (Nat.le_of_ble_eq_true rfl) rfl rfl rfl ?_
  change Wk p l e _ m _ below meth c _ _ n0 ((a5, ArrC Z .int 9 (fun _ => 0)) :: (a4, ArrC Z .int 8 (fun _ => 0)) :: (r0, ObjC Z "com/example/kensaku/kensaku/index/Postings$Builder" ks_0 [.ref a4, .ref a5, .null, .int (0 : Int32)]) :: L) 2 17 20 #[.val (.ref r0)] []
  refine Wk.aloadN (pc' := 21) C d2_20 rfl rfl rfl ?_
  refine Wk.bipush (z := (8 : Int32)) (pc' := 23) C d2_21 rfl rfl ?_
  refine Wk.newarray (pc' := 25) (aty := .int) (nn := 8) (cap := 8) (d := 0) C (w5 hw) d2_23 rfl rfl (by decide) (by decide) (by decide) (by decide) (by decide) rfl ?_
  intro a6
  change Wk p l e _ m _ below meth c _ _ n0 ((a6, ArrC Z .int 8 (fun _ => 0)) :: (a5, ArrC Z .int 9 (fun _ => 0)) :: (a4, ArrC Z .int 8 (fun _ => 0)) :: (r0, ObjC Z "com/example/kensaku/kensaku/index/Postings$Builder" ks_0 [.ref a4, .ref a5, .null, .int (0 : Int32)]) :: L) 3 25 25 #[.val (.ref r0)] [.ref a6, .ref r0]
  refine Wk.putfield (pc' := 28) (host := "") (q := 3) (i := 2) C (Or.inl (w19 hw)) (lays_ks_0 hw) (Or.inl (w20 hw)) (w7 hw) d2_25 rfl rfl (Nat.le_of_ble_eq_true rfl) rfl rfl rfl ?_
  change Wk p l e _ m _ below meth c _ _ n0 ((a6, ArrC Z .int 8 (fun _ => 0)) :: (a5, ArrC Z .int 9 (fun _ => 0)) :: (a4, ArrC Z .int 8 (fun _ => 0)) :: (r0, ObjC Z "com/example/kensaku/kensaku/index/Postings$Builder" ks_0 [.ref a4, .ref a5, .ref a6, .int (0 : Int32)]) :: L) 3 25 28 #[.val (.ref r0)] []
  exact Wk.retV C J d2_28 (by decide) (by decide) (fun h O => ⟨_, _, _, rfl, O⟩)
theorem ef_rm5_4 (m : MethodId) (r0 : Addr) (x1 : Int32) : entryFrame m #[.ref r0, .int x1] 3 = mkF m 0 #[.val (.ref r0), .val (.int x1), .unset] [] := by first | (simp [entryFrame, mkF, argsToLocals, Value.category]; done) | rfl
set_option maxRecDepth 65536 in
set_option maxHeartbeats 4000000 in
theorem rm5_4 (l : Launch) (Z : State) (a0 : Array Value) (hw : HW Z a0) (r0 : Addr) (x1 : Int32) (L : List (Addr × (Cell → Prop))) (q na j : Nat) (f : Nat → Int32) (h : Heap) (n0 : Nat) (O : Own n0 h L) (hq : L[q]? = some (r0, ArrC Z .int na f)) (hj : x1.toInt = (j : Int)) (hcap : j ≤ 4) (hna : na ≤ 500) :
    Meth l Z (⟨"java/util/Arrays", "copyOf", "([II)[I"⟩ : MethodName) jdk_65_method_123_code 3 (some (.array .int)) [] ({ frames := 1, cells := 1, slots := 4, locals := 30 } : Room) #[.ref r0, .int x1] h n0 (fun v h' => ∃ (a : Addr) (g : Nat → Int32), v = some (.ref a) ∧ (∀ i, i < min na j → g i = f i) ∧ Own n0 h' ((a, ArrC Z .int j g) :: L)) := by
  refine Meth.of (plainFor_of_name pn_2) (fun m => ef_rm5_4 m r0 x1) O ?_
  intro p e m below meth c M FE C J
  change Cx Z "java/util/Arrays" "copyOf" jdk_65_method_123_code 3 (some (.array .int)) p m meth c M at C
  clear O
  refine Wk.iloadN (pc' := 1) C d5_0 rfl rfl ?_
  refine Wk.aloadN (pc' := 2) C d5_1 rfl rfl rfl ?_
  refine Wk.arraylength (pc' := 3) (q := q) (z := na.toInt32) C d5_2 hq (fun _ A => ⟨A.1, A.2.2.1⟩) rfl rfl ?_
  refine Wk.icmp_ne (pcT := 14) (pcF := 6) C d5_3 (by decide) (by decide) rfl (fun c7 => ?_) (fun c7 => ?_)
  · skip
    refine Wk.iloadN (pc' := 15) C d5_14 rfl rfl ?_
    refine Wk.newarray (pc' := 17) (aty := .int) (nn := j) (cap := 4) (d := 0) C (w5 hw) d5_15 rfl rfl hj hcap (by decide) (by decide) (by decide) rfl ?_
    intro a8
    change Wk p l e _ m _ below meth c _ _ n0 ((a8, ArrC Z .int j (fun _ => 0)) :: L) 1 4 17 #[.val (.ref r0), .val (.int x1), .unset] [.ref a8]
    refine Wk.astoreN (Ls' := #[.val (.ref r0), .val (.int x1), .val (.ref a8)]) (pc' := 18) C d5_17 rfl rfl rfl ?_
    refine Wk.aloadN (pc' := 19) C d5_18 rfl rfl rfl ?_
    refine Wk.iconst (z := (0 : Int32)) (pc' := 20) C d5_19 rfl rfl ?_
    refine Wk.aloadN (pc' := 21) C d5_20 rfl rfl rfl ?_
    refine Wk.iconst (z := (0 : Int32)) (pc' := 22) C d5_21 rfl rfl ?_
    refine Wk.aloadN (pc' := 23) C d5_22 rfl rfl rfl ?_
    refine Wk.arraylength (pc' := 24) (q := (q + 1)) (z := na.toInt32) C d5_23 hq (fun _ A => ⟨A.1, A.2.2.1⟩) rfl rfl ?_
    refine Wk.iloadN (pc' := 25) C d5_24 rfl rfl ?_
    refine Wk.callS (pc' := 28) (rm := { frames := 0, cells := 0, slots := 0, locals := 0 }) (W0 := 4) (argsL := [.int na.toInt32, .int x1]) (st := [.int (0 : Int32), .ref a8, .int (0 : Int32), .ref r0]) C (w35 hw) (w36 hw) (w37 hw) (w38 hw) (by decide) (fun h O => rm6 l Z a0 hw na.toInt32 x1 ((a8, ArrC Z .int j (fun _ => 0)) :: L) h n0 O) (by decide) (by decide) (by decide) (by decide) d5_25 rfl pd_0 rfl rfl rfl rfl ?_
    rintro _ h' ⟨rfl, O'⟩
    refine ⟨_, O', ?_⟩
    change Wk p l e _ m _ below meth c _ _ n0 ((a8, ArrC Z .int j (fun _ => 0)) :: L) 1 4 28 #[.val (.ref r0), .val (.int x1), .val (.ref a8)] [.int (Fmin na.toInt32 x1), .int (0 : Int32), .ref a8, .int (0 : Int32), .ref r0]
    refine Wk.arraycopy (pc' := 31) (W0 := 0) (q1 := (q + 1)) (q2 := 0) (i := 0) (j := 0) (kk := (min na j)) C (w39 hw) (w42 hw) (w40 hw) (w41 hw) d5_28 hq rfl rfl (by omega) (by omega) rfl rfl (own_min (toI (by omega)) hj) (by omega) (by omega) rfl (by decide) rfl (by decide) rfl ?_
    change Wk p l e _ m _ below meth c _ _ n0 ((a8, ArrC Z .int j (cpy f (fun _ => 0) 0 0 (min na j))) :: L) 1 4 31 #[.val (.ref r0), .val (.int x1), .val (.ref a8)] []
    refine Wk.aloadN (pc' := 32) C d5_31 rfl rfl rfl ?_
    exact Wk.retA C J d5_32 (by decide) (by decide) rfl rfl (fun h O => ⟨_, _, rfl, fun i hi => cpy_lo _ _ hi, O⟩)
  · skip
    have hjn : j = na := by have q := toI (n := na) (by omega); rw [← c7] at q; omega
    refine Wk.aloadN (pc' := 7) C d5_6 rfl rfl rfl ?_
    refine Wk.cloneA (pc' := 10) (W0 := 0) (q := q) (cap := 4) C (w64 hw) (w65 hw) (w69 hw) (w67 hw) (w68 hw) (w70 hw) d5_7 (by decide) hq (by omega) (by omega) rfl (by decide) rfl (by decide) (by decide) (by decide) rfl ?_
    intro a9
    change Wk p l e _ m _ below meth c _ _ n0 ((a9, ArrC Z .int na f) :: L) 1 4 10 #[.val (.ref r0), .val (.int x1), .unset] [.ref a9]
    refine Wk.castA (pc' := 13) (q := 0) C (w71 hw) d5_10 (by decide) rfl rfl ?_
    subst hjn
    exact Wk.retA C J d5_13 (by decide) (by decide) rfl rfl (fun h O => ⟨_, _, rfl, fun i hi => rfl, O⟩)
theorem ef_rm5_16 (m : MethodId) (r0 : Addr) (x1 : Int32) : entryFrame m #[.ref r0, .int x1] 3 = mkF m 0 #[.val (.ref r0), .val (.int x1), .unset] [] := by first | (simp [entryFrame, mkF, argsToLocals, Value.category]; done) | rfl
set_option maxRecDepth 65536 in
set_option maxHeartbeats 4000000 in
theorem rm5_16 (l : Launch) (Z : State) (a0 : Array Value) (hw : HW Z a0) (r0 : Addr) (x1 : Int32) (L : List (Addr × (Cell → Prop))) (q na j : Nat) (f : Nat → Int32) (h : Heap) (n0 : Nat) (O : Own n0 h L) (hq : L[q]? = some (r0, ArrC Z .int na f)) (hj : x1.toInt = (j : Int)) (hcap : j ≤ 16) (hna : na ≤ 500) :
    Meth l Z (⟨"java/util/Arrays", "copyOf", "([II)[I"⟩ : MethodName) jdk_65_method_123_code 3 (some (.array .int)) [] ({ frames := 1, cells := 1, slots := 16, locals := 30 } : Room) #[.ref r0, .int x1] h n0 (fun v h' => ∃ (a : Addr) (g : Nat → Int32), v = some (.ref a) ∧ (∀ i, i < min na j → g i = f i) ∧ Own n0 h' ((a, ArrC Z .int j g) :: L)) := by
  refine Meth.of (plainFor_of_name pn_2) (fun m => ef_rm5_16 m r0 x1) O ?_
  intro p e m below meth c M FE C J
  change Cx Z "java/util/Arrays" "copyOf" jdk_65_method_123_code 3 (some (.array .int)) p m meth c M at C
  clear O
  refine Wk.iloadN (pc' := 1) C d5_0 rfl rfl ?_
  refine Wk.aloadN (pc' := 2) C d5_1 rfl rfl rfl ?_
  refine Wk.arraylength (pc' := 3) (q := q) (z := na.toInt32) C d5_2 hq (fun _ A => ⟨A.1, A.2.2.1⟩) rfl rfl ?_
  refine Wk.icmp_ne (pcT := 14) (pcF := 6) C d5_3 (by decide) (by decide) rfl (fun c10 => ?_) (fun c10 => ?_)
  · skip
    refine Wk.iloadN (pc' := 15) C d5_14 rfl rfl ?_
    refine Wk.newarray (pc' := 17) (aty := .int) (nn := j) (cap := 16) (d := 0) C (w5 hw) d5_15 rfl rfl hj hcap (by decide) (by decide) (by decide) rfl ?_
    intro a11
    change Wk p l e _ m _ below meth c _ _ n0 ((a11, ArrC Z .int j (fun _ => 0)) :: L) 1 16 17 #[.val (.ref r0), .val (.int x1), .unset] [.ref a11]
    refine Wk.astoreN (Ls' := #[.val (.ref r0), .val (.int x1), .val (.ref a11)]) (pc' := 18) C d5_17 rfl rfl rfl ?_
    refine Wk.aloadN (pc' := 19) C d5_18 rfl rfl rfl ?_
    refine Wk.iconst (z := (0 : Int32)) (pc' := 20) C d5_19 rfl rfl ?_
    refine Wk.aloadN (pc' := 21) C d5_20 rfl rfl rfl ?_
    refine Wk.iconst (z := (0 : Int32)) (pc' := 22) C d5_21 rfl rfl ?_
    refine Wk.aloadN (pc' := 23) C d5_22 rfl rfl rfl ?_
    refine Wk.arraylength (pc' := 24) (q := (q + 1)) (z := na.toInt32) C d5_23 hq (fun _ A => ⟨A.1, A.2.2.1⟩) rfl rfl ?_
    refine Wk.iloadN (pc' := 25) C d5_24 rfl rfl ?_
    refine Wk.callS (pc' := 28) (rm := { frames := 0, cells := 0, slots := 0, locals := 0 }) (W0 := 4) (argsL := [.int na.toInt32, .int x1]) (st := [.int (0 : Int32), .ref a11, .int (0 : Int32), .ref r0]) C (w35 hw) (w36 hw) (w37 hw) (w38 hw) (by decide) (fun h O => rm6 l Z a0 hw na.toInt32 x1 ((a11, ArrC Z .int j (fun _ => 0)) :: L) h n0 O) (by decide) (by decide) (by decide) (by decide) d5_25 rfl pd_0 rfl rfl rfl rfl ?_
    rintro _ h' ⟨rfl, O'⟩
    refine ⟨_, O', ?_⟩
    change Wk p l e _ m _ below meth c _ _ n0 ((a11, ArrC Z .int j (fun _ => 0)) :: L) 1 16 28 #[.val (.ref r0), .val (.int x1), .val (.ref a11)] [.int (Fmin na.toInt32 x1), .int (0 : Int32), .ref a11, .int (0 : Int32), .ref r0]
    refine Wk.arraycopy (pc' := 31) (W0 := 0) (q1 := (q + 1)) (q2 := 0) (i := 0) (j := 0) (kk := (min na j)) C (w39 hw) (w42 hw) (w40 hw) (w41 hw) d5_28 hq rfl rfl (by omega) (by omega) rfl rfl (own_min (toI (by omega)) hj) (by omega) (by omega) rfl (by decide) rfl (by decide) rfl ?_
    change Wk p l e _ m _ below meth c _ _ n0 ((a11, ArrC Z .int j (cpy f (fun _ => 0) 0 0 (min na j))) :: L) 1 16 31 #[.val (.ref r0), .val (.int x1), .val (.ref a11)] []
    refine Wk.aloadN (pc' := 32) C d5_31 rfl rfl rfl ?_
    exact Wk.retA C J d5_32 (by decide) (by decide) rfl rfl (fun h O => ⟨_, _, rfl, fun i hi => cpy_lo _ _ hi, O⟩)
  · skip
    have hjn : j = na := by have q := toI (n := na) (by omega); rw [← c10] at q; omega
    refine Wk.aloadN (pc' := 7) C d5_6 rfl rfl rfl ?_
    refine Wk.cloneA (pc' := 10) (W0 := 0) (q := q) (cap := 16) C (w64 hw) (w65 hw) (w69 hw) (w67 hw) (w68 hw) (w70 hw) d5_7 (by decide) hq (by omega) (by omega) rfl (by decide) rfl (by decide) (by decide) (by decide) rfl ?_
    intro a12
    change Wk p l e _ m _ below meth c _ _ n0 ((a12, ArrC Z .int na f) :: L) 1 16 10 #[.val (.ref r0), .val (.int x1), .unset] [.ref a12]
    refine Wk.castA (pc' := 13) (q := 0) C (w71 hw) d5_10 (by decide) rfl rfl ?_
    subst hjn
    exact Wk.retA C J d5_13 (by decide) (by decide) rfl rfl (fun h O => ⟨_, _, rfl, fun i hi => rfl, O⟩)
theorem ef_rm5_27 (m : MethodId) (r0 : Addr) (x1 : Int32) : entryFrame m #[.ref r0, .int x1] 3 = mkF m 0 #[.val (.ref r0), .val (.int x1), .unset] [] := by first | (simp [entryFrame, mkF, argsToLocals, Value.category]; done) | rfl
set_option maxRecDepth 65536 in
set_option maxHeartbeats 4000000 in
theorem rm5_27 (l : Launch) (Z : State) (a0 : Array Value) (hw : HW Z a0) (r0 : Addr) (x1 : Int32) (L : List (Addr × (Cell → Prop))) (q na j : Nat) (f : Nat → Int32) (h : Heap) (n0 : Nat) (O : Own n0 h L) (hq : L[q]? = some (r0, ArrC Z .int na f)) (hj : x1.toInt = (j : Int)) (hcap : j ≤ 27) (hna : na ≤ 500) :
    Meth l Z (⟨"java/util/Arrays", "copyOf", "([II)[I"⟩ : MethodName) jdk_65_method_123_code 3 (some (.array .int)) [] ({ frames := 1, cells := 1, slots := 27, locals := 30 } : Room) #[.ref r0, .int x1] h n0 (fun v h' => ∃ (a : Addr) (g : Nat → Int32), v = some (.ref a) ∧ (∀ i, i < min na j → g i = f i) ∧ Own n0 h' ((a, ArrC Z .int j g) :: L)) := by
  refine Meth.of (plainFor_of_name pn_2) (fun m => ef_rm5_27 m r0 x1) O ?_
  intro p e m below meth c M FE C J
  change Cx Z "java/util/Arrays" "copyOf" jdk_65_method_123_code 3 (some (.array .int)) p m meth c M at C
  clear O
  refine Wk.iloadN (pc' := 1) C d5_0 rfl rfl ?_
  refine Wk.aloadN (pc' := 2) C d5_1 rfl rfl rfl ?_
  refine Wk.arraylength (pc' := 3) (q := q) (z := na.toInt32) C d5_2 hq (fun _ A => ⟨A.1, A.2.2.1⟩) rfl rfl ?_
  refine Wk.icmp_ne (pcT := 14) (pcF := 6) C d5_3 (by decide) (by decide) rfl (fun c13 => ?_) (fun c13 => ?_)
  · skip
    refine Wk.iloadN (pc' := 15) C d5_14 rfl rfl ?_
    refine Wk.newarray (pc' := 17) (aty := .int) (nn := j) (cap := 27) (d := 0) C (w5 hw) d5_15 rfl rfl hj hcap (by decide) (by decide) (by decide) rfl ?_
    intro a14
    change Wk p l e _ m _ below meth c _ _ n0 ((a14, ArrC Z .int j (fun _ => 0)) :: L) 1 27 17 #[.val (.ref r0), .val (.int x1), .unset] [.ref a14]
    refine Wk.astoreN (Ls' := #[.val (.ref r0), .val (.int x1), .val (.ref a14)]) (pc' := 18) C d5_17 rfl rfl rfl ?_
    refine Wk.aloadN (pc' := 19) C d5_18 rfl rfl rfl ?_
    refine Wk.iconst (z := (0 : Int32)) (pc' := 20) C d5_19 rfl rfl ?_
    refine Wk.aloadN (pc' := 21) C d5_20 rfl rfl rfl ?_
    refine Wk.iconst (z := (0 : Int32)) (pc' := 22) C d5_21 rfl rfl ?_
    refine Wk.aloadN (pc' := 23) C d5_22 rfl rfl rfl ?_
    refine Wk.arraylength (pc' := 24) (q := (q + 1)) (z := na.toInt32) C d5_23 hq (fun _ A => ⟨A.1, A.2.2.1⟩) rfl rfl ?_
    refine Wk.iloadN (pc' := 25) C d5_24 rfl rfl ?_
    refine Wk.callS (pc' := 28) (rm := { frames := 0, cells := 0, slots := 0, locals := 0 }) (W0 := 4) (argsL := [.int na.toInt32, .int x1]) (st := [.int (0 : Int32), .ref a14, .int (0 : Int32), .ref r0]) C (w35 hw) (w36 hw) (w37 hw) (w38 hw) (by decide) (fun h O => rm6 l Z a0 hw na.toInt32 x1 ((a14, ArrC Z .int j (fun _ => 0)) :: L) h n0 O) (by decide) (by decide) (by decide) (by decide) d5_25 rfl pd_0 rfl rfl rfl rfl ?_
    rintro _ h' ⟨rfl, O'⟩
    refine ⟨_, O', ?_⟩
    change Wk p l e _ m _ below meth c _ _ n0 ((a14, ArrC Z .int j (fun _ => 0)) :: L) 1 27 28 #[.val (.ref r0), .val (.int x1), .val (.ref a14)] [.int (Fmin na.toInt32 x1), .int (0 : Int32), .ref a14, .int (0 : Int32), .ref r0]
    refine Wk.arraycopy (pc' := 31) (W0 := 0) (q1 := (q + 1)) (q2 := 0) (i := 0) (j := 0) (kk := (min na j)) C (w39 hw) (w42 hw) (w40 hw) (w41 hw) d5_28 hq rfl rfl (by omega) (by omega) rfl rfl (own_min (toI (by omega)) hj) (by omega) (by omega) rfl (by decide) rfl (by decide) rfl ?_
    change Wk p l e _ m _ below meth c _ _ n0 ((a14, ArrC Z .int j (cpy f (fun _ => 0) 0 0 (min na j))) :: L) 1 27 31 #[.val (.ref r0), .val (.int x1), .val (.ref a14)] []
    refine Wk.aloadN (pc' := 32) C d5_31 rfl rfl rfl ?_
    exact Wk.retA C J d5_32 (by decide) (by decide) rfl rfl (fun h O => ⟨_, _, rfl, fun i hi => cpy_lo _ _ hi, O⟩)
  · skip
    have hjn : j = na := by have q := toI (n := na) (by omega); rw [← c13] at q; omega
    refine Wk.aloadN (pc' := 7) C d5_6 rfl rfl rfl ?_
    refine Wk.cloneA (pc' := 10) (W0 := 0) (q := q) (cap := 27) C (w64 hw) (w65 hw) (w69 hw) (w67 hw) (w68 hw) (w70 hw) d5_7 (by decide) hq (by omega) (by omega) rfl (by decide) rfl (by decide) (by decide) (by decide) rfl ?_
    intro a15
    change Wk p l e _ m _ below meth c _ _ n0 ((a15, ArrC Z .int na f) :: L) 1 27 10 #[.val (.ref r0), .val (.int x1), .unset] [.ref a15]
    refine Wk.castA (pc' := 13) (q := 0) C (w71 hw) d5_10 (by decide) rfl rfl ?_
    subst hjn
    exact Wk.retA C J d5_13 (by decide) (by decide) rfl rfl (fun h O => ⟨_, _, rfl, fun i hi => rfl, O⟩)
theorem ef_rm5_32 (m : MethodId) (r0 : Addr) (x1 : Int32) : entryFrame m #[.ref r0, .int x1] 3 = mkF m 0 #[.val (.ref r0), .val (.int x1), .unset] [] := by first | (simp [entryFrame, mkF, argsToLocals, Value.category]; done) | rfl
set_option maxRecDepth 65536 in
set_option maxHeartbeats 4000000 in
theorem rm5_32 (l : Launch) (Z : State) (a0 : Array Value) (hw : HW Z a0) (r0 : Addr) (x1 : Int32) (L : List (Addr × (Cell → Prop))) (q na j : Nat) (f : Nat → Int32) (h : Heap) (n0 : Nat) (O : Own n0 h L) (hq : L[q]? = some (r0, ArrC Z .int na f)) (hj : x1.toInt = (j : Int)) (hcap : j ≤ 32) (hna : na ≤ 500) :
    Meth l Z (⟨"java/util/Arrays", "copyOf", "([II)[I"⟩ : MethodName) jdk_65_method_123_code 3 (some (.array .int)) [] ({ frames := 1, cells := 1, slots := 32, locals := 30 } : Room) #[.ref r0, .int x1] h n0 (fun v h' => ∃ (a : Addr) (g : Nat → Int32), v = some (.ref a) ∧ (∀ i, i < min na j → g i = f i) ∧ Own n0 h' ((a, ArrC Z .int j g) :: L)) := by
  refine Meth.of (plainFor_of_name pn_2) (fun m => ef_rm5_32 m r0 x1) O ?_
  intro p e m below meth c M FE C J
  change Cx Z "java/util/Arrays" "copyOf" jdk_65_method_123_code 3 (some (.array .int)) p m meth c M at C
  clear O
  refine Wk.iloadN (pc' := 1) C d5_0 rfl rfl ?_
  refine Wk.aloadN (pc' := 2) C d5_1 rfl rfl rfl ?_
  refine Wk.arraylength (pc' := 3) (q := q) (z := na.toInt32) C d5_2 hq (fun _ A => ⟨A.1, A.2.2.1⟩) rfl rfl ?_
  refine Wk.icmp_ne (pcT := 14) (pcF := 6) C d5_3 (by decide) (by decide) rfl (fun c16 => ?_) (fun c16 => ?_)
  · skip
    refine Wk.iloadN (pc' := 15) C d5_14 rfl rfl ?_
    refine Wk.newarray (pc' := 17) (aty := .int) (nn := j) (cap := 32) (d := 0) C (w5 hw) d5_15 rfl rfl hj hcap (by decide) (by decide) (by decide) rfl ?_
    intro a17
    change Wk p l e _ m _ below meth c _ _ n0 ((a17, ArrC Z .int j (fun _ => 0)) :: L) 1 32 17 #[.val (.ref r0), .val (.int x1), .unset] [.ref a17]
    refine Wk.astoreN (Ls' := #[.val (.ref r0), .val (.int x1), .val (.ref a17)]) (pc' := 18) C d5_17 rfl rfl rfl ?_
    refine Wk.aloadN (pc' := 19) C d5_18 rfl rfl rfl ?_
    refine Wk.iconst (z := (0 : Int32)) (pc' := 20) C d5_19 rfl rfl ?_
    refine Wk.aloadN (pc' := 21) C d5_20 rfl rfl rfl ?_
    refine Wk.iconst (z := (0 : Int32)) (pc' := 22) C d5_21 rfl rfl ?_
    refine Wk.aloadN (pc' := 23) C d5_22 rfl rfl rfl ?_
    refine Wk.arraylength (pc' := 24) (q := (q + 1)) (z := na.toInt32) C d5_23 hq (fun _ A => ⟨A.1, A.2.2.1⟩) rfl rfl ?_
    refine Wk.iloadN (pc' := 25) C d5_24 rfl rfl ?_
    refine Wk.callS (pc' := 28) (rm := { frames := 0, cells := 0, slots := 0, locals := 0 }) (W0 := 4) (argsL := [.int na.toInt32, .int x1]) (st := [.int (0 : Int32), .ref a17, .int (0 : Int32), .ref r0]) C (w35 hw) (w36 hw) (w37 hw) (w38 hw) (by decide) (fun h O => rm6 l Z a0 hw na.toInt32 x1 ((a17, ArrC Z .int j (fun _ => 0)) :: L) h n0 O) (by decide) (by decide) (by decide) (by decide) d5_25 rfl pd_0 rfl rfl rfl rfl ?_
    rintro _ h' ⟨rfl, O'⟩
    refine ⟨_, O', ?_⟩
    change Wk p l e _ m _ below meth c _ _ n0 ((a17, ArrC Z .int j (fun _ => 0)) :: L) 1 32 28 #[.val (.ref r0), .val (.int x1), .val (.ref a17)] [.int (Fmin na.toInt32 x1), .int (0 : Int32), .ref a17, .int (0 : Int32), .ref r0]
    refine Wk.arraycopy (pc' := 31) (W0 := 0) (q1 := (q + 1)) (q2 := 0) (i := 0) (j := 0) (kk := (min na j)) C (w39 hw) (w42 hw) (w40 hw) (w41 hw) d5_28 hq rfl rfl (by omega) (by omega) rfl rfl (own_min (toI (by omega)) hj) (by omega) (by omega) rfl (by decide) rfl (by decide) rfl ?_
    change Wk p l e _ m _ below meth c _ _ n0 ((a17, ArrC Z .int j (cpy f (fun _ => 0) 0 0 (min na j))) :: L) 1 32 31 #[.val (.ref r0), .val (.int x1), .val (.ref a17)] []
    refine Wk.aloadN (pc' := 32) C d5_31 rfl rfl rfl ?_
    exact Wk.retA C J d5_32 (by decide) (by decide) rfl rfl (fun h O => ⟨_, _, rfl, fun i hi => cpy_lo _ _ hi, O⟩)
  · skip
    have hjn : j = na := by have q := toI (n := na) (by omega); rw [← c16] at q; omega
    refine Wk.aloadN (pc' := 7) C d5_6 rfl rfl rfl ?_
    refine Wk.cloneA (pc' := 10) (W0 := 0) (q := q) (cap := 32) C (w64 hw) (w65 hw) (w69 hw) (w67 hw) (w68 hw) (w70 hw) d5_7 (by decide) hq (by omega) (by omega) rfl (by decide) rfl (by decide) (by decide) (by decide) rfl ?_
    intro a18
    change Wk p l e _ m _ below meth c _ _ n0 ((a18, ArrC Z .int na f) :: L) 1 32 10 #[.val (.ref r0), .val (.int x1), .unset] [.ref a18]
    refine Wk.castA (pc' := 13) (q := 0) C (w71 hw) d5_10 (by decide) rfl rfl ?_
    subst hjn
    exact Wk.retA C J d5_13 (by decide) (by decide) rfl rfl (fun h O => ⟨_, _, rfl, fun i hi => rfl, O⟩)
theorem ef_rm5_64 (m : MethodId) (r0 : Addr) (x1 : Int32) : entryFrame m #[.ref r0, .int x1] 3 = mkF m 0 #[.val (.ref r0), .val (.int x1), .unset] [] := by first | (simp [entryFrame, mkF, argsToLocals, Value.category]; done) | rfl
set_option maxRecDepth 65536 in
set_option maxHeartbeats 4000000 in
theorem rm5_64 (l : Launch) (Z : State) (a0 : Array Value) (hw : HW Z a0) (r0 : Addr) (x1 : Int32) (L : List (Addr × (Cell → Prop))) (q na j : Nat) (f : Nat → Int32) (h : Heap) (n0 : Nat) (O : Own n0 h L) (hq : L[q]? = some (r0, ArrC Z .int na f)) (hj : x1.toInt = (j : Int)) (hcap : j ≤ 64) (hna : na ≤ 500) :
    Meth l Z (⟨"java/util/Arrays", "copyOf", "([II)[I"⟩ : MethodName) jdk_65_method_123_code 3 (some (.array .int)) [] ({ frames := 1, cells := 1, slots := 64, locals := 30 } : Room) #[.ref r0, .int x1] h n0 (fun v h' => ∃ (a : Addr) (g : Nat → Int32), v = some (.ref a) ∧ (∀ i, i < min na j → g i = f i) ∧ Own n0 h' ((a, ArrC Z .int j g) :: L)) := by
  refine Meth.of (plainFor_of_name pn_2) (fun m => ef_rm5_64 m r0 x1) O ?_
  intro p e m below meth c M FE C J
  change Cx Z "java/util/Arrays" "copyOf" jdk_65_method_123_code 3 (some (.array .int)) p m meth c M at C
  clear O
  refine Wk.iloadN (pc' := 1) C d5_0 rfl rfl ?_
  refine Wk.aloadN (pc' := 2) C d5_1 rfl rfl rfl ?_
  refine Wk.arraylength (pc' := 3) (q := q) (z := na.toInt32) C d5_2 hq (fun _ A => ⟨A.1, A.2.2.1⟩) rfl rfl ?_
  refine Wk.icmp_ne (pcT := 14) (pcF := 6) C d5_3 (by decide) (by decide) rfl (fun c19 => ?_) (fun c19 => ?_)
  · skip
    refine Wk.iloadN (pc' := 15) C d5_14 rfl rfl ?_
    refine Wk.newarray (pc' := 17) (aty := .int) (nn := j) (cap := 64) (d := 0) C (w5 hw) d5_15 rfl rfl hj hcap (by decide) (by decide) (by decide) rfl ?_
    intro a20
    change Wk p l e _ m _ below meth c _ _ n0 ((a20, ArrC Z .int j (fun _ => 0)) :: L) 1 64 17 #[.val (.ref r0), .val (.int x1), .unset] [.ref a20]
    refine Wk.astoreN (Ls' := #[.val (.ref r0), .val (.int x1), .val (.ref a20)]) (pc' := 18) C d5_17 rfl rfl rfl ?_
    refine Wk.aloadN (pc' := 19) C d5_18 rfl rfl rfl ?_
    refine Wk.iconst (z := (0 : Int32)) (pc' := 20) C d5_19 rfl rfl ?_
    refine Wk.aloadN (pc' := 21) C d5_20 rfl rfl rfl ?_
    refine Wk.iconst (z := (0 : Int32)) (pc' := 22) C d5_21 rfl rfl ?_
    refine Wk.aloadN (pc' := 23) C d5_22 rfl rfl rfl ?_
    refine Wk.arraylength (pc' := 24) (q := (q + 1)) (z := na.toInt32) C d5_23 hq (fun _ A => ⟨A.1, A.2.2.1⟩) rfl rfl ?_
    refine Wk.iloadN (pc' := 25) C d5_24 rfl rfl ?_
    refine Wk.callS (pc' := 28) (rm := { frames := 0, cells := 0, slots := 0, locals := 0 }) (W0 := 4) (argsL := [.int na.toInt32, .int x1]) (st := [.int (0 : Int32), .ref a20, .int (0 : Int32), .ref r0]) C (w35 hw) (w36 hw) (w37 hw) (w38 hw) (by decide) (fun h O => rm6 l Z a0 hw na.toInt32 x1 ((a20, ArrC Z .int j (fun _ => 0)) :: L) h n0 O) (by decide) (by decide) (by decide) (by decide) d5_25 rfl pd_0 rfl rfl rfl rfl ?_
    rintro _ h' ⟨rfl, O'⟩
    refine ⟨_, O', ?_⟩
    change Wk p l e _ m _ below meth c _ _ n0 ((a20, ArrC Z .int j (fun _ => 0)) :: L) 1 64 28 #[.val (.ref r0), .val (.int x1), .val (.ref a20)] [.int (Fmin na.toInt32 x1), .int (0 : Int32), .ref a20, .int (0 : Int32), .ref r0]
    refine Wk.arraycopy (pc' := 31) (W0 := 0) (q1 := (q + 1)) (q2 := 0) (i := 0) (j := 0) (kk := (min na j)) C (w39 hw) (w42 hw) (w40 hw) (w41 hw) d5_28 hq rfl rfl (by omega) (by omega) rfl rfl (own_min (toI (by omega)) hj) (by omega) (by omega) rfl (by decide) rfl (by decide) rfl ?_
    change Wk p l e _ m _ below meth c _ _ n0 ((a20, ArrC Z .int j (cpy f (fun _ => 0) 0 0 (min na j))) :: L) 1 64 31 #[.val (.ref r0), .val (.int x1), .val (.ref a20)] []
    refine Wk.aloadN (pc' := 32) C d5_31 rfl rfl rfl ?_
    exact Wk.retA C J d5_32 (by decide) (by decide) rfl rfl (fun h O => ⟨_, _, rfl, fun i hi => cpy_lo _ _ hi, O⟩)
  · skip
    have hjn : j = na := by have q := toI (n := na) (by omega); rw [← c19] at q; omega
    refine Wk.aloadN (pc' := 7) C d5_6 rfl rfl rfl ?_
    refine Wk.cloneA (pc' := 10) (W0 := 0) (q := q) (cap := 64) C (w64 hw) (w65 hw) (w69 hw) (w67 hw) (w68 hw) (w70 hw) d5_7 (by decide) hq (by omega) (by omega) rfl (by decide) rfl (by decide) (by decide) (by decide) rfl ?_
    intro a21
    change Wk p l e _ m _ below meth c _ _ n0 ((a21, ArrC Z .int na f) :: L) 1 64 10 #[.val (.ref r0), .val (.int x1), .unset] [.ref a21]
    refine Wk.castA (pc' := 13) (q := 0) C (w71 hw) d5_10 (by decide) rfl rfl ?_
    subst hjn
    exact Wk.retA C J d5_13 (by decide) (by decide) rfl rfl (fun h O => ⟨_, _, rfl, fun i hi => rfl, O⟩)
theorem ef_rm9_0 (m : MethodId) (r0 : Addr) (x1 : Int32) (r2 : Addr) (x3 : Int32) : entryFrame m #[.ref r0, .int x1, .ref r2, .int x3] 5 = mkF m 0 #[.val (.ref r0), .val (.int x1), .val (.ref r2), .val (.int x3), .unset] [] := by first | (simp [entryFrame, mkF, argsToLocals, Value.category]; done) | rfl
set_option maxRecDepth 65536 in
set_option maxHeartbeats 4000000 in
theorem rm9_0 (l : Launch) (Z : State) (a0 : Array Value) (hw : HW Z a0) (r0 : Addr) (x1 : Int32) (r2 : Addr) (x3 : Int32) (L : List (Addr × (Cell → Prop))) (da sa pa : Addr) (q np t cc : Nat) (fd fs fq fa : Nat → Int32) (h : Heap) (n0 : Nat) (O : Own n0 h ((r0, ObjC Z "com/example/kensaku/kensaku/index/Postings$Builder" ks_0 [.ref da, .ref sa, .ref pa, .int (0 : Int32)]) :: (da, ArrC Z .int 8 fd) :: (sa, ArrC Z .int 9 fs) :: (pa, ArrC Z .int np fq) :: L)) (hq : L[q]? = some (r2, ArrC Z .int 9 fa)) (hc : x3.toInt = (cc : Int)) (hcc : cc ≤ 9) (ht : (fs 0).toInt = (t : Int)) (htk : t ≤ 0) (htn : t ≤ np) (hnp : np ≤ 8) :
    Meth l Z (⟨"com/example/kensaku/kensaku/index/Postings$Builder", "add", "(I[II)V"⟩ : MethodName) prog_20_method_2_code 5 none [] ({ frames := 2, cells := 1, slots := 16, locals := 64 } : Room) #[.ref r0, .int x1, .ref r2, .int x3] h n0 (fun v h' => ∃ (pa' : Addr) (np' : Nat) (fq' : Nat → Int32) (s' : Int32), v = none ∧ s' = fs 0 + x3 ∧ t + cc ≤ np' ∧ np' ≤ 16 ∧ (∀ i, i < t → fq' i = fq i) ∧ (∀ i, i < cc → fq' (t + i) = fa i) ∧ Own n0 h' ((r0, ObjC Z "com/example/kensaku/kensaku/index/Postings$Builder" ks_0 [.ref da, .ref sa, .ref pa', .int ((0 : Int32) + (1 : Int32))]) :: (da, ArrC Z .int 8 (upd fd 0 x1)) :: (sa, ArrC Z .int 9 (upd fs 1 s')) :: (pa', ArrC Z .int np' fq') :: L)) := by
  refine Meth.of (plainFor_of_name pn_1) (fun m => ef_rm9_0 m r0 x1 r2 x3) O ?_
  intro p e m below meth c M FE C J
  change Cx Z "com/example/kensaku/kensaku/index/Postings$Builder" "add" prog_20_method_2_code 5 none p m meth c M at C
  clear O
  refine Wk.aloadN (pc' := 1) C d9_0 rfl rfl rfl ?_
  refine Wk.getfield (pc' := 4) (host := "") (q := 0) (i := 3) C (Or.inl (w29 hw)) d9_1 rfl rfl rfl rfl ?_
  refine Wk.aloadN (pc' := 5) C d9_4 rfl rfl rfl ?_
  refine Wk.getfield (pc' := 8) (host := "") (q := 0) (i := 0) C (Or.inl (w15 hw)) d9_5 rfl rfl rfl rfl ?_
  refine Wk.arraylength (pc' := 9) (q := 1) (z := (8 : Int32)) C d9_8 rfl (fun _ A => ⟨A.1, A.2.2.1⟩) rfl rfl ?_
  refine Wk.icmp_ne (pcT := 48) (pcF := 12) C d9_9 (by decide) (by decide) rfl (fun _ => ?_) (fun q => absurd q (by decide))
  refine Wk.aloadN (pc' := 49) C d9_48 rfl rfl rfl ?_
  refine Wk.getfield (pc' := 52) (host := "") (q := 0) (i := 1) C (Or.inl (w17 hw)) d9_49 rfl rfl rfl rfl ?_
  refine Wk.aloadN (pc' := 53) C d9_52 rfl rfl rfl ?_
  refine Wk.getfield (pc' := 56) (host := "") (q := 0) (i := 3) C (Or.inl (w29 hw)) d9_53 rfl rfl rfl rfl ?_
  refine Wk.iaload (pc' := 57) (q := 2) (i := 0) C d9_56 rfl (by decide) (by decide) rfl ?_
  refine Wk.istoreV (fun v22 => #[.val (.ref r0), .val (.int x1), .val (.ref r2), .val (.int x3), .val (.int v22)]) (pc' := 59) C d9_57 rfl rfl ?_
  intro v22 hv22
  have hv : v22.toInt = (t : Int) := by rw [hv22]; exact ht
  refine Wk.aloadN (pc' := 60) C d9_59 rfl rfl rfl ?_
  refine Wk.getfield (pc' := 63) (host := "") (q := 0) (i := 2) C (Or.inl (w19 hw)) d9_60 rfl rfl rfl rfl ?_
  refine Wk.arraylength (pc' := 64) (q := 3) (z := np.toInt32) C d9_63 rfl (fun _ A => ⟨A.1, A.2.2.1⟩) rfl rfl ?_
  refine Wk.iload (pc' := 66) C d9_64 rfl rfl ?_
  refine Wk.iloadN (pc' := 67) C d9_66 rfl rfl ?_
  refine Wk.iadd (pc' := 68) C d9_67 rfl ?_
  refine Wk.icmp_ge (pcT := 96) (pcF := 71) C d9_68 (by decide) (by decide) rfl (fun c23 => ?_) (fun c23 => ?_)
  · skip
    have hge : t + cc ≤ np := by
      have q := c23
      rw [Int32.lt_iff_toInt_lt, toI (by omega), own_add hv hc (by omega)] at q
      omega
    refine Wk.aloadN (pc' := 97) C d9_96 rfl rfl rfl ?_
    refine Wk.iconst (z := (0 : Int32)) (pc' := 98) C d9_97 rfl rfl ?_
    refine Wk.aloadN (pc' := 99) C d9_98 rfl rfl rfl ?_
    refine Wk.getfield (pc' := 102) (host := "") (q := 0) (i := 2) C (Or.inl (w19 hw)) d9_99 rfl rfl rfl rfl ?_
    refine Wk.iload (pc' := 104) C d9_102 rfl rfl ?_
    refine Wk.iloadN (pc' := 105) C d9_104 rfl rfl ?_
    refine Wk.arraycopy (pc' := 108) (W0 := 0) (q1 := (q + 4)) (q2 := 3) (i := 0) (j := t) (kk := cc) C (w63 hw) (w42 hw) (w40 hw) (w41 hw) d9_105 hq rfl rfl (by omega) (by omega) rfl hv hc (by omega) (by omega) rfl (by decide) rfl (by decide) rfl ?_
    change Wk p l e _ m _ below meth c _ _ n0 ((r0, ObjC Z "com/example/kensaku/kensaku/index/Postings$Builder" ks_0 [.ref da, .ref sa, .ref pa, .int (0 : Int32)]) :: (da, ArrC Z .int 8 fd) :: (sa, ArrC Z .int 9 fs) :: (pa, ArrC Z .int np (cpy fa fq 0 t cc)) :: L) 0 0 108 #[.val (.ref r0), .val (.int x1), .val (.ref r2), .val (.int x3), .val (.int v22)] []
    refine Wk.aloadN (pc' := 109) C d9_108 rfl rfl rfl ?_
    refine Wk.getfield (pc' := 112) (host := "") (q := 0) (i := 0) C (Or.inl (w15 hw)) d9_109 rfl rfl rfl rfl ?_
    refine Wk.aloadN (pc' := 113) C d9_112 rfl rfl rfl ?_
    refine Wk.getfield (pc' := 116) (host := "") (q := 0) (i := 3) C (Or.inl (w29 hw)) d9_113 rfl rfl rfl rfl ?_
    refine Wk.iloadN (pc' := 117) C d9_116 rfl rfl ?_
    refine Wk.iastore (pc' := 118) (q := 1) (i := 0) C d9_117 rfl (by decide) (by decide) rfl ?_
    change Wk p l e _ m _ below meth c _ _ n0 ((r0, ObjC Z "com/example/kensaku/kensaku/index/Postings$Builder" ks_0 [.ref da, .ref sa, .ref pa, .int (0 : Int32)]) :: (da, ArrC Z .int 8 (upd fd 0 x1)) :: (sa, ArrC Z .int 9 fs) :: (pa, ArrC Z .int np (cpy fa fq 0 t cc)) :: L) 0 0 118 #[.val (.ref r0), .val (.int x1), .val (.ref r2), .val (.int x3), .val (.int v22)] []
    refine Wk.aloadN (pc' := 119) C d9_118 rfl rfl rfl ?_
    refine Wk.dup (pc' := 120) C d9_119 rfl rfl ?_
    refine Wk.getfield (pc' := 123) (host := "") (q := 0) (i := 3) C (Or.inl (w29 hw)) d9_120 rfl rfl rfl rfl ?_
    refine Wk.iconst (z := (1 : Int32)) (pc' := 124) C d9_123 rfl rfl ?_
    refine Wk.iadd (pc' := 125) C d9_124 rfl ?_
    refine Wk.putfield (pc' := 128) (host := "") (q := 0) (i := 3) C (Or.inl (w29 hw)) (lays_ks_0 hw) (Or.inl (w30 hw)) (w7 hw) d9_125 rfl rfl (Nat.le_of_ble_eq_true rfl) rfl rfl rfl ?_
    change Wk p l e _ m _ below meth c _ _ n0 ((r0, ObjC Z "com/example/kensaku/kensaku/index/Postings$Builder" ks_0 [.ref da, .ref sa, .ref pa, .int ((0 : Int32) + (1 : Int32))]) :: (da, ArrC Z .int 8 (upd fd 0 x1)) :: (sa, ArrC Z .int 9 fs) :: (pa, ArrC Z .int np (cpy fa fq 0 t cc)) :: L) 0 0 128 #[.val (.ref r0), .val (.int x1), .val (.ref r2), .val (.int x3), .val (.int v22)] []
    refine Wk.aloadN (pc' := 129) C d9_128 rfl rfl rfl ?_
    refine Wk.getfield (pc' := 132) (host := "") (q := 0) (i := 1) C (Or.inl (w17 hw)) d9_129 rfl rfl rfl rfl ?_
    refine Wk.aloadN (pc' := 133) C d9_132 rfl rfl rfl ?_
    refine Wk.getfield (pc' := 136) (host := "") (q := 0) (i := 3) C (Or.inl (w29 hw)) d9_133 rfl rfl rfl rfl ?_
    refine Wk.iload (pc' := 138) C d9_136 rfl rfl ?_
    refine Wk.iloadN (pc' := 139) C d9_138 rfl rfl ?_
    refine Wk.iadd (pc' := 140) C d9_139 rfl ?_
    refine Wk.iastore (pc' := 141) (q := 2) (i := 1) C d9_140 rfl (by decide) (by decide) rfl ?_
    change Wk p l e _ m _ below meth c _ _ n0 ((r0, ObjC Z "com/example/kensaku/kensaku/index/Postings$Builder" ks_0 [.ref da, .ref sa, .ref pa, .int ((0 : Int32) + (1 : Int32))]) :: (da, ArrC Z .int 8 (upd fd 0 x1)) :: (sa, ArrC Z .int 9 (upd fs 1 (v22 + x3))) :: (pa, ArrC Z .int np (cpy fa fq 0 t cc)) :: L) 0 0 141 #[.val (.ref r0), .val (.int x1), .val (.ref r2), .val (.int x3), .val (.int v22)] []
    exact Wk.retV C J d9_141 (by decide) (by decide) (fun h O => ⟨_, _, _, _, rfl, by rw [hv22], by omega, by omega, fun i hi => (cpy_old _ _ hi), fun i hi => cpy_new _ _ hi, ((((O.front 3 rfl).front 3 rfl).front 3 rfl).front 3 rfl)⟩)
  · skip
    have hlt : np < t + cc := by
      have q := c23
      rw [Int32.lt_iff_toInt_lt, toI (by omega), own_add hv hc (by omega)] at q
      omega
    refine Wk.aloadN (pc' := 72) C d9_71 rfl rfl rfl ?_
    refine Wk.aloadN (pc' := 73) C d9_72 rfl rfl rfl ?_
    refine Wk.getfield (pc' := 76) (host := "") (q := 0) (i := 2) C (Or.inl (w19 hw)) d9_73 rfl rfl rfl rfl ?_
    refine Wk.iconst (z := (2 : Int32)) (pc' := 77) C d9_76 rfl rfl ?_
    refine Wk.aloadN (pc' := 78) C d9_77 rfl rfl rfl ?_
    refine Wk.getfield (pc' := 81) (host := "") (q := 0) (i := 2) C (Or.inl (w19 hw)) d9_78 rfl rfl rfl rfl ?_
    refine Wk.arraylength (pc' := 82) (q := 3) (z := np.toInt32) C d9_81 rfl (fun _ A => ⟨A.1, A.2.2.1⟩) rfl rfl ?_
    refine Wk.imul (pc' := 83) C d9_82 rfl ?_
    refine Wk.iload (pc' := 85) C d9_83 rfl rfl ?_
    refine Wk.iloadN (pc' := 86) C d9_85 rfl rfl ?_
    refine Wk.iadd (pc' := 87) C d9_86 rfl ?_
    refine Wk.callS (pc' := 90) (rm := { frames := 0, cells := 0, slots := 0, locals := 0 }) (W0 := 2) (argsL := [.int ((2 : Int32) * np.toInt32), .int (v22 + x3)]) (st := [.ref pa, .ref r0]) C (w91 hw) (w92 hw) (w37 hw) (w93 hw) (by decide) (fun h O => rm14 l Z a0 hw ((2 : Int32) * np.toInt32) (v22 + x3) ((r0, ObjC Z "com/example/kensaku/kensaku/index/Postings$Builder" ks_0 [.ref da, .ref sa, .ref pa, .int (0 : Int32)]) :: (da, ArrC Z .int 8 fd) :: (sa, ArrC Z .int 9 fs) :: (pa, ArrC Z .int np fq) :: L) h n0 O) (by decide) (by decide) (by decide) (by decide) d9_87 rfl pd_0 rfl rfl rfl rfl ?_
    rintro _ h' ⟨rfl, O'⟩
    refine ⟨_, O', ?_⟩
    change Wk p l e _ m _ below meth c _ _ n0 ((r0, ObjC Z "com/example/kensaku/kensaku/index/Postings$Builder" ks_0 [.ref da, .ref sa, .ref pa, .int (0 : Int32)]) :: (da, ArrC Z .int 8 fd) :: (sa, ArrC Z .int 9 fs) :: (pa, ArrC Z .int np fq) :: L) 0 0 90 #[.val (.ref r0), .val (.int x1), .val (.ref r2), .val (.int x3), .val (.int v22)] [.int (Fmax ((2 : Int32) * np.toInt32) (v22 + x3)), .ref pa, .ref r0]
    refine Wk.callS (pc' := 93) (rm := { frames := 1, cells := 1, slots := 16, locals := 30 }) (W0 := 1) (argsL := [.ref pa, .int (Fmax ((2 : Int32) * np.toInt32) (v22 + x3))]) (st := [.ref r0]) C (w31 hw) (w32 hw) (w33 hw) (w34 hw) (by decide) (fun h O => rm5_16 l Z a0 hw pa (Fmax ((2 : Int32) * np.toInt32) (v22 + x3)) ((r0, ObjC Z "com/example/kensaku/kensaku/index/Postings$Builder" ks_0 [.ref da, .ref sa, .ref pa, .int (0 : Int32)]) :: (da, ArrC Z .int 8 fd) :: (sa, ArrC Z .int 9 fs) :: (pa, ArrC Z .int np fq) :: L) 3 np ((max (2 * np) (t + cc))) fq h n0 O rfl (own_max (own_two (by omega)) (own_add hv hc (by omega))) (by omega) (by omega)) (by decide) (by decide) (by decide) (by decide) d9_90 rfl pd_1 rfl rfl rfl rfl ?_
    rintro _ h' ⟨a24, g25, rfl, hg25, O'⟩
    refine ⟨_, O', ?_⟩
    change Wk p l e _ m _ below meth c _ _ n0 ((a24, ArrC Z .int ((max (2 * np) (t + cc))) g25) :: (r0, ObjC Z "com/example/kensaku/kensaku/index/Postings$Builder" ks_0 [.ref da, .ref sa, .ref pa, .int (0 : Int32)]) :: (da, ArrC Z .int 8 fd) :: (sa, ArrC Z .int 9 fs) :: (pa, ArrC Z .int np fq) :: L) 1 16 93 #[.val (.ref r0), .val (.int x1), .val (.ref r2), .val (.int x3), .val (.int v22)] [.ref a24, .ref r0]
    refine Wk.putfield (pc' := 96) (host := "") (q := 1) (i := 2) C (Or.inl (w19 hw)) (lays_ks_0 hw) (Or.inl (w20 hw)) (w7 hw) d9_93 rfl rfl (Nat.le_of_ble_eq_true rfl) rfl rfl rfl ?_
    change Wk p l e _ m _ below meth c _ _ n0 ((a24, ArrC Z .int ((max (2 * np) (t + cc))) g25) :: (r0, ObjC Z "com/example/kensaku/kensaku/index/Postings$Builder" ks_0 [.ref da, .ref sa, .ref a24, .int (0 : Int32)]) :: (da, ArrC Z .int 8 fd) :: (sa, ArrC Z .int 9 fs) :: (pa, ArrC Z .int np fq) :: L) 1 16 96 #[.val (.ref r0), .val (.int x1), .val (.ref r2), .val (.int x3), .val (.int v22)] []
    refine Wk.aloadN (pc' := 97) C d9_96 rfl rfl rfl ?_
    refine Wk.iconst (z := (0 : Int32)) (pc' := 98) C d9_97 rfl rfl ?_
    refine Wk.aloadN (pc' := 99) C d9_98 rfl rfl rfl ?_
    refine Wk.getfield (pc' := 102) (host := "") (q := 1) (i := 2) C (Or.inl (w19 hw)) d9_99 rfl rfl rfl rfl ?_
    refine Wk.iload (pc' := 104) C d9_102 rfl rfl ?_
    refine Wk.iloadN (pc' := 105) C d9_104 rfl rfl ?_
    refine Wk.arraycopy (pc' := 108) (W0 := 0) (q1 := (q + 5)) (q2 := 0) (i := 0) (j := t) (kk := cc) C (w63 hw) (w42 hw) (w40 hw) (w41 hw) d9_105 hq rfl rfl (by omega) (by omega) rfl hv hc (by omega) (by omega) rfl (by decide) rfl (by decide) rfl ?_
    change Wk p l e _ m _ below meth c _ _ n0 ((a24, ArrC Z .int ((max (2 * np) (t + cc))) (cpy fa g25 0 t cc)) :: (r0, ObjC Z "com/example/kensaku/kensaku/index/Postings$Builder" ks_0 [.ref da, .ref sa, .ref a24, .int (0 : Int32)]) :: (da, ArrC Z .int 8 fd) :: (sa, ArrC Z .int 9 fs) :: (pa, ArrC Z .int np fq) :: L) 1 16 108 #[.val (.ref r0), .val (.int x1), .val (.ref r2), .val (.int x3), .val (.int v22)] []
    refine Wk.aloadN (pc' := 109) C d9_108 rfl rfl rfl ?_
    refine Wk.getfield (pc' := 112) (host := "") (q := 1) (i := 0) C (Or.inl (w15 hw)) d9_109 rfl rfl rfl rfl ?_
    refine Wk.aloadN (pc' := 113) C d9_112 rfl rfl rfl ?_
    refine Wk.getfield (pc' := 116) (host := "") (q := 1) (i := 3) C (Or.inl (w29 hw)) d9_113 rfl rfl rfl rfl ?_
    refine Wk.iloadN (pc' := 117) C d9_116 rfl rfl ?_
    refine Wk.iastore (pc' := 118) (q := 2) (i := 0) C d9_117 rfl (by decide) (by decide) rfl ?_
    change Wk p l e _ m _ below meth c _ _ n0 ((a24, ArrC Z .int ((max (2 * np) (t + cc))) (cpy fa g25 0 t cc)) :: (r0, ObjC Z "com/example/kensaku/kensaku/index/Postings$Builder" ks_0 [.ref da, .ref sa, .ref a24, .int (0 : Int32)]) :: (da, ArrC Z .int 8 (upd fd 0 x1)) :: (sa, ArrC Z .int 9 fs) :: (pa, ArrC Z .int np fq) :: L) 1 16 118 #[.val (.ref r0), .val (.int x1), .val (.ref r2), .val (.int x3), .val (.int v22)] []
    refine Wk.aloadN (pc' := 119) C d9_118 rfl rfl rfl ?_
    refine Wk.dup (pc' := 120) C d9_119 rfl rfl ?_
    refine Wk.getfield (pc' := 123) (host := "") (q := 1) (i := 3) C (Or.inl (w29 hw)) d9_120 rfl rfl rfl rfl ?_
    refine Wk.iconst (z := (1 : Int32)) (pc' := 124) C d9_123 rfl rfl ?_
    refine Wk.iadd (pc' := 125) C d9_124 rfl ?_
    refine Wk.putfield (pc' := 128) (host := "") (q := 1) (i := 3) C (Or.inl (w29 hw)) (lays_ks_0 hw) (Or.inl (w30 hw)) (w7 hw) d9_125 rfl rfl (Nat.le_of_ble_eq_true rfl) rfl rfl rfl ?_
    change Wk p l e _ m _ below meth c _ _ n0 ((a24, ArrC Z .int ((max (2 * np) (t + cc))) (cpy fa g25 0 t cc)) :: (r0, ObjC Z "com/example/kensaku/kensaku/index/Postings$Builder" ks_0 [.ref da, .ref sa, .ref a24, .int ((0 : Int32) + (1 : Int32))]) :: (da, ArrC Z .int 8 (upd fd 0 x1)) :: (sa, ArrC Z .int 9 fs) :: (pa, ArrC Z .int np fq) :: L) 1 16 128 #[.val (.ref r0), .val (.int x1), .val (.ref r2), .val (.int x3), .val (.int v22)] []
    refine Wk.aloadN (pc' := 129) C d9_128 rfl rfl rfl ?_
    refine Wk.getfield (pc' := 132) (host := "") (q := 1) (i := 1) C (Or.inl (w17 hw)) d9_129 rfl rfl rfl rfl ?_
    refine Wk.aloadN (pc' := 133) C d9_132 rfl rfl rfl ?_
    refine Wk.getfield (pc' := 136) (host := "") (q := 1) (i := 3) C (Or.inl (w29 hw)) d9_133 rfl rfl rfl rfl ?_
    refine Wk.iload (pc' := 138) C d9_136 rfl rfl ?_
    refine Wk.iloadN (pc' := 139) C d9_138 rfl rfl ?_
    refine Wk.iadd (pc' := 140) C d9_139 rfl ?_
    refine Wk.iastore (pc' := 141) (q := 3) (i := 1) C d9_140 rfl (by decide) (by decide) rfl ?_
    change Wk p l e _ m _ below meth c _ _ n0 ((a24, ArrC Z .int ((max (2 * np) (t + cc))) (cpy fa g25 0 t cc)) :: (r0, ObjC Z "com/example/kensaku/kensaku/index/Postings$Builder" ks_0 [.ref da, .ref sa, .ref a24, .int ((0 : Int32) + (1 : Int32))]) :: (da, ArrC Z .int 8 (upd fd 0 x1)) :: (sa, ArrC Z .int 9 (upd fs 1 (v22 + x3))) :: (pa, ArrC Z .int np fq) :: L) 1 16 141 #[.val (.ref r0), .val (.int x1), .val (.ref r2), .val (.int x3), .val (.int v22)] []
    exact Wk.retV C J d9_141 (by decide) (by decide) (fun h O => ⟨_, _, _, _, rfl, by rw [hv22], by omega, by omega, fun i hi => (cpy_old _ _ hi).trans (hg25 i (by omega)), fun i hi => cpy_new _ _ hi, (((((O.front 0 rfl).front 3 rfl).front 3 rfl).front 3 rfl).drop 4)⟩)
theorem ef_rm9_1 (m : MethodId) (r0 : Addr) (x1 : Int32) (r2 : Addr) (x3 : Int32) : entryFrame m #[.ref r0, .int x1, .ref r2, .int x3] 5 = mkF m 0 #[.val (.ref r0), .val (.int x1), .val (.ref r2), .val (.int x3), .unset] [] := by first | (simp [entryFrame, mkF, argsToLocals, Value.category]; done) | rfl
set_option maxRecDepth 65536 in
set_option maxHeartbeats 4000000 in
theorem rm9_1 (l : Launch) (Z : State) (a0 : Array Value) (hw : HW Z a0) (r0 : Addr) (x1 : Int32) (r2 : Addr) (x3 : Int32) (L : List (Addr × (Cell → Prop))) (da sa pa : Addr) (q np t cc : Nat) (fd fs fq fa : Nat → Int32) (h : Heap) (n0 : Nat) (O : Own n0 h ((r0, ObjC Z "com/example/kensaku/kensaku/index/Postings$Builder" ks_0 [.ref da, .ref sa, .ref pa, .int (1 : Int32)]) :: (da, ArrC Z .int 8 fd) :: (sa, ArrC Z .int 9 fs) :: (pa, ArrC Z .int np fq) :: L)) (hq : L[q]? = some (r2, ArrC Z .int 9 fa)) (hc : x3.toInt = (cc : Int)) (hcc : cc ≤ 9) (ht : (fs 1).toInt = (t : Int)) (htk : t ≤ 9) (htn : t ≤ np) (hnp : np ≤ 16) :
    Meth l Z (⟨"com/example/kensaku/kensaku/index/Postings$Builder", "add", "(I[II)V"⟩ : MethodName) prog_20_method_2_code 5 none [] ({ frames := 2, cells := 1, slots := 32, locals := 64 } : Room) #[.ref r0, .int x1, .ref r2, .int x3] h n0 (fun v h' => ∃ (pa' : Addr) (np' : Nat) (fq' : Nat → Int32) (s' : Int32), v = none ∧ s' = fs 1 + x3 ∧ t + cc ≤ np' ∧ np' ≤ 32 ∧ (∀ i, i < t → fq' i = fq i) ∧ (∀ i, i < cc → fq' (t + i) = fa i) ∧ Own n0 h' ((r0, ObjC Z "com/example/kensaku/kensaku/index/Postings$Builder" ks_0 [.ref da, .ref sa, .ref pa', .int ((1 : Int32) + (1 : Int32))]) :: (da, ArrC Z .int 8 (upd fd 1 x1)) :: (sa, ArrC Z .int 9 (upd fs 2 s')) :: (pa', ArrC Z .int np' fq') :: L)) := by
  refine Meth.of (plainFor_of_name pn_1) (fun m => ef_rm9_1 m r0 x1 r2 x3) O ?_
  intro p e m below meth c M FE C J
  change Cx Z "com/example/kensaku/kensaku/index/Postings$Builder" "add" prog_20_method_2_code 5 none p m meth c M at C
  clear O
  refine Wk.aloadN (pc' := 1) C d9_0 rfl rfl rfl ?_
  refine Wk.getfield (pc' := 4) (host := "") (q := 0) (i := 3) C (Or.inl (w29 hw)) d9_1 rfl rfl rfl rfl ?_
  refine Wk.aloadN (pc' := 5) C d9_4 rfl rfl rfl ?_
  refine Wk.getfield (pc' := 8) (host := "") (q := 0) (i := 0) C (Or.inl (w15 hw)) d9_5 rfl rfl rfl rfl ?_
  refine Wk.arraylength (pc' := 9) (q := 1) (z := (8 : Int32)) C d9_8 rfl (fun _ A => ⟨A.1, A.2.2.1⟩) rfl rfl ?_
  refine Wk.icmp_ne (pcT := 48) (pcF := 12) C d9_9 (by decide) (by decide) rfl (fun _ => ?_) (fun q => absurd q (by decide))
  refine Wk.aloadN (pc' := 49) C d9_48 rfl rfl rfl ?_
  refine Wk.getfield (pc' := 52) (host := "") (q := 0) (i := 1) C (Or.inl (w17 hw)) d9_49 rfl rfl rfl rfl ?_
  refine Wk.aloadN (pc' := 53) C d9_52 rfl rfl rfl ?_
  refine Wk.getfield (pc' := 56) (host := "") (q := 0) (i := 3) C (Or.inl (w29 hw)) d9_53 rfl rfl rfl rfl ?_
  refine Wk.iaload (pc' := 57) (q := 2) (i := 1) C d9_56 rfl (by decide) (by decide) rfl ?_
  refine Wk.istoreV (fun v26 => #[.val (.ref r0), .val (.int x1), .val (.ref r2), .val (.int x3), .val (.int v26)]) (pc' := 59) C d9_57 rfl rfl ?_
  intro v26 hv26
  have hv : v26.toInt = (t : Int) := by rw [hv26]; exact ht
  refine Wk.aloadN (pc' := 60) C d9_59 rfl rfl rfl ?_
  refine Wk.getfield (pc' := 63) (host := "") (q := 0) (i := 2) C (Or.inl (w19 hw)) d9_60 rfl rfl rfl rfl ?_
  refine Wk.arraylength (pc' := 64) (q := 3) (z := np.toInt32) C d9_63 rfl (fun _ A => ⟨A.1, A.2.2.1⟩) rfl rfl ?_
  refine Wk.iload (pc' := 66) C d9_64 rfl rfl ?_
  refine Wk.iloadN (pc' := 67) C d9_66 rfl rfl ?_
  refine Wk.iadd (pc' := 68) C d9_67 rfl ?_
  refine Wk.icmp_ge (pcT := 96) (pcF := 71) C d9_68 (by decide) (by decide) rfl (fun c27 => ?_) (fun c27 => ?_)
  · skip
    have hge : t + cc ≤ np := by
      have q := c27
      rw [Int32.lt_iff_toInt_lt, toI (by omega), own_add hv hc (by omega)] at q
      omega
    refine Wk.aloadN (pc' := 97) C d9_96 rfl rfl rfl ?_
    refine Wk.iconst (z := (0 : Int32)) (pc' := 98) C d9_97 rfl rfl ?_
    refine Wk.aloadN (pc' := 99) C d9_98 rfl rfl rfl ?_
    refine Wk.getfield (pc' := 102) (host := "") (q := 0) (i := 2) C (Or.inl (w19 hw)) d9_99 rfl rfl rfl rfl ?_
    refine Wk.iload (pc' := 104) C d9_102 rfl rfl ?_
    refine Wk.iloadN (pc' := 105) C d9_104 rfl rfl ?_
    refine Wk.arraycopy (pc' := 108) (W0 := 0) (q1 := (q + 4)) (q2 := 3) (i := 0) (j := t) (kk := cc) C (w63 hw) (w42 hw) (w40 hw) (w41 hw) d9_105 hq rfl rfl (by omega) (by omega) rfl hv hc (by omega) (by omega) rfl (by decide) rfl (by decide) rfl ?_
    change Wk p l e _ m _ below meth c _ _ n0 ((r0, ObjC Z "com/example/kensaku/kensaku/index/Postings$Builder" ks_0 [.ref da, .ref sa, .ref pa, .int (1 : Int32)]) :: (da, ArrC Z .int 8 fd) :: (sa, ArrC Z .int 9 fs) :: (pa, ArrC Z .int np (cpy fa fq 0 t cc)) :: L) 0 0 108 #[.val (.ref r0), .val (.int x1), .val (.ref r2), .val (.int x3), .val (.int v26)] []
    refine Wk.aloadN (pc' := 109) C d9_108 rfl rfl rfl ?_
    refine Wk.getfield (pc' := 112) (host := "") (q := 0) (i := 0) C (Or.inl (w15 hw)) d9_109 rfl rfl rfl rfl ?_
    refine Wk.aloadN (pc' := 113) C d9_112 rfl rfl rfl ?_
    refine Wk.getfield (pc' := 116) (host := "") (q := 0) (i := 3) C (Or.inl (w29 hw)) d9_113 rfl rfl rfl rfl ?_
    refine Wk.iloadN (pc' := 117) C d9_116 rfl rfl ?_
    refine Wk.iastore (pc' := 118) (q := 1) (i := 1) C d9_117 rfl (by decide) (by decide) rfl ?_
    change Wk p l e _ m _ below meth c _ _ n0 ((r0, ObjC Z "com/example/kensaku/kensaku/index/Postings$Builder" ks_0 [.ref da, .ref sa, .ref pa, .int (1 : Int32)]) :: (da, ArrC Z .int 8 (upd fd 1 x1)) :: (sa, ArrC Z .int 9 fs) :: (pa, ArrC Z .int np (cpy fa fq 0 t cc)) :: L) 0 0 118 #[.val (.ref r0), .val (.int x1), .val (.ref r2), .val (.int x3), .val (.int v26)] []
    refine Wk.aloadN (pc' := 119) C d9_118 rfl rfl rfl ?_
    refine Wk.dup (pc' := 120) C d9_119 rfl rfl ?_
    refine Wk.getfield (pc' := 123) (host := "") (q := 0) (i := 3) C (Or.inl (w29 hw)) d9_120 rfl rfl rfl rfl ?_
    refine Wk.iconst (z := (1 : Int32)) (pc' := 124) C d9_123 rfl rfl ?_
    refine Wk.iadd (pc' := 125) C d9_124 rfl ?_
    refine Wk.putfield (pc' := 128) (host := "") (q := 0) (i := 3) C (Or.inl (w29 hw)) (lays_ks_0 hw) (Or.inl (w30 hw)) (w7 hw) d9_125 rfl rfl (Nat.le_of_ble_eq_true rfl) rfl rfl rfl ?_
    change Wk p l e _ m _ below meth c _ _ n0 ((r0, ObjC Z "com/example/kensaku/kensaku/index/Postings$Builder" ks_0 [.ref da, .ref sa, .ref pa, .int ((1 : Int32) + (1 : Int32))]) :: (da, ArrC Z .int 8 (upd fd 1 x1)) :: (sa, ArrC Z .int 9 fs) :: (pa, ArrC Z .int np (cpy fa fq 0 t cc)) :: L) 0 0 128 #[.val (.ref r0), .val (.int x1), .val (.ref r2), .val (.int x3), .val (.int v26)] []
    refine Wk.aloadN (pc' := 129) C d9_128 rfl rfl rfl ?_
    refine Wk.getfield (pc' := 132) (host := "") (q := 0) (i := 1) C (Or.inl (w17 hw)) d9_129 rfl rfl rfl rfl ?_
    refine Wk.aloadN (pc' := 133) C d9_132 rfl rfl rfl ?_
    refine Wk.getfield (pc' := 136) (host := "") (q := 0) (i := 3) C (Or.inl (w29 hw)) d9_133 rfl rfl rfl rfl ?_
    refine Wk.iload (pc' := 138) C d9_136 rfl rfl ?_
    refine Wk.iloadN (pc' := 139) C d9_138 rfl rfl ?_
    refine Wk.iadd (pc' := 140) C d9_139 rfl ?_
    refine Wk.iastore (pc' := 141) (q := 2) (i := 2) C d9_140 rfl (by decide) (by decide) rfl ?_
    change Wk p l e _ m _ below meth c _ _ n0 ((r0, ObjC Z "com/example/kensaku/kensaku/index/Postings$Builder" ks_0 [.ref da, .ref sa, .ref pa, .int ((1 : Int32) + (1 : Int32))]) :: (da, ArrC Z .int 8 (upd fd 1 x1)) :: (sa, ArrC Z .int 9 (upd fs 2 (v26 + x3))) :: (pa, ArrC Z .int np (cpy fa fq 0 t cc)) :: L) 0 0 141 #[.val (.ref r0), .val (.int x1), .val (.ref r2), .val (.int x3), .val (.int v26)] []
    exact Wk.retV C J d9_141 (by decide) (by decide) (fun h O => ⟨_, _, _, _, rfl, by rw [hv26], by omega, by omega, fun i hi => (cpy_old _ _ hi), fun i hi => cpy_new _ _ hi, ((((O.front 3 rfl).front 3 rfl).front 3 rfl).front 3 rfl)⟩)
  · skip
    have hlt : np < t + cc := by
      have q := c27
      rw [Int32.lt_iff_toInt_lt, toI (by omega), own_add hv hc (by omega)] at q
      omega
    refine Wk.aloadN (pc' := 72) C d9_71 rfl rfl rfl ?_
    refine Wk.aloadN (pc' := 73) C d9_72 rfl rfl rfl ?_
    refine Wk.getfield (pc' := 76) (host := "") (q := 0) (i := 2) C (Or.inl (w19 hw)) d9_73 rfl rfl rfl rfl ?_
    refine Wk.iconst (z := (2 : Int32)) (pc' := 77) C d9_76 rfl rfl ?_
    refine Wk.aloadN (pc' := 78) C d9_77 rfl rfl rfl ?_
    refine Wk.getfield (pc' := 81) (host := "") (q := 0) (i := 2) C (Or.inl (w19 hw)) d9_78 rfl rfl rfl rfl ?_
    refine Wk.arraylength (pc' := 82) (q := 3) (z := np.toInt32) C d9_81 rfl (fun _ A => ⟨A.1, A.2.2.1⟩) rfl rfl ?_
    refine Wk.imul (pc' := 83) C d9_82 rfl ?_
    refine Wk.iload (pc' := 85) C d9_83 rfl rfl ?_
    refine Wk.iloadN (pc' := 86) C d9_85 rfl rfl ?_
    refine Wk.iadd (pc' := 87) C d9_86 rfl ?_
    refine Wk.callS (pc' := 90) (rm := { frames := 0, cells := 0, slots := 0, locals := 0 }) (W0 := 2) (argsL := [.int ((2 : Int32) * np.toInt32), .int (v26 + x3)]) (st := [.ref pa, .ref r0]) C (w91 hw) (w92 hw) (w37 hw) (w93 hw) (by decide) (fun h O => rm14 l Z a0 hw ((2 : Int32) * np.toInt32) (v26 + x3) ((r0, ObjC Z "com/example/kensaku/kensaku/index/Postings$Builder" ks_0 [.ref da, .ref sa, .ref pa, .int (1 : Int32)]) :: (da, ArrC Z .int 8 fd) :: (sa, ArrC Z .int 9 fs) :: (pa, ArrC Z .int np fq) :: L) h n0 O) (by decide) (by decide) (by decide) (by decide) d9_87 rfl pd_0 rfl rfl rfl rfl ?_
    rintro _ h' ⟨rfl, O'⟩
    refine ⟨_, O', ?_⟩
    change Wk p l e _ m _ below meth c _ _ n0 ((r0, ObjC Z "com/example/kensaku/kensaku/index/Postings$Builder" ks_0 [.ref da, .ref sa, .ref pa, .int (1 : Int32)]) :: (da, ArrC Z .int 8 fd) :: (sa, ArrC Z .int 9 fs) :: (pa, ArrC Z .int np fq) :: L) 0 0 90 #[.val (.ref r0), .val (.int x1), .val (.ref r2), .val (.int x3), .val (.int v26)] [.int (Fmax ((2 : Int32) * np.toInt32) (v26 + x3)), .ref pa, .ref r0]
    refine Wk.callS (pc' := 93) (rm := { frames := 1, cells := 1, slots := 32, locals := 30 }) (W0 := 1) (argsL := [.ref pa, .int (Fmax ((2 : Int32) * np.toInt32) (v26 + x3))]) (st := [.ref r0]) C (w31 hw) (w32 hw) (w33 hw) (w34 hw) (by decide) (fun h O => rm5_32 l Z a0 hw pa (Fmax ((2 : Int32) * np.toInt32) (v26 + x3)) ((r0, ObjC Z "com/example/kensaku/kensaku/index/Postings$Builder" ks_0 [.ref da, .ref sa, .ref pa, .int (1 : Int32)]) :: (da, ArrC Z .int 8 fd) :: (sa, ArrC Z .int 9 fs) :: (pa, ArrC Z .int np fq) :: L) 3 np ((max (2 * np) (t + cc))) fq h n0 O rfl (own_max (own_two (by omega)) (own_add hv hc (by omega))) (by omega) (by omega)) (by decide) (by decide) (by decide) (by decide) d9_90 rfl pd_1 rfl rfl rfl rfl ?_
    rintro _ h' ⟨a28, g29, rfl, hg29, O'⟩
    refine ⟨_, O', ?_⟩
    change Wk p l e _ m _ below meth c _ _ n0 ((a28, ArrC Z .int ((max (2 * np) (t + cc))) g29) :: (r0, ObjC Z "com/example/kensaku/kensaku/index/Postings$Builder" ks_0 [.ref da, .ref sa, .ref pa, .int (1 : Int32)]) :: (da, ArrC Z .int 8 fd) :: (sa, ArrC Z .int 9 fs) :: (pa, ArrC Z .int np fq) :: L) 1 32 93 #[.val (.ref r0), .val (.int x1), .val (.ref r2), .val (.int x3), .val (.int v26)] [.ref a28, .ref r0]
    refine Wk.putfield (pc' := 96) (host := "") (q := 1) (i := 2) C (Or.inl (w19 hw)) (lays_ks_0 hw) (Or.inl (w20 hw)) (w7 hw) d9_93 rfl rfl (Nat.le_of_ble_eq_true rfl) rfl rfl rfl ?_
    change Wk p l e _ m _ below meth c _ _ n0 ((a28, ArrC Z .int ((max (2 * np) (t + cc))) g29) :: (r0, ObjC Z "com/example/kensaku/kensaku/index/Postings$Builder" ks_0 [.ref da, .ref sa, .ref a28, .int (1 : Int32)]) :: (da, ArrC Z .int 8 fd) :: (sa, ArrC Z .int 9 fs) :: (pa, ArrC Z .int np fq) :: L) 1 32 96 #[.val (.ref r0), .val (.int x1), .val (.ref r2), .val (.int x3), .val (.int v26)] []
    refine Wk.aloadN (pc' := 97) C d9_96 rfl rfl rfl ?_
    refine Wk.iconst (z := (0 : Int32)) (pc' := 98) C d9_97 rfl rfl ?_
    refine Wk.aloadN (pc' := 99) C d9_98 rfl rfl rfl ?_
    refine Wk.getfield (pc' := 102) (host := "") (q := 1) (i := 2) C (Or.inl (w19 hw)) d9_99 rfl rfl rfl rfl ?_
    refine Wk.iload (pc' := 104) C d9_102 rfl rfl ?_
    refine Wk.iloadN (pc' := 105) C d9_104 rfl rfl ?_
    refine Wk.arraycopy (pc' := 108) (W0 := 0) (q1 := (q + 5)) (q2 := 0) (i := 0) (j := t) (kk := cc) C (w63 hw) (w42 hw) (w40 hw) (w41 hw) d9_105 hq rfl rfl (by omega) (by omega) rfl hv hc (by omega) (by omega) rfl (by decide) rfl (by decide) rfl ?_
    change Wk p l e _ m _ below meth c _ _ n0 ((a28, ArrC Z .int ((max (2 * np) (t + cc))) (cpy fa g29 0 t cc)) :: (r0, ObjC Z "com/example/kensaku/kensaku/index/Postings$Builder" ks_0 [.ref da, .ref sa, .ref a28, .int (1 : Int32)]) :: (da, ArrC Z .int 8 fd) :: (sa, ArrC Z .int 9 fs) :: (pa, ArrC Z .int np fq) :: L) 1 32 108 #[.val (.ref r0), .val (.int x1), .val (.ref r2), .val (.int x3), .val (.int v26)] []
    refine Wk.aloadN (pc' := 109) C d9_108 rfl rfl rfl ?_
    refine Wk.getfield (pc' := 112) (host := "") (q := 1) (i := 0) C (Or.inl (w15 hw)) d9_109 rfl rfl rfl rfl ?_
    refine Wk.aloadN (pc' := 113) C d9_112 rfl rfl rfl ?_
    refine Wk.getfield (pc' := 116) (host := "") (q := 1) (i := 3) C (Or.inl (w29 hw)) d9_113 rfl rfl rfl rfl ?_
    refine Wk.iloadN (pc' := 117) C d9_116 rfl rfl ?_
    refine Wk.iastore (pc' := 118) (q := 2) (i := 1) C d9_117 rfl (by decide) (by decide) rfl ?_
    change Wk p l e _ m _ below meth c _ _ n0 ((a28, ArrC Z .int ((max (2 * np) (t + cc))) (cpy fa g29 0 t cc)) :: (r0, ObjC Z "com/example/kensaku/kensaku/index/Postings$Builder" ks_0 [.ref da, .ref sa, .ref a28, .int (1 : Int32)]) :: (da, ArrC Z .int 8 (upd fd 1 x1)) :: (sa, ArrC Z .int 9 fs) :: (pa, ArrC Z .int np fq) :: L) 1 32 118 #[.val (.ref r0), .val (.int x1), .val (.ref r2), .val (.int x3), .val (.int v26)] []
    refine Wk.aloadN (pc' := 119) C d9_118 rfl rfl rfl ?_
    refine Wk.dup (pc' := 120) C d9_119 rfl rfl ?_
    refine Wk.getfield (pc' := 123) (host := "") (q := 1) (i := 3) C (Or.inl (w29 hw)) d9_120 rfl rfl rfl rfl ?_
    refine Wk.iconst (z := (1 : Int32)) (pc' := 124) C d9_123 rfl rfl ?_
    refine Wk.iadd (pc' := 125) C d9_124 rfl ?_
    refine Wk.putfield (pc' := 128) (host := "") (q := 1) (i := 3) C (Or.inl (w29 hw)) (lays_ks_0 hw) (Or.inl (w30 hw)) (w7 hw) d9_125 rfl rfl (Nat.le_of_ble_eq_true rfl) rfl rfl rfl ?_
    change Wk p l e _ m _ below meth c _ _ n0 ((a28, ArrC Z .int ((max (2 * np) (t + cc))) (cpy fa g29 0 t cc)) :: (r0, ObjC Z "com/example/kensaku/kensaku/index/Postings$Builder" ks_0 [.ref da, .ref sa, .ref a28, .int ((1 : Int32) + (1 : Int32))]) :: (da, ArrC Z .int 8 (upd fd 1 x1)) :: (sa, ArrC Z .int 9 fs) :: (pa, ArrC Z .int np fq) :: L) 1 32 128 #[.val (.ref r0), .val (.int x1), .val (.ref r2), .val (.int x3), .val (.int v26)] []
    refine Wk.aloadN (pc' := 129) C d9_128 rfl rfl rfl ?_
    refine Wk.getfield (pc' := 132) (host := "") (q := 1) (i := 1) C (Or.inl (w17 hw)) d9_129 rfl rfl rfl rfl ?_
    refine Wk.aloadN (pc' := 133) C d9_132 rfl rfl rfl ?_
    refine Wk.getfield (pc' := 136) (host := "") (q := 1) (i := 3) C (Or.inl (w29 hw)) d9_133 rfl rfl rfl rfl ?_
    refine Wk.iload (pc' := 138) C d9_136 rfl rfl ?_
    refine Wk.iloadN (pc' := 139) C d9_138 rfl rfl ?_
    refine Wk.iadd (pc' := 140) C d9_139 rfl ?_
    refine Wk.iastore (pc' := 141) (q := 3) (i := 2) C d9_140 rfl (by decide) (by decide) rfl ?_
    change Wk p l e _ m _ below meth c _ _ n0 ((a28, ArrC Z .int ((max (2 * np) (t + cc))) (cpy fa g29 0 t cc)) :: (r0, ObjC Z "com/example/kensaku/kensaku/index/Postings$Builder" ks_0 [.ref da, .ref sa, .ref a28, .int ((1 : Int32) + (1 : Int32))]) :: (da, ArrC Z .int 8 (upd fd 1 x1)) :: (sa, ArrC Z .int 9 (upd fs 2 (v26 + x3))) :: (pa, ArrC Z .int np fq) :: L) 1 32 141 #[.val (.ref r0), .val (.int x1), .val (.ref r2), .val (.int x3), .val (.int v26)] []
    exact Wk.retV C J d9_141 (by decide) (by decide) (fun h O => ⟨_, _, _, _, rfl, by rw [hv26], by omega, by omega, fun i hi => (cpy_old _ _ hi).trans (hg29 i (by omega)), fun i hi => cpy_new _ _ hi, (((((O.front 0 rfl).front 3 rfl).front 3 rfl).front 3 rfl).drop 4)⟩)
theorem ef_rm9_2 (m : MethodId) (r0 : Addr) (x1 : Int32) (r2 : Addr) (x3 : Int32) : entryFrame m #[.ref r0, .int x1, .ref r2, .int x3] 5 = mkF m 0 #[.val (.ref r0), .val (.int x1), .val (.ref r2), .val (.int x3), .unset] [] := by first | (simp [entryFrame, mkF, argsToLocals, Value.category]; done) | rfl
set_option maxRecDepth 65536 in
set_option maxHeartbeats 4000000 in
theorem rm9_2 (l : Launch) (Z : State) (a0 : Array Value) (hw : HW Z a0) (r0 : Addr) (x1 : Int32) (r2 : Addr) (x3 : Int32) (L : List (Addr × (Cell → Prop))) (da sa pa : Addr) (q np t cc : Nat) (fd fs fq fa : Nat → Int32) (h : Heap) (n0 : Nat) (O : Own n0 h ((r0, ObjC Z "com/example/kensaku/kensaku/index/Postings$Builder" ks_0 [.ref da, .ref sa, .ref pa, .int (2 : Int32)]) :: (da, ArrC Z .int 8 fd) :: (sa, ArrC Z .int 9 fs) :: (pa, ArrC Z .int np fq) :: L)) (hq : L[q]? = some (r2, ArrC Z .int 9 fa)) (hc : x3.toInt = (cc : Int)) (hcc : cc ≤ 9) (ht : (fs 2).toInt = (t : Int)) (htk : t ≤ 18) (htn : t ≤ np) (hnp : np ≤ 32) :
    Meth l Z (⟨"com/example/kensaku/kensaku/index/Postings$Builder", "add", "(I[II)V"⟩ : MethodName) prog_20_method_2_code 5 none [] ({ frames := 2, cells := 1, slots := 64, locals := 64 } : Room) #[.ref r0, .int x1, .ref r2, .int x3] h n0 (fun v h' => ∃ (pa' : Addr) (np' : Nat) (fq' : Nat → Int32) (s' : Int32), v = none ∧ s' = fs 2 + x3 ∧ t + cc ≤ np' ∧ np' ≤ 64 ∧ (∀ i, i < t → fq' i = fq i) ∧ (∀ i, i < cc → fq' (t + i) = fa i) ∧ Own n0 h' ((r0, ObjC Z "com/example/kensaku/kensaku/index/Postings$Builder" ks_0 [.ref da, .ref sa, .ref pa', .int ((2 : Int32) + (1 : Int32))]) :: (da, ArrC Z .int 8 (upd fd 2 x1)) :: (sa, ArrC Z .int 9 (upd fs 3 s')) :: (pa', ArrC Z .int np' fq') :: L)) := by
  refine Meth.of (plainFor_of_name pn_1) (fun m => ef_rm9_2 m r0 x1 r2 x3) O ?_
  intro p e m below meth c M FE C J
  change Cx Z "com/example/kensaku/kensaku/index/Postings$Builder" "add" prog_20_method_2_code 5 none p m meth c M at C
  clear O
  refine Wk.aloadN (pc' := 1) C d9_0 rfl rfl rfl ?_
  refine Wk.getfield (pc' := 4) (host := "") (q := 0) (i := 3) C (Or.inl (w29 hw)) d9_1 rfl rfl rfl rfl ?_
  refine Wk.aloadN (pc' := 5) C d9_4 rfl rfl rfl ?_
  refine Wk.getfield (pc' := 8) (host := "") (q := 0) (i := 0) C (Or.inl (w15 hw)) d9_5 rfl rfl rfl rfl ?_
  refine Wk.arraylength (pc' := 9) (q := 1) (z := (8 : Int32)) C d9_8 rfl (fun _ A => ⟨A.1, A.2.2.1⟩) rfl rfl ?_
  refine Wk.icmp_ne (pcT := 48) (pcF := 12) C d9_9 (by decide) (by decide) rfl (fun _ => ?_) (fun q => absurd q (by decide))
  refine Wk.aloadN (pc' := 49) C d9_48 rfl rfl rfl ?_
  refine Wk.getfield (pc' := 52) (host := "") (q := 0) (i := 1) C (Or.inl (w17 hw)) d9_49 rfl rfl rfl rfl ?_
  refine Wk.aloadN (pc' := 53) C d9_52 rfl rfl rfl ?_
  refine Wk.getfield (pc' := 56) (host := "") (q := 0) (i := 3) C (Or.inl (w29 hw)) d9_53 rfl rfl rfl rfl ?_
  refine Wk.iaload (pc' := 57) (q := 2) (i := 2) C d9_56 rfl (by decide) (by decide) rfl ?_
  refine Wk.istoreV (fun v30 => #[.val (.ref r0), .val (.int x1), .val (.ref r2), .val (.int x3), .val (.int v30)]) (pc' := 59) C d9_57 rfl rfl ?_
  intro v30 hv30
  have hv : v30.toInt = (t : Int) := by rw [hv30]; exact ht
  refine Wk.aloadN (pc' := 60) C d9_59 rfl rfl rfl ?_
  refine Wk.getfield (pc' := 63) (host := "") (q := 0) (i := 2) C (Or.inl (w19 hw)) d9_60 rfl rfl rfl rfl ?_
  refine Wk.arraylength (pc' := 64) (q := 3) (z := np.toInt32) C d9_63 rfl (fun _ A => ⟨A.1, A.2.2.1⟩) rfl rfl ?_
  refine Wk.iload (pc' := 66) C d9_64 rfl rfl ?_
  refine Wk.iloadN (pc' := 67) C d9_66 rfl rfl ?_
  refine Wk.iadd (pc' := 68) C d9_67 rfl ?_
  refine Wk.icmp_ge (pcT := 96) (pcF := 71) C d9_68 (by decide) (by decide) rfl (fun c31 => ?_) (fun c31 => ?_)
  · skip
    have hge : t + cc ≤ np := by
      have q := c31
      rw [Int32.lt_iff_toInt_lt, toI (by omega), own_add hv hc (by omega)] at q
      omega
    refine Wk.aloadN (pc' := 97) C d9_96 rfl rfl rfl ?_
    refine Wk.iconst (z := (0 : Int32)) (pc' := 98) C d9_97 rfl rfl ?_
    refine Wk.aloadN (pc' := 99) C d9_98 rfl rfl rfl ?_
    refine Wk.getfield (pc' := 102) (host := "") (q := 0) (i := 2) C (Or.inl (w19 hw)) d9_99 rfl rfl rfl rfl ?_
    refine Wk.iload (pc' := 104) C d9_102 rfl rfl ?_
    refine Wk.iloadN (pc' := 105) C d9_104 rfl rfl ?_
    refine Wk.arraycopy (pc' := 108) (W0 := 0) (q1 := (q + 4)) (q2 := 3) (i := 0) (j := t) (kk := cc) C (w63 hw) (w42 hw) (w40 hw) (w41 hw) d9_105 hq rfl rfl (by omega) (by omega) rfl hv hc (by omega) (by omega) rfl (by decide) rfl (by decide) rfl ?_
    change Wk p l e _ m _ below meth c _ _ n0 ((r0, ObjC Z "com/example/kensaku/kensaku/index/Postings$Builder" ks_0 [.ref da, .ref sa, .ref pa, .int (2 : Int32)]) :: (da, ArrC Z .int 8 fd) :: (sa, ArrC Z .int 9 fs) :: (pa, ArrC Z .int np (cpy fa fq 0 t cc)) :: L) 0 0 108 #[.val (.ref r0), .val (.int x1), .val (.ref r2), .val (.int x3), .val (.int v30)] []
    refine Wk.aloadN (pc' := 109) C d9_108 rfl rfl rfl ?_
    refine Wk.getfield (pc' := 112) (host := "") (q := 0) (i := 0) C (Or.inl (w15 hw)) d9_109 rfl rfl rfl rfl ?_
    refine Wk.aloadN (pc' := 113) C d9_112 rfl rfl rfl ?_
    refine Wk.getfield (pc' := 116) (host := "") (q := 0) (i := 3) C (Or.inl (w29 hw)) d9_113 rfl rfl rfl rfl ?_
    refine Wk.iloadN (pc' := 117) C d9_116 rfl rfl ?_
    refine Wk.iastore (pc' := 118) (q := 1) (i := 2) C d9_117 rfl (by decide) (by decide) rfl ?_
    change Wk p l e _ m _ below meth c _ _ n0 ((r0, ObjC Z "com/example/kensaku/kensaku/index/Postings$Builder" ks_0 [.ref da, .ref sa, .ref pa, .int (2 : Int32)]) :: (da, ArrC Z .int 8 (upd fd 2 x1)) :: (sa, ArrC Z .int 9 fs) :: (pa, ArrC Z .int np (cpy fa fq 0 t cc)) :: L) 0 0 118 #[.val (.ref r0), .val (.int x1), .val (.ref r2), .val (.int x3), .val (.int v30)] []
    refine Wk.aloadN (pc' := 119) C d9_118 rfl rfl rfl ?_
    refine Wk.dup (pc' := 120) C d9_119 rfl rfl ?_
    refine Wk.getfield (pc' := 123) (host := "") (q := 0) (i := 3) C (Or.inl (w29 hw)) d9_120 rfl rfl rfl rfl ?_
    refine Wk.iconst (z := (1 : Int32)) (pc' := 124) C d9_123 rfl rfl ?_
    refine Wk.iadd (pc' := 125) C d9_124 rfl ?_
    refine Wk.putfield (pc' := 128) (host := "") (q := 0) (i := 3) C (Or.inl (w29 hw)) (lays_ks_0 hw) (Or.inl (w30 hw)) (w7 hw) d9_125 rfl rfl (Nat.le_of_ble_eq_true rfl) rfl rfl rfl ?_
    change Wk p l e _ m _ below meth c _ _ n0 ((r0, ObjC Z "com/example/kensaku/kensaku/index/Postings$Builder" ks_0 [.ref da, .ref sa, .ref pa, .int ((2 : Int32) + (1 : Int32))]) :: (da, ArrC Z .int 8 (upd fd 2 x1)) :: (sa, ArrC Z .int 9 fs) :: (pa, ArrC Z .int np (cpy fa fq 0 t cc)) :: L) 0 0 128 #[.val (.ref r0), .val (.int x1), .val (.ref r2), .val (.int x3), .val (.int v30)] []
    refine Wk.aloadN (pc' := 129) C d9_128 rfl rfl rfl ?_
    refine Wk.getfield (pc' := 132) (host := "") (q := 0) (i := 1) C (Or.inl (w17 hw)) d9_129 rfl rfl rfl rfl ?_
    refine Wk.aloadN (pc' := 133) C d9_132 rfl rfl rfl ?_
    refine Wk.getfield (pc' := 136) (host := "") (q := 0) (i := 3) C (Or.inl (w29 hw)) d9_133 rfl rfl rfl rfl ?_
    refine Wk.iload (pc' := 138) C d9_136 rfl rfl ?_
    refine Wk.iloadN (pc' := 139) C d9_138 rfl rfl ?_
    refine Wk.iadd (pc' := 140) C d9_139 rfl ?_
    refine Wk.iastore (pc' := 141) (q := 2) (i := 3) C d9_140 rfl (by decide) (by decide) rfl ?_
    change Wk p l e _ m _ below meth c _ _ n0 ((r0, ObjC Z "com/example/kensaku/kensaku/index/Postings$Builder" ks_0 [.ref da, .ref sa, .ref pa, .int ((2 : Int32) + (1 : Int32))]) :: (da, ArrC Z .int 8 (upd fd 2 x1)) :: (sa, ArrC Z .int 9 (upd fs 3 (v30 + x3))) :: (pa, ArrC Z .int np (cpy fa fq 0 t cc)) :: L) 0 0 141 #[.val (.ref r0), .val (.int x1), .val (.ref r2), .val (.int x3), .val (.int v30)] []
    exact Wk.retV C J d9_141 (by decide) (by decide) (fun h O => ⟨_, _, _, _, rfl, by rw [hv30], by omega, by omega, fun i hi => (cpy_old _ _ hi), fun i hi => cpy_new _ _ hi, ((((O.front 3 rfl).front 3 rfl).front 3 rfl).front 3 rfl)⟩)
  · skip
    have hlt : np < t + cc := by
      have q := c31
      rw [Int32.lt_iff_toInt_lt, toI (by omega), own_add hv hc (by omega)] at q
      omega
    refine Wk.aloadN (pc' := 72) C d9_71 rfl rfl rfl ?_
    refine Wk.aloadN (pc' := 73) C d9_72 rfl rfl rfl ?_
    refine Wk.getfield (pc' := 76) (host := "") (q := 0) (i := 2) C (Or.inl (w19 hw)) d9_73 rfl rfl rfl rfl ?_
    refine Wk.iconst (z := (2 : Int32)) (pc' := 77) C d9_76 rfl rfl ?_
    refine Wk.aloadN (pc' := 78) C d9_77 rfl rfl rfl ?_
    refine Wk.getfield (pc' := 81) (host := "") (q := 0) (i := 2) C (Or.inl (w19 hw)) d9_78 rfl rfl rfl rfl ?_
    refine Wk.arraylength (pc' := 82) (q := 3) (z := np.toInt32) C d9_81 rfl (fun _ A => ⟨A.1, A.2.2.1⟩) rfl rfl ?_
    refine Wk.imul (pc' := 83) C d9_82 rfl ?_
    refine Wk.iload (pc' := 85) C d9_83 rfl rfl ?_
    refine Wk.iloadN (pc' := 86) C d9_85 rfl rfl ?_
    refine Wk.iadd (pc' := 87) C d9_86 rfl ?_
    refine Wk.callS (pc' := 90) (rm := { frames := 0, cells := 0, slots := 0, locals := 0 }) (W0 := 2) (argsL := [.int ((2 : Int32) * np.toInt32), .int (v30 + x3)]) (st := [.ref pa, .ref r0]) C (w91 hw) (w92 hw) (w37 hw) (w93 hw) (by decide) (fun h O => rm14 l Z a0 hw ((2 : Int32) * np.toInt32) (v30 + x3) ((r0, ObjC Z "com/example/kensaku/kensaku/index/Postings$Builder" ks_0 [.ref da, .ref sa, .ref pa, .int (2 : Int32)]) :: (da, ArrC Z .int 8 fd) :: (sa, ArrC Z .int 9 fs) :: (pa, ArrC Z .int np fq) :: L) h n0 O) (by decide) (by decide) (by decide) (by decide) d9_87 rfl pd_0 rfl rfl rfl rfl ?_
    rintro _ h' ⟨rfl, O'⟩
    refine ⟨_, O', ?_⟩
    change Wk p l e _ m _ below meth c _ _ n0 ((r0, ObjC Z "com/example/kensaku/kensaku/index/Postings$Builder" ks_0 [.ref da, .ref sa, .ref pa, .int (2 : Int32)]) :: (da, ArrC Z .int 8 fd) :: (sa, ArrC Z .int 9 fs) :: (pa, ArrC Z .int np fq) :: L) 0 0 90 #[.val (.ref r0), .val (.int x1), .val (.ref r2), .val (.int x3), .val (.int v30)] [.int (Fmax ((2 : Int32) * np.toInt32) (v30 + x3)), .ref pa, .ref r0]
    refine Wk.callS (pc' := 93) (rm := { frames := 1, cells := 1, slots := 64, locals := 30 }) (W0 := 1) (argsL := [.ref pa, .int (Fmax ((2 : Int32) * np.toInt32) (v30 + x3))]) (st := [.ref r0]) C (w31 hw) (w32 hw) (w33 hw) (w34 hw) (by decide) (fun h O => rm5_64 l Z a0 hw pa (Fmax ((2 : Int32) * np.toInt32) (v30 + x3)) ((r0, ObjC Z "com/example/kensaku/kensaku/index/Postings$Builder" ks_0 [.ref da, .ref sa, .ref pa, .int (2 : Int32)]) :: (da, ArrC Z .int 8 fd) :: (sa, ArrC Z .int 9 fs) :: (pa, ArrC Z .int np fq) :: L) 3 np ((max (2 * np) (t + cc))) fq h n0 O rfl (own_max (own_two (by omega)) (own_add hv hc (by omega))) (by omega) (by omega)) (by decide) (by decide) (by decide) (by decide) d9_90 rfl pd_1 rfl rfl rfl rfl ?_
    rintro _ h' ⟨a32, g33, rfl, hg33, O'⟩
    refine ⟨_, O', ?_⟩
    change Wk p l e _ m _ below meth c _ _ n0 ((a32, ArrC Z .int ((max (2 * np) (t + cc))) g33) :: (r0, ObjC Z "com/example/kensaku/kensaku/index/Postings$Builder" ks_0 [.ref da, .ref sa, .ref pa, .int (2 : Int32)]) :: (da, ArrC Z .int 8 fd) :: (sa, ArrC Z .int 9 fs) :: (pa, ArrC Z .int np fq) :: L) 1 64 93 #[.val (.ref r0), .val (.int x1), .val (.ref r2), .val (.int x3), .val (.int v30)] [.ref a32, .ref r0]
    refine Wk.putfield (pc' := 96) (host := "") (q := 1) (i := 2) C (Or.inl (w19 hw)) (lays_ks_0 hw) (Or.inl (w20 hw)) (w7 hw) d9_93 rfl rfl (Nat.le_of_ble_eq_true rfl) rfl rfl rfl ?_
    change Wk p l e _ m _ below meth c _ _ n0 ((a32, ArrC Z .int ((max (2 * np) (t + cc))) g33) :: (r0, ObjC Z "com/example/kensaku/kensaku/index/Postings$Builder" ks_0 [.ref da, .ref sa, .ref a32, .int (2 : Int32)]) :: (da, ArrC Z .int 8 fd) :: (sa, ArrC Z .int 9 fs) :: (pa, ArrC Z .int np fq) :: L) 1 64 96 #[.val (.ref r0), .val (.int x1), .val (.ref r2), .val (.int x3), .val (.int v30)] []
    refine Wk.aloadN (pc' := 97) C d9_96 rfl rfl rfl ?_
    refine Wk.iconst (z := (0 : Int32)) (pc' := 98) C d9_97 rfl rfl ?_
    refine Wk.aloadN (pc' := 99) C d9_98 rfl rfl rfl ?_
    refine Wk.getfield (pc' := 102) (host := "") (q := 1) (i := 2) C (Or.inl (w19 hw)) d9_99 rfl rfl rfl rfl ?_
    refine Wk.iload (pc' := 104) C d9_102 rfl rfl ?_
    refine Wk.iloadN (pc' := 105) C d9_104 rfl rfl ?_
    refine Wk.arraycopy (pc' := 108) (W0 := 0) (q1 := (q + 5)) (q2 := 0) (i := 0) (j := t) (kk := cc) C (w63 hw) (w42 hw) (w40 hw) (w41 hw) d9_105 hq rfl rfl (by omega) (by omega) rfl hv hc (by omega) (by omega) rfl (by decide) rfl (by decide) rfl ?_
    change Wk p l e _ m _ below meth c _ _ n0 ((a32, ArrC Z .int ((max (2 * np) (t + cc))) (cpy fa g33 0 t cc)) :: (r0, ObjC Z "com/example/kensaku/kensaku/index/Postings$Builder" ks_0 [.ref da, .ref sa, .ref a32, .int (2 : Int32)]) :: (da, ArrC Z .int 8 fd) :: (sa, ArrC Z .int 9 fs) :: (pa, ArrC Z .int np fq) :: L) 1 64 108 #[.val (.ref r0), .val (.int x1), .val (.ref r2), .val (.int x3), .val (.int v30)] []
    refine Wk.aloadN (pc' := 109) C d9_108 rfl rfl rfl ?_
    refine Wk.getfield (pc' := 112) (host := "") (q := 1) (i := 0) C (Or.inl (w15 hw)) d9_109 rfl rfl rfl rfl ?_
    refine Wk.aloadN (pc' := 113) C d9_112 rfl rfl rfl ?_
    refine Wk.getfield (pc' := 116) (host := "") (q := 1) (i := 3) C (Or.inl (w29 hw)) d9_113 rfl rfl rfl rfl ?_
    refine Wk.iloadN (pc' := 117) C d9_116 rfl rfl ?_
    refine Wk.iastore (pc' := 118) (q := 2) (i := 2) C d9_117 rfl (by decide) (by decide) rfl ?_
    change Wk p l e _ m _ below meth c _ _ n0 ((a32, ArrC Z .int ((max (2 * np) (t + cc))) (cpy fa g33 0 t cc)) :: (r0, ObjC Z "com/example/kensaku/kensaku/index/Postings$Builder" ks_0 [.ref da, .ref sa, .ref a32, .int (2 : Int32)]) :: (da, ArrC Z .int 8 (upd fd 2 x1)) :: (sa, ArrC Z .int 9 fs) :: (pa, ArrC Z .int np fq) :: L) 1 64 118 #[.val (.ref r0), .val (.int x1), .val (.ref r2), .val (.int x3), .val (.int v30)] []
    refine Wk.aloadN (pc' := 119) C d9_118 rfl rfl rfl ?_
    refine Wk.dup (pc' := 120) C d9_119 rfl rfl ?_
    refine Wk.getfield (pc' := 123) (host := "") (q := 1) (i := 3) C (Or.inl (w29 hw)) d9_120 rfl rfl rfl rfl ?_
    refine Wk.iconst (z := (1 : Int32)) (pc' := 124) C d9_123 rfl rfl ?_
    refine Wk.iadd (pc' := 125) C d9_124 rfl ?_
    refine Wk.putfield (pc' := 128) (host := "") (q := 1) (i := 3) C (Or.inl (w29 hw)) (lays_ks_0 hw) (Or.inl (w30 hw)) (w7 hw) d9_125 rfl rfl (Nat.le_of_ble_eq_true rfl) rfl rfl rfl ?_
    change Wk p l e _ m _ below meth c _ _ n0 ((a32, ArrC Z .int ((max (2 * np) (t + cc))) (cpy fa g33 0 t cc)) :: (r0, ObjC Z "com/example/kensaku/kensaku/index/Postings$Builder" ks_0 [.ref da, .ref sa, .ref a32, .int ((2 : Int32) + (1 : Int32))]) :: (da, ArrC Z .int 8 (upd fd 2 x1)) :: (sa, ArrC Z .int 9 fs) :: (pa, ArrC Z .int np fq) :: L) 1 64 128 #[.val (.ref r0), .val (.int x1), .val (.ref r2), .val (.int x3), .val (.int v30)] []
    refine Wk.aloadN (pc' := 129) C d9_128 rfl rfl rfl ?_
    refine Wk.getfield (pc' := 132) (host := "") (q := 1) (i := 1) C (Or.inl (w17 hw)) d9_129 rfl rfl rfl rfl ?_
    refine Wk.aloadN (pc' := 133) C d9_132 rfl rfl rfl ?_
    refine Wk.getfield (pc' := 136) (host := "") (q := 1) (i := 3) C (Or.inl (w29 hw)) d9_133 rfl rfl rfl rfl ?_
    refine Wk.iload (pc' := 138) C d9_136 rfl rfl ?_
    refine Wk.iloadN (pc' := 139) C d9_138 rfl rfl ?_
    refine Wk.iadd (pc' := 140) C d9_139 rfl ?_
    refine Wk.iastore (pc' := 141) (q := 3) (i := 3) C d9_140 rfl (by decide) (by decide) rfl ?_
    change Wk p l e _ m _ below meth c _ _ n0 ((a32, ArrC Z .int ((max (2 * np) (t + cc))) (cpy fa g33 0 t cc)) :: (r0, ObjC Z "com/example/kensaku/kensaku/index/Postings$Builder" ks_0 [.ref da, .ref sa, .ref a32, .int ((2 : Int32) + (1 : Int32))]) :: (da, ArrC Z .int 8 (upd fd 2 x1)) :: (sa, ArrC Z .int 9 (upd fs 3 (v30 + x3))) :: (pa, ArrC Z .int np fq) :: L) 1 64 141 #[.val (.ref r0), .val (.int x1), .val (.ref r2), .val (.int x3), .val (.int v30)] []
    exact Wk.retV C J d9_141 (by decide) (by decide) (fun h O => ⟨_, _, _, _, rfl, by rw [hv30], by omega, by omega, fun i hi => (cpy_old _ _ hi).trans (hg33 i (by omega)), fun i hi => cpy_new _ _ hi, (((((O.front 0 rfl).front 3 rfl).front 3 rfl).front 3 rfl).drop 4)⟩)
theorem ef_rm7 (m : MethodId) (r0 : Addr) (r1 : Addr) (r2 : Addr) (r3 : Addr) : entryFrame m #[.ref r0, .ref r1, .ref r2, .ref r3] 4 = mkF m 0 #[.val (.ref r0), .val (.ref r1), .val (.ref r2), .val (.ref r3)] [] := by first | (simp [entryFrame, mkF, argsToLocals, Value.category]; done) | rfl
set_option maxRecDepth 65536 in
set_option maxHeartbeats 4000000 in
theorem rm7 (l : Launch) (Z : State) (a0 : Array Value) (hw : HW Z a0) (r0 : Addr) (r1 : Addr) (r2 : Addr) (r3 : Addr) (L : List (Addr × (Cell → Prop))) (h : Heap) (n0 : Nat) (O : Own n0 h ((r0, ObjC Z "com/example/kensaku/kensaku/index/Postings" ks_1 [.null, .null, .null]) :: L)) :
    Meth l Z (⟨"com/example/kensaku/kensaku/index/Postings", "<init>", "([I[I[I)V"⟩ : MethodName) prog_19_method_1_code 4 none [] ({ frames := 1, cells := 0, slots := 0, locals := 12 } : Room) #[.ref r0, .ref r1, .ref r2, .ref r3] h n0 (fun v h' => v = none ∧ Own n0 h' ((r0, ObjC Z "com/example/kensaku/kensaku/index/Postings" ks_1 [.ref r1, .ref r2, .ref r3]) :: L)) := by
  refine Meth.of (plainFor_of_name pn_3) (fun m => ef_rm7 m r0 r1 r2 r3) O ?_
  intro p e m below meth c M FE C J
  change Cx Z "com/example/kensaku/kensaku/index/Postings" "<init>" prog_19_method_1_code 4 none p m meth c M at C
  clear O
  refine Wk.aloadN (pc' := 1) C d7_0 rfl rfl rfl ?_
  refine Wk.objInit (pc' := 4) (W0 := 0) C (w46 hw) (w13 hw) (w14 hw) d7_1 rfl (by decide) rfl (by decide) rfl ?_
  refine Wk.aloadN (pc' := 5) C d7_4 rfl rfl rfl ?_
  refine Wk.aloadN (pc' := 6) C d7_5 rfl rfl rfl ?_
  refine Wk.putfield (pc' := 9) (host := "") (q := 0) (i := 0) C (Or.inl (w47 hw)) (lays_ks_1 hw) (Or.inr ⟨(w48 hw), rfl, rfl⟩) (w27 hw) d7_6 rfl rfl (Nat.le_of_ble_eq_true rfl) rfl rfl rfl ?_
  change Wk p l e _ m _ below meth c _ _ n0 ((r0, ObjC Z "com/example/kensaku/kensaku/index/Postings" ks_1 [.ref r1, .null, .null]) :: L) 0 0 9 #[.val (.ref r0), .val (.ref r1), .val (.ref r2), .val (.ref r3)] []
  refine Wk.aloadN (pc' := 10) C d7_9 rfl rfl rfl ?_
  refine Wk.aloadN (pc' := 11) C d7_10 rfl rfl rfl ?_
  refine Wk.putfield (pc' := 14) (host := "") (q := 0) (i := 1) C (Or.inl (w49 hw)) (lays_ks_1 hw) (Or.inr ⟨(w50 hw), rfl, rfl⟩) (w27 hw) d7_11 rfl rfl (Nat.le_of_ble_eq_true rfl) rfl rfl rfl ?_
  change Wk p l e _ m _ below meth c _ _ n0 ((r0, ObjC Z "com/example/kensaku/kensaku/index/Postings" ks_1 [.ref r1, .ref r2, .null]) :: L) 0 0 14 #[.val (.ref r0), .val (.ref r1), .val (.ref r2), .val (.ref r3)] []
  refine Wk.aloadN (pc' := 15) C d7_14 rfl rfl rfl ?_
  refine Wk.aloadN (pc' := 16) C d7_15 rfl rfl rfl ?_
  refine Wk.putfield (pc' := 19) (host := "") (q := 0) (i := 2) C (Or.inl (w51 hw)) (lays_ks_1 hw) (Or.inr ⟨(w52 hw), rfl, rfl⟩) (w27 hw) d7_16 rfl rfl (Nat.le_of_ble_eq_true rfl) rfl rfl rfl ?_
  change Wk p l e _ m _ below meth c _ _ n0 ((r0, ObjC Z "com/example/kensaku/kensaku/index/Postings" ks_1 [.ref r1, .ref r2, .ref r3]) :: L) 0 0 19 #[.val (.ref r0), .val (.ref r1), .val (.ref r2), .val (.ref r3)] []
  exact Wk.retV C J d7_19 (by decide) (by decide) (fun h O => ⟨rfl, O⟩)
theorem ef_rm4_0 (m : MethodId) (r0 : Addr) : entryFrame m #[.ref r0] 1 = mkF m 0 #[.val (.ref r0)] [] := by first | (simp [entryFrame, mkF, argsToLocals, Value.category]; done) | rfl
set_option maxRecDepth 65536 in
set_option maxHeartbeats 4000000 in
theorem rm4_0 (l : Launch) (Z : State) (a0 : Array Value) (hw : HW Z a0) (r0 : Addr) (L : List (Addr × (Cell → Prop))) (da sa pa : Addr) (sz : Int32) (np T : Nat) (fd fs fq : Nat → Int32) (h : Heap) (n0 : Nat) (O : Own n0 h ((r0, ObjC Z "com/example/kensaku/kensaku/index/Postings$Builder" ks_0 [.ref da, .ref sa, .ref pa, .int sz]) :: (da, ArrC Z .int 8 fd) :: (sa, ArrC Z .int 9 fs) :: (pa, ArrC Z .int np fq) :: L)) (hsz : sz = (0 : Int32)) (hz : sz.toInt = ((0 : Nat) : Int)) (hT : (fs 0).toInt = (T : Int)) (hTn : T ≤ np) (hT27 : T ≤ 27) (hnp : np ≤ 64) :
    Meth l Z (⟨"com/example/kensaku/kensaku/index/Postings$Builder", "build", "()Lcom/example/kensaku/kensaku/index/Postings;"⟩ : MethodName) prog_20_method_3_code 1 (some (.object "com/example/kensaku/kensaku/index/Postings")) [] ({ frames := 2, cells := 4, slots := 38, locals := 64 } : Room) #[.ref r0] h n0 (fun v h' => ∃ (Pp d' s' q' : Addr) (gd gs gp : Nat → Int32), v = some (.ref Pp) ∧ (∀ i, i < 0 → gd i = fd i) ∧ (∀ i, i < 1 → gs i = fs i) ∧ (∀ i, i < T → gp i = fq i) ∧ Own n0 h' ((Pp, ObjC Z "com/example/kensaku/kensaku/index/Postings" ks_1 [.ref d', .ref s', .ref q']) :: (q', ArrC Z .int T gp) :: (s', ArrC Z .int 1 gs) :: (d', ArrC Z .int 0 gd) :: (r0, ObjC Z "com/example/kensaku/kensaku/index/Postings$Builder" ks_0 [.ref da, .ref sa, .ref pa, .int sz]) :: (da, ArrC Z .int 8 fd) :: (sa, ArrC Z .int 9 fs) :: (pa, ArrC Z .int np fq) :: L)) := by
  refine Meth.of (plainFor_of_name pn_1) (fun m => ef_rm4_0 m r0) O ?_
  intro p e m below meth c M FE C J
  change Cx Z "com/example/kensaku/kensaku/index/Postings$Builder" "build" prog_20_method_3_code 1 (some (.object "com/example/kensaku/kensaku/index/Postings")) p m meth c M at C
  clear O
  refine Wk.new (pc' := 3) (ks := ks_1) (vs := [.null, .null, .null]) C (w26 hw) (w27 hw) (w28 hw) (lays_ks_1 hw) d4_0 rfl (by decide) (by decide) rfl ?_
  intro a34
  change Wk p l e _ m _ below meth c _ _ n0 ((a34, ObjC Z "com/example/kensaku/kensaku/index/Postings" ks_1 [.null, .null, .null]) :: (r0, ObjC Z "com/example/kensaku/kensaku/index/Postings$Builder" ks_0 [.ref da, .ref sa, .ref pa, .int sz]) :: (da, ArrC Z .int 8 fd) :: (sa, ArrC Z .int 9 fs) :: (pa, ArrC Z .int np fq) :: L) 1 3 3 #[.val (.ref r0)] [.ref a34]
  refine Wk.dup (pc' := 4) C d4_3 rfl rfl ?_
  refine Wk.aloadN (pc' := 5) C d4_4 rfl rfl rfl ?_
  refine Wk.getfield (pc' := 8) (host := "") (q := 1) (i := 0) C (Or.inl (w15 hw)) d4_5 rfl rfl rfl rfl ?_
  refine Wk.aloadN (pc' := 9) C d4_8 rfl rfl rfl ?_
  refine Wk.getfield (pc' := 12) (host := "") (q := 1) (i := 3) C (Or.inl (w29 hw)) d4_9 rfl rfl rfl rfl ?_
  refine Wk.callS (pc' := 15) (rm := { frames := 1, cells := 1, slots := 4, locals := 30 }) (W0 := 2) (argsL := [.ref da, .int sz]) (st := [.ref a34, .ref a34]) C (w31 hw) (w32 hw) (w33 hw) (w34 hw) (by decide) (fun h O => rm5_4 l Z a0 hw da sz ((a34, ObjC Z "com/example/kensaku/kensaku/index/Postings" ks_1 [.null, .null, .null]) :: (r0, ObjC Z "com/example/kensaku/kensaku/index/Postings$Builder" ks_0 [.ref da, .ref sa, .ref pa, .int sz]) :: (da, ArrC Z .int 8 fd) :: (sa, ArrC Z .int 9 fs) :: (pa, ArrC Z .int np fq) :: L) 2 8 0 fd h n0 O rfl hz (by decide) (by decide)) (by decide) (by decide) (by decide) (by decide) d4_12 rfl pd_1 rfl rfl rfl rfl ?_
  rintro _ h' ⟨a35, g36, rfl, hg36, O'⟩
  refine ⟨_, O', ?_⟩
  change Wk p l e _ m _ below meth c _ _ n0 ((a35, ArrC Z .int 0 g36) :: (a34, ObjC Z "com/example/kensaku/kensaku/index/Postings" ks_1 [.null, .null, .null]) :: (r0, ObjC Z "com/example/kensaku/kensaku/index/Postings$Builder" ks_0 [.ref da, .ref sa, .ref pa, .int sz]) :: (da, ArrC Z .int 8 fd) :: (sa, ArrC Z .int 9 fs) :: (pa, ArrC Z .int np fq) :: L) 2 7 15 #[.val (.ref r0)] [.ref a35, .ref a34, .ref a34]
  refine Wk.aloadN (pc' := 16) C d4_15 rfl rfl rfl ?_
  refine Wk.getfield (pc' := 19) (host := "") (q := 2) (i := 1) C (Or.inl (w17 hw)) d4_16 rfl rfl rfl rfl ?_
  refine Wk.aloadN (pc' := 20) C d4_19 rfl rfl rfl ?_
  refine Wk.getfield (pc' := 23) (host := "") (q := 2) (i := 3) C (Or.inl (w29 hw)) d4_20 rfl rfl rfl rfl ?_
  refine Wk.iconst (z := (1 : Int32)) (pc' := 24) C d4_23 rfl rfl ?_
  refine Wk.iadd (pc' := 25) C d4_24 rfl ?_
  refine Wk.callS (pc' := 28) (rm := { frames := 1, cells := 1, slots := 4, locals := 30 }) (W0 := 3) (argsL := [.ref sa, .int (sz + (1 : Int32))]) (st := [.ref a35, .ref a34, .ref a34]) C (w31 hw) (w32 hw) (w33 hw) (w34 hw) (by decide) (fun h O => rm5_4 l Z a0 hw sa (sz + (1 : Int32)) ((a35, ArrC Z .int 0 g36) :: (a34, ObjC Z "com/example/kensaku/kensaku/index/Postings" ks_1 [.null, .null, .null]) :: (r0, ObjC Z "com/example/kensaku/kensaku/index/Postings$Builder" ks_0 [.ref da, .ref sa, .ref pa, .int sz]) :: (da, ArrC Z .int 8 fd) :: (sa, ArrC Z .int 9 fs) :: (pa, ArrC Z .int np fq) :: L) 4 9 1 fs h n0 O rfl (by subst hsz; decide) (by decide) (by decide)) (by decide) (by decide) (by decide) (by decide) d4_25 rfl pd_1 rfl rfl rfl rfl ?_
  rintro _ h' ⟨a37, g38, rfl, hg38, O'⟩
  refine ⟨_, O', ?_⟩
  change Wk p l e _ m _ below meth c _ _ n0 ((a37, ArrC Z .int 1 g38) :: (a35, ArrC Z .int 0 g36) :: (a34, ObjC Z "com/example/kensaku/kensaku/index/Postings" ks_1 [.null, .null, .null]) :: (r0, ObjC Z "com/example/kensaku/kensaku/index/Postings$Builder" ks_0 [.ref da, .ref sa, .ref pa, .int sz]) :: (da, ArrC Z .int 8 fd) :: (sa, ArrC Z .int 9 fs) :: (pa, ArrC Z .int np fq) :: L) 3 11 28 #[.val (.ref r0)] [.ref a37, .ref a35, .ref a34, .ref a34]
  refine Wk.aloadN (pc' := 29) C d4_28 rfl rfl rfl ?_
  refine Wk.getfield (pc' := 32) (host := "") (q := 3) (i := 2) C (Or.inl (w19 hw)) d4_29 rfl rfl rfl rfl ?_
  refine Wk.aloadN (pc' := 33) C d4_32 rfl rfl rfl ?_
  refine Wk.getfield (pc' := 36) (host := "") (q := 3) (i := 1) C (Or.inl (w17 hw)) d4_33 rfl rfl rfl rfl ?_
  refine Wk.aloadN (pc' := 37) C d4_36 rfl rfl rfl ?_
  refine Wk.getfield (pc' := 40) (host := "") (q := 3) (i := 3) C (Or.inl (w29 hw)) d4_37 rfl rfl rfl rfl ?_
  refine Wk.iaload (pc' := 41) (q := 5) (i := 0) C d4_40 rfl hz (by decide) rfl ?_
  refine Wk.callS (pc' := 44) (rm := { frames := 1, cells := 1, slots := 27, locals := 30 }) (W0 := 4) (argsL := [.ref pa, .int (fs 0)]) (st := [.ref a37, .ref a35, .ref a34, .ref a34]) C (w31 hw) (w32 hw) (w33 hw) (w34 hw) (by decide) (fun h O => rm5_27 l Z a0 hw pa (fs 0) ((a37, ArrC Z .int 1 g38) :: (a35, ArrC Z .int 0 g36) :: (a34, ObjC Z "com/example/kensaku/kensaku/index/Postings" ks_1 [.null, .null, .null]) :: (r0, ObjC Z "com/example/kensaku/kensaku/index/Postings$Builder" ks_0 [.ref da, .ref sa, .ref pa, .int sz]) :: (da, ArrC Z .int 8 fd) :: (sa, ArrC Z .int 9 fs) :: (pa, ArrC Z .int np fq) :: L) 6 np T fq h n0 O rfl hT (by omega) (by omega)) (by decide) (by decide) (by decide) (by decide) d4_41 rfl pd_1 rfl rfl rfl rfl ?_
  rintro _ h' ⟨a39, g40, rfl, hg40, O'⟩
  refine ⟨_, O', ?_⟩
  change Wk p l e _ m _ below meth c _ _ n0 ((a39, ArrC Z .int T g40) :: (a37, ArrC Z .int 1 g38) :: (a35, ArrC Z .int 0 g36) :: (a34, ObjC Z "com/example/kensaku/kensaku/index/Postings" ks_1 [.null, .null, .null]) :: (r0, ObjC Z "com/example/kensaku/kensaku/index/Postings$Builder" ks_0 [.ref da, .ref sa, .ref pa, .int sz]) :: (da, ArrC Z .int 8 fd) :: (sa, ArrC Z .int 9 fs) :: (pa, ArrC Z .int np fq) :: L) 4 38 44 #[.val (.ref r0)] [.ref a39, .ref a37, .ref a35, .ref a34, .ref a34]
  refine Wk.recast (L' := ((a34, ObjC Z "com/example/kensaku/kensaku/index/Postings" ks_1 [.null, .null, .null]) :: (a39, ArrC Z .int T g40) :: (a37, ArrC Z .int 1 g38) :: (a35, ArrC Z .int 0 g36) :: (r0, ObjC Z "com/example/kensaku/kensaku/index/Postings$Builder" ks_0 [.ref da, .ref sa, .ref pa, .int sz]) :: (da, ArrC Z .int 8 fd) :: (sa, ArrC Z .int 9 fs) :: (pa, ArrC Z .int np fq) :: L)) ?_ (fun h O => (O.front 3 rfl))
  refine Wk.callIN (pc' := 47) (rm := { frames := 1, cells := 0, slots := 0, locals := 12 }) (W0 := 1) (a := a34) (argsL := [.ref a35, .ref a37, .ref a39]) (st := [.ref a34]) C rfl rfl (w43 hw) (w44 hw) (w28 hw) (w45 hw) (by decide) (fun h O => rm7 l Z a0 hw a34 a35 a37 a39 ((a39, ArrC Z .int T g40) :: (a37, ArrC Z .int 1 g38) :: (a35, ArrC Z .int 0 g36) :: (r0, ObjC Z "com/example/kensaku/kensaku/index/Postings$Builder" ks_0 [.ref da, .ref sa, .ref pa, .int sz]) :: (da, ArrC Z .int 8 fd) :: (sa, ArrC Z .int 9 fs) :: (pa, ArrC Z .int np fq) :: L) h n0 O) (by decide) (by decide) (by decide) (by decide) d4_44 rfl pd_2 rfl rfl rfl rfl ?_
  rintro _ h' ⟨rfl, O'⟩
  refine ⟨_, O', ?_⟩
  change Wk p l e _ m _ below meth c _ _ n0 ((a34, ObjC Z "com/example/kensaku/kensaku/index/Postings" ks_1 [.ref a35, .ref a37, .ref a39]) :: (a39, ArrC Z .int T g40) :: (a37, ArrC Z .int 1 g38) :: (a35, ArrC Z .int 0 g36) :: (r0, ObjC Z "com/example/kensaku/kensaku/index/Postings$Builder" ks_0 [.ref da, .ref sa, .ref pa, .int sz]) :: (da, ArrC Z .int 8 fd) :: (sa, ArrC Z .int 9 fs) :: (pa, ArrC Z .int np fq) :: L) 4 38 47 #[.val (.ref r0)] [.ref a34]
  exact Wk.retA C J d4_47 (by decide) (by decide) rfl rfl (fun h O => ⟨_, _, _, _, _, _, _, rfl, fun i hi => hg36 i (by omega), fun i hi => hg38 i (by omega), fun i hi => hg40 i (by omega), O⟩)
theorem ef_rm4_1 (m : MethodId) (r0 : Addr) : entryFrame m #[.ref r0] 1 = mkF m 0 #[.val (.ref r0)] [] := by first | (simp [entryFrame, mkF, argsToLocals, Value.category]; done) | rfl
set_option maxRecDepth 65536 in
set_option maxHeartbeats 4000000 in
theorem rm4_1 (l : Launch) (Z : State) (a0 : Array Value) (hw : HW Z a0) (r0 : Addr) (L : List (Addr × (Cell → Prop))) (da sa pa : Addr) (sz : Int32) (np T : Nat) (fd fs fq : Nat → Int32) (h : Heap) (n0 : Nat) (O : Own n0 h ((r0, ObjC Z "com/example/kensaku/kensaku/index/Postings$Builder" ks_0 [.ref da, .ref sa, .ref pa, .int sz]) :: (da, ArrC Z .int 8 fd) :: (sa, ArrC Z .int 9 fs) :: (pa, ArrC Z .int np fq) :: L)) (hsz : sz = (1 : Int32)) (hz : sz.toInt = ((1 : Nat) : Int)) (hT : (fs 1).toInt = (T : Int)) (hTn : T ≤ np) (hT27 : T ≤ 27) (hnp : np ≤ 64) :
    Meth l Z (⟨"com/example/kensaku/kensaku/index/Postings$Builder", "build", "()Lcom/example/kensaku/kensaku/index/Postings;"⟩ : MethodName) prog_20_method_3_code 1 (some (.object "com/example/kensaku/kensaku/index/Postings")) [] ({ frames := 2, cells := 4, slots := 38, locals := 64 } : Room) #[.ref r0] h n0 (fun v h' => ∃ (Pp d' s' q' : Addr) (gd gs gp : Nat → Int32), v = some (.ref Pp) ∧ (∀ i, i < 1 → gd i = fd i) ∧ (∀ i, i < 2 → gs i = fs i) ∧ (∀ i, i < T → gp i = fq i) ∧ Own n0 h' ((Pp, ObjC Z "com/example/kensaku/kensaku/index/Postings" ks_1 [.ref d', .ref s', .ref q']) :: (q', ArrC Z .int T gp) :: (s', ArrC Z .int 2 gs) :: (d', ArrC Z .int 1 gd) :: (r0, ObjC Z "com/example/kensaku/kensaku/index/Postings$Builder" ks_0 [.ref da, .ref sa, .ref pa, .int sz]) :: (da, ArrC Z .int 8 fd) :: (sa, ArrC Z .int 9 fs) :: (pa, ArrC Z .int np fq) :: L)) := by
  refine Meth.of (plainFor_of_name pn_1) (fun m => ef_rm4_1 m r0) O ?_
  intro p e m below meth c M FE C J
  change Cx Z "com/example/kensaku/kensaku/index/Postings$Builder" "build" prog_20_method_3_code 1 (some (.object "com/example/kensaku/kensaku/index/Postings")) p m meth c M at C
  clear O
  refine Wk.new (pc' := 3) (ks := ks_1) (vs := [.null, .null, .null]) C (w26 hw) (w27 hw) (w28 hw) (lays_ks_1 hw) d4_0 rfl (by decide) (by decide) rfl ?_
  intro a41
  change Wk p l e _ m _ below meth c _ _ n0 ((a41, ObjC Z "com/example/kensaku/kensaku/index/Postings" ks_1 [.null, .null, .null]) :: (r0, ObjC Z "com/example/kensaku/kensaku/index/Postings$Builder" ks_0 [.ref da, .ref sa, .ref pa, .int sz]) :: (da, ArrC Z .int 8 fd) :: (sa, ArrC Z .int 9 fs) :: (pa, ArrC Z .int np fq) :: L) 1 3 3 #[.val (.ref r0)] [.ref a41]
  refine Wk.dup (pc' := 4) C d4_3 rfl rfl ?_
  refine Wk.aloadN (pc' := 5) C d4_4 rfl rfl rfl ?_
  refine Wk.getfield (pc' := 8) (host := "") (q := 1) (i := 0) C (Or.inl (w15 hw)) d4_5 rfl rfl rfl rfl ?_
  refine Wk.aloadN (pc' := 9) C d4_8 rfl rfl rfl ?_
  refine Wk.getfield (pc' := 12) (host := "") (q := 1) (i := 3) C (Or.inl (w29 hw)) d4_9 rfl rfl rfl rfl ?_
  refine Wk.callS (pc' := 15) (rm := { frames := 1, cells := 1, slots := 4, locals := 30 }) (W0 := 2) (argsL := [.ref da, .int sz]) (st := [.ref a41, .ref a41]) C (w31 hw) (w32 hw) (w33 hw) (w34 hw) (by decide) (fun h O => rm5_4 l Z a0 hw da sz ((a41, ObjC Z "com/example/kensaku/kensaku/index/Postings" ks_1 [.null, .null, .null]) :: (r0, ObjC Z "com/example/kensaku/kensaku/index/Postings$Builder" ks_0 [.ref da, .ref sa, .ref pa, .int sz]) :: (da, ArrC Z .int 8 fd) :: (sa, ArrC Z .int 9 fs) :: (pa, ArrC Z .int np fq) :: L) 2 8 1 fd h n0 O rfl hz (by decide) (by decide)) (by decide) (by decide) (by decide) (by decide) d4_12 rfl pd_1 rfl rfl rfl rfl ?_
  rintro _ h' ⟨a42, g43, rfl, hg43, O'⟩
  refine ⟨_, O', ?_⟩
  change Wk p l e _ m _ below meth c _ _ n0 ((a42, ArrC Z .int 1 g43) :: (a41, ObjC Z "com/example/kensaku/kensaku/index/Postings" ks_1 [.null, .null, .null]) :: (r0, ObjC Z "com/example/kensaku/kensaku/index/Postings$Builder" ks_0 [.ref da, .ref sa, .ref pa, .int sz]) :: (da, ArrC Z .int 8 fd) :: (sa, ArrC Z .int 9 fs) :: (pa, ArrC Z .int np fq) :: L) 2 7 15 #[.val (.ref r0)] [.ref a42, .ref a41, .ref a41]
  refine Wk.aloadN (pc' := 16) C d4_15 rfl rfl rfl ?_
  refine Wk.getfield (pc' := 19) (host := "") (q := 2) (i := 1) C (Or.inl (w17 hw)) d4_16 rfl rfl rfl rfl ?_
  refine Wk.aloadN (pc' := 20) C d4_19 rfl rfl rfl ?_
  refine Wk.getfield (pc' := 23) (host := "") (q := 2) (i := 3) C (Or.inl (w29 hw)) d4_20 rfl rfl rfl rfl ?_
  refine Wk.iconst (z := (1 : Int32)) (pc' := 24) C d4_23 rfl rfl ?_
  refine Wk.iadd (pc' := 25) C d4_24 rfl ?_
  refine Wk.callS (pc' := 28) (rm := { frames := 1, cells := 1, slots := 4, locals := 30 }) (W0 := 3) (argsL := [.ref sa, .int (sz + (1 : Int32))]) (st := [.ref a42, .ref a41, .ref a41]) C (w31 hw) (w32 hw) (w33 hw) (w34 hw) (by decide) (fun h O => rm5_4 l Z a0 hw sa (sz + (1 : Int32)) ((a42, ArrC Z .int 1 g43) :: (a41, ObjC Z "com/example/kensaku/kensaku/index/Postings" ks_1 [.null, .null, .null]) :: (r0, ObjC Z "com/example/kensaku/kensaku/index/Postings$Builder" ks_0 [.ref da, .ref sa, .ref pa, .int sz]) :: (da, ArrC Z .int 8 fd) :: (sa, ArrC Z .int 9 fs) :: (pa, ArrC Z .int np fq) :: L) 4 9 2 fs h n0 O rfl (by subst hsz; decide) (by decide) (by decide)) (by decide) (by decide) (by decide) (by decide) d4_25 rfl pd_1 rfl rfl rfl rfl ?_
  rintro _ h' ⟨a44, g45, rfl, hg45, O'⟩
  refine ⟨_, O', ?_⟩
  change Wk p l e _ m _ below meth c _ _ n0 ((a44, ArrC Z .int 2 g45) :: (a42, ArrC Z .int 1 g43) :: (a41, ObjC Z "com/example/kensaku/kensaku/index/Postings" ks_1 [.null, .null, .null]) :: (r0, ObjC Z "com/example/kensaku/kensaku/index/Postings$Builder" ks_0 [.ref da, .ref sa, .ref pa, .int sz]) :: (da, ArrC Z .int 8 fd) :: (sa, ArrC Z .int 9 fs) :: (pa, ArrC Z .int np fq) :: L) 3 11 28 #[.val (.ref r0)] [.ref a44, .ref a42, .ref a41, .ref a41]
  refine Wk.aloadN (pc' := 29) C d4_28 rfl rfl rfl ?_
  refine Wk.getfield (pc' := 32) (host := "") (q := 3) (i := 2) C (Or.inl (w19 hw)) d4_29 rfl rfl rfl rfl ?_
  refine Wk.aloadN (pc' := 33) C d4_32 rfl rfl rfl ?_
  refine Wk.getfield (pc' := 36) (host := "") (q := 3) (i := 1) C (Or.inl (w17 hw)) d4_33 rfl rfl rfl rfl ?_
  refine Wk.aloadN (pc' := 37) C d4_36 rfl rfl rfl ?_
  refine Wk.getfield (pc' := 40) (host := "") (q := 3) (i := 3) C (Or.inl (w29 hw)) d4_37 rfl rfl rfl rfl ?_
  refine Wk.iaload (pc' := 41) (q := 5) (i := 1) C d4_40 rfl hz (by decide) rfl ?_
  refine Wk.callS (pc' := 44) (rm := { frames := 1, cells := 1, slots := 27, locals := 30 }) (W0 := 4) (argsL := [.ref pa, .int (fs 1)]) (st := [.ref a44, .ref a42, .ref a41, .ref a41]) C (w31 hw) (w32 hw) (w33 hw) (w34 hw) (by decide) (fun h O => rm5_27 l Z a0 hw pa (fs 1) ((a44, ArrC Z .int 2 g45) :: (a42, ArrC Z .int 1 g43) :: (a41, ObjC Z "com/example/kensaku/kensaku/index/Postings" ks_1 [.null, .null, .null]) :: (r0, ObjC Z "com/example/kensaku/kensaku/index/Postings$Builder" ks_0 [.ref da, .ref sa, .ref pa, .int sz]) :: (da, ArrC Z .int 8 fd) :: (sa, ArrC Z .int 9 fs) :: (pa, ArrC Z .int np fq) :: L) 6 np T fq h n0 O rfl hT (by omega) (by omega)) (by decide) (by decide) (by decide) (by decide) d4_41 rfl pd_1 rfl rfl rfl rfl ?_
  rintro _ h' ⟨a46, g47, rfl, hg47, O'⟩
  refine ⟨_, O', ?_⟩
  change Wk p l e _ m _ below meth c _ _ n0 ((a46, ArrC Z .int T g47) :: (a44, ArrC Z .int 2 g45) :: (a42, ArrC Z .int 1 g43) :: (a41, ObjC Z "com/example/kensaku/kensaku/index/Postings" ks_1 [.null, .null, .null]) :: (r0, ObjC Z "com/example/kensaku/kensaku/index/Postings$Builder" ks_0 [.ref da, .ref sa, .ref pa, .int sz]) :: (da, ArrC Z .int 8 fd) :: (sa, ArrC Z .int 9 fs) :: (pa, ArrC Z .int np fq) :: L) 4 38 44 #[.val (.ref r0)] [.ref a46, .ref a44, .ref a42, .ref a41, .ref a41]
  refine Wk.recast (L' := ((a41, ObjC Z "com/example/kensaku/kensaku/index/Postings" ks_1 [.null, .null, .null]) :: (a46, ArrC Z .int T g47) :: (a44, ArrC Z .int 2 g45) :: (a42, ArrC Z .int 1 g43) :: (r0, ObjC Z "com/example/kensaku/kensaku/index/Postings$Builder" ks_0 [.ref da, .ref sa, .ref pa, .int sz]) :: (da, ArrC Z .int 8 fd) :: (sa, ArrC Z .int 9 fs) :: (pa, ArrC Z .int np fq) :: L)) ?_ (fun h O => (O.front 3 rfl))
  refine Wk.callIN (pc' := 47) (rm := { frames := 1, cells := 0, slots := 0, locals := 12 }) (W0 := 1) (a := a41) (argsL := [.ref a42, .ref a44, .ref a46]) (st := [.ref a41]) C rfl rfl (w43 hw) (w44 hw) (w28 hw) (w45 hw) (by decide) (fun h O => rm7 l Z a0 hw a41 a42 a44 a46 ((a46, ArrC Z .int T g47) :: (a44, ArrC Z .int 2 g45) :: (a42, ArrC Z .int 1 g43) :: (r0, ObjC Z "com/example/kensaku/kensaku/index/Postings$Builder" ks_0 [.ref da, .ref sa, .ref pa, .int sz]) :: (da, ArrC Z .int 8 fd) :: (sa, ArrC Z .int 9 fs) :: (pa, ArrC Z .int np fq) :: L) h n0 O) (by decide) (by decide) (by decide) (by decide) d4_44 rfl pd_2 rfl rfl rfl rfl ?_
  rintro _ h' ⟨rfl, O'⟩
  refine ⟨_, O', ?_⟩
  change Wk p l e _ m _ below meth c _ _ n0 ((a41, ObjC Z "com/example/kensaku/kensaku/index/Postings" ks_1 [.ref a42, .ref a44, .ref a46]) :: (a46, ArrC Z .int T g47) :: (a44, ArrC Z .int 2 g45) :: (a42, ArrC Z .int 1 g43) :: (r0, ObjC Z "com/example/kensaku/kensaku/index/Postings$Builder" ks_0 [.ref da, .ref sa, .ref pa, .int sz]) :: (da, ArrC Z .int 8 fd) :: (sa, ArrC Z .int 9 fs) :: (pa, ArrC Z .int np fq) :: L) 4 38 47 #[.val (.ref r0)] [.ref a41]
  exact Wk.retA C J d4_47 (by decide) (by decide) rfl rfl (fun h O => ⟨_, _, _, _, _, _, _, rfl, fun i hi => hg43 i (by omega), fun i hi => hg45 i (by omega), fun i hi => hg47 i (by omega), O⟩)
theorem ef_rm4_2 (m : MethodId) (r0 : Addr) : entryFrame m #[.ref r0] 1 = mkF m 0 #[.val (.ref r0)] [] := by first | (simp [entryFrame, mkF, argsToLocals, Value.category]; done) | rfl
set_option maxRecDepth 65536 in
set_option maxHeartbeats 4000000 in
theorem rm4_2 (l : Launch) (Z : State) (a0 : Array Value) (hw : HW Z a0) (r0 : Addr) (L : List (Addr × (Cell → Prop))) (da sa pa : Addr) (sz : Int32) (np T : Nat) (fd fs fq : Nat → Int32) (h : Heap) (n0 : Nat) (O : Own n0 h ((r0, ObjC Z "com/example/kensaku/kensaku/index/Postings$Builder" ks_0 [.ref da, .ref sa, .ref pa, .int sz]) :: (da, ArrC Z .int 8 fd) :: (sa, ArrC Z .int 9 fs) :: (pa, ArrC Z .int np fq) :: L)) (hsz : sz = (2 : Int32)) (hz : sz.toInt = ((2 : Nat) : Int)) (hT : (fs 2).toInt = (T : Int)) (hTn : T ≤ np) (hT27 : T ≤ 27) (hnp : np ≤ 64) :
    Meth l Z (⟨"com/example/kensaku/kensaku/index/Postings$Builder", "build", "()Lcom/example/kensaku/kensaku/index/Postings;"⟩ : MethodName) prog_20_method_3_code 1 (some (.object "com/example/kensaku/kensaku/index/Postings")) [] ({ frames := 2, cells := 4, slots := 38, locals := 64 } : Room) #[.ref r0] h n0 (fun v h' => ∃ (Pp d' s' q' : Addr) (gd gs gp : Nat → Int32), v = some (.ref Pp) ∧ (∀ i, i < 2 → gd i = fd i) ∧ (∀ i, i < 3 → gs i = fs i) ∧ (∀ i, i < T → gp i = fq i) ∧ Own n0 h' ((Pp, ObjC Z "com/example/kensaku/kensaku/index/Postings" ks_1 [.ref d', .ref s', .ref q']) :: (q', ArrC Z .int T gp) :: (s', ArrC Z .int 3 gs) :: (d', ArrC Z .int 2 gd) :: (r0, ObjC Z "com/example/kensaku/kensaku/index/Postings$Builder" ks_0 [.ref da, .ref sa, .ref pa, .int sz]) :: (da, ArrC Z .int 8 fd) :: (sa, ArrC Z .int 9 fs) :: (pa, ArrC Z .int np fq) :: L)) := by
  refine Meth.of (plainFor_of_name pn_1) (fun m => ef_rm4_2 m r0) O ?_
  intro p e m below meth c M FE C J
  change Cx Z "com/example/kensaku/kensaku/index/Postings$Builder" "build" prog_20_method_3_code 1 (some (.object "com/example/kensaku/kensaku/index/Postings")) p m meth c M at C
  clear O
  refine Wk.new (pc' := 3) (ks := ks_1) (vs := [.null, .null, .null]) C (w26 hw) (w27 hw) (w28 hw) (lays_ks_1 hw) d4_0 rfl (by decide) (by decide) rfl ?_
  intro a48
  change Wk p l e _ m _ below meth c _ _ n0 ((a48, ObjC Z "com/example/kensaku/kensaku/index/Postings" ks_1 [.null, .null, .null]) :: (r0, ObjC Z "com/example/kensaku/kensaku/index/Postings$Builder" ks_0 [.ref da, .ref sa, .ref pa, .int sz]) :: (da, ArrC Z .int 8 fd) :: (sa, ArrC Z .int 9 fs) :: (pa, ArrC Z .int np fq) :: L) 1 3 3 #[.val (.ref r0)] [.ref a48]
  refine Wk.dup (pc' := 4) C d4_3 rfl rfl ?_
  refine Wk.aloadN (pc' := 5) C d4_4 rfl rfl rfl ?_
  refine Wk.getfield (pc' := 8) (host := "") (q := 1) (i := 0) C (Or.inl (w15 hw)) d4_5 rfl rfl rfl rfl ?_
  refine Wk.aloadN (pc' := 9) C d4_8 rfl rfl rfl ?_
  refine Wk.getfield (pc' := 12) (host := "") (q := 1) (i := 3) C (Or.inl (w29 hw)) d4_9 rfl rfl rfl rfl ?_
  refine Wk.callS (pc' := 15) (rm := { frames := 1, cells := 1, slots := 4, locals := 30 }) (W0 := 2) (argsL := [.ref da, .int sz]) (st := [.ref a48, .ref a48]) C (w31 hw) (w32 hw) (w33 hw) (w34 hw) (by decide) (fun h O => rm5_4 l Z a0 hw da sz ((a48, ObjC Z "com/example/kensaku/kensaku/index/Postings" ks_1 [.null, .null, .null]) :: (r0, ObjC Z "com/example/kensaku/kensaku/index/Postings$Builder" ks_0 [.ref da, .ref sa, .ref pa, .int sz]) :: (da, ArrC Z .int 8 fd) :: (sa, ArrC Z .int 9 fs) :: (pa, ArrC Z .int np fq) :: L) 2 8 2 fd h n0 O rfl hz (by decide) (by decide)) (by decide) (by decide) (by decide) (by decide) d4_12 rfl pd_1 rfl rfl rfl rfl ?_
  rintro _ h' ⟨a49, g50, rfl, hg50, O'⟩
  refine ⟨_, O', ?_⟩
  change Wk p l e _ m _ below meth c _ _ n0 ((a49, ArrC Z .int 2 g50) :: (a48, ObjC Z "com/example/kensaku/kensaku/index/Postings" ks_1 [.null, .null, .null]) :: (r0, ObjC Z "com/example/kensaku/kensaku/index/Postings$Builder" ks_0 [.ref da, .ref sa, .ref pa, .int sz]) :: (da, ArrC Z .int 8 fd) :: (sa, ArrC Z .int 9 fs) :: (pa, ArrC Z .int np fq) :: L) 2 7 15 #[.val (.ref r0)] [.ref a49, .ref a48, .ref a48]
  refine Wk.aloadN (pc' := 16) C d4_15 rfl rfl rfl ?_
  refine Wk.getfield (pc' := 19) (host := "") (q := 2) (i := 1) C (Or.inl (w17 hw)) d4_16 rfl rfl rfl rfl ?_
  refine Wk.aloadN (pc' := 20) C d4_19 rfl rfl rfl ?_
  refine Wk.getfield (pc' := 23) (host := "") (q := 2) (i := 3) C (Or.inl (w29 hw)) d4_20 rfl rfl rfl rfl ?_
  refine Wk.iconst (z := (1 : Int32)) (pc' := 24) C d4_23 rfl rfl ?_
  refine Wk.iadd (pc' := 25) C d4_24 rfl ?_
  refine Wk.callS (pc' := 28) (rm := { frames := 1, cells := 1, slots := 4, locals := 30 }) (W0 := 3) (argsL := [.ref sa, .int (sz + (1 : Int32))]) (st := [.ref a49, .ref a48, .ref a48]) C (w31 hw) (w32 hw) (w33 hw) (w34 hw) (by decide) (fun h O => rm5_4 l Z a0 hw sa (sz + (1 : Int32)) ((a49, ArrC Z .int 2 g50) :: (a48, ObjC Z "com/example/kensaku/kensaku/index/Postings" ks_1 [.null, .null, .null]) :: (r0, ObjC Z "com/example/kensaku/kensaku/index/Postings$Builder" ks_0 [.ref da, .ref sa, .ref pa, .int sz]) :: (da, ArrC Z .int 8 fd) :: (sa, ArrC Z .int 9 fs) :: (pa, ArrC Z .int np fq) :: L) 4 9 3 fs h n0 O rfl (by subst hsz; decide) (by decide) (by decide)) (by decide) (by decide) (by decide) (by decide) d4_25 rfl pd_1 rfl rfl rfl rfl ?_
  rintro _ h' ⟨a51, g52, rfl, hg52, O'⟩
  refine ⟨_, O', ?_⟩
  change Wk p l e _ m _ below meth c _ _ n0 ((a51, ArrC Z .int 3 g52) :: (a49, ArrC Z .int 2 g50) :: (a48, ObjC Z "com/example/kensaku/kensaku/index/Postings" ks_1 [.null, .null, .null]) :: (r0, ObjC Z "com/example/kensaku/kensaku/index/Postings$Builder" ks_0 [.ref da, .ref sa, .ref pa, .int sz]) :: (da, ArrC Z .int 8 fd) :: (sa, ArrC Z .int 9 fs) :: (pa, ArrC Z .int np fq) :: L) 3 11 28 #[.val (.ref r0)] [.ref a51, .ref a49, .ref a48, .ref a48]
  refine Wk.aloadN (pc' := 29) C d4_28 rfl rfl rfl ?_
  refine Wk.getfield (pc' := 32) (host := "") (q := 3) (i := 2) C (Or.inl (w19 hw)) d4_29 rfl rfl rfl rfl ?_
  refine Wk.aloadN (pc' := 33) C d4_32 rfl rfl rfl ?_
  refine Wk.getfield (pc' := 36) (host := "") (q := 3) (i := 1) C (Or.inl (w17 hw)) d4_33 rfl rfl rfl rfl ?_
  refine Wk.aloadN (pc' := 37) C d4_36 rfl rfl rfl ?_
  refine Wk.getfield (pc' := 40) (host := "") (q := 3) (i := 3) C (Or.inl (w29 hw)) d4_37 rfl rfl rfl rfl ?_
  refine Wk.iaload (pc' := 41) (q := 5) (i := 2) C d4_40 rfl hz (by decide) rfl ?_
  refine Wk.callS (pc' := 44) (rm := { frames := 1, cells := 1, slots := 27, locals := 30 }) (W0 := 4) (argsL := [.ref pa, .int (fs 2)]) (st := [.ref a51, .ref a49, .ref a48, .ref a48]) C (w31 hw) (w32 hw) (w33 hw) (w34 hw) (by decide) (fun h O => rm5_27 l Z a0 hw pa (fs 2) ((a51, ArrC Z .int 3 g52) :: (a49, ArrC Z .int 2 g50) :: (a48, ObjC Z "com/example/kensaku/kensaku/index/Postings" ks_1 [.null, .null, .null]) :: (r0, ObjC Z "com/example/kensaku/kensaku/index/Postings$Builder" ks_0 [.ref da, .ref sa, .ref pa, .int sz]) :: (da, ArrC Z .int 8 fd) :: (sa, ArrC Z .int 9 fs) :: (pa, ArrC Z .int np fq) :: L) 6 np T fq h n0 O rfl hT (by omega) (by omega)) (by decide) (by decide) (by decide) (by decide) d4_41 rfl pd_1 rfl rfl rfl rfl ?_
  rintro _ h' ⟨a53, g54, rfl, hg54, O'⟩
  refine ⟨_, O', ?_⟩
  change Wk p l e _ m _ below meth c _ _ n0 ((a53, ArrC Z .int T g54) :: (a51, ArrC Z .int 3 g52) :: (a49, ArrC Z .int 2 g50) :: (a48, ObjC Z "com/example/kensaku/kensaku/index/Postings" ks_1 [.null, .null, .null]) :: (r0, ObjC Z "com/example/kensaku/kensaku/index/Postings$Builder" ks_0 [.ref da, .ref sa, .ref pa, .int sz]) :: (da, ArrC Z .int 8 fd) :: (sa, ArrC Z .int 9 fs) :: (pa, ArrC Z .int np fq) :: L) 4 38 44 #[.val (.ref r0)] [.ref a53, .ref a51, .ref a49, .ref a48, .ref a48]
  refine Wk.recast (L' := ((a48, ObjC Z "com/example/kensaku/kensaku/index/Postings" ks_1 [.null, .null, .null]) :: (a53, ArrC Z .int T g54) :: (a51, ArrC Z .int 3 g52) :: (a49, ArrC Z .int 2 g50) :: (r0, ObjC Z "com/example/kensaku/kensaku/index/Postings$Builder" ks_0 [.ref da, .ref sa, .ref pa, .int sz]) :: (da, ArrC Z .int 8 fd) :: (sa, ArrC Z .int 9 fs) :: (pa, ArrC Z .int np fq) :: L)) ?_ (fun h O => (O.front 3 rfl))
  refine Wk.callIN (pc' := 47) (rm := { frames := 1, cells := 0, slots := 0, locals := 12 }) (W0 := 1) (a := a48) (argsL := [.ref a49, .ref a51, .ref a53]) (st := [.ref a48]) C rfl rfl (w43 hw) (w44 hw) (w28 hw) (w45 hw) (by decide) (fun h O => rm7 l Z a0 hw a48 a49 a51 a53 ((a53, ArrC Z .int T g54) :: (a51, ArrC Z .int 3 g52) :: (a49, ArrC Z .int 2 g50) :: (r0, ObjC Z "com/example/kensaku/kensaku/index/Postings$Builder" ks_0 [.ref da, .ref sa, .ref pa, .int sz]) :: (da, ArrC Z .int 8 fd) :: (sa, ArrC Z .int 9 fs) :: (pa, ArrC Z .int np fq) :: L) h n0 O) (by decide) (by decide) (by decide) (by decide) d4_44 rfl pd_2 rfl rfl rfl rfl ?_
  rintro _ h' ⟨rfl, O'⟩
  refine ⟨_, O', ?_⟩
  change Wk p l e _ m _ below meth c _ _ n0 ((a48, ObjC Z "com/example/kensaku/kensaku/index/Postings" ks_1 [.ref a49, .ref a51, .ref a53]) :: (a53, ArrC Z .int T g54) :: (a51, ArrC Z .int 3 g52) :: (a49, ArrC Z .int 2 g50) :: (r0, ObjC Z "com/example/kensaku/kensaku/index/Postings$Builder" ks_0 [.ref da, .ref sa, .ref pa, .int sz]) :: (da, ArrC Z .int 8 fd) :: (sa, ArrC Z .int 9 fs) :: (pa, ArrC Z .int np fq) :: L) 4 38 47 #[.val (.ref r0)] [.ref a48]
  exact Wk.retA C J d4_47 (by decide) (by decide) rfl rfl (fun h O => ⟨_, _, _, _, _, _, _, rfl, fun i hi => hg50 i (by omega), fun i hi => hg52 i (by omega), fun i hi => hg54 i (by omega), O⟩)
theorem ef_rm4_3 (m : MethodId) (r0 : Addr) : entryFrame m #[.ref r0] 1 = mkF m 0 #[.val (.ref r0)] [] := by first | (simp [entryFrame, mkF, argsToLocals, Value.category]; done) | rfl
set_option maxRecDepth 65536 in
set_option maxHeartbeats 4000000 in
theorem rm4_3 (l : Launch) (Z : State) (a0 : Array Value) (hw : HW Z a0) (r0 : Addr) (L : List (Addr × (Cell → Prop))) (da sa pa : Addr) (sz : Int32) (np T : Nat) (fd fs fq : Nat → Int32) (h : Heap) (n0 : Nat) (O : Own n0 h ((r0, ObjC Z "com/example/kensaku/kensaku/index/Postings$Builder" ks_0 [.ref da, .ref sa, .ref pa, .int sz]) :: (da, ArrC Z .int 8 fd) :: (sa, ArrC Z .int 9 fs) :: (pa, ArrC Z .int np fq) :: L)) (hsz : sz = (3 : Int32)) (hz : sz.toInt = ((3 : Nat) : Int)) (hT : (fs 3).toInt = (T : Int)) (hTn : T ≤ np) (hT27 : T ≤ 27) (hnp : np ≤ 64) :
    Meth l Z (⟨"com/example/kensaku/kensaku/index/Postings$Builder", "build", "()Lcom/example/kensaku/kensaku/index/Postings;"⟩ : MethodName) prog_20_method_3_code 1 (some (.object "com/example/kensaku/kensaku/index/Postings")) [] ({ frames := 2, cells := 4, slots := 38, locals := 64 } : Room) #[.ref r0] h n0 (fun v h' => ∃ (Pp d' s' q' : Addr) (gd gs gp : Nat → Int32), v = some (.ref Pp) ∧ (∀ i, i < 3 → gd i = fd i) ∧ (∀ i, i < 4 → gs i = fs i) ∧ (∀ i, i < T → gp i = fq i) ∧ Own n0 h' ((Pp, ObjC Z "com/example/kensaku/kensaku/index/Postings" ks_1 [.ref d', .ref s', .ref q']) :: (q', ArrC Z .int T gp) :: (s', ArrC Z .int 4 gs) :: (d', ArrC Z .int 3 gd) :: (r0, ObjC Z "com/example/kensaku/kensaku/index/Postings$Builder" ks_0 [.ref da, .ref sa, .ref pa, .int sz]) :: (da, ArrC Z .int 8 fd) :: (sa, ArrC Z .int 9 fs) :: (pa, ArrC Z .int np fq) :: L)) := by
  refine Meth.of (plainFor_of_name pn_1) (fun m => ef_rm4_3 m r0) O ?_
  intro p e m below meth c M FE C J
  change Cx Z "com/example/kensaku/kensaku/index/Postings$Builder" "build" prog_20_method_3_code 1 (some (.object "com/example/kensaku/kensaku/index/Postings")) p m meth c M at C
  clear O
  refine Wk.new (pc' := 3) (ks := ks_1) (vs := [.null, .null, .null]) C (w26 hw) (w27 hw) (w28 hw) (lays_ks_1 hw) d4_0 rfl (by decide) (by decide) rfl ?_
  intro a55
  change Wk p l e _ m _ below meth c _ _ n0 ((a55, ObjC Z "com/example/kensaku/kensaku/index/Postings" ks_1 [.null, .null, .null]) :: (r0, ObjC Z "com/example/kensaku/kensaku/index/Postings$Builder" ks_0 [.ref da, .ref sa, .ref pa, .int sz]) :: (da, ArrC Z .int 8 fd) :: (sa, ArrC Z .int 9 fs) :: (pa, ArrC Z .int np fq) :: L) 1 3 3 #[.val (.ref r0)] [.ref a55]
  refine Wk.dup (pc' := 4) C d4_3 rfl rfl ?_
  refine Wk.aloadN (pc' := 5) C d4_4 rfl rfl rfl ?_
  refine Wk.getfield (pc' := 8) (host := "") (q := 1) (i := 0) C (Or.inl (w15 hw)) d4_5 rfl rfl rfl rfl ?_
  refine Wk.aloadN (pc' := 9) C d4_8 rfl rfl rfl ?_
  refine Wk.getfield (pc' := 12) (host := "") (q := 1) (i := 3) C (Or.inl (w29 hw)) d4_9 rfl rfl rfl rfl ?_
  refine Wk.callS (pc' := 15) (rm := { frames := 1, cells := 1, slots := 4, locals := 30 }) (W0 := 2) (argsL := [.ref da, .int sz]) (st := [.ref a55, .ref a55]) C (w31 hw) (w32 hw) (w33 hw) (w34 hw) (by decide) (fun h O => rm5_4 l Z a0 hw da sz ((a55, ObjC Z "com/example/kensaku/kensaku/index/Postings" ks_1 [.null, .null, .null]) :: (r0, ObjC Z "com/example/kensaku/kensaku/index/Postings$Builder" ks_0 [.ref da, .ref sa, .ref pa, .int sz]) :: (da, ArrC Z .int 8 fd) :: (sa, ArrC Z .int 9 fs) :: (pa, ArrC Z .int np fq) :: L) 2 8 3 fd h n0 O rfl hz (by decide) (by decide)) (by decide) (by decide) (by decide) (by decide) d4_12 rfl pd_1 rfl rfl rfl rfl ?_
  rintro _ h' ⟨a56, g57, rfl, hg57, O'⟩
  refine ⟨_, O', ?_⟩
  change Wk p l e _ m _ below meth c _ _ n0 ((a56, ArrC Z .int 3 g57) :: (a55, ObjC Z "com/example/kensaku/kensaku/index/Postings" ks_1 [.null, .null, .null]) :: (r0, ObjC Z "com/example/kensaku/kensaku/index/Postings$Builder" ks_0 [.ref da, .ref sa, .ref pa, .int sz]) :: (da, ArrC Z .int 8 fd) :: (sa, ArrC Z .int 9 fs) :: (pa, ArrC Z .int np fq) :: L) 2 7 15 #[.val (.ref r0)] [.ref a56, .ref a55, .ref a55]
  refine Wk.aloadN (pc' := 16) C d4_15 rfl rfl rfl ?_
  refine Wk.getfield (pc' := 19) (host := "") (q := 2) (i := 1) C (Or.inl (w17 hw)) d4_16 rfl rfl rfl rfl ?_
  refine Wk.aloadN (pc' := 20) C d4_19 rfl rfl rfl ?_
  refine Wk.getfield (pc' := 23) (host := "") (q := 2) (i := 3) C (Or.inl (w29 hw)) d4_20 rfl rfl rfl rfl ?_
  refine Wk.iconst (z := (1 : Int32)) (pc' := 24) C d4_23 rfl rfl ?_
  refine Wk.iadd (pc' := 25) C d4_24 rfl ?_
  refine Wk.callS (pc' := 28) (rm := { frames := 1, cells := 1, slots := 4, locals := 30 }) (W0 := 3) (argsL := [.ref sa, .int (sz + (1 : Int32))]) (st := [.ref a56, .ref a55, .ref a55]) C (w31 hw) (w32 hw) (w33 hw) (w34 hw) (by decide) (fun h O => rm5_4 l Z a0 hw sa (sz + (1 : Int32)) ((a56, ArrC Z .int 3 g57) :: (a55, ObjC Z "com/example/kensaku/kensaku/index/Postings" ks_1 [.null, .null, .null]) :: (r0, ObjC Z "com/example/kensaku/kensaku/index/Postings$Builder" ks_0 [.ref da, .ref sa, .ref pa, .int sz]) :: (da, ArrC Z .int 8 fd) :: (sa, ArrC Z .int 9 fs) :: (pa, ArrC Z .int np fq) :: L) 4 9 4 fs h n0 O rfl (by subst hsz; decide) (by decide) (by decide)) (by decide) (by decide) (by decide) (by decide) d4_25 rfl pd_1 rfl rfl rfl rfl ?_
  rintro _ h' ⟨a58, g59, rfl, hg59, O'⟩
  refine ⟨_, O', ?_⟩
  change Wk p l e _ m _ below meth c _ _ n0 ((a58, ArrC Z .int 4 g59) :: (a56, ArrC Z .int 3 g57) :: (a55, ObjC Z "com/example/kensaku/kensaku/index/Postings" ks_1 [.null, .null, .null]) :: (r0, ObjC Z "com/example/kensaku/kensaku/index/Postings$Builder" ks_0 [.ref da, .ref sa, .ref pa, .int sz]) :: (da, ArrC Z .int 8 fd) :: (sa, ArrC Z .int 9 fs) :: (pa, ArrC Z .int np fq) :: L) 3 11 28 #[.val (.ref r0)] [.ref a58, .ref a56, .ref a55, .ref a55]
  refine Wk.aloadN (pc' := 29) C d4_28 rfl rfl rfl ?_
  refine Wk.getfield (pc' := 32) (host := "") (q := 3) (i := 2) C (Or.inl (w19 hw)) d4_29 rfl rfl rfl rfl ?_
  refine Wk.aloadN (pc' := 33) C d4_32 rfl rfl rfl ?_
  refine Wk.getfield (pc' := 36) (host := "") (q := 3) (i := 1) C (Or.inl (w17 hw)) d4_33 rfl rfl rfl rfl ?_
  refine Wk.aloadN (pc' := 37) C d4_36 rfl rfl rfl ?_
  refine Wk.getfield (pc' := 40) (host := "") (q := 3) (i := 3) C (Or.inl (w29 hw)) d4_37 rfl rfl rfl rfl ?_
  refine Wk.iaload (pc' := 41) (q := 5) (i := 3) C d4_40 rfl hz (by decide) rfl ?_
  refine Wk.callS (pc' := 44) (rm := { frames := 1, cells := 1, slots := 27, locals := 30 }) (W0 := 4) (argsL := [.ref pa, .int (fs 3)]) (st := [.ref a58, .ref a56, .ref a55, .ref a55]) C (w31 hw) (w32 hw) (w33 hw) (w34 hw) (by decide) (fun h O => rm5_27 l Z a0 hw pa (fs 3) ((a58, ArrC Z .int 4 g59) :: (a56, ArrC Z .int 3 g57) :: (a55, ObjC Z "com/example/kensaku/kensaku/index/Postings" ks_1 [.null, .null, .null]) :: (r0, ObjC Z "com/example/kensaku/kensaku/index/Postings$Builder" ks_0 [.ref da, .ref sa, .ref pa, .int sz]) :: (da, ArrC Z .int 8 fd) :: (sa, ArrC Z .int 9 fs) :: (pa, ArrC Z .int np fq) :: L) 6 np T fq h n0 O rfl hT (by omega) (by omega)) (by decide) (by decide) (by decide) (by decide) d4_41 rfl pd_1 rfl rfl rfl rfl ?_
  rintro _ h' ⟨a60, g61, rfl, hg61, O'⟩
  refine ⟨_, O', ?_⟩
  change Wk p l e _ m _ below meth c _ _ n0 ((a60, ArrC Z .int T g61) :: (a58, ArrC Z .int 4 g59) :: (a56, ArrC Z .int 3 g57) :: (a55, ObjC Z "com/example/kensaku/kensaku/index/Postings" ks_1 [.null, .null, .null]) :: (r0, ObjC Z "com/example/kensaku/kensaku/index/Postings$Builder" ks_0 [.ref da, .ref sa, .ref pa, .int sz]) :: (da, ArrC Z .int 8 fd) :: (sa, ArrC Z .int 9 fs) :: (pa, ArrC Z .int np fq) :: L) 4 38 44 #[.val (.ref r0)] [.ref a60, .ref a58, .ref a56, .ref a55, .ref a55]
  refine Wk.recast (L' := ((a55, ObjC Z "com/example/kensaku/kensaku/index/Postings" ks_1 [.null, .null, .null]) :: (a60, ArrC Z .int T g61) :: (a58, ArrC Z .int 4 g59) :: (a56, ArrC Z .int 3 g57) :: (r0, ObjC Z "com/example/kensaku/kensaku/index/Postings$Builder" ks_0 [.ref da, .ref sa, .ref pa, .int sz]) :: (da, ArrC Z .int 8 fd) :: (sa, ArrC Z .int 9 fs) :: (pa, ArrC Z .int np fq) :: L)) ?_ (fun h O => (O.front 3 rfl))
  refine Wk.callIN (pc' := 47) (rm := { frames := 1, cells := 0, slots := 0, locals := 12 }) (W0 := 1) (a := a55) (argsL := [.ref a56, .ref a58, .ref a60]) (st := [.ref a55]) C rfl rfl (w43 hw) (w44 hw) (w28 hw) (w45 hw) (by decide) (fun h O => rm7 l Z a0 hw a55 a56 a58 a60 ((a60, ArrC Z .int T g61) :: (a58, ArrC Z .int 4 g59) :: (a56, ArrC Z .int 3 g57) :: (r0, ObjC Z "com/example/kensaku/kensaku/index/Postings$Builder" ks_0 [.ref da, .ref sa, .ref pa, .int sz]) :: (da, ArrC Z .int 8 fd) :: (sa, ArrC Z .int 9 fs) :: (pa, ArrC Z .int np fq) :: L) h n0 O) (by decide) (by decide) (by decide) (by decide) d4_44 rfl pd_2 rfl rfl rfl rfl ?_
  rintro _ h' ⟨rfl, O'⟩
  refine ⟨_, O', ?_⟩
  change Wk p l e _ m _ below meth c _ _ n0 ((a55, ObjC Z "com/example/kensaku/kensaku/index/Postings" ks_1 [.ref a56, .ref a58, .ref a60]) :: (a60, ArrC Z .int T g61) :: (a58, ArrC Z .int 4 g59) :: (a56, ArrC Z .int 3 g57) :: (r0, ObjC Z "com/example/kensaku/kensaku/index/Postings$Builder" ks_0 [.ref da, .ref sa, .ref pa, .int sz]) :: (da, ArrC Z .int 8 fd) :: (sa, ArrC Z .int 9 fs) :: (pa, ArrC Z .int np fq) :: L) 4 38 47 #[.val (.ref r0)] [.ref a55]
  exact Wk.retA C J d4_47 (by decide) (by decide) rfl rfl (fun h O => ⟨_, _, _, _, _, _, _, rfl, fun i hi => hg57 i (by omega), fun i hi => hg59 i (by omega), fun i hi => hg61 i (by omega), O⟩)
theorem ef_rm8 (m : MethodId) (r0 : Addr) : entryFrame m #[.ref r0] 1 = mkF m 0 #[.val (.ref r0)] [] := by first | (simp [entryFrame, mkF, argsToLocals, Value.category]; done) | rfl
set_option maxRecDepth 65536 in
set_option maxHeartbeats 4000000 in
theorem rm8 (l : Launch) (Z : State) (a0 : Array Value) (hw : HW Z a0) (r0 : Addr) (L : List (Addr × (Cell → Prop))) (qP qda nd : Nat) (da sa pa : Addr) (gd : Nat → Int32) (h : Heap) (n0 : Nat) (O : Own n0 h L) (hqP : L[qP]? = some (r0, ObjC Z "com/example/kensaku/kensaku/index/Postings" ks_1 [.ref da, .ref sa, .ref pa])) (hqda : L[qda]? = some (da, ArrC Z .int nd gd)) :
    Meth l Z (⟨"com/example/kensaku/kensaku/index/Postings", "size", "()I"⟩ : MethodName) prog_19_method_2_code 1 (some .int) [] ({ frames := 0, cells := 0, slots := 0, locals := 0 } : Room) #[.ref r0] h n0 (fun v h' => v = some (.int nd.toInt32) ∧ Own n0 h' L) := by
  refine Meth.of (plainFor_of_name pn_3) (fun m => ef_rm8 m r0) O ?_
  intro p e m below meth c M FE C J
  change Cx Z "com/example/kensaku/kensaku/index/Postings" "size" prog_19_method_2_code 1 (some .int) p m meth c M at C
  clear O
  refine Wk.aloadN (pc' := 1) C d8_0 rfl rfl rfl ?_
  refine Wk.getfield (pc' := 4) (host := "") (q := qP) (i := 0) C (Or.inl (w47 hw)) d8_1 hqP rfl rfl rfl ?_
  refine Wk.arraylength (pc' := 5) (q := qda) (z := nd.toInt32) C d8_4 hqda (fun _ A => ⟨A.1, A.2.2.1⟩) rfl rfl ?_
  exact Wk.retI C J d8_5 (by decide) (by decide) (fun h O => ⟨rfl, O⟩)
theorem ef_rm11 (m : MethodId) (r0 : Addr) (x1 : Int32) : entryFrame m #[.ref r0, .int x1] 2 = mkF m 0 #[.val (.ref r0), .val (.int x1)] [] := by first | (simp [entryFrame, mkF, argsToLocals, Value.category]; done) | rfl
set_option maxRecDepth 65536 in
set_option maxHeartbeats 4000000 in
theorem rm11 (l : Launch) (Z : State) (a0 : Array Value) (hw : HW Z a0) (r0 : Addr) (x1 : Int32) (L : List (Addr × (Cell → Prop))) (qP qda nd i : Nat) (da sa pa : Addr) (gd : Nat → Int32) (h : Heap) (n0 : Nat) (O : Own n0 h L) (hqP : L[qP]? = some (r0, ObjC Z "com/example/kensaku/kensaku/index/Postings" ks_1 [.ref da, .ref sa, .ref pa])) (hqda : L[qda]? = some (da, ArrC Z .int nd gd)) (hi : x1.toInt = (i : Int)) (hin : i < nd) :
    Meth l Z (⟨"com/example/kensaku/kensaku/index/Postings", "document", "(I)I"⟩ : MethodName) prog_19_method_3_code 2 (some .int) [] ({ frames := 0, cells := 0, slots := 0, locals := 0 } : Room) #[.ref r0, .int x1] h n0 (fun v h' => v = some (.int (gd i)) ∧ Own n0 h' L) := by
  refine Meth.of (plainFor_of_name pn_3) (fun m => ef_rm11 m r0 x1) O ?_
  intro p e m below meth c M FE C J
  change Cx Z "com/example/kensaku/kensaku/index/Postings" "document" prog_19_method_3_code 2 (some .int) p m meth c M at C
  clear O
  refine Wk.aloadN (pc' := 1) C d11_0 rfl rfl rfl ?_
  refine Wk.getfield (pc' := 4) (host := "") (q := qP) (i := 0) C (Or.inl (w47 hw)) d11_1 hqP rfl rfl rfl ?_
  refine Wk.iloadN (pc' := 5) C d11_4 rfl rfl ?_
  refine Wk.iaload (pc' := 6) (q := qda) (i := i) C d11_5 hqda hi hin rfl ?_
  exact Wk.retI C J d11_6 (by decide) (by decide) (fun h O => ⟨rfl, O⟩)
theorem ef_rm12 (m : MethodId) (r0 : Addr) (x1 : Int32) : entryFrame m #[.ref r0, .int x1] 2 = mkF m 0 #[.val (.ref r0), .val (.int x1)] [] := by first | (simp [entryFrame, mkF, argsToLocals, Value.category]; done) | rfl
set_option maxRecDepth 65536 in
set_option maxHeartbeats 4000000 in
theorem rm12 (l : Launch) (Z : State) (a0 : Array Value) (hw : HW Z a0) (r0 : Addr) (x1 : Int32) (L : List (Addr × (Cell → Prop))) (qP qsa ns i : Nat) (da sa pa : Addr) (gs : Nat → Int32) (h : Heap) (n0 : Nat) (O : Own n0 h L) (hqP : L[qP]? = some (r0, ObjC Z "com/example/kensaku/kensaku/index/Postings" ks_1 [.ref da, .ref sa, .ref pa])) (hqsa : L[qsa]? = some (sa, ArrC Z .int ns gs)) (hi : x1.toInt = (i : Int)) (hin : i + 1 < ns) (hns : ns < 100) :
    Meth l Z (⟨"com/example/kensaku/kensaku/index/Postings", "frequency", "(I)I"⟩ : MethodName) prog_19_method_4_code 2 (some .int) [] ({ frames := 0, cells := 0, slots := 0, locals := 0 } : Room) #[.ref r0, .int x1] h n0 (fun v h' => v = some (.int (gs (i + 1) - gs i)) ∧ Own n0 h' L) := by
  refine Meth.of (plainFor_of_name pn_3) (fun m => ef_rm12 m r0 x1) O ?_
  intro p e m below meth c M FE C J
  change Cx Z "com/example/kensaku/kensaku/index/Postings" "frequency" prog_19_method_4_code 2 (some .int) p m meth c M at C
  clear O
  refine Wk.aloadN (pc' := 1) C d12_0 rfl rfl rfl ?_
  refine Wk.getfield (pc' := 4) (host := "") (q := qP) (i := 1) C (Or.inl (w49 hw)) d12_1 hqP rfl rfl rfl ?_
  refine Wk.iloadN (pc' := 5) C d12_4 rfl rfl ?_
  refine Wk.iconst (z := (1 : Int32)) (pc' := 6) C d12_5 rfl rfl ?_
  refine Wk.iadd (pc' := 7) C d12_6 rfl ?_
  refine Wk.iaload (pc' := 8) (q := qsa) (i := (i + 1)) C d12_7 hqsa (own_add hi (rfl : (1 : Int32).toInt = ((1 : Nat) : Int)) (by omega)) hin rfl ?_
  change Wk p l e _ m _ below meth c _ _ n0 L 0 0 8 #[.val (.ref r0), .val (.int x1)] [.int (gs ((i + 1)))]
  refine Wk.aloadN (pc' := 9) C d12_8 rfl rfl rfl ?_
  refine Wk.getfield (pc' := 12) (host := "") (q := qP) (i := 1) C (Or.inl (w49 hw)) d12_9 hqP rfl rfl rfl ?_
  refine Wk.iloadN (pc' := 13) C d12_12 rfl rfl ?_
  refine Wk.iaload (pc' := 14) (q := qsa) (i := i) C d12_13 hqsa hi (by omega) rfl ?_
  refine Wk.isub (pc' := 15) C d12_14 rfl ?_
  exact Wk.retI C J d12_15 (by decide) (by decide) (fun h O => ⟨rfl, O⟩)
theorem ef_rm13 (m : MethodId) (r0 : Addr) (x1 : Int32) (x2 : Int32) : entryFrame m #[.ref r0, .int x1, .int x2] 3 = mkF m 0 #[.val (.ref r0), .val (.int x1), .val (.int x2)] [] := by first | (simp [entryFrame, mkF, argsToLocals, Value.category]; done) | rfl
set_option maxRecDepth 65536 in
set_option maxHeartbeats 4000000 in
theorem rm13 (l : Launch) (Z : State) (a0 : Array Value) (hw : HW Z a0) (r0 : Addr) (x1 : Int32) (x2 : Int32) (L : List (Addr × (Cell → Prop))) (qP qsa qpa ns nt i t jj : Nat) (da sa pa : Addr) (gs gp : Nat → Int32) (h : Heap) (n0 : Nat) (O : Own n0 h L) (hqP : L[qP]? = some (r0, ObjC Z "com/example/kensaku/kensaku/index/Postings" ks_1 [.ref da, .ref sa, .ref pa])) (hqsa : L[qsa]? = some (sa, ArrC Z .int ns gs)) (hqpa : L[qpa]? = some (pa, ArrC Z .int nt gp)) (hi : x1.toInt = (i : Int)) (hin : i < ns) (ht : (gs i).toInt = (t : Int)) (hj : x2.toInt = (jj : Int)) (htj : t + jj < nt) (hnt : nt < 100) :
    Meth l Z (⟨"com/example/kensaku/kensaku/index/Postings", "position", "(II)I"⟩ : MethodName) prog_19_method_5_code 3 (some .int) [] ({ frames := 0, cells := 0, slots := 0, locals := 0 } : Room) #[.ref r0, .int x1, .int x2] h n0 (fun v h' => v = some (.int (gp (t + jj))) ∧ Own n0 h' L) := by
  refine Meth.of (plainFor_of_name pn_3) (fun m => ef_rm13 m r0 x1 x2) O ?_
  intro p e m below meth c M FE C J
  change Cx Z "com/example/kensaku/kensaku/index/Postings" "position" prog_19_method_5_code 3 (some .int) p m meth c M at C
  clear O
  refine Wk.aloadN (pc' := 1) C d13_0 rfl rfl rfl ?_
  refine Wk.getfield (pc' := 4) (host := "") (q := qP) (i := 2) C (Or.inl (w51 hw)) d13_1 hqP rfl rfl rfl ?_
  refine Wk.aloadN (pc' := 5) C d13_4 rfl rfl rfl ?_
  refine Wk.getfield (pc' := 8) (host := "") (q := qP) (i := 1) C (Or.inl (w49 hw)) d13_5 hqP rfl rfl rfl ?_
  refine Wk.iloadN (pc' := 9) C d13_8 rfl rfl ?_
  refine Wk.iaload (pc' := 10) (q := qsa) (i := i) C d13_9 hqsa hi hin rfl ?_
  refine Wk.iloadN (pc' := 11) C d13_10 rfl rfl ?_
  refine Wk.iadd (pc' := 12) C d13_11 rfl ?_
  refine Wk.iaload (pc' := 13) (q := qpa) (i := (t + jj)) C d13_12 hqpa (own_add ht hj (by omega)) htj rfl ?_
  change Wk p l e _ m _ below meth c _ _ n0 L 0 0 13 #[.val (.ref r0), .val (.int x1), .val (.int x2)] [.int (gp ((t + jj)))]
  exact Wk.retI C J d13_13 (by decide) (by decide) (fun h O => ⟨rfl, O⟩)
theorem ef_rm10 (m : MethodId) (r0 : Addr) (x1 : Int32) (x2 : Int32) (x3 : Int32) (x4 : Int32) (x5 : Int32) : entryFrame m #[.ref r0, .int x1, .int x2, .int x3, .int x4, .int x5] 6 = mkF m 0 #[.val (.ref r0), .val (.int x1), .val (.int x2), .val (.int x3), .val (.int x4), .val (.int x5)] [] := by first | (simp [entryFrame, mkF, argsToLocals, Value.category]; done) | rfl
set_option maxRecDepth 65536 in
set_option maxHeartbeats 4000000 in
theorem rm10 (l : Launch) (Z : State) (a0 : Array Value) (hw : HW Z a0) (r0 : Addr) (x1 : Int32) (x2 : Int32) (x3 : Int32) (x4 : Int32) (x5 : Int32) (L : List (Addr × (Cell → Prop))) (qP qda qsa qpa nd ns nt i t jj : Nat) (da sa pa : Addr) (gd gs gp : Nat → Int32) (h : Heap) (n0 : Nat) (O : Own n0 h L) (hqP : L[qP]? = some (r0, ObjC Z "com/example/kensaku/kensaku/index/Postings" ks_1 [.ref da, .ref sa, .ref pa])) (hqda : L[qda]? = some (da, ArrC Z .int nd gd)) (hqsa : L[qsa]? = some (sa, ArrC Z .int ns gs)) (hqpa : L[qpa]? = some (pa, ArrC Z .int nt gp)) (hi : x1.toInt = (i : Int)) (hin : i < nd) (his : i + 1 < ns) (hns : ns < 100) (ht : (gs i).toInt = (t : Int)) (hj : x5.toInt = (jj : Int)) (htj : t + jj < nt) (hnt : nt < 100) (e1 : gd i = x2) (e2 : gs (i + 1) - gs i = x3) (e3 : gp (t + jj) = x4 + x5) :
    Meth l Z (⟨"com/example/kensaku/kensaku/index/BuilderBuildPinLaw", "entry", "(Lcom/example/kensaku/kensaku/index/Postings;IIIII)Z"⟩ : MethodName) method_4_code 6 (some .boolean) [] ({ frames := 1, cells := 0, slots := 0, locals := 20 } : Room) #[.ref r0, .int x1, .int x2, .int x3, .int x4, .int x5] h n0 (fun v h' => v = some (.int (1 : Int32)) ∧ Own n0 h' L) := by
  refine Meth.of (plainFor_of_name pn_0) (fun m => ef_rm10 m r0 x1 x2 x3 x4 x5) O ?_
  intro p e m below meth c M FE C J
  change Cx Z "com/example/kensaku/kensaku/index/BuilderBuildPinLaw" "entry" method_4_code 6 (some .boolean) p m meth c M at C
  clear O
  refine Wk.aloadN (pc' := 1) C d10_0 rfl rfl rfl ?_
  refine Wk.iloadN (pc' := 2) C d10_1 rfl rfl ?_
  refine Wk.callV (pc' := 5) (rm := { frames := 0, cells := 0, slots := 0, locals := 0 }) (W0 := 0) (q := qP) (argsL := [.int x1]) (st := []) C hqP (w76 hw) (w77 hw) (w79 hw) (w78 hw) (w28 hw) (w80 hw) (by decide) (fun h O => rm11 l Z a0 hw r0 x1 L qP qda nd i da sa pa gd h n0 O hqP hqda hi hin) (by decide) (by decide) (by decide) (by decide) d10_2 rfl pd_3 rfl rfl rfl rfl ?_
  rintro _ h' ⟨rfl, O'⟩
  refine ⟨_, O', ?_⟩
  change Wk p l e _ m _ below meth c _ _ n0 L 0 0 5 #[.val (.ref r0), .val (.int x1), .val (.int x2), .val (.int x3), .val (.int x4), .val (.int x5)] [.int (gd i)]
  refine Wk.iloadN (pc' := 6) C d10_5 rfl rfl ?_
  refine Wk.icmp_ne (pcT := 37) (pcF := 9) C d10_6 (by decide) (by decide) rfl (fun c62 => (show False from c62 e1).elim) (fun c62 => ?_)
  refine Wk.aloadN (pc' := 10) C d10_9 rfl rfl rfl ?_
  refine Wk.iloadN (pc' := 11) C d10_10 rfl rfl ?_
  refine Wk.callV (pc' := 14) (rm := { frames := 0, cells := 0, slots := 0, locals := 0 }) (W0 := 0) (q := qP) (argsL := [.int x1]) (st := []) C hqP (w81 hw) (w82 hw) (w84 hw) (w83 hw) (w28 hw) (w85 hw) (by decide) (fun h O => rm12 l Z a0 hw r0 x1 L qP qsa ns i da sa pa gs h n0 O hqP hqsa hi his hns) (by decide) (by decide) (by decide) (by decide) d10_11 rfl pd_3 rfl rfl rfl rfl ?_
  rintro _ h' ⟨rfl, O'⟩
  refine ⟨_, O', ?_⟩
  change Wk p l e _ m _ below meth c _ _ n0 L 0 0 14 #[.val (.ref r0), .val (.int x1), .val (.int x2), .val (.int x3), .val (.int x4), .val (.int x5)] [.int (gs (i + 1) - gs i)]
  refine Wk.iloadN (pc' := 15) C d10_14 rfl rfl ?_
  refine Wk.icmp_ne (pcT := 37) (pcF := 18) C d10_15 (by decide) (by decide) rfl (fun c63 => (show False from c63 e2).elim) (fun c63 => ?_)
  refine Wk.aloadN (pc' := 19) C d10_18 rfl rfl rfl ?_
  refine Wk.iloadN (pc' := 20) C d10_19 rfl rfl ?_
  refine Wk.iload (pc' := 22) C d10_20 rfl rfl ?_
  refine Wk.callV (pc' := 25) (rm := { frames := 0, cells := 0, slots := 0, locals := 0 }) (W0 := 0) (q := qP) (argsL := [.int x1, .int x5]) (st := []) C hqP (w86 hw) (w87 hw) (w89 hw) (w88 hw) (w28 hw) (w90 hw) (by decide) (fun h O => rm13 l Z a0 hw r0 x1 x5 L qP qsa qpa ns nt i t jj da sa pa gs gp h n0 O hqP hqsa hqpa hi (by omega) ht hj htj hnt) (by decide) (by decide) (by decide) (by decide) d10_22 rfl pd_0 rfl rfl rfl rfl ?_
  rintro _ h' ⟨rfl, O'⟩
  refine ⟨_, O', ?_⟩
  change Wk p l e _ m _ below meth c _ _ n0 L 0 0 25 #[.val (.ref r0), .val (.int x1), .val (.int x2), .val (.int x3), .val (.int x4), .val (.int x5)] [.int (gp (t + jj))]
  refine Wk.iload (pc' := 27) C d10_25 rfl rfl ?_
  refine Wk.iload (pc' := 29) C d10_27 rfl rfl ?_
  refine Wk.iadd (pc' := 30) C d10_29 rfl ?_
  refine Wk.icmp_ne (pcT := 37) (pcF := 33) C d10_30 (by decide) (by decide) rfl (fun c64 => (show False from c64 e3).elim) (fun c64 => ?_)
  refine Wk.iconst (z := (1 : Int32)) (pc' := 34) C d10_33 rfl rfl ?_
  refine Wk.goto (pc' := 38) C d10_34 (by decide) (by decide) ?_
  exact Wk.retN C J d10_38 (by decide) (by decide) (by simp) rfl (fun h O => ⟨rfl, O⟩)
theorem own_diff (x c : Int32) : x + c - x = c := by
  refine Int32.toInt_inj.mp ?_
  have e1 := c_iadd x c
  have e2 := c_isub (x + c) x
  have r1 := rng32 (x + c - x)
  have r2 := rng32 c
  omega
theorem own_run {f : Nat → Int32} {p y : Int32} {j : Nat} (h : f 0 = p ∧ f 1 = p + (1 : Int32) ∧ f 2 = p + (2 : Int32) ∧ f 3 = p + (3 : Int32) ∧ f 4 = p + (4 : Int32) ∧ f 5 = p + (5 : Int32) ∧ f 6 = p + (6 : Int32) ∧ f 7 = p + (7 : Int32) ∧ f 8 = p + (8 : Int32)) (hy : y.toInt = (j : Int)) (hj : j < 9) : f j = p + y := by
  obtain ⟨h0, h1, h2, h3, h4, h5, h6, h7, h8⟩ := h
  have ey : ∀ k : Int32, k.toInt = (j : Int) → y = k := fun k hk => Int32.toInt_inj.mp (hy.trans hk.symm)
  rcases (by omega : j = 0 ∨ j = 1 ∨ j = 2 ∨ j = 3 ∨ j = 4 ∨ j = 5 ∨ j = 6 ∨ j = 7 ∨ j = 8) with rfl | rfl | rfl | rfl | rfl | rfl | rfl | rfl | rfl
  · rw [h0, ey 0 rfl]; exact (Int32.add_zero p).symm
  · rw [h1, ey 1 rfl]
  · rw [h2, ey 2 rfl]
  · rw [h3, ey 3 rfl]
  · rw [h4, ey 4 rfl]
  · rw [h5, ey 5 rfl]
  · rw [h6, ey 6 rfl]
  · rw [h7, ey 7 rfl]
  · rw [h8, ey 8 rfl]
theorem own_c (y v : Int32) (h : v = (1 : Int32) + (y &&& (15 : Int32)) % (9 : Int32)) : 1 ≤ v.toInt ∧ v.toInt ≤ 9 := by
  have m := c_mask y 15 4 (by decide) (by decide)
  have e := (c_irem (y &&& (15 : Int32)) 9 9 rfl).1 (by omega)
  have e2 := c_iadd 1 ((y &&& (15 : Int32)) % (9 : Int32))
  rw [← h] at e2
  have r := rng32 v
  have z1 : (1 : Int32).toInt = 1 := rfl
  omega
theorem own_nz {v : Int32} (h : 1 ≤ v.toInt ∧ v.toInt ≤ 9) : v ≠ 0 := fun q => by
  have z0 : (0 : Int32).toInt = 0 := rfl
  subst q; omega
theorem own_j (y c v : Int32) (hc : 1 ≤ c.toInt ∧ c.toInt ≤ 9) (h : v = (y &&& (15 : Int32)) % c) : 0 ≤ v.toInt ∧ v.toInt < c.toInt := by
  have m := c_mask y 15 4 (by decide) (by decide)
  have e := (c_iremV (y &&& (15 : Int32)) c).1 (by omega) (by omega)
  rw [← h] at e
  omega
theorem own_four (x v : Int32) (h : v = x &&& (3 : Int32)) : v = (0 : Int32) ∨ v = (1 : Int32) ∨ v = (2 : Int32) ∨ v = (3 : Int32) := by
  have m := c_mask x 3 2 (by decide) (by decide)
  rw [← h] at m
  rcases (by omega : v.toInt = 0 ∨ v.toInt = 1 ∨ v.toInt = 2 ∨ v.toInt = 3) with q | q | q | q
  · exact Or.inl (Int32.toInt_inj.mp q)
  · exact Or.inr (Or.inl (Int32.toInt_inj.mp q))
  · exact Or.inr (Or.inr (Or.inl (Int32.toInt_inj.mp q)))
  · exact Or.inr (Or.inr (Or.inr (Int32.toInt_inj.mp q)))
theorem ef_rmLaw (m : MethodId) (x0 : Int32) (x1 : Int32) (x2 : Int32) (x3 : Int32) (x4 : Int32) (x5 : Int32) : entryFrame m #[.int x0, .int x1, .int x2, .int x3, .int x4, .int x5] 25 = mkF m 0 #[.val (.int x0), .val (.int x1), .val (.int x2), .val (.int x3), .val (.int x4), .val (.int x5), .unset, .unset, .unset, .unset, .unset, .unset, .unset, .unset, .unset, .unset, .unset, .unset, .unset, .unset, .unset, .unset, .unset, .unset, .unset] [] := by first | (simp [entryFrame, mkF, argsToLocals, Value.category]; done) | rfl
set_option maxRecDepth 65536 in
set_option maxHeartbeats 4000000 in
theorem rmLaw (l : Launch) (Z : State) (a0 : Array Value) (hw : HW Z a0) (x0 : Int32) (x1 : Int32) (x2 : Int32) (x3 : Int32) (x4 : Int32) (x5 : Int32) (h : Heap) (n0 : Nat) (O : Own n0 h []) :
    Meth l Z x code maxLocals ret tables_1 room_1 #[.int x0, .int x1, .int x2, .int x3, .int x4, .int x5] h n0 (fun v h' => v = some (.int 1)) := by
  refine Meth.of (plainFor_of_name pn_0) (fun m => ef_rmLaw m x0 x1 x2 x3 x4 x5) O ?_
  intro p e m below meth c M FE C J
  change Cx Z "com/example/kensaku/kensaku/index/BuilderBuildPinLaw" "law" code 25 (some .boolean) p m meth c M at C
  clear O
  refine Wk.iloadN (pc' := 1) C at_0 rfl rfl ?_
  refine Wk.iconst (z := (3 : Int32)) (pc' := 2) C at_1 rfl rfl ?_
  refine Wk.iand (pc' := 3) C at_2 rfl ?_
  refine Wk.istoreV (fun v65 => #[.val (.int x0), .val (.int x1), .val (.int x2), .val (.int x3), .val (.int x4), .val (.int x5), .val (.int v65), .unset, .unset, .unset, .unset, .unset, .unset, .unset, .unset, .unset, .unset, .unset, .unset, .unset, .unset, .unset, .unset, .unset, .unset]) (pc' := 5) C at_3 rfl rfl ?_
  intro v65 hv65
  refine Wk.iconst (z := (1 : Int32)) (pc' := 6) C at_5 rfl rfl ?_
  refine Wk.iloadN (pc' := 7) C at_6 rfl rfl ?_
  refine Wk.iconst (z := (2 : Int32)) (pc' := 8) C at_7 rfl rfl ?_
  refine Wk.iushr (pc' := 9) C at_8 rfl ?_
  refine Wk.bipush (z := (15 : Int32)) (pc' := 11) C at_9 rfl rfl ?_
  refine Wk.iand (pc' := 12) C at_11 rfl ?_
  refine Wk.bipush (z := (9 : Int32)) (pc' := 14) C at_12 rfl rfl ?_
  refine Wk.irem (pc' := 15) C at_14 (by decide) rfl ?_
  refine Wk.iadd (pc' := 16) C at_15 rfl ?_
  refine Wk.istoreV (fun v66 => #[.val (.int x0), .val (.int x1), .val (.int x2), .val (.int x3), .val (.int x4), .val (.int x5), .val (.int v65), .val (.int v66), .unset, .unset, .unset, .unset, .unset, .unset, .unset, .unset, .unset, .unset, .unset, .unset, .unset, .unset, .unset, .unset, .unset]) (pc' := 18) C at_16 rfl rfl ?_
  intro v66 hv66
  have hcb0 := own_c _ v66 hv66
  refine Wk.iconst (z := (1 : Int32)) (pc' := 19) C at_18 rfl rfl ?_
  refine Wk.iloadN (pc' := 20) C at_19 rfl rfl ?_
  refine Wk.bipush (z := (6 : Int32)) (pc' := 22) C at_20 rfl rfl ?_
  refine Wk.iushr (pc' := 23) C at_22 rfl ?_
  refine Wk.bipush (z := (15 : Int32)) (pc' := 25) C at_23 rfl rfl ?_
  refine Wk.iand (pc' := 26) C at_25 rfl ?_
  refine Wk.bipush (z := (9 : Int32)) (pc' := 28) C at_26 rfl rfl ?_
  refine Wk.irem (pc' := 29) C at_28 (by decide) rfl ?_
  refine Wk.iadd (pc' := 30) C at_29 rfl ?_
  refine Wk.istoreV (fun v67 => #[.val (.int x0), .val (.int x1), .val (.int x2), .val (.int x3), .val (.int x4), .val (.int x5), .val (.int v65), .val (.int v66), .val (.int v67), .unset, .unset, .unset, .unset, .unset, .unset, .unset, .unset, .unset, .unset, .unset, .unset, .unset, .unset, .unset, .unset]) (pc' := 32) C at_30 rfl rfl ?_
  intro v67 hv67
  have hcb1 := own_c _ v67 hv67
  refine Wk.iconst (z := (1 : Int32)) (pc' := 33) C at_32 rfl rfl ?_
  refine Wk.iloadN (pc' := 34) C at_33 rfl rfl ?_
  refine Wk.bipush (z := (10 : Int32)) (pc' := 36) C at_34 rfl rfl ?_
  refine Wk.iushr (pc' := 37) C at_36 rfl ?_
  refine Wk.bipush (z := (15 : Int32)) (pc' := 39) C at_37 rfl rfl ?_
  refine Wk.iand (pc' := 40) C at_39 rfl ?_
  refine Wk.bipush (z := (9 : Int32)) (pc' := 42) C at_40 rfl rfl ?_
  refine Wk.irem (pc' := 43) C at_42 (by decide) rfl ?_
  refine Wk.iadd (pc' := 44) C at_43 rfl ?_
  refine Wk.istoreV (fun v68 => #[.val (.int x0), .val (.int x1), .val (.int x2), .val (.int x3), .val (.int x4), .val (.int x5), .val (.int v65), .val (.int v66), .val (.int v67), .val (.int v68), .unset, .unset, .unset, .unset, .unset, .unset, .unset, .unset, .unset, .unset, .unset, .unset, .unset, .unset, .unset]) (pc' := 46) C at_44 rfl rfl ?_
  intro v68 hv68
  have hcb2 := own_c _ v68 hv68
  refine Wk.iloadN (pc' := 47) C at_46 rfl rfl ?_
  refine Wk.bipush (z := (14 : Int32)) (pc' := 49) C at_47 rfl rfl ?_
  refine Wk.iushr (pc' := 50) C at_49 rfl ?_
  refine Wk.bipush (z := (15 : Int32)) (pc' := 52) C at_50 rfl rfl ?_
  refine Wk.iand (pc' := 53) C at_52 rfl ?_
  refine Wk.iload (pc' := 55) C at_53 rfl rfl ?_
  refine Wk.irem (pc' := 56) C at_55 (own_nz hcb0) rfl ?_
  refine Wk.istoreV (fun v69 => #[.val (.int x0), .val (.int x1), .val (.int x2), .val (.int x3), .val (.int x4), .val (.int x5), .val (.int v65), .val (.int v66), .val (.int v67), .val (.int v68), .val (.int v69), .unset, .unset, .unset, .unset, .unset, .unset, .unset, .unset, .unset, .unset, .unset, .unset, .unset, .unset]) (pc' := 58) C at_56 rfl rfl ?_
  intro v69 hv69
  refine Wk.iloadN (pc' := 59) C at_58 rfl rfl ?_
  refine Wk.bipush (z := (18 : Int32)) (pc' := 61) C at_59 rfl rfl ?_
  refine Wk.iushr (pc' := 62) C at_61 rfl ?_
  refine Wk.bipush (z := (15 : Int32)) (pc' := 64) C at_62 rfl rfl ?_
  refine Wk.iand (pc' := 65) C at_64 rfl ?_
  refine Wk.iload (pc' := 67) C at_65 rfl rfl ?_
  refine Wk.irem (pc' := 68) C at_67 (own_nz hcb1) rfl ?_
  refine Wk.istoreV (fun v70 => #[.val (.int x0), .val (.int x1), .val (.int x2), .val (.int x3), .val (.int x4), .val (.int x5), .val (.int v65), .val (.int v66), .val (.int v67), .val (.int v68), .val (.int v69), .val (.int v70), .unset, .unset, .unset, .unset, .unset, .unset, .unset, .unset, .unset, .unset, .unset, .unset, .unset]) (pc' := 70) C at_68 rfl rfl ?_
  intro v70 hv70
  refine Wk.iloadN (pc' := 71) C at_70 rfl rfl ?_
  refine Wk.bipush (z := (22 : Int32)) (pc' := 73) C at_71 rfl rfl ?_
  refine Wk.iushr (pc' := 74) C at_73 rfl ?_
  refine Wk.bipush (z := (15 : Int32)) (pc' := 76) C at_74 rfl rfl ?_
  refine Wk.iand (pc' := 77) C at_76 rfl ?_
  refine Wk.iload (pc' := 79) C at_77 rfl rfl ?_
  refine Wk.irem (pc' := 80) C at_79 (own_nz hcb2) rfl ?_
  refine Wk.istoreV (fun v71 => #[.val (.int x0), .val (.int x1), .val (.int x2), .val (.int x3), .val (.int x4), .val (.int x5), .val (.int v65), .val (.int v66), .val (.int v67), .val (.int v68), .val (.int v69), .val (.int v70), .val (.int v71), .unset, .unset, .unset, .unset, .unset, .unset, .unset, .unset, .unset, .unset, .unset, .unset]) (pc' := 82) C at_80 rfl rfl ?_
  intro v71 hv71
  refine Wk.iloadN (pc' := 83) C at_82 rfl rfl ?_
  refine Wk.ldcInt (z := (1073741823 : Int32)) (pc' := 85) C (w0 hw) at_83 rfl ?_
  refine Wk.iand (pc' := 86) C at_85 rfl ?_
  refine Wk.istoreV (fun v72 => #[.val (.int x0), .val (.int x1), .val (.int x2), .val (.int x3), .val (.int x4), .val (.int x5), .val (.int v65), .val (.int v66), .val (.int v67), .val (.int v68), .val (.int v69), .val (.int v70), .val (.int v71), .val (.int v72), .unset, .unset, .unset, .unset, .unset, .unset, .unset, .unset, .unset, .unset, .unset]) (pc' := 88) C at_86 rfl rfl ?_
  intro v72 hv72
  refine Wk.iload (pc' := 90) C at_88 rfl rfl ?_
  refine Wk.iconst (z := (1 : Int32)) (pc' := 91) C at_90 rfl rfl ?_
  refine Wk.iadd (pc' := 92) C at_91 rfl ?_
  refine Wk.iloadN (pc' := 93) C at_92 rfl rfl ?_
  refine Wk.sipush (z := (4095 : Int32)) (pc' := 96) C at_93 rfl rfl ?_
  refine Wk.iand (pc' := 97) C at_96 rfl ?_
  refine Wk.iadd (pc' := 98) C at_97 rfl ?_
  refine Wk.istoreV (fun v73 => #[.val (.int x0), .val (.int x1), .val (.int x2), .val (.int x3), .val (.int x4), .val (.int x5), .val (.int v65), .val (.int v66), .val (.int v67), .val (.int v68), .val (.int v69), .val (.int v70), .val (.int v71), .val (.int v72), .val (.int v73), .unset, .unset, .unset, .unset, .unset, .unset, .unset, .unset, .unset, .unset]) (pc' := 100) C at_98 rfl rfl ?_
  intro v73 hv73
  refine Wk.iload (pc' := 102) C at_100 rfl rfl ?_
  refine Wk.iconst (z := (1 : Int32)) (pc' := 103) C at_102 rfl rfl ?_
  refine Wk.iadd (pc' := 104) C at_103 rfl ?_
  refine Wk.iloadN (pc' := 105) C at_104 rfl rfl ?_
  refine Wk.bipush (z := (12 : Int32)) (pc' := 107) C at_105 rfl rfl ?_
  refine Wk.iushr (pc' := 108) C at_107 rfl ?_
  refine Wk.sipush (z := (4095 : Int32)) (pc' := 111) C at_108 rfl rfl ?_
  refine Wk.iand (pc' := 112) C at_111 rfl ?_
  refine Wk.iadd (pc' := 113) C at_112 rfl ?_
  refine Wk.istoreV (fun v74 => #[.val (.int x0), .val (.int x1), .val (.int x2), .val (.int x3), .val (.int x4), .val (.int x5), .val (.int v65), .val (.int v66), .val (.int v67), .val (.int v68), .val (.int v69), .val (.int v70), .val (.int v71), .val (.int v72), .val (.int v73), .val (.int v74), .unset, .unset, .unset, .unset, .unset, .unset, .unset, .unset, .unset]) (pc' := 115) C at_113 rfl rfl ?_
  intro v74 hv74
  refine Wk.iloadN (pc' := 116) C at_115 rfl rfl ?_
  refine Wk.ldcInt (z := (1073741823 : Int32)) (pc' := 118) C (w0 hw) at_116 rfl ?_
  refine Wk.iand (pc' := 119) C at_118 rfl ?_
  refine Wk.istoreV (fun v75 => #[.val (.int x0), .val (.int x1), .val (.int x2), .val (.int x3), .val (.int x4), .val (.int x5), .val (.int v65), .val (.int v66), .val (.int v67), .val (.int v68), .val (.int v69), .val (.int v70), .val (.int v71), .val (.int v72), .val (.int v73), .val (.int v74), .val (.int v75), .unset, .unset, .unset, .unset, .unset, .unset, .unset, .unset]) (pc' := 121) C at_119 rfl rfl ?_
  intro v75 hv75
  refine Wk.iload (pc' := 123) C at_121 rfl rfl ?_
  refine Wk.ldcInt (z := (1073741823 : Int32)) (pc' := 125) C (w0 hw) at_123 rfl ?_
  refine Wk.iand (pc' := 126) C at_125 rfl ?_
  refine Wk.istoreV (fun v76 => #[.val (.int x0), .val (.int x1), .val (.int x2), .val (.int x3), .val (.int x4), .val (.int x5), .val (.int v65), .val (.int v66), .val (.int v67), .val (.int v68), .val (.int v69), .val (.int v70), .val (.int v71), .val (.int v72), .val (.int v73), .val (.int v74), .val (.int v75), .val (.int v76), .unset, .unset, .unset, .unset, .unset, .unset, .unset]) (pc' := 128) C at_126 rfl rfl ?_
  intro v76 hv76
  refine Wk.iload (pc' := 130) C at_128 rfl rfl ?_
  refine Wk.ldcInt (z := (1073741823 : Int32)) (pc' := 132) C (w0 hw) at_130 rfl ?_
  refine Wk.iand (pc' := 133) C at_132 rfl ?_
  refine Wk.istoreV (fun v77 => #[.val (.int x0), .val (.int x1), .val (.int x2), .val (.int x3), .val (.int x4), .val (.int x5), .val (.int v65), .val (.int v66), .val (.int v67), .val (.int v68), .val (.int v69), .val (.int v70), .val (.int v71), .val (.int v72), .val (.int v73), .val (.int v74), .val (.int v75), .val (.int v76), .val (.int v77), .unset, .unset, .unset, .unset, .unset, .unset]) (pc' := 135) C at_133 rfl rfl ?_
  intro v77 hv77
  have hjb0 := own_j _ v66 v69 hcb0 hv69
  obtain ⟨cc0, hc0⟩ : ∃ i : Nat, v66.toInt = (i : Int) := ⟨v66.toInt.toNat, by omega⟩
  obtain ⟨jj0, hjj0⟩ : ∃ i : Nat, v69.toInt = (i : Int) := ⟨v69.toInt.toNat, by omega⟩
  have hjb1 := own_j _ v67 v70 hcb1 hv70
  obtain ⟨cc1, hc1⟩ : ∃ i : Nat, v67.toInt = (i : Int) := ⟨v67.toInt.toNat, by omega⟩
  obtain ⟨jj1, hjj1⟩ : ∃ i : Nat, v70.toInt = (i : Int) := ⟨v70.toInt.toNat, by omega⟩
  have hjb2 := own_j _ v68 v71 hcb2 hv71
  obtain ⟨cc2, hc2⟩ : ∃ i : Nat, v68.toInt = (i : Int) := ⟨v68.toInt.toNat, by omega⟩
  obtain ⟨jj2, hjj2⟩ : ∃ i : Nat, v71.toInt = (i : Int) := ⟨v71.toInt.toNat, by omega⟩
  have ht0 : (0 : Int32).toInt = ((0 : Nat) : Int) := rfl
  refine Wk.iload (pc' := 137) C at_135 rfl rfl ?_
  refine Wk.callS (pc' := 140) (rm := { frames := 0, cells := 1, slots := 9, locals := 0 }) (W0 := 0) (argsL := [.int v75]) (st := []) C (w1 hw) (w2 hw) (w3 hw) (w4 hw) (by decide) (fun h O => rm1 l Z a0 hw v75 [] h n0 O) (by decide) (by decide) (by decide) (by decide) at_137 rfl pd_4 rfl rfl rfl rfl ?_
  rintro _ h' ⟨a78, f79, rfl, hf79, O'⟩
  refine ⟨_, O', ?_⟩
  change Wk p l e _ m _ below meth c _ _ n0 ((a78, ArrC Z .int 9 f79) :: []) 1 9 140 #[.val (.int x0), .val (.int x1), .val (.int x2), .val (.int x3), .val (.int x4), .val (.int x5), .val (.int v65), .val (.int v66), .val (.int v67), .val (.int v68), .val (.int v69), .val (.int v70), .val (.int v71), .val (.int v72), .val (.int v73), .val (.int v74), .val (.int v75), .val (.int v76), .val (.int v77), .unset, .unset, .unset, .unset, .unset, .unset] [.ref a78]
  refine Wk.astore (Ls' := #[.val (.int x0), .val (.int x1), .val (.int x2), .val (.int x3), .val (.int x4), .val (.int x5), .val (.int v65), .val (.int v66), .val (.int v67), .val (.int v68), .val (.int v69), .val (.int v70), .val (.int v71), .val (.int v72), .val (.int v73), .val (.int v74), .val (.int v75), .val (.int v76), .val (.int v77), .val (.ref a78), .unset, .unset, .unset, .unset, .unset]) (pc' := 142) C at_140 rfl rfl rfl ?_
  refine Wk.iload (pc' := 144) C at_142 rfl rfl ?_
  refine Wk.callS (pc' := 147) (rm := { frames := 0, cells := 1, slots := 9, locals := 0 }) (W0 := 0) (argsL := [.int v76]) (st := []) C (w1 hw) (w2 hw) (w3 hw) (w4 hw) (by decide) (fun h O => rm1 l Z a0 hw v76 ((a78, ArrC Z .int 9 f79) :: []) h n0 O) (by decide) (by decide) (by decide) (by decide) at_144 rfl pd_4 rfl rfl rfl rfl ?_
  rintro _ h' ⟨a80, f81, rfl, hf81, O'⟩
  refine ⟨_, O', ?_⟩
  change Wk p l e _ m _ below meth c _ _ n0 ((a80, ArrC Z .int 9 f81) :: (a78, ArrC Z .int 9 f79) :: []) 2 18 147 #[.val (.int x0), .val (.int x1), .val (.int x2), .val (.int x3), .val (.int x4), .val (.int x5), .val (.int v65), .val (.int v66), .val (.int v67), .val (.int v68), .val (.int v69), .val (.int v70), .val (.int v71), .val (.int v72), .val (.int v73), .val (.int v74), .val (.int v75), .val (.int v76), .val (.int v77), .val (.ref a78), .unset, .unset, .unset, .unset, .unset] [.ref a80]
  refine Wk.astore (Ls' := #[.val (.int x0), .val (.int x1), .val (.int x2), .val (.int x3), .val (.int x4), .val (.int x5), .val (.int v65), .val (.int v66), .val (.int v67), .val (.int v68), .val (.int v69), .val (.int v70), .val (.int v71), .val (.int v72), .val (.int v73), .val (.int v74), .val (.int v75), .val (.int v76), .val (.int v77), .val (.ref a78), .val (.ref a80), .unset, .unset, .unset, .unset]) (pc' := 149) C at_147 rfl rfl rfl ?_
  refine Wk.iload (pc' := 151) C at_149 rfl rfl ?_
  refine Wk.callS (pc' := 154) (rm := { frames := 0, cells := 1, slots := 9, locals := 0 }) (W0 := 0) (argsL := [.int v77]) (st := []) C (w1 hw) (w2 hw) (w3 hw) (w4 hw) (by decide) (fun h O => rm1 l Z a0 hw v77 ((a80, ArrC Z .int 9 f81) :: (a78, ArrC Z .int 9 f79) :: []) h n0 O) (by decide) (by decide) (by decide) (by decide) at_151 rfl pd_4 rfl rfl rfl rfl ?_
  rintro _ h' ⟨a82, f83, rfl, hf83, O'⟩
  refine ⟨_, O', ?_⟩
  change Wk p l e _ m _ below meth c _ _ n0 ((a82, ArrC Z .int 9 f83) :: (a80, ArrC Z .int 9 f81) :: (a78, ArrC Z .int 9 f79) :: []) 3 27 154 #[.val (.int x0), .val (.int x1), .val (.int x2), .val (.int x3), .val (.int x4), .val (.int x5), .val (.int v65), .val (.int v66), .val (.int v67), .val (.int v68), .val (.int v69), .val (.int v70), .val (.int v71), .val (.int v72), .val (.int v73), .val (.int v74), .val (.int v75), .val (.int v76), .val (.int v77), .val (.ref a78), .val (.ref a80), .unset, .unset, .unset, .unset] [.ref a82]
  refine Wk.astore (Ls' := #[.val (.int x0), .val (.int x1), .val (.int x2), .val (.int x3), .val (.int x4), .val (.int x5), .val (.int v65), .val (.int v66), .val (.int v67), .val (.int v68), .val (.int v69), .val (.int v70), .val (.int v71), .val (.int v72), .val (.int v73), .val (.int v74), .val (.int v75), .val (.int v76), .val (.int v77), .val (.ref a78), .val (.ref a80), .val (.ref a82), .unset, .unset, .unset]) (pc' := 156) C at_154 rfl rfl rfl ?_
  refine Wk.new (pc' := 159) (ks := ks_0) (vs := [.null, .null, .null, .int (0 : Int32)]) C (w6 hw) (w7 hw) (w8 hw) (lays_ks_0 hw) at_156 rfl (by decide) (by decide) rfl ?_
  intro a84
  change Wk p l e _ m _ below meth c _ _ n0 ((a84, ObjC Z "com/example/kensaku/kensaku/index/Postings$Builder" ks_0 [.null, .null, .null, .int (0 : Int32)]) :: (a82, ArrC Z .int 9 f83) :: (a80, ArrC Z .int 9 f81) :: (a78, ArrC Z .int 9 f79) :: []) 4 31 159 #[.val (.int x0), .val (.int x1), .val (.int x2), .val (.int x3), .val (.int x4), .val (.int x5), .val (.int v65), .val (.int v66), .val (.int v67), .val (.int v68), .val (.int v69), .val (.int v70), .val (.int v71), .val (.int v72), .val (.int v73), .val (.int v74), .val (.int v75), .val (.int v76), .val (.int v77), .val (.ref a78), .val (.ref a80), .val (.ref a82), .unset, .unset, .unset] [.ref a84]
  refine Wk.dup (pc' := 160) C at_159 rfl rfl ?_
  refine Wk.callI (pc' := 163) (rm := { frames := 1, cells := 3, slots := 25, locals := 12 }) (W0 := 1) (a := a84) (argsL := []) (st := [.ref a84]) C rfl rfl (w9 hw) (w10 hw) (w8 hw) (w11 hw) (by decide) (fun h O => rm2 l Z a0 hw a84 ((a82, ArrC Z .int 9 f83) :: (a80, ArrC Z .int 9 f81) :: (a78, ArrC Z .int 9 f79) :: []) h n0 O) (by decide) (by decide) (by decide) (by decide) at_160 rfl pd_5 rfl rfl rfl rfl ?_
  rintro _ h' ⟨b85, b86, b87, rfl, O'⟩
  refine ⟨_, O', ?_⟩
  change Wk p l e _ m _ below meth c _ _ n0 ((b87, ArrC Z .int 8 (fun _ => 0)) :: (b86, ArrC Z .int 9 (fun _ => 0)) :: (b85, ArrC Z .int 8 (fun _ => 0)) :: (a84, ObjC Z "com/example/kensaku/kensaku/index/Postings$Builder" ks_0 [.ref b85, .ref b86, .ref b87, .int (0 : Int32)]) :: (a82, ArrC Z .int 9 f83) :: (a80, ArrC Z .int 9 f81) :: (a78, ArrC Z .int 9 f79) :: []) 7 56 163 #[.val (.int x0), .val (.int x1), .val (.int x2), .val (.int x3), .val (.int x4), .val (.int x5), .val (.int v65), .val (.int v66), .val (.int v67), .val (.int v68), .val (.int v69), .val (.int v70), .val (.int v71), .val (.int v72), .val (.int v73), .val (.int v74), .val (.int v75), .val (.int v76), .val (.int v77), .val (.ref a78), .val (.ref a80), .val (.ref a82), .unset, .unset, .unset] [.ref a84]
  refine Wk.astore (Ls' := #[.val (.int x0), .val (.int x1), .val (.int x2), .val (.int x3), .val (.int x4), .val (.int x5), .val (.int v65), .val (.int v66), .val (.int v67), .val (.int v68), .val (.int v69), .val (.int v70), .val (.int v71), .val (.int v72), .val (.int v73), .val (.int v74), .val (.int v75), .val (.int v76), .val (.int v77), .val (.ref a78), .val (.ref a80), .val (.ref a82), .val (.ref a84), .unset, .unset]) (pc' := 165) C at_163 rfl rfl rfl ?_
  rcases own_four x0 v65 hv65 with hn | hn | hn | hn
  · skip
    subst hn
    refine Wk.iload (pc' := 167) C at_165 rfl rfl ?_
    refine Wk.iconst (z := (1 : Int32)) (pc' := 168) C at_167 rfl rfl ?_
    refine Wk.icmp_lt (pcT := 182) (pcF := 171) C at_168 (by decide) (by decide) rfl (fun _ => ?_) (fun q => absurd q (by decide))
    refine Wk.iload (pc' := 184) C at_182 rfl rfl ?_
    refine Wk.iconst (z := (2 : Int32)) (pc' := 185) C at_184 rfl rfl ?_
    refine Wk.icmp_lt (pcT := 199) (pcF := 188) C at_185 (by decide) (by decide) rfl (fun _ => ?_) (fun q => absurd q (by decide))
    refine Wk.iload (pc' := 201) C at_199 rfl rfl ?_
    refine Wk.iconst (z := (3 : Int32)) (pc' := 202) C at_201 rfl rfl ?_
    refine Wk.icmp_lt (pcT := 216) (pcF := 205) C at_202 (by decide) (by decide) rfl (fun _ => ?_) (fun q => absurd q (by decide))
    refine Wk.aload (pc' := 218) C at_216 rfl rfl rfl ?_
    refine Wk.recast (L' := ((a84, ObjC Z "com/example/kensaku/kensaku/index/Postings$Builder" ks_0 [.ref b85, .ref b86, .ref b87, .int (0 : Int32)]) :: (b85, ArrC Z .int 8 (fun _ => 0)) :: (b86, ArrC Z .int 9 (fun _ => 0)) :: (b87, ArrC Z .int 8 (fun _ => 0)) :: (a82, ArrC Z .int 9 f83) :: (a80, ArrC Z .int 9 f81) :: (a78, ArrC Z .int 9 f79) :: [])) ?_ (fun h O => ((((O.front 0 rfl).front 1 rfl).front 2 rfl).front 3 rfl))
    refine Wk.callV (pc' := 221) (rm := { frames := 2, cells := 4, slots := 38, locals := 64 }) (W0 := 0) (q := 0) (argsL := []) (st := []) C rfl (w21 hw) (w22 hw) (w24 hw) (w23 hw) (w8 hw) (w25 hw) (by decide) (fun h O => rm4_0 l Z a0 hw a84 ((a82, ArrC Z .int 9 f83) :: (a80, ArrC Z .int 9 f81) :: (a78, ArrC Z .int 9 f79) :: []) b85 b86 b87 (0 : Int32) 8 0 (fun _ => 0) (fun _ => 0) (fun _ => 0) h n0 O (by decide) (by decide) ht0 (by omega) (by omega) (by omega)) (by decide) (by decide) (by decide) (by decide) at_218 rfl pd_6 rfl rfl rfl rfl ?_
    rintro _ h' ⟨P88, d89, s90, q91, gd92, gs93, gp94, rfl, hgd92, hgs93, hgp94, O'⟩
    refine ⟨_, O', ?_⟩
    change Wk p l e _ m _ below meth c _ _ n0 ((P88, ObjC Z "com/example/kensaku/kensaku/index/Postings" ks_1 [.ref d89, .ref s90, .ref q91]) :: (q91, ArrC Z .int 0 gp94) :: (s90, ArrC Z .int 1 gs93) :: (d89, ArrC Z .int 0 gd92) :: (a84, ObjC Z "com/example/kensaku/kensaku/index/Postings$Builder" ks_0 [.ref b85, .ref b86, .ref b87, .int (0 : Int32)]) :: (b85, ArrC Z .int 8 (fun _ => 0)) :: (b86, ArrC Z .int 9 (fun _ => 0)) :: (b87, ArrC Z .int 8 (fun _ => 0)) :: (a82, ArrC Z .int 9 f83) :: (a80, ArrC Z .int 9 f81) :: (a78, ArrC Z .int 9 f79) :: []) 11 94 221 #[.val (.int x0), .val (.int x1), .val (.int x2), .val (.int x3), .val (.int x4), .val (.int x5), .val (.int (0 : Int32)), .val (.int v66), .val (.int v67), .val (.int v68), .val (.int v69), .val (.int v70), .val (.int v71), .val (.int v72), .val (.int v73), .val (.int v74), .val (.int v75), .val (.int v76), .val (.int v77), .val (.ref a78), .val (.ref a80), .val (.ref a82), .val (.ref a84), .unset, .unset] [.ref P88]
    refine Wk.astore (Ls' := #[.val (.int x0), .val (.int x1), .val (.int x2), .val (.int x3), .val (.int x4), .val (.int x5), .val (.int (0 : Int32)), .val (.int v66), .val (.int v67), .val (.int v68), .val (.int v69), .val (.int v70), .val (.int v71), .val (.int v72), .val (.int v73), .val (.int v74), .val (.int v75), .val (.int v76), .val (.int v77), .val (.ref a78), .val (.ref a80), .val (.ref a82), .val (.ref a84), .val (.ref P88), .unset]) (pc' := 223) C at_221 rfl rfl rfl ?_
    refine Wk.aload (pc' := 225) C at_223 rfl rfl rfl ?_
    refine Wk.callV (pc' := 228) (rm := { frames := 0, cells := 0, slots := 0, locals := 0 }) (W0 := 0) (q := 0) (argsL := []) (st := []) C rfl (w53 hw) (w54 hw) (w56 hw) (w55 hw) (w28 hw) (w57 hw) (by decide) (fun h O => rm8 l Z a0 hw P88 ((P88, ObjC Z "com/example/kensaku/kensaku/index/Postings" ks_1 [.ref d89, .ref s90, .ref q91]) :: (q91, ArrC Z .int 0 gp94) :: (s90, ArrC Z .int 1 gs93) :: (d89, ArrC Z .int 0 gd92) :: (a84, ObjC Z "com/example/kensaku/kensaku/index/Postings$Builder" ks_0 [.ref b85, .ref b86, .ref b87, .int (0 : Int32)]) :: (b85, ArrC Z .int 8 (fun _ => 0)) :: (b86, ArrC Z .int 9 (fun _ => 0)) :: (b87, ArrC Z .int 8 (fun _ => 0)) :: (a82, ArrC Z .int 9 f83) :: (a80, ArrC Z .int 9 f81) :: (a78, ArrC Z .int 9 f79) :: []) 0 3 0 d89 s90 q91 gd92 h n0 O rfl rfl) (by decide) (by decide) (by decide) (by decide) at_225 rfl pd_7 rfl rfl rfl rfl ?_
    rintro _ h' ⟨rfl, O'⟩
    refine ⟨_, O', ?_⟩
    change Wk p l e _ m _ below meth c _ _ n0 ((P88, ObjC Z "com/example/kensaku/kensaku/index/Postings" ks_1 [.ref d89, .ref s90, .ref q91]) :: (q91, ArrC Z .int 0 gp94) :: (s90, ArrC Z .int 1 gs93) :: (d89, ArrC Z .int 0 gd92) :: (a84, ObjC Z "com/example/kensaku/kensaku/index/Postings$Builder" ks_0 [.ref b85, .ref b86, .ref b87, .int (0 : Int32)]) :: (b85, ArrC Z .int 8 (fun _ => 0)) :: (b86, ArrC Z .int 9 (fun _ => 0)) :: (b87, ArrC Z .int 8 (fun _ => 0)) :: (a82, ArrC Z .int 9 f83) :: (a80, ArrC Z .int 9 f81) :: (a78, ArrC Z .int 9 f79) :: []) 11 94 228 #[.val (.int x0), .val (.int x1), .val (.int x2), .val (.int x3), .val (.int x4), .val (.int x5), .val (.int (0 : Int32)), .val (.int v66), .val (.int v67), .val (.int v68), .val (.int v69), .val (.int v70), .val (.int v71), .val (.int v72), .val (.int v73), .val (.int v74), .val (.int v75), .val (.int v76), .val (.int v77), .val (.ref a78), .val (.ref a80), .val (.ref a82), .val (.ref a84), .val (.ref P88), .unset] [.int (0 : Int32)]
    refine Wk.iload (pc' := 230) C at_228 rfl rfl ?_
    refine Wk.icmp_ne (pcT := 237) (pcF := 233) C at_230 (by decide) (by decide) rfl (fun q => absurd q (by decide)) (fun _ => ?_)
    refine Wk.iconst (z := (1 : Int32)) (pc' := 234) C at_233 rfl rfl ?_
    refine Wk.goto (pc' := 238) C at_234 (by decide) (by decide) ?_
    refine Wk.istore (Ls' := #[.val (.int x0), .val (.int x1), .val (.int x2), .val (.int x3), .val (.int x4), .val (.int x5), .val (.int (0 : Int32)), .val (.int v66), .val (.int v67), .val (.int v68), .val (.int v69), .val (.int v70), .val (.int v71), .val (.int v72), .val (.int v73), .val (.int v74), .val (.int v75), .val (.int v76), .val (.int v77), .val (.ref a78), .val (.ref a80), .val (.ref a82), .val (.ref a84), .val (.ref P88), .val (.int (1 : Int32))]) (pc' := 240) C at_238 rfl rfl ?_
    refine Wk.iload (pc' := 242) C at_240 rfl rfl ?_
    refine Wk.if_eq (pcT := 267) (pcF := 245) C at_242 (by decide) (by decide) rfl (fun q => absurd q (by decide)) (fun _ => ?_)
    refine Wk.iload (pc' := 247) C at_245 rfl rfl ?_
    refine Wk.iconst (z := (1 : Int32)) (pc' := 248) C at_247 rfl rfl ?_
    refine Wk.icmp_lt (pcT := 267) (pcF := 251) C at_248 (by decide) (by decide) rfl (fun _ => ?_) (fun q => absurd q (by decide))
    refine Wk.iload (pc' := 269) C at_267 rfl rfl ?_
    refine Wk.if_eq (pcT := 294) (pcF := 272) C at_269 (by decide) (by decide) rfl (fun q => absurd q (by decide)) (fun _ => ?_)
    refine Wk.iload (pc' := 274) C at_272 rfl rfl ?_
    refine Wk.iconst (z := (2 : Int32)) (pc' := 275) C at_274 rfl rfl ?_
    refine Wk.icmp_lt (pcT := 294) (pcF := 278) C at_275 (by decide) (by decide) rfl (fun _ => ?_) (fun q => absurd q (by decide))
    refine Wk.iload (pc' := 296) C at_294 rfl rfl ?_
    refine Wk.if_eq (pcT := 321) (pcF := 299) C at_296 (by decide) (by decide) rfl (fun q => absurd q (by decide)) (fun _ => ?_)
    refine Wk.iload (pc' := 301) C at_299 rfl rfl ?_
    refine Wk.iconst (z := (3 : Int32)) (pc' := 302) C at_301 rfl rfl ?_
    refine Wk.icmp_lt (pcT := 321) (pcF := 305) C at_302 (by decide) (by decide) rfl (fun _ => ?_) (fun q => absurd q (by decide))
    refine Wk.iload (pc' := 323) C at_321 rfl rfl ?_
    exact Wk.retN C J at_323 (by decide) (by decide) (by simp) rfl (fun h O => rfl)
  · skip
    subst hn
    refine Wk.iload (pc' := 167) C at_165 rfl rfl ?_
    refine Wk.iconst (z := (1 : Int32)) (pc' := 168) C at_167 rfl rfl ?_
    refine Wk.icmp_lt (pcT := 182) (pcF := 171) C at_168 (by decide) (by decide) rfl (fun q => absurd q (by decide)) (fun _ => ?_)
    refine Wk.aload (pc' := 173) C at_171 rfl rfl rfl ?_
    refine Wk.iload (pc' := 175) C at_173 rfl rfl ?_
    refine Wk.aload (pc' := 177) C at_175 rfl rfl rfl ?_
    refine Wk.iload (pc' := 179) C at_177 rfl rfl ?_
    refine Wk.recast (L' := ((a84, ObjC Z "com/example/kensaku/kensaku/index/Postings$Builder" ks_0 [.ref b85, .ref b86, .ref b87, .int (0 : Int32)]) :: (b85, ArrC Z .int 8 (fun _ => 0)) :: (b86, ArrC Z .int 9 (fun _ => 0)) :: (b87, ArrC Z .int 8 (fun _ => 0)) :: (a82, ArrC Z .int 9 f83) :: (a80, ArrC Z .int 9 f81) :: (a78, ArrC Z .int 9 f79) :: [])) ?_ (fun h O => ((((O.front 0 rfl).front 1 rfl).front 2 rfl).front 3 rfl))
    refine Wk.callV (pc' := 182) (rm := { frames := 2, cells := 1, slots := 16, locals := 64 }) (W0 := 0) (q := 0) (argsL := [.int v72, .ref a78, .int v66]) (st := []) C rfl (w58 hw) (w59 hw) (w61 hw) (w60 hw) (w8 hw) (w62 hw) (by decide) (fun h O => rm9_0 l Z a0 hw a84 v72 a78 v66 ((a82, ArrC Z .int 9 f83) :: (a80, ArrC Z .int 9 f81) :: (a78, ArrC Z .int 9 f79) :: []) b85 b86 b87 2 8 0 cc0 (fun _ => 0) (fun _ => 0) (fun _ => 0) f79 h n0 O rfl hc0 (by omega) ht0 (by omega) (by omega) (by omega)) (by decide) (by decide) (by decide) (by decide) at_179 rfl pd_8 rfl rfl rfl rfl ?_
    rintro _ h' ⟨pa95, np96, fq97, s98, rfl, hs98, hlnp96, hunp96, hofq97, hwfq97, O'⟩
    refine ⟨_, O', ?_⟩
    have ht1 : s98.toInt = ((0 + cc0 : Nat) : Int) := by rw [hs98]; exact own_add ht0 hc0 (by omega)
    change Wk p l e _ m _ below meth c _ _ n0 ((a84, ObjC Z "com/example/kensaku/kensaku/index/Postings$Builder" ks_0 [.ref b85, .ref b86, .ref pa95, .int ((0 : Int32) + (1 : Int32))]) :: (b85, ArrC Z .int 8 (upd (fun _ => 0) 0 v72)) :: (b86, ArrC Z .int 9 (upd (fun _ => 0) 1 s98)) :: (pa95, ArrC Z .int np96 fq97) :: (a82, ArrC Z .int 9 f83) :: (a80, ArrC Z .int 9 f81) :: (a78, ArrC Z .int 9 f79) :: []) 8 72 182 #[.val (.int x0), .val (.int x1), .val (.int x2), .val (.int x3), .val (.int x4), .val (.int x5), .val (.int (1 : Int32)), .val (.int v66), .val (.int v67), .val (.int v68), .val (.int v69), .val (.int v70), .val (.int v71), .val (.int v72), .val (.int v73), .val (.int v74), .val (.int v75), .val (.int v76), .val (.int v77), .val (.ref a78), .val (.ref a80), .val (.ref a82), .val (.ref a84), .unset, .unset] []
    refine Wk.iload (pc' := 184) C at_182 rfl rfl ?_
    refine Wk.iconst (z := (2 : Int32)) (pc' := 185) C at_184 rfl rfl ?_
    refine Wk.icmp_lt (pcT := 199) (pcF := 188) C at_185 (by decide) (by decide) rfl (fun _ => ?_) (fun q => absurd q (by decide))
    refine Wk.iload (pc' := 201) C at_199 rfl rfl ?_
    refine Wk.iconst (z := (3 : Int32)) (pc' := 202) C at_201 rfl rfl ?_
    refine Wk.icmp_lt (pcT := 216) (pcF := 205) C at_202 (by decide) (by decide) rfl (fun _ => ?_) (fun q => absurd q (by decide))
    refine Wk.aload (pc' := 218) C at_216 rfl rfl rfl ?_
    refine Wk.callV (pc' := 221) (rm := { frames := 2, cells := 4, slots := 38, locals := 64 }) (W0 := 0) (q := 0) (argsL := []) (st := []) C rfl (w21 hw) (w22 hw) (w24 hw) (w23 hw) (w8 hw) (w25 hw) (by decide) (fun h O => rm4_1 l Z a0 hw a84 ((a82, ArrC Z .int 9 f83) :: (a80, ArrC Z .int 9 f81) :: (a78, ArrC Z .int 9 f79) :: []) b85 b86 pa95 ((0 : Int32) + (1 : Int32)) np96 (0 + cc0) (upd (fun _ => 0) 0 v72) (upd (fun _ => 0) 1 s98) fq97 h n0 O (by decide) (by decide) ht1 (by omega) (by omega) (by omega)) (by decide) (by decide) (by decide) (by decide) at_218 rfl pd_6 rfl rfl rfl rfl ?_
    rintro _ h' ⟨P99, d100, s101, q102, gd103, gs104, gp105, rfl, hgd103, hgs104, hgp105, O'⟩
    refine ⟨_, O', ?_⟩
    change Wk p l e _ m _ below meth c _ _ n0 ((P99, ObjC Z "com/example/kensaku/kensaku/index/Postings" ks_1 [.ref d100, .ref s101, .ref q102]) :: (q102, ArrC Z .int ((0 + cc0)) gp105) :: (s101, ArrC Z .int 2 gs104) :: (d100, ArrC Z .int 1 gd103) :: (a84, ObjC Z "com/example/kensaku/kensaku/index/Postings$Builder" ks_0 [.ref b85, .ref b86, .ref pa95, .int ((0 : Int32) + (1 : Int32))]) :: (b85, ArrC Z .int 8 (upd (fun _ => 0) 0 v72)) :: (b86, ArrC Z .int 9 (upd (fun _ => 0) 1 s98)) :: (pa95, ArrC Z .int np96 fq97) :: (a82, ArrC Z .int 9 f83) :: (a80, ArrC Z .int 9 f81) :: (a78, ArrC Z .int 9 f79) :: []) 12 110 221 #[.val (.int x0), .val (.int x1), .val (.int x2), .val (.int x3), .val (.int x4), .val (.int x5), .val (.int (1 : Int32)), .val (.int v66), .val (.int v67), .val (.int v68), .val (.int v69), .val (.int v70), .val (.int v71), .val (.int v72), .val (.int v73), .val (.int v74), .val (.int v75), .val (.int v76), .val (.int v77), .val (.ref a78), .val (.ref a80), .val (.ref a82), .val (.ref a84), .unset, .unset] [.ref P99]
    refine Wk.astore (Ls' := #[.val (.int x0), .val (.int x1), .val (.int x2), .val (.int x3), .val (.int x4), .val (.int x5), .val (.int (1 : Int32)), .val (.int v66), .val (.int v67), .val (.int v68), .val (.int v69), .val (.int v70), .val (.int v71), .val (.int v72), .val (.int v73), .val (.int v74), .val (.int v75), .val (.int v76), .val (.int v77), .val (.ref a78), .val (.ref a80), .val (.ref a82), .val (.ref a84), .val (.ref P99), .unset]) (pc' := 223) C at_221 rfl rfl rfl ?_
    refine Wk.aload (pc' := 225) C at_223 rfl rfl rfl ?_
    refine Wk.callV (pc' := 228) (rm := { frames := 0, cells := 0, slots := 0, locals := 0 }) (W0 := 0) (q := 0) (argsL := []) (st := []) C rfl (w53 hw) (w54 hw) (w56 hw) (w55 hw) (w28 hw) (w57 hw) (by decide) (fun h O => rm8 l Z a0 hw P99 ((P99, ObjC Z "com/example/kensaku/kensaku/index/Postings" ks_1 [.ref d100, .ref s101, .ref q102]) :: (q102, ArrC Z .int ((0 + cc0)) gp105) :: (s101, ArrC Z .int 2 gs104) :: (d100, ArrC Z .int 1 gd103) :: (a84, ObjC Z "com/example/kensaku/kensaku/index/Postings$Builder" ks_0 [.ref b85, .ref b86, .ref pa95, .int ((0 : Int32) + (1 : Int32))]) :: (b85, ArrC Z .int 8 (upd (fun _ => 0) 0 v72)) :: (b86, ArrC Z .int 9 (upd (fun _ => 0) 1 s98)) :: (pa95, ArrC Z .int np96 fq97) :: (a82, ArrC Z .int 9 f83) :: (a80, ArrC Z .int 9 f81) :: (a78, ArrC Z .int 9 f79) :: []) 0 3 1 d100 s101 q102 gd103 h n0 O rfl rfl) (by decide) (by decide) (by decide) (by decide) at_225 rfl pd_7 rfl rfl rfl rfl ?_
    rintro _ h' ⟨rfl, O'⟩
    refine ⟨_, O', ?_⟩
    change Wk p l e _ m _ below meth c _ _ n0 ((P99, ObjC Z "com/example/kensaku/kensaku/index/Postings" ks_1 [.ref d100, .ref s101, .ref q102]) :: (q102, ArrC Z .int ((0 + cc0)) gp105) :: (s101, ArrC Z .int 2 gs104) :: (d100, ArrC Z .int 1 gd103) :: (a84, ObjC Z "com/example/kensaku/kensaku/index/Postings$Builder" ks_0 [.ref b85, .ref b86, .ref pa95, .int ((0 : Int32) + (1 : Int32))]) :: (b85, ArrC Z .int 8 (upd (fun _ => 0) 0 v72)) :: (b86, ArrC Z .int 9 (upd (fun _ => 0) 1 s98)) :: (pa95, ArrC Z .int np96 fq97) :: (a82, ArrC Z .int 9 f83) :: (a80, ArrC Z .int 9 f81) :: (a78, ArrC Z .int 9 f79) :: []) 12 110 228 #[.val (.int x0), .val (.int x1), .val (.int x2), .val (.int x3), .val (.int x4), .val (.int x5), .val (.int (1 : Int32)), .val (.int v66), .val (.int v67), .val (.int v68), .val (.int v69), .val (.int v70), .val (.int v71), .val (.int v72), .val (.int v73), .val (.int v74), .val (.int v75), .val (.int v76), .val (.int v77), .val (.ref a78), .val (.ref a80), .val (.ref a82), .val (.ref a84), .val (.ref P99), .unset] [.int (1 : Int32)]
    refine Wk.iload (pc' := 230) C at_228 rfl rfl ?_
    refine Wk.icmp_ne (pcT := 237) (pcF := 233) C at_230 (by decide) (by decide) rfl (fun q => absurd q (by decide)) (fun _ => ?_)
    refine Wk.iconst (z := (1 : Int32)) (pc' := 234) C at_233 rfl rfl ?_
    refine Wk.goto (pc' := 238) C at_234 (by decide) (by decide) ?_
    refine Wk.istore (Ls' := #[.val (.int x0), .val (.int x1), .val (.int x2), .val (.int x3), .val (.int x4), .val (.int x5), .val (.int (1 : Int32)), .val (.int v66), .val (.int v67), .val (.int v68), .val (.int v69), .val (.int v70), .val (.int v71), .val (.int v72), .val (.int v73), .val (.int v74), .val (.int v75), .val (.int v76), .val (.int v77), .val (.ref a78), .val (.ref a80), .val (.ref a82), .val (.ref a84), .val (.ref P99), .val (.int (1 : Int32))]) (pc' := 240) C at_238 rfl rfl ?_
    refine Wk.iload (pc' := 242) C at_240 rfl rfl ?_
    refine Wk.if_eq (pcT := 267) (pcF := 245) C at_242 (by decide) (by decide) rfl (fun q => absurd q (by decide)) (fun _ => ?_)
    refine Wk.iload (pc' := 247) C at_245 rfl rfl ?_
    refine Wk.iconst (z := (1 : Int32)) (pc' := 248) C at_247 rfl rfl ?_
    refine Wk.icmp_lt (pcT := 267) (pcF := 251) C at_248 (by decide) (by decide) rfl (fun q => absurd q (by decide)) (fun _ => ?_)
    refine Wk.aload (pc' := 253) C at_251 rfl rfl rfl ?_
    refine Wk.iconst (z := (0 : Int32)) (pc' := 254) C at_253 rfl rfl ?_
    refine Wk.iload (pc' := 256) C at_254 rfl rfl ?_
    refine Wk.iload (pc' := 258) C at_256 rfl rfl ?_
    refine Wk.iload (pc' := 260) C at_258 rfl rfl ?_
    refine Wk.iload (pc' := 262) C at_260 rfl rfl ?_
    have ek0 : gd103 0 = v72 := hgd103 0 (by decide)
    have sk0 : gs104 1 = s98 := hgs104 1 (by decide)
    have sj0 : gs104 0 = (0 : Int32) := hgs104 0 (by decide)
    have dk0 : gs104 1 - gs104 0 = v66 := by rw [sk0, sj0, hs98]; exact own_diff _ _
    have pk0 : gp105 (0 + jj0) = v75 + v69 := ((hgp105 _ (by omega)).trans (hwfq97 jj0 (by omega))).trans (own_run hf79 hjj0 (by omega))
    refine Wk.callS (pc' := 265) (rm := { frames := 1, cells := 0, slots := 0, locals := 20 }) (W0 := 0) (argsL := [.ref P99, .int (0 : Int32), .int v72, .int v66, .int v75, .int v69]) (st := []) C (w73 hw) (w74 hw) (w3 hw) (w75 hw) (by decide) (fun h O => rm10 l Z a0 hw P99 (0 : Int32) v72 v66 v75 v69 ((P99, ObjC Z "com/example/kensaku/kensaku/index/Postings" ks_1 [.ref d100, .ref s101, .ref q102]) :: (q102, ArrC Z .int ((0 + cc0)) gp105) :: (s101, ArrC Z .int 2 gs104) :: (d100, ArrC Z .int 1 gd103) :: (a84, ObjC Z "com/example/kensaku/kensaku/index/Postings$Builder" ks_0 [.ref b85, .ref b86, .ref pa95, .int ((0 : Int32) + (1 : Int32))]) :: (b85, ArrC Z .int 8 (upd (fun _ => 0) 0 v72)) :: (b86, ArrC Z .int 9 (upd (fun _ => 0) 1 s98)) :: (pa95, ArrC Z .int np96 fq97) :: (a82, ArrC Z .int 9 f83) :: (a80, ArrC Z .int 9 f81) :: (a78, ArrC Z .int 9 f79) :: []) 0 3 2 1 1 2 ((0 + cc0)) 0 (0) jj0 d100 s101 q102 gd103 gs104 gp105 h n0 O rfl rfl rfl rfl (by decide) (by decide) (by decide) (by decide) (by rw [sj0]; exact ht0) hjj0 (by omega) (by omega) ek0 dk0 pk0) (by decide) (by decide) (by decide) (by decide) at_262 rfl pd_9 rfl rfl rfl rfl ?_
    rintro _ h' ⟨rfl, O'⟩
    refine ⟨_, O', ?_⟩
    change Wk p l e _ m _ below meth c _ _ n0 ((P99, ObjC Z "com/example/kensaku/kensaku/index/Postings" ks_1 [.ref d100, .ref s101, .ref q102]) :: (q102, ArrC Z .int ((0 + cc0)) gp105) :: (s101, ArrC Z .int 2 gs104) :: (d100, ArrC Z .int 1 gd103) :: (a84, ObjC Z "com/example/kensaku/kensaku/index/Postings$Builder" ks_0 [.ref b85, .ref b86, .ref pa95, .int ((0 : Int32) + (1 : Int32))]) :: (b85, ArrC Z .int 8 (upd (fun _ => 0) 0 v72)) :: (b86, ArrC Z .int 9 (upd (fun _ => 0) 1 s98)) :: (pa95, ArrC Z .int np96 fq97) :: (a82, ArrC Z .int 9 f83) :: (a80, ArrC Z .int 9 f81) :: (a78, ArrC Z .int 9 f79) :: []) 12 110 265 #[.val (.int x0), .val (.int x1), .val (.int x2), .val (.int x3), .val (.int x4), .val (.int x5), .val (.int (1 : Int32)), .val (.int v66), .val (.int v67), .val (.int v68), .val (.int v69), .val (.int v70), .val (.int v71), .val (.int v72), .val (.int v73), .val (.int v74), .val (.int v75), .val (.int v76), .val (.int v77), .val (.ref a78), .val (.ref a80), .val (.ref a82), .val (.ref a84), .val (.ref P99), .val (.int (1 : Int32))] [.int (1 : Int32)]
    refine Wk.istore (Ls' := #[.val (.int x0), .val (.int x1), .val (.int x2), .val (.int x3), .val (.int x4), .val (.int x5), .val (.int (1 : Int32)), .val (.int v66), .val (.int v67), .val (.int v68), .val (.int v69), .val (.int v70), .val (.int v71), .val (.int v72), .val (.int v73), .val (.int v74), .val (.int v75), .val (.int v76), .val (.int v77), .val (.ref a78), .val (.ref a80), .val (.ref a82), .val (.ref a84), .val (.ref P99), .val (.int (1 : Int32))]) (pc' := 267) C at_265 rfl rfl ?_
    refine Wk.iload (pc' := 269) C at_267 rfl rfl ?_
    refine Wk.if_eq (pcT := 294) (pcF := 272) C at_269 (by decide) (by decide) rfl (fun q => absurd q (by decide)) (fun _ => ?_)
    refine Wk.iload (pc' := 274) C at_272 rfl rfl ?_
    refine Wk.iconst (z := (2 : Int32)) (pc' := 275) C at_274 rfl rfl ?_
    refine Wk.icmp_lt (pcT := 294) (pcF := 278) C at_275 (by decide) (by decide) rfl (fun _ => ?_) (fun q => absurd q (by decide))
    refine Wk.iload (pc' := 296) C at_294 rfl rfl ?_
    refine Wk.if_eq (pcT := 321) (pcF := 299) C at_296 (by decide) (by decide) rfl (fun q => absurd q (by decide)) (fun _ => ?_)
    refine Wk.iload (pc' := 301) C at_299 rfl rfl ?_
    refine Wk.iconst (z := (3 : Int32)) (pc' := 302) C at_301 rfl rfl ?_
    refine Wk.icmp_lt (pcT := 321) (pcF := 305) C at_302 (by decide) (by decide) rfl (fun _ => ?_) (fun q => absurd q (by decide))
    refine Wk.iload (pc' := 323) C at_321 rfl rfl ?_
    exact Wk.retN C J at_323 (by decide) (by decide) (by simp) rfl (fun h O => rfl)
  · skip
    subst hn
    refine Wk.iload (pc' := 167) C at_165 rfl rfl ?_
    refine Wk.iconst (z := (1 : Int32)) (pc' := 168) C at_167 rfl rfl ?_
    refine Wk.icmp_lt (pcT := 182) (pcF := 171) C at_168 (by decide) (by decide) rfl (fun q => absurd q (by decide)) (fun _ => ?_)
    refine Wk.aload (pc' := 173) C at_171 rfl rfl rfl ?_
    refine Wk.iload (pc' := 175) C at_173 rfl rfl ?_
    refine Wk.aload (pc' := 177) C at_175 rfl rfl rfl ?_
    refine Wk.iload (pc' := 179) C at_177 rfl rfl ?_
    refine Wk.recast (L' := ((a84, ObjC Z "com/example/kensaku/kensaku/index/Postings$Builder" ks_0 [.ref b85, .ref b86, .ref b87, .int (0 : Int32)]) :: (b85, ArrC Z .int 8 (fun _ => 0)) :: (b86, ArrC Z .int 9 (fun _ => 0)) :: (b87, ArrC Z .int 8 (fun _ => 0)) :: (a82, ArrC Z .int 9 f83) :: (a80, ArrC Z .int 9 f81) :: (a78, ArrC Z .int 9 f79) :: [])) ?_ (fun h O => ((((O.front 0 rfl).front 1 rfl).front 2 rfl).front 3 rfl))
    refine Wk.callV (pc' := 182) (rm := { frames := 2, cells := 1, slots := 16, locals := 64 }) (W0 := 0) (q := 0) (argsL := [.int v72, .ref a78, .int v66]) (st := []) C rfl (w58 hw) (w59 hw) (w61 hw) (w60 hw) (w8 hw) (w62 hw) (by decide) (fun h O => rm9_0 l Z a0 hw a84 v72 a78 v66 ((a82, ArrC Z .int 9 f83) :: (a80, ArrC Z .int 9 f81) :: (a78, ArrC Z .int 9 f79) :: []) b85 b86 b87 2 8 0 cc0 (fun _ => 0) (fun _ => 0) (fun _ => 0) f79 h n0 O rfl hc0 (by omega) ht0 (by omega) (by omega) (by omega)) (by decide) (by decide) (by decide) (by decide) at_179 rfl pd_8 rfl rfl rfl rfl ?_
    rintro _ h' ⟨pa106, np107, fq108, s109, rfl, hs109, hlnp107, hunp107, hofq108, hwfq108, O'⟩
    refine ⟨_, O', ?_⟩
    have ht1 : s109.toInt = ((0 + cc0 : Nat) : Int) := by rw [hs109]; exact own_add ht0 hc0 (by omega)
    change Wk p l e _ m _ below meth c _ _ n0 ((a84, ObjC Z "com/example/kensaku/kensaku/index/Postings$Builder" ks_0 [.ref b85, .ref b86, .ref pa106, .int ((0 : Int32) + (1 : Int32))]) :: (b85, ArrC Z .int 8 (upd (fun _ => 0) 0 v72)) :: (b86, ArrC Z .int 9 (upd (fun _ => 0) 1 s109)) :: (pa106, ArrC Z .int np107 fq108) :: (a82, ArrC Z .int 9 f83) :: (a80, ArrC Z .int 9 f81) :: (a78, ArrC Z .int 9 f79) :: []) 8 72 182 #[.val (.int x0), .val (.int x1), .val (.int x2), .val (.int x3), .val (.int x4), .val (.int x5), .val (.int (2 : Int32)), .val (.int v66), .val (.int v67), .val (.int v68), .val (.int v69), .val (.int v70), .val (.int v71), .val (.int v72), .val (.int v73), .val (.int v74), .val (.int v75), .val (.int v76), .val (.int v77), .val (.ref a78), .val (.ref a80), .val (.ref a82), .val (.ref a84), .unset, .unset] []
    refine Wk.iload (pc' := 184) C at_182 rfl rfl ?_
    refine Wk.iconst (z := (2 : Int32)) (pc' := 185) C at_184 rfl rfl ?_
    refine Wk.icmp_lt (pcT := 199) (pcF := 188) C at_185 (by decide) (by decide) rfl (fun q => absurd q (by decide)) (fun _ => ?_)
    refine Wk.aload (pc' := 190) C at_188 rfl rfl rfl ?_
    refine Wk.iload (pc' := 192) C at_190 rfl rfl ?_
    refine Wk.aload (pc' := 194) C at_192 rfl rfl rfl ?_
    refine Wk.iload (pc' := 196) C at_194 rfl rfl ?_
    refine Wk.callV (pc' := 199) (rm := { frames := 2, cells := 1, slots := 32, locals := 64 }) (W0 := 0) (q := 0) (argsL := [.int v73, .ref a80, .int v67]) (st := []) C rfl (w58 hw) (w59 hw) (w61 hw) (w60 hw) (w8 hw) (w62 hw) (by decide) (fun h O => rm9_1 l Z a0 hw a84 v73 a80 v67 ((a82, ArrC Z .int 9 f83) :: (a80, ArrC Z .int 9 f81) :: (a78, ArrC Z .int 9 f79) :: []) b85 b86 pa106 1 np107 (0 + cc0) cc1 (upd (fun _ => 0) 0 v72) (upd (fun _ => 0) 1 s109) fq108 f81 h n0 O rfl hc1 (by omega) ht1 (by omega) (by omega) (by omega)) (by decide) (by decide) (by decide) (by decide) at_196 rfl pd_8 rfl rfl rfl rfl ?_
    rintro _ h' ⟨pa110, np111, fq112, s113, rfl, hs113, hlnp111, hunp111, hofq112, hwfq112, O'⟩
    refine ⟨_, O', ?_⟩
    have ht2 : s113.toInt = (((0 + cc0) + cc1 : Nat) : Int) := by rw [hs113]; exact own_add ht1 hc1 (by omega)
    change Wk p l e _ m _ below meth c _ _ n0 ((a84, ObjC Z "com/example/kensaku/kensaku/index/Postings$Builder" ks_0 [.ref b85, .ref b86, .ref pa110, .int ((1 : Int32) + (1 : Int32))]) :: (b85, ArrC Z .int 8 (upd (upd (fun _ => 0) 0 v72) 1 v73)) :: (b86, ArrC Z .int 9 (upd (upd (fun _ => 0) 1 s109) 2 s113)) :: (pa110, ArrC Z .int np111 fq112) :: (a82, ArrC Z .int 9 f83) :: (a80, ArrC Z .int 9 f81) :: (a78, ArrC Z .int 9 f79) :: []) 9 104 199 #[.val (.int x0), .val (.int x1), .val (.int x2), .val (.int x3), .val (.int x4), .val (.int x5), .val (.int (2 : Int32)), .val (.int v66), .val (.int v67), .val (.int v68), .val (.int v69), .val (.int v70), .val (.int v71), .val (.int v72), .val (.int v73), .val (.int v74), .val (.int v75), .val (.int v76), .val (.int v77), .val (.ref a78), .val (.ref a80), .val (.ref a82), .val (.ref a84), .unset, .unset] []
    refine Wk.iload (pc' := 201) C at_199 rfl rfl ?_
    refine Wk.iconst (z := (3 : Int32)) (pc' := 202) C at_201 rfl rfl ?_
    refine Wk.icmp_lt (pcT := 216) (pcF := 205) C at_202 (by decide) (by decide) rfl (fun _ => ?_) (fun q => absurd q (by decide))
    refine Wk.aload (pc' := 218) C at_216 rfl rfl rfl ?_
    refine Wk.callV (pc' := 221) (rm := { frames := 2, cells := 4, slots := 38, locals := 64 }) (W0 := 0) (q := 0) (argsL := []) (st := []) C rfl (w21 hw) (w22 hw) (w24 hw) (w23 hw) (w8 hw) (w25 hw) (by decide) (fun h O => rm4_2 l Z a0 hw a84 ((a82, ArrC Z .int 9 f83) :: (a80, ArrC Z .int 9 f81) :: (a78, ArrC Z .int 9 f79) :: []) b85 b86 pa110 ((1 : Int32) + (1 : Int32)) np111 ((0 + cc0) + cc1) (upd (upd (fun _ => 0) 0 v72) 1 v73) (upd (upd (fun _ => 0) 1 s109) 2 s113) fq112 h n0 O (by decide) (by decide) ht2 (by omega) (by omega) (by omega)) (by decide) (by decide) (by decide) (by decide) at_218 rfl pd_6 rfl rfl rfl rfl ?_
    rintro _ h' ⟨P114, d115, s116, q117, gd118, gs119, gp120, rfl, hgd118, hgs119, hgp120, O'⟩
    refine ⟨_, O', ?_⟩
    change Wk p l e _ m _ below meth c _ _ n0 ((P114, ObjC Z "com/example/kensaku/kensaku/index/Postings" ks_1 [.ref d115, .ref s116, .ref q117]) :: (q117, ArrC Z .int (((0 + cc0) + cc1)) gp120) :: (s116, ArrC Z .int 3 gs119) :: (d115, ArrC Z .int 2 gd118) :: (a84, ObjC Z "com/example/kensaku/kensaku/index/Postings$Builder" ks_0 [.ref b85, .ref b86, .ref pa110, .int ((1 : Int32) + (1 : Int32))]) :: (b85, ArrC Z .int 8 (upd (upd (fun _ => 0) 0 v72) 1 v73)) :: (b86, ArrC Z .int 9 (upd (upd (fun _ => 0) 1 s109) 2 s113)) :: (pa110, ArrC Z .int np111 fq112) :: (a82, ArrC Z .int 9 f83) :: (a80, ArrC Z .int 9 f81) :: (a78, ArrC Z .int 9 f79) :: []) 13 142 221 #[.val (.int x0), .val (.int x1), .val (.int x2), .val (.int x3), .val (.int x4), .val (.int x5), .val (.int (2 : Int32)), .val (.int v66), .val (.int v67), .val (.int v68), .val (.int v69), .val (.int v70), .val (.int v71), .val (.int v72), .val (.int v73), .val (.int v74), .val (.int v75), .val (.int v76), .val (.int v77), .val (.ref a78), .val (.ref a80), .val (.ref a82), .val (.ref a84), .unset, .unset] [.ref P114]
    refine Wk.astore (Ls' := #[.val (.int x0), .val (.int x1), .val (.int x2), .val (.int x3), .val (.int x4), .val (.int x5), .val (.int (2 : Int32)), .val (.int v66), .val (.int v67), .val (.int v68), .val (.int v69), .val (.int v70), .val (.int v71), .val (.int v72), .val (.int v73), .val (.int v74), .val (.int v75), .val (.int v76), .val (.int v77), .val (.ref a78), .val (.ref a80), .val (.ref a82), .val (.ref a84), .val (.ref P114), .unset]) (pc' := 223) C at_221 rfl rfl rfl ?_
    refine Wk.aload (pc' := 225) C at_223 rfl rfl rfl ?_
    refine Wk.callV (pc' := 228) (rm := { frames := 0, cells := 0, slots := 0, locals := 0 }) (W0 := 0) (q := 0) (argsL := []) (st := []) C rfl (w53 hw) (w54 hw) (w56 hw) (w55 hw) (w28 hw) (w57 hw) (by decide) (fun h O => rm8 l Z a0 hw P114 ((P114, ObjC Z "com/example/kensaku/kensaku/index/Postings" ks_1 [.ref d115, .ref s116, .ref q117]) :: (q117, ArrC Z .int (((0 + cc0) + cc1)) gp120) :: (s116, ArrC Z .int 3 gs119) :: (d115, ArrC Z .int 2 gd118) :: (a84, ObjC Z "com/example/kensaku/kensaku/index/Postings$Builder" ks_0 [.ref b85, .ref b86, .ref pa110, .int ((1 : Int32) + (1 : Int32))]) :: (b85, ArrC Z .int 8 (upd (upd (fun _ => 0) 0 v72) 1 v73)) :: (b86, ArrC Z .int 9 (upd (upd (fun _ => 0) 1 s109) 2 s113)) :: (pa110, ArrC Z .int np111 fq112) :: (a82, ArrC Z .int 9 f83) :: (a80, ArrC Z .int 9 f81) :: (a78, ArrC Z .int 9 f79) :: []) 0 3 2 d115 s116 q117 gd118 h n0 O rfl rfl) (by decide) (by decide) (by decide) (by decide) at_225 rfl pd_7 rfl rfl rfl rfl ?_
    rintro _ h' ⟨rfl, O'⟩
    refine ⟨_, O', ?_⟩
    change Wk p l e _ m _ below meth c _ _ n0 ((P114, ObjC Z "com/example/kensaku/kensaku/index/Postings" ks_1 [.ref d115, .ref s116, .ref q117]) :: (q117, ArrC Z .int (((0 + cc0) + cc1)) gp120) :: (s116, ArrC Z .int 3 gs119) :: (d115, ArrC Z .int 2 gd118) :: (a84, ObjC Z "com/example/kensaku/kensaku/index/Postings$Builder" ks_0 [.ref b85, .ref b86, .ref pa110, .int ((1 : Int32) + (1 : Int32))]) :: (b85, ArrC Z .int 8 (upd (upd (fun _ => 0) 0 v72) 1 v73)) :: (b86, ArrC Z .int 9 (upd (upd (fun _ => 0) 1 s109) 2 s113)) :: (pa110, ArrC Z .int np111 fq112) :: (a82, ArrC Z .int 9 f83) :: (a80, ArrC Z .int 9 f81) :: (a78, ArrC Z .int 9 f79) :: []) 13 142 228 #[.val (.int x0), .val (.int x1), .val (.int x2), .val (.int x3), .val (.int x4), .val (.int x5), .val (.int (2 : Int32)), .val (.int v66), .val (.int v67), .val (.int v68), .val (.int v69), .val (.int v70), .val (.int v71), .val (.int v72), .val (.int v73), .val (.int v74), .val (.int v75), .val (.int v76), .val (.int v77), .val (.ref a78), .val (.ref a80), .val (.ref a82), .val (.ref a84), .val (.ref P114), .unset] [.int (2 : Int32)]
    refine Wk.iload (pc' := 230) C at_228 rfl rfl ?_
    refine Wk.icmp_ne (pcT := 237) (pcF := 233) C at_230 (by decide) (by decide) rfl (fun q => absurd q (by decide)) (fun _ => ?_)
    refine Wk.iconst (z := (1 : Int32)) (pc' := 234) C at_233 rfl rfl ?_
    refine Wk.goto (pc' := 238) C at_234 (by decide) (by decide) ?_
    refine Wk.istore (Ls' := #[.val (.int x0), .val (.int x1), .val (.int x2), .val (.int x3), .val (.int x4), .val (.int x5), .val (.int (2 : Int32)), .val (.int v66), .val (.int v67), .val (.int v68), .val (.int v69), .val (.int v70), .val (.int v71), .val (.int v72), .val (.int v73), .val (.int v74), .val (.int v75), .val (.int v76), .val (.int v77), .val (.ref a78), .val (.ref a80), .val (.ref a82), .val (.ref a84), .val (.ref P114), .val (.int (1 : Int32))]) (pc' := 240) C at_238 rfl rfl ?_
    refine Wk.iload (pc' := 242) C at_240 rfl rfl ?_
    refine Wk.if_eq (pcT := 267) (pcF := 245) C at_242 (by decide) (by decide) rfl (fun q => absurd q (by decide)) (fun _ => ?_)
    refine Wk.iload (pc' := 247) C at_245 rfl rfl ?_
    refine Wk.iconst (z := (1 : Int32)) (pc' := 248) C at_247 rfl rfl ?_
    refine Wk.icmp_lt (pcT := 267) (pcF := 251) C at_248 (by decide) (by decide) rfl (fun q => absurd q (by decide)) (fun _ => ?_)
    refine Wk.aload (pc' := 253) C at_251 rfl rfl rfl ?_
    refine Wk.iconst (z := (0 : Int32)) (pc' := 254) C at_253 rfl rfl ?_
    refine Wk.iload (pc' := 256) C at_254 rfl rfl ?_
    refine Wk.iload (pc' := 258) C at_256 rfl rfl ?_
    refine Wk.iload (pc' := 260) C at_258 rfl rfl ?_
    refine Wk.iload (pc' := 262) C at_260 rfl rfl ?_
    have ek0 : gd118 0 = v72 := hgd118 0 (by decide)
    have sk0 : gs119 1 = s109 := hgs119 1 (by decide)
    have sj0 : gs119 0 = (0 : Int32) := hgs119 0 (by decide)
    have dk0 : gs119 1 - gs119 0 = v66 := by rw [sk0, sj0, hs109]; exact own_diff _ _
    have pk0 : gp120 (0 + jj0) = v75 + v69 := (((hgp120 _ (by omega)).trans (hofq112 _ (by omega))).trans (hwfq108 jj0 (by omega))).trans (own_run hf79 hjj0 (by omega))
    refine Wk.callS (pc' := 265) (rm := { frames := 1, cells := 0, slots := 0, locals := 20 }) (W0 := 0) (argsL := [.ref P114, .int (0 : Int32), .int v72, .int v66, .int v75, .int v69]) (st := []) C (w73 hw) (w74 hw) (w3 hw) (w75 hw) (by decide) (fun h O => rm10 l Z a0 hw P114 (0 : Int32) v72 v66 v75 v69 ((P114, ObjC Z "com/example/kensaku/kensaku/index/Postings" ks_1 [.ref d115, .ref s116, .ref q117]) :: (q117, ArrC Z .int (((0 + cc0) + cc1)) gp120) :: (s116, ArrC Z .int 3 gs119) :: (d115, ArrC Z .int 2 gd118) :: (a84, ObjC Z "com/example/kensaku/kensaku/index/Postings$Builder" ks_0 [.ref b85, .ref b86, .ref pa110, .int ((1 : Int32) + (1 : Int32))]) :: (b85, ArrC Z .int 8 (upd (upd (fun _ => 0) 0 v72) 1 v73)) :: (b86, ArrC Z .int 9 (upd (upd (fun _ => 0) 1 s109) 2 s113)) :: (pa110, ArrC Z .int np111 fq112) :: (a82, ArrC Z .int 9 f83) :: (a80, ArrC Z .int 9 f81) :: (a78, ArrC Z .int 9 f79) :: []) 0 3 2 1 2 3 (((0 + cc0) + cc1)) 0 (0) jj0 d115 s116 q117 gd118 gs119 gp120 h n0 O rfl rfl rfl rfl (by decide) (by decide) (by decide) (by decide) (by rw [sj0]; exact ht0) hjj0 (by omega) (by omega) ek0 dk0 pk0) (by decide) (by decide) (by decide) (by decide) at_262 rfl pd_9 rfl rfl rfl rfl ?_
    rintro _ h' ⟨rfl, O'⟩
    refine ⟨_, O', ?_⟩
    change Wk p l e _ m _ below meth c _ _ n0 ((P114, ObjC Z "com/example/kensaku/kensaku/index/Postings" ks_1 [.ref d115, .ref s116, .ref q117]) :: (q117, ArrC Z .int (((0 + cc0) + cc1)) gp120) :: (s116, ArrC Z .int 3 gs119) :: (d115, ArrC Z .int 2 gd118) :: (a84, ObjC Z "com/example/kensaku/kensaku/index/Postings$Builder" ks_0 [.ref b85, .ref b86, .ref pa110, .int ((1 : Int32) + (1 : Int32))]) :: (b85, ArrC Z .int 8 (upd (upd (fun _ => 0) 0 v72) 1 v73)) :: (b86, ArrC Z .int 9 (upd (upd (fun _ => 0) 1 s109) 2 s113)) :: (pa110, ArrC Z .int np111 fq112) :: (a82, ArrC Z .int 9 f83) :: (a80, ArrC Z .int 9 f81) :: (a78, ArrC Z .int 9 f79) :: []) 13 142 265 #[.val (.int x0), .val (.int x1), .val (.int x2), .val (.int x3), .val (.int x4), .val (.int x5), .val (.int (2 : Int32)), .val (.int v66), .val (.int v67), .val (.int v68), .val (.int v69), .val (.int v70), .val (.int v71), .val (.int v72), .val (.int v73), .val (.int v74), .val (.int v75), .val (.int v76), .val (.int v77), .val (.ref a78), .val (.ref a80), .val (.ref a82), .val (.ref a84), .val (.ref P114), .val (.int (1 : Int32))] [.int (1 : Int32)]
    refine Wk.istore (Ls' := #[.val (.int x0), .val (.int x1), .val (.int x2), .val (.int x3), .val (.int x4), .val (.int x5), .val (.int (2 : Int32)), .val (.int v66), .val (.int v67), .val (.int v68), .val (.int v69), .val (.int v70), .val (.int v71), .val (.int v72), .val (.int v73), .val (.int v74), .val (.int v75), .val (.int v76), .val (.int v77), .val (.ref a78), .val (.ref a80), .val (.ref a82), .val (.ref a84), .val (.ref P114), .val (.int (1 : Int32))]) (pc' := 267) C at_265 rfl rfl ?_
    refine Wk.iload (pc' := 269) C at_267 rfl rfl ?_
    refine Wk.if_eq (pcT := 294) (pcF := 272) C at_269 (by decide) (by decide) rfl (fun q => absurd q (by decide)) (fun _ => ?_)
    refine Wk.iload (pc' := 274) C at_272 rfl rfl ?_
    refine Wk.iconst (z := (2 : Int32)) (pc' := 275) C at_274 rfl rfl ?_
    refine Wk.icmp_lt (pcT := 294) (pcF := 278) C at_275 (by decide) (by decide) rfl (fun q => absurd q (by decide)) (fun _ => ?_)
    refine Wk.aload (pc' := 280) C at_278 rfl rfl rfl ?_
    refine Wk.iconst (z := (1 : Int32)) (pc' := 281) C at_280 rfl rfl ?_
    refine Wk.iload (pc' := 283) C at_281 rfl rfl ?_
    refine Wk.iload (pc' := 285) C at_283 rfl rfl ?_
    refine Wk.iload (pc' := 287) C at_285 rfl rfl ?_
    refine Wk.iload (pc' := 289) C at_287 rfl rfl ?_
    have ek1 : gd118 1 = v73 := hgd118 1 (by decide)
    have sk1 : gs119 2 = s113 := hgs119 2 (by decide)
    have sj1 : gs119 1 = s109 := hgs119 1 (by decide)
    have dk1 : gs119 2 - gs119 1 = v67 := by rw [sk1, sj1, hs113]; exact own_diff _ _
    have pk1 : gp120 ((0 + cc0) + jj1) = v76 + v70 := ((hgp120 _ (by omega)).trans (hwfq112 jj1 (by omega))).trans (own_run hf81 hjj1 (by omega))
    refine Wk.callS (pc' := 292) (rm := { frames := 1, cells := 0, slots := 0, locals := 20 }) (W0 := 0) (argsL := [.ref P114, .int (1 : Int32), .int v73, .int v67, .int v76, .int v70]) (st := []) C (w73 hw) (w74 hw) (w3 hw) (w75 hw) (by decide) (fun h O => rm10 l Z a0 hw P114 (1 : Int32) v73 v67 v76 v70 ((P114, ObjC Z "com/example/kensaku/kensaku/index/Postings" ks_1 [.ref d115, .ref s116, .ref q117]) :: (q117, ArrC Z .int (((0 + cc0) + cc1)) gp120) :: (s116, ArrC Z .int 3 gs119) :: (d115, ArrC Z .int 2 gd118) :: (a84, ObjC Z "com/example/kensaku/kensaku/index/Postings$Builder" ks_0 [.ref b85, .ref b86, .ref pa110, .int ((1 : Int32) + (1 : Int32))]) :: (b85, ArrC Z .int 8 (upd (upd (fun _ => 0) 0 v72) 1 v73)) :: (b86, ArrC Z .int 9 (upd (upd (fun _ => 0) 1 s109) 2 s113)) :: (pa110, ArrC Z .int np111 fq112) :: (a82, ArrC Z .int 9 f83) :: (a80, ArrC Z .int 9 f81) :: (a78, ArrC Z .int 9 f79) :: []) 0 3 2 1 2 3 (((0 + cc0) + cc1)) 1 ((0 + cc0)) jj1 d115 s116 q117 gd118 gs119 gp120 h n0 O rfl rfl rfl rfl (by decide) (by decide) (by decide) (by decide) (by rw [sj1]; exact ht1) hjj1 (by omega) (by omega) ek1 dk1 pk1) (by decide) (by decide) (by decide) (by decide) at_289 rfl pd_9 rfl rfl rfl rfl ?_
    rintro _ h' ⟨rfl, O'⟩
    refine ⟨_, O', ?_⟩
    change Wk p l e _ m _ below meth c _ _ n0 ((P114, ObjC Z "com/example/kensaku/kensaku/index/Postings" ks_1 [.ref d115, .ref s116, .ref q117]) :: (q117, ArrC Z .int (((0 + cc0) + cc1)) gp120) :: (s116, ArrC Z .int 3 gs119) :: (d115, ArrC Z .int 2 gd118) :: (a84, ObjC Z "com/example/kensaku/kensaku/index/Postings$Builder" ks_0 [.ref b85, .ref b86, .ref pa110, .int ((1 : Int32) + (1 : Int32))]) :: (b85, ArrC Z .int 8 (upd (upd (fun _ => 0) 0 v72) 1 v73)) :: (b86, ArrC Z .int 9 (upd (upd (fun _ => 0) 1 s109) 2 s113)) :: (pa110, ArrC Z .int np111 fq112) :: (a82, ArrC Z .int 9 f83) :: (a80, ArrC Z .int 9 f81) :: (a78, ArrC Z .int 9 f79) :: []) 13 142 292 #[.val (.int x0), .val (.int x1), .val (.int x2), .val (.int x3), .val (.int x4), .val (.int x5), .val (.int (2 : Int32)), .val (.int v66), .val (.int v67), .val (.int v68), .val (.int v69), .val (.int v70), .val (.int v71), .val (.int v72), .val (.int v73), .val (.int v74), .val (.int v75), .val (.int v76), .val (.int v77), .val (.ref a78), .val (.ref a80), .val (.ref a82), .val (.ref a84), .val (.ref P114), .val (.int (1 : Int32))] [.int (1 : Int32)]
    refine Wk.istore (Ls' := #[.val (.int x0), .val (.int x1), .val (.int x2), .val (.int x3), .val (.int x4), .val (.int x5), .val (.int (2 : Int32)), .val (.int v66), .val (.int v67), .val (.int v68), .val (.int v69), .val (.int v70), .val (.int v71), .val (.int v72), .val (.int v73), .val (.int v74), .val (.int v75), .val (.int v76), .val (.int v77), .val (.ref a78), .val (.ref a80), .val (.ref a82), .val (.ref a84), .val (.ref P114), .val (.int (1 : Int32))]) (pc' := 294) C at_292 rfl rfl ?_
    refine Wk.iload (pc' := 296) C at_294 rfl rfl ?_
    refine Wk.if_eq (pcT := 321) (pcF := 299) C at_296 (by decide) (by decide) rfl (fun q => absurd q (by decide)) (fun _ => ?_)
    refine Wk.iload (pc' := 301) C at_299 rfl rfl ?_
    refine Wk.iconst (z := (3 : Int32)) (pc' := 302) C at_301 rfl rfl ?_
    refine Wk.icmp_lt (pcT := 321) (pcF := 305) C at_302 (by decide) (by decide) rfl (fun _ => ?_) (fun q => absurd q (by decide))
    refine Wk.iload (pc' := 323) C at_321 rfl rfl ?_
    exact Wk.retN C J at_323 (by decide) (by decide) (by simp) rfl (fun h O => rfl)
  · skip
    subst hn
    refine Wk.iload (pc' := 167) C at_165 rfl rfl ?_
    refine Wk.iconst (z := (1 : Int32)) (pc' := 168) C at_167 rfl rfl ?_
    refine Wk.icmp_lt (pcT := 182) (pcF := 171) C at_168 (by decide) (by decide) rfl (fun q => absurd q (by decide)) (fun _ => ?_)
    refine Wk.aload (pc' := 173) C at_171 rfl rfl rfl ?_
    refine Wk.iload (pc' := 175) C at_173 rfl rfl ?_
    refine Wk.aload (pc' := 177) C at_175 rfl rfl rfl ?_
    refine Wk.iload (pc' := 179) C at_177 rfl rfl ?_
    refine Wk.recast (L' := ((a84, ObjC Z "com/example/kensaku/kensaku/index/Postings$Builder" ks_0 [.ref b85, .ref b86, .ref b87, .int (0 : Int32)]) :: (b85, ArrC Z .int 8 (fun _ => 0)) :: (b86, ArrC Z .int 9 (fun _ => 0)) :: (b87, ArrC Z .int 8 (fun _ => 0)) :: (a82, ArrC Z .int 9 f83) :: (a80, ArrC Z .int 9 f81) :: (a78, ArrC Z .int 9 f79) :: [])) ?_ (fun h O => ((((O.front 0 rfl).front 1 rfl).front 2 rfl).front 3 rfl))
    refine Wk.callV (pc' := 182) (rm := { frames := 2, cells := 1, slots := 16, locals := 64 }) (W0 := 0) (q := 0) (argsL := [.int v72, .ref a78, .int v66]) (st := []) C rfl (w58 hw) (w59 hw) (w61 hw) (w60 hw) (w8 hw) (w62 hw) (by decide) (fun h O => rm9_0 l Z a0 hw a84 v72 a78 v66 ((a82, ArrC Z .int 9 f83) :: (a80, ArrC Z .int 9 f81) :: (a78, ArrC Z .int 9 f79) :: []) b85 b86 b87 2 8 0 cc0 (fun _ => 0) (fun _ => 0) (fun _ => 0) f79 h n0 O rfl hc0 (by omega) ht0 (by omega) (by omega) (by omega)) (by decide) (by decide) (by decide) (by decide) at_179 rfl pd_8 rfl rfl rfl rfl ?_
    rintro _ h' ⟨pa121, np122, fq123, s124, rfl, hs124, hlnp122, hunp122, hofq123, hwfq123, O'⟩
    refine ⟨_, O', ?_⟩
    have ht1 : s124.toInt = ((0 + cc0 : Nat) : Int) := by rw [hs124]; exact own_add ht0 hc0 (by omega)
    change Wk p l e _ m _ below meth c _ _ n0 ((a84, ObjC Z "com/example/kensaku/kensaku/index/Postings$Builder" ks_0 [.ref b85, .ref b86, .ref pa121, .int ((0 : Int32) + (1 : Int32))]) :: (b85, ArrC Z .int 8 (upd (fun _ => 0) 0 v72)) :: (b86, ArrC Z .int 9 (upd (fun _ => 0) 1 s124)) :: (pa121, ArrC Z .int np122 fq123) :: (a82, ArrC Z .int 9 f83) :: (a80, ArrC Z .int 9 f81) :: (a78, ArrC Z .int 9 f79) :: []) 8 72 182 #[.val (.int x0), .val (.int x1), .val (.int x2), .val (.int x3), .val (.int x4), .val (.int x5), .val (.int (3 : Int32)), .val (.int v66), .val (.int v67), .val (.int v68), .val (.int v69), .val (.int v70), .val (.int v71), .val (.int v72), .val (.int v73), .val (.int v74), .val (.int v75), .val (.int v76), .val (.int v77), .val (.ref a78), .val (.ref a80), .val (.ref a82), .val (.ref a84), .unset, .unset] []
    refine Wk.iload (pc' := 184) C at_182 rfl rfl ?_
    refine Wk.iconst (z := (2 : Int32)) (pc' := 185) C at_184 rfl rfl ?_
    refine Wk.icmp_lt (pcT := 199) (pcF := 188) C at_185 (by decide) (by decide) rfl (fun q => absurd q (by decide)) (fun _ => ?_)
    refine Wk.aload (pc' := 190) C at_188 rfl rfl rfl ?_
    refine Wk.iload (pc' := 192) C at_190 rfl rfl ?_
    refine Wk.aload (pc' := 194) C at_192 rfl rfl rfl ?_
    refine Wk.iload (pc' := 196) C at_194 rfl rfl ?_
    refine Wk.callV (pc' := 199) (rm := { frames := 2, cells := 1, slots := 32, locals := 64 }) (W0 := 0) (q := 0) (argsL := [.int v73, .ref a80, .int v67]) (st := []) C rfl (w58 hw) (w59 hw) (w61 hw) (w60 hw) (w8 hw) (w62 hw) (by decide) (fun h O => rm9_1 l Z a0 hw a84 v73 a80 v67 ((a82, ArrC Z .int 9 f83) :: (a80, ArrC Z .int 9 f81) :: (a78, ArrC Z .int 9 f79) :: []) b85 b86 pa121 1 np122 (0 + cc0) cc1 (upd (fun _ => 0) 0 v72) (upd (fun _ => 0) 1 s124) fq123 f81 h n0 O rfl hc1 (by omega) ht1 (by omega) (by omega) (by omega)) (by decide) (by decide) (by decide) (by decide) at_196 rfl pd_8 rfl rfl rfl rfl ?_
    rintro _ h' ⟨pa125, np126, fq127, s128, rfl, hs128, hlnp126, hunp126, hofq127, hwfq127, O'⟩
    refine ⟨_, O', ?_⟩
    have ht2 : s128.toInt = (((0 + cc0) + cc1 : Nat) : Int) := by rw [hs128]; exact own_add ht1 hc1 (by omega)
    change Wk p l e _ m _ below meth c _ _ n0 ((a84, ObjC Z "com/example/kensaku/kensaku/index/Postings$Builder" ks_0 [.ref b85, .ref b86, .ref pa125, .int ((1 : Int32) + (1 : Int32))]) :: (b85, ArrC Z .int 8 (upd (upd (fun _ => 0) 0 v72) 1 v73)) :: (b86, ArrC Z .int 9 (upd (upd (fun _ => 0) 1 s124) 2 s128)) :: (pa125, ArrC Z .int np126 fq127) :: (a82, ArrC Z .int 9 f83) :: (a80, ArrC Z .int 9 f81) :: (a78, ArrC Z .int 9 f79) :: []) 9 104 199 #[.val (.int x0), .val (.int x1), .val (.int x2), .val (.int x3), .val (.int x4), .val (.int x5), .val (.int (3 : Int32)), .val (.int v66), .val (.int v67), .val (.int v68), .val (.int v69), .val (.int v70), .val (.int v71), .val (.int v72), .val (.int v73), .val (.int v74), .val (.int v75), .val (.int v76), .val (.int v77), .val (.ref a78), .val (.ref a80), .val (.ref a82), .val (.ref a84), .unset, .unset] []
    refine Wk.iload (pc' := 201) C at_199 rfl rfl ?_
    refine Wk.iconst (z := (3 : Int32)) (pc' := 202) C at_201 rfl rfl ?_
    refine Wk.icmp_lt (pcT := 216) (pcF := 205) C at_202 (by decide) (by decide) rfl (fun q => absurd q (by decide)) (fun _ => ?_)
    refine Wk.aload (pc' := 207) C at_205 rfl rfl rfl ?_
    refine Wk.iload (pc' := 209) C at_207 rfl rfl ?_
    refine Wk.aload (pc' := 211) C at_209 rfl rfl rfl ?_
    refine Wk.iload (pc' := 213) C at_211 rfl rfl ?_
    refine Wk.callV (pc' := 216) (rm := { frames := 2, cells := 1, slots := 64, locals := 64 }) (W0 := 0) (q := 0) (argsL := [.int v74, .ref a82, .int v68]) (st := []) C rfl (w58 hw) (w59 hw) (w61 hw) (w60 hw) (w8 hw) (w62 hw) (by decide) (fun h O => rm9_2 l Z a0 hw a84 v74 a82 v68 ((a82, ArrC Z .int 9 f83) :: (a80, ArrC Z .int 9 f81) :: (a78, ArrC Z .int 9 f79) :: []) b85 b86 pa125 0 np126 ((0 + cc0) + cc1) cc2 (upd (upd (fun _ => 0) 0 v72) 1 v73) (upd (upd (fun _ => 0) 1 s124) 2 s128) fq127 f83 h n0 O rfl hc2 (by omega) ht2 (by omega) (by omega) (by omega)) (by decide) (by decide) (by decide) (by decide) at_213 rfl pd_8 rfl rfl rfl rfl ?_
    rintro _ h' ⟨pa129, np130, fq131, s132, rfl, hs132, hlnp130, hunp130, hofq131, hwfq131, O'⟩
    refine ⟨_, O', ?_⟩
    have ht3 : s132.toInt = ((((0 + cc0) + cc1) + cc2 : Nat) : Int) := by rw [hs132]; exact own_add ht2 hc2 (by omega)
    change Wk p l e _ m _ below meth c _ _ n0 ((a84, ObjC Z "com/example/kensaku/kensaku/index/Postings$Builder" ks_0 [.ref b85, .ref b86, .ref pa129, .int ((2 : Int32) + (1 : Int32))]) :: (b85, ArrC Z .int 8 (upd (upd (upd (fun _ => 0) 0 v72) 1 v73) 2 v74)) :: (b86, ArrC Z .int 9 (upd (upd (upd (fun _ => 0) 1 s124) 2 s128) 3 s132)) :: (pa129, ArrC Z .int np130 fq131) :: (a82, ArrC Z .int 9 f83) :: (a80, ArrC Z .int 9 f81) :: (a78, ArrC Z .int 9 f79) :: []) 10 168 216 #[.val (.int x0), .val (.int x1), .val (.int x2), .val (.int x3), .val (.int x4), .val (.int x5), .val (.int (3 : Int32)), .val (.int v66), .val (.int v67), .val (.int v68), .val (.int v69), .val (.int v70), .val (.int v71), .val (.int v72), .val (.int v73), .val (.int v74), .val (.int v75), .val (.int v76), .val (.int v77), .val (.ref a78), .val (.ref a80), .val (.ref a82), .val (.ref a84), .unset, .unset] []
    refine Wk.aload (pc' := 218) C at_216 rfl rfl rfl ?_
    refine Wk.callV (pc' := 221) (rm := { frames := 2, cells := 4, slots := 38, locals := 64 }) (W0 := 0) (q := 0) (argsL := []) (st := []) C rfl (w21 hw) (w22 hw) (w24 hw) (w23 hw) (w8 hw) (w25 hw) (by decide) (fun h O => rm4_3 l Z a0 hw a84 ((a82, ArrC Z .int 9 f83) :: (a80, ArrC Z .int 9 f81) :: (a78, ArrC Z .int 9 f79) :: []) b85 b86 pa129 ((2 : Int32) + (1 : Int32)) np130 (((0 + cc0) + cc1) + cc2) (upd (upd (upd (fun _ => 0) 0 v72) 1 v73) 2 v74) (upd (upd (upd (fun _ => 0) 1 s124) 2 s128) 3 s132) fq131 h n0 O (by decide) (by decide) ht3 (by omega) (by omega) (by omega)) (by decide) (by decide) (by decide) (by decide) at_218 rfl pd_6 rfl rfl rfl rfl ?_
    rintro _ h' ⟨P133, d134, s135, q136, gd137, gs138, gp139, rfl, hgd137, hgs138, hgp139, O'⟩
    refine ⟨_, O', ?_⟩
    change Wk p l e _ m _ below meth c _ _ n0 ((P133, ObjC Z "com/example/kensaku/kensaku/index/Postings" ks_1 [.ref d134, .ref s135, .ref q136]) :: (q136, ArrC Z .int ((((0 + cc0) + cc1) + cc2)) gp139) :: (s135, ArrC Z .int 4 gs138) :: (d134, ArrC Z .int 3 gd137) :: (a84, ObjC Z "com/example/kensaku/kensaku/index/Postings$Builder" ks_0 [.ref b85, .ref b86, .ref pa129, .int ((2 : Int32) + (1 : Int32))]) :: (b85, ArrC Z .int 8 (upd (upd (upd (fun _ => 0) 0 v72) 1 v73) 2 v74)) :: (b86, ArrC Z .int 9 (upd (upd (upd (fun _ => 0) 1 s124) 2 s128) 3 s132)) :: (pa129, ArrC Z .int np130 fq131) :: (a82, ArrC Z .int 9 f83) :: (a80, ArrC Z .int 9 f81) :: (a78, ArrC Z .int 9 f79) :: []) 14 206 221 #[.val (.int x0), .val (.int x1), .val (.int x2), .val (.int x3), .val (.int x4), .val (.int x5), .val (.int (3 : Int32)), .val (.int v66), .val (.int v67), .val (.int v68), .val (.int v69), .val (.int v70), .val (.int v71), .val (.int v72), .val (.int v73), .val (.int v74), .val (.int v75), .val (.int v76), .val (.int v77), .val (.ref a78), .val (.ref a80), .val (.ref a82), .val (.ref a84), .unset, .unset] [.ref P133]
    refine Wk.astore (Ls' := #[.val (.int x0), .val (.int x1), .val (.int x2), .val (.int x3), .val (.int x4), .val (.int x5), .val (.int (3 : Int32)), .val (.int v66), .val (.int v67), .val (.int v68), .val (.int v69), .val (.int v70), .val (.int v71), .val (.int v72), .val (.int v73), .val (.int v74), .val (.int v75), .val (.int v76), .val (.int v77), .val (.ref a78), .val (.ref a80), .val (.ref a82), .val (.ref a84), .val (.ref P133), .unset]) (pc' := 223) C at_221 rfl rfl rfl ?_
    refine Wk.aload (pc' := 225) C at_223 rfl rfl rfl ?_
    refine Wk.callV (pc' := 228) (rm := { frames := 0, cells := 0, slots := 0, locals := 0 }) (W0 := 0) (q := 0) (argsL := []) (st := []) C rfl (w53 hw) (w54 hw) (w56 hw) (w55 hw) (w28 hw) (w57 hw) (by decide) (fun h O => rm8 l Z a0 hw P133 ((P133, ObjC Z "com/example/kensaku/kensaku/index/Postings" ks_1 [.ref d134, .ref s135, .ref q136]) :: (q136, ArrC Z .int ((((0 + cc0) + cc1) + cc2)) gp139) :: (s135, ArrC Z .int 4 gs138) :: (d134, ArrC Z .int 3 gd137) :: (a84, ObjC Z "com/example/kensaku/kensaku/index/Postings$Builder" ks_0 [.ref b85, .ref b86, .ref pa129, .int ((2 : Int32) + (1 : Int32))]) :: (b85, ArrC Z .int 8 (upd (upd (upd (fun _ => 0) 0 v72) 1 v73) 2 v74)) :: (b86, ArrC Z .int 9 (upd (upd (upd (fun _ => 0) 1 s124) 2 s128) 3 s132)) :: (pa129, ArrC Z .int np130 fq131) :: (a82, ArrC Z .int 9 f83) :: (a80, ArrC Z .int 9 f81) :: (a78, ArrC Z .int 9 f79) :: []) 0 3 3 d134 s135 q136 gd137 h n0 O rfl rfl) (by decide) (by decide) (by decide) (by decide) at_225 rfl pd_7 rfl rfl rfl rfl ?_
    rintro _ h' ⟨rfl, O'⟩
    refine ⟨_, O', ?_⟩
    change Wk p l e _ m _ below meth c _ _ n0 ((P133, ObjC Z "com/example/kensaku/kensaku/index/Postings" ks_1 [.ref d134, .ref s135, .ref q136]) :: (q136, ArrC Z .int ((((0 + cc0) + cc1) + cc2)) gp139) :: (s135, ArrC Z .int 4 gs138) :: (d134, ArrC Z .int 3 gd137) :: (a84, ObjC Z "com/example/kensaku/kensaku/index/Postings$Builder" ks_0 [.ref b85, .ref b86, .ref pa129, .int ((2 : Int32) + (1 : Int32))]) :: (b85, ArrC Z .int 8 (upd (upd (upd (fun _ => 0) 0 v72) 1 v73) 2 v74)) :: (b86, ArrC Z .int 9 (upd (upd (upd (fun _ => 0) 1 s124) 2 s128) 3 s132)) :: (pa129, ArrC Z .int np130 fq131) :: (a82, ArrC Z .int 9 f83) :: (a80, ArrC Z .int 9 f81) :: (a78, ArrC Z .int 9 f79) :: []) 14 206 228 #[.val (.int x0), .val (.int x1), .val (.int x2), .val (.int x3), .val (.int x4), .val (.int x5), .val (.int (3 : Int32)), .val (.int v66), .val (.int v67), .val (.int v68), .val (.int v69), .val (.int v70), .val (.int v71), .val (.int v72), .val (.int v73), .val (.int v74), .val (.int v75), .val (.int v76), .val (.int v77), .val (.ref a78), .val (.ref a80), .val (.ref a82), .val (.ref a84), .val (.ref P133), .unset] [.int (3 : Int32)]
    refine Wk.iload (pc' := 230) C at_228 rfl rfl ?_
    refine Wk.icmp_ne (pcT := 237) (pcF := 233) C at_230 (by decide) (by decide) rfl (fun q => absurd q (by decide)) (fun _ => ?_)
    refine Wk.iconst (z := (1 : Int32)) (pc' := 234) C at_233 rfl rfl ?_
    refine Wk.goto (pc' := 238) C at_234 (by decide) (by decide) ?_
    refine Wk.istore (Ls' := #[.val (.int x0), .val (.int x1), .val (.int x2), .val (.int x3), .val (.int x4), .val (.int x5), .val (.int (3 : Int32)), .val (.int v66), .val (.int v67), .val (.int v68), .val (.int v69), .val (.int v70), .val (.int v71), .val (.int v72), .val (.int v73), .val (.int v74), .val (.int v75), .val (.int v76), .val (.int v77), .val (.ref a78), .val (.ref a80), .val (.ref a82), .val (.ref a84), .val (.ref P133), .val (.int (1 : Int32))]) (pc' := 240) C at_238 rfl rfl ?_
    refine Wk.iload (pc' := 242) C at_240 rfl rfl ?_
    refine Wk.if_eq (pcT := 267) (pcF := 245) C at_242 (by decide) (by decide) rfl (fun q => absurd q (by decide)) (fun _ => ?_)
    refine Wk.iload (pc' := 247) C at_245 rfl rfl ?_
    refine Wk.iconst (z := (1 : Int32)) (pc' := 248) C at_247 rfl rfl ?_
    refine Wk.icmp_lt (pcT := 267) (pcF := 251) C at_248 (by decide) (by decide) rfl (fun q => absurd q (by decide)) (fun _ => ?_)
    refine Wk.aload (pc' := 253) C at_251 rfl rfl rfl ?_
    refine Wk.iconst (z := (0 : Int32)) (pc' := 254) C at_253 rfl rfl ?_
    refine Wk.iload (pc' := 256) C at_254 rfl rfl ?_
    refine Wk.iload (pc' := 258) C at_256 rfl rfl ?_
    refine Wk.iload (pc' := 260) C at_258 rfl rfl ?_
    refine Wk.iload (pc' := 262) C at_260 rfl rfl ?_
    have ek0 : gd137 0 = v72 := hgd137 0 (by decide)
    have sk0 : gs138 1 = s124 := hgs138 1 (by decide)
    have sj0 : gs138 0 = (0 : Int32) := hgs138 0 (by decide)
    have dk0 : gs138 1 - gs138 0 = v66 := by rw [sk0, sj0, hs124]; exact own_diff _ _
    have pk0 : gp139 (0 + jj0) = v75 + v69 := ((((hgp139 _ (by omega)).trans (hofq131 _ (by omega))).trans (hofq127 _ (by omega))).trans (hwfq123 jj0 (by omega))).trans (own_run hf79 hjj0 (by omega))
    refine Wk.callS (pc' := 265) (rm := { frames := 1, cells := 0, slots := 0, locals := 20 }) (W0 := 0) (argsL := [.ref P133, .int (0 : Int32), .int v72, .int v66, .int v75, .int v69]) (st := []) C (w73 hw) (w74 hw) (w3 hw) (w75 hw) (by decide) (fun h O => rm10 l Z a0 hw P133 (0 : Int32) v72 v66 v75 v69 ((P133, ObjC Z "com/example/kensaku/kensaku/index/Postings" ks_1 [.ref d134, .ref s135, .ref q136]) :: (q136, ArrC Z .int ((((0 + cc0) + cc1) + cc2)) gp139) :: (s135, ArrC Z .int 4 gs138) :: (d134, ArrC Z .int 3 gd137) :: (a84, ObjC Z "com/example/kensaku/kensaku/index/Postings$Builder" ks_0 [.ref b85, .ref b86, .ref pa129, .int ((2 : Int32) + (1 : Int32))]) :: (b85, ArrC Z .int 8 (upd (upd (upd (fun _ => 0) 0 v72) 1 v73) 2 v74)) :: (b86, ArrC Z .int 9 (upd (upd (upd (fun _ => 0) 1 s124) 2 s128) 3 s132)) :: (pa129, ArrC Z .int np130 fq131) :: (a82, ArrC Z .int 9 f83) :: (a80, ArrC Z .int 9 f81) :: (a78, ArrC Z .int 9 f79) :: []) 0 3 2 1 3 4 ((((0 + cc0) + cc1) + cc2)) 0 (0) jj0 d134 s135 q136 gd137 gs138 gp139 h n0 O rfl rfl rfl rfl (by decide) (by decide) (by decide) (by decide) (by rw [sj0]; exact ht0) hjj0 (by omega) (by omega) ek0 dk0 pk0) (by decide) (by decide) (by decide) (by decide) at_262 rfl pd_9 rfl rfl rfl rfl ?_
    rintro _ h' ⟨rfl, O'⟩
    refine ⟨_, O', ?_⟩
    change Wk p l e _ m _ below meth c _ _ n0 ((P133, ObjC Z "com/example/kensaku/kensaku/index/Postings" ks_1 [.ref d134, .ref s135, .ref q136]) :: (q136, ArrC Z .int ((((0 + cc0) + cc1) + cc2)) gp139) :: (s135, ArrC Z .int 4 gs138) :: (d134, ArrC Z .int 3 gd137) :: (a84, ObjC Z "com/example/kensaku/kensaku/index/Postings$Builder" ks_0 [.ref b85, .ref b86, .ref pa129, .int ((2 : Int32) + (1 : Int32))]) :: (b85, ArrC Z .int 8 (upd (upd (upd (fun _ => 0) 0 v72) 1 v73) 2 v74)) :: (b86, ArrC Z .int 9 (upd (upd (upd (fun _ => 0) 1 s124) 2 s128) 3 s132)) :: (pa129, ArrC Z .int np130 fq131) :: (a82, ArrC Z .int 9 f83) :: (a80, ArrC Z .int 9 f81) :: (a78, ArrC Z .int 9 f79) :: []) 14 206 265 #[.val (.int x0), .val (.int x1), .val (.int x2), .val (.int x3), .val (.int x4), .val (.int x5), .val (.int (3 : Int32)), .val (.int v66), .val (.int v67), .val (.int v68), .val (.int v69), .val (.int v70), .val (.int v71), .val (.int v72), .val (.int v73), .val (.int v74), .val (.int v75), .val (.int v76), .val (.int v77), .val (.ref a78), .val (.ref a80), .val (.ref a82), .val (.ref a84), .val (.ref P133), .val (.int (1 : Int32))] [.int (1 : Int32)]
    refine Wk.istore (Ls' := #[.val (.int x0), .val (.int x1), .val (.int x2), .val (.int x3), .val (.int x4), .val (.int x5), .val (.int (3 : Int32)), .val (.int v66), .val (.int v67), .val (.int v68), .val (.int v69), .val (.int v70), .val (.int v71), .val (.int v72), .val (.int v73), .val (.int v74), .val (.int v75), .val (.int v76), .val (.int v77), .val (.ref a78), .val (.ref a80), .val (.ref a82), .val (.ref a84), .val (.ref P133), .val (.int (1 : Int32))]) (pc' := 267) C at_265 rfl rfl ?_
    refine Wk.iload (pc' := 269) C at_267 rfl rfl ?_
    refine Wk.if_eq (pcT := 294) (pcF := 272) C at_269 (by decide) (by decide) rfl (fun q => absurd q (by decide)) (fun _ => ?_)
    refine Wk.iload (pc' := 274) C at_272 rfl rfl ?_
    refine Wk.iconst (z := (2 : Int32)) (pc' := 275) C at_274 rfl rfl ?_
    refine Wk.icmp_lt (pcT := 294) (pcF := 278) C at_275 (by decide) (by decide) rfl (fun q => absurd q (by decide)) (fun _ => ?_)
    refine Wk.aload (pc' := 280) C at_278 rfl rfl rfl ?_
    refine Wk.iconst (z := (1 : Int32)) (pc' := 281) C at_280 rfl rfl ?_
    refine Wk.iload (pc' := 283) C at_281 rfl rfl ?_
    refine Wk.iload (pc' := 285) C at_283 rfl rfl ?_
    refine Wk.iload (pc' := 287) C at_285 rfl rfl ?_
    refine Wk.iload (pc' := 289) C at_287 rfl rfl ?_
    have ek1 : gd137 1 = v73 := hgd137 1 (by decide)
    have sk1 : gs138 2 = s128 := hgs138 2 (by decide)
    have sj1 : gs138 1 = s124 := hgs138 1 (by decide)
    have dk1 : gs138 2 - gs138 1 = v67 := by rw [sk1, sj1, hs128]; exact own_diff _ _
    have pk1 : gp139 ((0 + cc0) + jj1) = v76 + v70 := (((hgp139 _ (by omega)).trans (hofq131 _ (by omega))).trans (hwfq127 jj1 (by omega))).trans (own_run hf81 hjj1 (by omega))
    refine Wk.callS (pc' := 292) (rm := { frames := 1, cells := 0, slots := 0, locals := 20 }) (W0 := 0) (argsL := [.ref P133, .int (1 : Int32), .int v73, .int v67, .int v76, .int v70]) (st := []) C (w73 hw) (w74 hw) (w3 hw) (w75 hw) (by decide) (fun h O => rm10 l Z a0 hw P133 (1 : Int32) v73 v67 v76 v70 ((P133, ObjC Z "com/example/kensaku/kensaku/index/Postings" ks_1 [.ref d134, .ref s135, .ref q136]) :: (q136, ArrC Z .int ((((0 + cc0) + cc1) + cc2)) gp139) :: (s135, ArrC Z .int 4 gs138) :: (d134, ArrC Z .int 3 gd137) :: (a84, ObjC Z "com/example/kensaku/kensaku/index/Postings$Builder" ks_0 [.ref b85, .ref b86, .ref pa129, .int ((2 : Int32) + (1 : Int32))]) :: (b85, ArrC Z .int 8 (upd (upd (upd (fun _ => 0) 0 v72) 1 v73) 2 v74)) :: (b86, ArrC Z .int 9 (upd (upd (upd (fun _ => 0) 1 s124) 2 s128) 3 s132)) :: (pa129, ArrC Z .int np130 fq131) :: (a82, ArrC Z .int 9 f83) :: (a80, ArrC Z .int 9 f81) :: (a78, ArrC Z .int 9 f79) :: []) 0 3 2 1 3 4 ((((0 + cc0) + cc1) + cc2)) 1 ((0 + cc0)) jj1 d134 s135 q136 gd137 gs138 gp139 h n0 O rfl rfl rfl rfl (by decide) (by decide) (by decide) (by decide) (by rw [sj1]; exact ht1) hjj1 (by omega) (by omega) ek1 dk1 pk1) (by decide) (by decide) (by decide) (by decide) at_289 rfl pd_9 rfl rfl rfl rfl ?_
    rintro _ h' ⟨rfl, O'⟩
    refine ⟨_, O', ?_⟩
    change Wk p l e _ m _ below meth c _ _ n0 ((P133, ObjC Z "com/example/kensaku/kensaku/index/Postings" ks_1 [.ref d134, .ref s135, .ref q136]) :: (q136, ArrC Z .int ((((0 + cc0) + cc1) + cc2)) gp139) :: (s135, ArrC Z .int 4 gs138) :: (d134, ArrC Z .int 3 gd137) :: (a84, ObjC Z "com/example/kensaku/kensaku/index/Postings$Builder" ks_0 [.ref b85, .ref b86, .ref pa129, .int ((2 : Int32) + (1 : Int32))]) :: (b85, ArrC Z .int 8 (upd (upd (upd (fun _ => 0) 0 v72) 1 v73) 2 v74)) :: (b86, ArrC Z .int 9 (upd (upd (upd (fun _ => 0) 1 s124) 2 s128) 3 s132)) :: (pa129, ArrC Z .int np130 fq131) :: (a82, ArrC Z .int 9 f83) :: (a80, ArrC Z .int 9 f81) :: (a78, ArrC Z .int 9 f79) :: []) 14 206 292 #[.val (.int x0), .val (.int x1), .val (.int x2), .val (.int x3), .val (.int x4), .val (.int x5), .val (.int (3 : Int32)), .val (.int v66), .val (.int v67), .val (.int v68), .val (.int v69), .val (.int v70), .val (.int v71), .val (.int v72), .val (.int v73), .val (.int v74), .val (.int v75), .val (.int v76), .val (.int v77), .val (.ref a78), .val (.ref a80), .val (.ref a82), .val (.ref a84), .val (.ref P133), .val (.int (1 : Int32))] [.int (1 : Int32)]
    refine Wk.istore (Ls' := #[.val (.int x0), .val (.int x1), .val (.int x2), .val (.int x3), .val (.int x4), .val (.int x5), .val (.int (3 : Int32)), .val (.int v66), .val (.int v67), .val (.int v68), .val (.int v69), .val (.int v70), .val (.int v71), .val (.int v72), .val (.int v73), .val (.int v74), .val (.int v75), .val (.int v76), .val (.int v77), .val (.ref a78), .val (.ref a80), .val (.ref a82), .val (.ref a84), .val (.ref P133), .val (.int (1 : Int32))]) (pc' := 294) C at_292 rfl rfl ?_
    refine Wk.iload (pc' := 296) C at_294 rfl rfl ?_
    refine Wk.if_eq (pcT := 321) (pcF := 299) C at_296 (by decide) (by decide) rfl (fun q => absurd q (by decide)) (fun _ => ?_)
    refine Wk.iload (pc' := 301) C at_299 rfl rfl ?_
    refine Wk.iconst (z := (3 : Int32)) (pc' := 302) C at_301 rfl rfl ?_
    refine Wk.icmp_lt (pcT := 321) (pcF := 305) C at_302 (by decide) (by decide) rfl (fun q => absurd q (by decide)) (fun _ => ?_)
    refine Wk.aload (pc' := 307) C at_305 rfl rfl rfl ?_
    refine Wk.iconst (z := (2 : Int32)) (pc' := 308) C at_307 rfl rfl ?_
    refine Wk.iload (pc' := 310) C at_308 rfl rfl ?_
    refine Wk.iload (pc' := 312) C at_310 rfl rfl ?_
    refine Wk.iload (pc' := 314) C at_312 rfl rfl ?_
    refine Wk.iload (pc' := 316) C at_314 rfl rfl ?_
    have ek2 : gd137 2 = v74 := hgd137 2 (by decide)
    have sk2 : gs138 3 = s132 := hgs138 3 (by decide)
    have sj2 : gs138 2 = s128 := hgs138 2 (by decide)
    have dk2 : gs138 3 - gs138 2 = v68 := by rw [sk2, sj2, hs132]; exact own_diff _ _
    have pk2 : gp139 (((0 + cc0) + cc1) + jj2) = v77 + v71 := ((hgp139 _ (by omega)).trans (hwfq131 jj2 (by omega))).trans (own_run hf83 hjj2 (by omega))
    refine Wk.callS (pc' := 319) (rm := { frames := 1, cells := 0, slots := 0, locals := 20 }) (W0 := 0) (argsL := [.ref P133, .int (2 : Int32), .int v74, .int v68, .int v77, .int v71]) (st := []) C (w73 hw) (w74 hw) (w3 hw) (w75 hw) (by decide) (fun h O => rm10 l Z a0 hw P133 (2 : Int32) v74 v68 v77 v71 ((P133, ObjC Z "com/example/kensaku/kensaku/index/Postings" ks_1 [.ref d134, .ref s135, .ref q136]) :: (q136, ArrC Z .int ((((0 + cc0) + cc1) + cc2)) gp139) :: (s135, ArrC Z .int 4 gs138) :: (d134, ArrC Z .int 3 gd137) :: (a84, ObjC Z "com/example/kensaku/kensaku/index/Postings$Builder" ks_0 [.ref b85, .ref b86, .ref pa129, .int ((2 : Int32) + (1 : Int32))]) :: (b85, ArrC Z .int 8 (upd (upd (upd (fun _ => 0) 0 v72) 1 v73) 2 v74)) :: (b86, ArrC Z .int 9 (upd (upd (upd (fun _ => 0) 1 s124) 2 s128) 3 s132)) :: (pa129, ArrC Z .int np130 fq131) :: (a82, ArrC Z .int 9 f83) :: (a80, ArrC Z .int 9 f81) :: (a78, ArrC Z .int 9 f79) :: []) 0 3 2 1 3 4 ((((0 + cc0) + cc1) + cc2)) 2 (((0 + cc0) + cc1)) jj2 d134 s135 q136 gd137 gs138 gp139 h n0 O rfl rfl rfl rfl (by decide) (by decide) (by decide) (by decide) (by rw [sj2]; exact ht2) hjj2 (by omega) (by omega) ek2 dk2 pk2) (by decide) (by decide) (by decide) (by decide) at_316 rfl pd_9 rfl rfl rfl rfl ?_
    rintro _ h' ⟨rfl, O'⟩
    refine ⟨_, O', ?_⟩
    change Wk p l e _ m _ below meth c _ _ n0 ((P133, ObjC Z "com/example/kensaku/kensaku/index/Postings" ks_1 [.ref d134, .ref s135, .ref q136]) :: (q136, ArrC Z .int ((((0 + cc0) + cc1) + cc2)) gp139) :: (s135, ArrC Z .int 4 gs138) :: (d134, ArrC Z .int 3 gd137) :: (a84, ObjC Z "com/example/kensaku/kensaku/index/Postings$Builder" ks_0 [.ref b85, .ref b86, .ref pa129, .int ((2 : Int32) + (1 : Int32))]) :: (b85, ArrC Z .int 8 (upd (upd (upd (fun _ => 0) 0 v72) 1 v73) 2 v74)) :: (b86, ArrC Z .int 9 (upd (upd (upd (fun _ => 0) 1 s124) 2 s128) 3 s132)) :: (pa129, ArrC Z .int np130 fq131) :: (a82, ArrC Z .int 9 f83) :: (a80, ArrC Z .int 9 f81) :: (a78, ArrC Z .int 9 f79) :: []) 14 206 319 #[.val (.int x0), .val (.int x1), .val (.int x2), .val (.int x3), .val (.int x4), .val (.int x5), .val (.int (3 : Int32)), .val (.int v66), .val (.int v67), .val (.int v68), .val (.int v69), .val (.int v70), .val (.int v71), .val (.int v72), .val (.int v73), .val (.int v74), .val (.int v75), .val (.int v76), .val (.int v77), .val (.ref a78), .val (.ref a80), .val (.ref a82), .val (.ref a84), .val (.ref P133), .val (.int (1 : Int32))] [.int (1 : Int32)]
    refine Wk.istore (Ls' := #[.val (.int x0), .val (.int x1), .val (.int x2), .val (.int x3), .val (.int x4), .val (.int x5), .val (.int (3 : Int32)), .val (.int v66), .val (.int v67), .val (.int v68), .val (.int v69), .val (.int v70), .val (.int v71), .val (.int v72), .val (.int v73), .val (.int v74), .val (.int v75), .val (.int v76), .val (.int v77), .val (.ref a78), .val (.ref a80), .val (.ref a82), .val (.ref a84), .val (.ref P133), .val (.int (1 : Int32))]) (pc' := 321) C at_319 rfl rfl ?_
    refine Wk.iload (pc' := 323) C at_321 rfl rfl ?_
    exact Wk.retN C J at_323 (by decide) (by decide) (by simp) rfl (fun h O => rfl)
set_option maxRecDepth 65536 in
set_option maxHeartbeats 4000000 in
theorem comes_1 {Post : Tables → Env → Array Value → State → Outcome → State → Prop} (hpost : ∀ tb e args s v u, (limb_1_1.after args s (.returned v) u = true ∧ limb_1_2.after args s (.returned v) u = true ∧ True) → FrameEnd s (.returned v) u (Jvm.fieldLocs frame_1_writes args s ++ Jvm.arrayLocs frame_1_arrays args s ++ Jvm.staticLocs frame_1_statics s) 40 384 → Post tb e args s (.returned v) u) :
    ArmFor flags0 classFile x code maxLocals ret World_1 tables_1 room_1 Calls_1 rest_1 Pre_1 Post := by
  intro l hfl _ _ p e ha hc hk s m args below hf hA hF happ hP
  obtain ⟨hcalls, hrest, hpre⟩ := hP
  obtain ⟨-, -, -, hnamed, -, -, -, hat⟩ := (Spec.applies_iff hf).mp happ
  obtain ⟨hg, hn⟩ := and_e (Cond.before_iff.mp (show (Jvm.Cond.and given_1 narrow_1).before args s = true from hpre))
  obtain ⟨hcount, hr0⟩ := and_e hg
  obtain ⟨hi0, hr1⟩ := and_e hr0
  obtain ⟨hi1, hr2⟩ := and_e hr1
  obtain ⟨hi2, hr3⟩ := and_e hr2
  obtain ⟨hi3, hr4⟩ := and_e hr3
  obtain ⟨hi4, hr5⟩ := and_e hr4
  have hi5 := hr5
  obtain ⟨w0, w1, w2, w3, w4, w5, rfl⟩ : ∃ w0 w1 w2 w3 w4 w5 : Value, args = #[w0, w1, w2, w3, w4, w5] := by
    have hs : args.size = 6 := by simpa [Cond.value, given_1] using hcount
    obtain ⟨L⟩ := args
    match L, hs with
    | [w0, w1, w2, w3, w4, w5], _ => exact ⟨w0, w1, w2, w3, w4, w5, rfl⟩
  have hw : HW s _ := fun d (hd : d ∈ tables_1) => atoms_spec (ws := Jvm.Cond.code x code maxLocals ret :: tables_1) hat d (List.mem_cons_of_mem _ hd)
  obtain ⟨i0, e0⟩ := is_v hi0
  obtain rfl : w0 = (.int i0) := Option.some.inj e0
  obtain ⟨i1, e1⟩ := is_v hi1
  obtain rfl : w1 = (.int i1) := Option.some.inj e1
  obtain ⟨i2, e2⟩ := is_v hi2
  obtain rfl : w2 = (.int i2) := Option.some.inj e2
  obtain ⟨i3, e3⟩ := is_v hi3
  obtain rfl : w3 = (.int i3) := Option.some.inj e3
  obtain ⟨i4, e4⟩ := is_v hi4
  obtain rfl : w4 = (.int i4) := Option.some.inj e4
  obtain ⟨i5, e5⟩ := is_v hi5
  obtain rfl : w5 = (.int i5) := Option.some.inj e5
  obtain ⟨n, o, h1, h2, h3, _, L, rfl, ⟨rfl, -, N⟩, hq⟩ := rmLaw l s _ hw i0 i1 i2 i3 i4 i5 s.heap s.heap.size (Own.nil (Nat.le_refl _)) p e ha hc hk s m _ below hf ((Spec.applies_iff_loose hf).mp happ).1 ⟨rfl, State.Warmed39.refl s, rfl⟩ trivial
  refine ⟨n, _, h1, h2, h3, hpost _ _ _ _ _ _ ⟨Cond.after_iff.mpr rfl, Cond.after_iff.mpr (eq_i res_at (Term.int_eval (1)) rfl), trivial⟩ ⟨hq.1, hq.2.1, (hq.2.2.sift fun y hy => Or.inr (N y hy)).mono (by decide) (by decide)⟩⟩
theorem main_1_1 : Claimed_1_1 := comes_1 fun _ _ _ _ _ _ h hF => ⟨h.1, hF⟩
theorem main_1_2 : Claimed_1_2 := comes_1 fun _ _ _ _ _ _ h hF => ⟨h.2.1, hF⟩
end Jvm.Pilot.@@N@@
namespace Jvm.Pilot.@@N@@
open Jvm Jvm.ClassFile Sem Op Lib Jvm.Free Jvm.Stand Jvm.Pilot.@@N@@.Jvm.D
/-! MADE BY PROGRAM (witnessworld.py) out of the Statement's table words and the real class files: 13 classes; the members and pool entries that the words name. The judged class is class 1, her method 1. -/
namespace start1
open Jvm.ClassFile
def u (s : String) : CpInfo := .utf8 (stringToUtf16 s)
/-- a pool by its gaps: so many unusable entries, then the entry; so many at the end -/
def gap : Nat → List CpInfo → List CpInfo
  | 0, r => r
  | n + 1, r => .unusable :: gap n r
def poolList (es : List (Nat × CpInfo)) (last : Nat) : List CpInfo := es.foldr (fun e r => gap e.1 (e.2 :: r)) (gap last [])
def pool (es : List (Nat × CpInfo)) (last : Nat) : Array CpInfo := ⟨poolList es last⟩
def fileOf (pool : Array CpInfo) (this : Nat) (attrs : Array Attribute := #[]) (ms : Array MethodInfo := #[]) (fl : Nat := 33) (sup : Nat := 0) (ifs : Array Nat := #[]) (fds : Array FieldInfo := #[]) : ClassFile where
  minorVersion := 0
  majorVersion := 65
  constantPool := pool
  accessFlags := fl
  thisClass := this
  superClass := sup
  interfaces := ifs
  fields := fds
  methods := ms
  attributes := attrs
def plain (name : String) (sup : Option ClassId) : Class where
  name := name
  kind := .ordinary
  loader := none
  accessFlags := 33
  super := sup
  interfaces := #[]
  cf := none
  fields := #[]
  methods := #[]
  instanceTypes := #[]
  staticTypes := #[]
  resolved := #[]
  callSites := []
  init := .initialized
  statics := none
  mirror := none

def pool0 : Array CpInfo := pool [(5, u "<init>"), (0, u "()V"), (1, .class_ 10), (1, u "java/lang/Object"), (85, u "clone"), (0, u "()Ljava/lang/Object;")] 26

def k0c0 : Code := { maxStack := 0, maxLocals := 1, code := object_method_1_code, exceptionTable := #[], attributes := #[] }
def k0m0 : Method := { name := "<init>", desc := "()V", sig := { parameters := [], returnType := none }, accessFlags := 1, code := some k0c0 }
def k0m1 : Method := { name := "clone", desc := "()Ljava/lang/Object;", sig := { parameters := [], returnType := some (.object "java/lang/Object") }, accessFlags := 260, code := none }
/-- java/lang/Object -/
def k0 : Class := { plain "java/lang/Object" none with
  accessFlags := 33
  interfaces := #[]
  cf := some (fileOf pool0 8 #[] #[{ accessFlags := 1, nameIndex := 5, descriptorIndex := 6, attributes := #[] }, { accessFlags := 260, nameIndex := 96, descriptorIndex := 97, attributes := #[] }] 33 0 #[] #[])
  fields := #[]
  methods := #[k0m0, k0m1]
  instanceTypes := #[]
  staticTypes := #[]
  resolved := Array.replicate 124 none
  statics := none }

def pool1 : Array CpInfo := pool [(2, .class_ 4), (0, .nameAndType 5 6), (0, u "java/lang/Object"), (0, u "<init>"), (0, u "()V"), (0, .integer 1073741823), (0, .methodref 9 10), (0, .class_ 11), (0, .nameAndType 12 13), (0, u "com/example/kensaku/kensaku/index/BuilderBuildPinLaw"), (0, u "run"), (0, u "(I)[I"), (0, .class_ 15), (0, u "com/example/kensaku/kensaku/index/Postings$Builder"), (0, .methodref 14 3), (0, .methodref 14 18), (0, .nameAndType 19 20), (0, u "add"), (0, u "(I[II)V"), (0, .methodref 14 22), (0, .nameAndType 23 24), (0, u "build"), (0, u "()Lcom/example/kensaku/kensaku/index/Postings;"), (0, .methodref 26 27), (0, .class_ 28), (0, .nameAndType 29 30), (0, u "com/example/kensaku/kensaku/index/Postings"), (0, u "size"), (0, u "()I"), (0, .methodref 9 32), (0, .nameAndType 33 34), (0, u "entry"), (0, u "(Lcom/example/kensaku/kensaku/index/Postings;IIIII)Z"), (0, .methodref 26 36), (0, .nameAndType 37 38), (0, u "document"), (0, u "(I)I"), (0, .methodref 26 40), (0, .nameAndType 41 38), (0, u "frequency"), (0, .methodref 26 43), (0, .nameAndType 44 45), (0, u "position"), (0, u "(II)I"), (2, u "law"), (0, u "(IIIIII)Z")] 7

def k1m0 : Method := { name := "<init>", desc := "()V", sig := { parameters := [], returnType := none }, accessFlags := 1, code := none }
def k1c1 : Code := { maxStack := 6, maxLocals := 25, code := code, exceptionTable := #[], attributes := #[] }
def k1m1 : Method := { name := "law", desc := "(IIIIII)Z", sig := { parameters := [.int, .int, .int, .int, .int, .int], returnType := some .boolean }, accessFlags := 9, code := some k1c1 }
def k1c2 : Code := { maxStack := 5, maxLocals := 1, code := method_3_code, exceptionTable := #[], attributes := #[] }
def k1m2 : Method := { name := "run", desc := "(I)[I", sig := { parameters := [.int], returnType := some (.array .int) }, accessFlags := 10, code := some k1c2 }
def k1c3 : Code := { maxStack := 3, maxLocals := 6, code := method_4_code, exceptionTable := #[], attributes := #[] }
def k1m3 : Method := { name := "entry", desc := "(Lcom/example/kensaku/kensaku/index/Postings;IIIII)Z", sig := { parameters := [(.object "com/example/kensaku/kensaku/index/Postings"), .int, .int, .int, .int, .int], returnType := some .boolean }, accessFlags := 10, code := some k1c3 }
/-- com/example/kensaku/kensaku/index/BuilderBuildPinLaw -/
def k1 : Class := { plain "com/example/kensaku/kensaku/index/BuilderBuildPinLaw" (some 0) with
  accessFlags := 49
  interfaces := #[]
  cf := some (fileOf pool1 9 #[] #[{ accessFlags := 1, nameIndex := 5, descriptorIndex := 6, attributes := #[] }, { accessFlags := 9, nameIndex := 48, descriptorIndex := 49, attributes := #[] }, { accessFlags := 10, nameIndex := 12, descriptorIndex := 13, attributes := #[] }, { accessFlags := 10, nameIndex := 33, descriptorIndex := 34, attributes := #[] }] 49 2 #[] #[])
  fields := #[]
  methods := #[k1m0, k1m1, k1m2, k1m3]
  instanceTypes := #[]
  staticTypes := #[]
  resolved := Array.replicate 57 none
  statics := none }

def pool2 : Array CpInfo := pool [(1, .methodref 2 3), (0, .class_ 4), (0, .nameAndType 5 6), (0, u "java/lang/Object"), (0, u "<init>"), (0, u "()V"), (0, .fieldref 8 9), (0, .class_ 10), (0, .nameAndType 11 12), (0, u "com/example/kensaku/kensaku/index/Postings$Builder"), (0, u "documents"), (0, u "[I"), (0, .fieldref 8 14), (0, .nameAndType 15 12), (0, u "starts"), (0, .fieldref 8 17), (0, .nameAndType 18 12), (0, u "positions"), (0, .fieldref 8 20), (0, .nameAndType 21 22), (0, u "size"), (0, u "I"), (0, .methodref 24 25), (0, .class_ 26), (0, .nameAndType 27 28), (0, u "java/util/Arrays"), (0, u "copyOf"), (0, u "([II)[I"), (0, .methodref 30 31), (0, .class_ 32), (0, .nameAndType 33 34), (0, u "java/lang/Math"), (0, u "max"), (0, u "(II)I"), (0, .methodref 36 37), (0, .class_ 38), (0, .nameAndType 39 40), (0, u "java/lang/System"), (0, u "arraycopy"), (0, u "(Ljava/lang/Object;ILjava/lang/Object;II)V"), (0, .class_ 42), (0, u "com/example/kensaku/kensaku/index/Postings"), (0, .methodref 41 44), (0, .nameAndType 5 45), (0, u "([I[I[I)V"), (2, u "add"), (0, u "(I[II)V"), (1, u "build"), (0, u "()Lcom/example/kensaku/kensaku/index/Postings;")] 5

def k2c0 : Code := { maxStack := 2, maxLocals := 1, code := prog_20_method_1_code, exceptionTable := #[], attributes := #[] }
def k2m0 : Method := { name := "<init>", desc := "()V", sig := { parameters := [], returnType := none }, accessFlags := 1, code := some k2c0 }
def k2c1 : Code := { maxStack := 5, maxLocals := 5, code := prog_20_method_2_code, exceptionTable := #[], attributes := #[] }
def k2m1 : Method := { name := "add", desc := "(I[II)V", sig := { parameters := [.int, (.array .int), .int], returnType := none }, accessFlags := 1, code := some k2c1 }
def k2c2 : Code := { maxStack := 7, maxLocals := 1, code := prog_20_method_3_code, exceptionTable := #[], attributes := #[] }
def k2m2 : Method := { name := "build", desc := "()Lcom/example/kensaku/kensaku/index/Postings;", sig := { parameters := [], returnType := some (.object "com/example/kensaku/kensaku/index/Postings") }, accessFlags := 1, code := some k2c2 }
/-- com/example/kensaku/kensaku/index/Postings$Builder -/
def k2 : Class := { plain "com/example/kensaku/kensaku/index/Postings$Builder" (some 0) with
  accessFlags := 33
  interfaces := #[]
  cf := some (fileOf pool2 8 #[.nestHost 41] #[{ accessFlags := 1, nameIndex := 5, descriptorIndex := 6, attributes := #[] }, { accessFlags := 1, nameIndex := 48, descriptorIndex := 49, attributes := #[] }, { accessFlags := 1, nameIndex := 51, descriptorIndex := 52, attributes := #[] }] 33 2 #[] #[{ accessFlags := 2, nameIndex := 11, descriptorIndex := 12, attributes := #[] }, { accessFlags := 2, nameIndex := 15, descriptorIndex := 12, attributes := #[] }, { accessFlags := 2, nameIndex := 18, descriptorIndex := 12, attributes := #[] }, { accessFlags := 2, nameIndex := 21, descriptorIndex := 22, attributes := #[] }])
  fields := #[{ name := "documents", type := (.array .int), accessFlags := 2, slot := 0, constantValue := 0 }, { name := "starts", type := (.array .int), accessFlags := 2, slot := 1, constantValue := 0 }, { name := "positions", type := (.array .int), accessFlags := 2, slot := 2, constantValue := 0 }, { name := "size", type := .int, accessFlags := 2, slot := 3, constantValue := 0 }]
  methods := #[k2m0, k2m1, k2m2]
  instanceTypes := #[(.array .int), (.array .int), (.array .int), .int]
  staticTypes := #[]
  resolved := Array.replicate 58 none
  statics := none }

def pool3 : Array CpInfo := pool [(1, .methodref 2 3), (0, .class_ 4), (0, .nameAndType 5 6), (0, u "java/lang/Object"), (0, u "<init>"), (0, u "()V"), (0, .fieldref 8 9), (0, .class_ 10), (0, .nameAndType 11 12), (0, u "com/example/kensaku/kensaku/index/Postings"), (0, u "documents"), (0, u "[I"), (0, .fieldref 8 14), (0, .nameAndType 15 12), (0, u "starts"), (0, .fieldref 8 17), (0, .nameAndType 18 12), (0, u "positions"), (4, u "size"), (0, u "()I"), (4, .class_ 30), (0, u "com/example/kensaku/kensaku/index/Postings$Builder"), (8, u "document"), (0, u "(I)I"), (2, u "frequency"), (5, u "(II)I"), (24, u "([I[I[I)V"), (2, u "position")] 12

def k3c0 : Code := { maxStack := 2, maxLocals := 4, code := prog_19_method_1_code, exceptionTable := #[], attributes := #[] }
def k3m0 : Method := { name := "<init>", desc := "([I[I[I)V", sig := { parameters := [(.array .int), (.array .int), (.array .int)], returnType := none }, accessFlags := 2, code := some k3c0 }
def k3c1 : Code := { maxStack := 1, maxLocals := 1, code := prog_19_method_2_code, exceptionTable := #[], attributes := #[] }
def k3m1 : Method := { name := "size", desc := "()I", sig := { parameters := [], returnType := some .int }, accessFlags := 1, code := some k3c1 }
def k3c2 : Code := { maxStack := 2, maxLocals := 2, code := prog_19_method_3_code, exceptionTable := #[], attributes := #[] }
def k3m2 : Method := { name := "document", desc := "(I)I", sig := { parameters := [.int], returnType := some .int }, accessFlags := 1, code := some k3c2 }
def k3c3 : Code := { maxStack := 3, maxLocals := 2, code := prog_19_method_4_code, exceptionTable := #[], attributes := #[] }
def k3m3 : Method := { name := "frequency", desc := "(I)I", sig := { parameters := [.int], returnType := some .int }, accessFlags := 1, code := some k3c3 }
def k3c4 : Code := { maxStack := 3, maxLocals := 3, code := prog_19_method_5_code, exceptionTable := #[], attributes := #[] }
def k3m4 : Method := { name := "position", desc := "(II)I", sig := { parameters := [.int, .int], returnType := some .int }, accessFlags := 1, code := some k3c4 }
/-- com/example/kensaku/kensaku/index/Postings -/
def k3 : Class := { plain "com/example/kensaku/kensaku/index/Postings" (some 0) with
  accessFlags := 33
  interfaces := #[]
  cf := some (fileOf pool3 8 #[.nestMembers #[29]] #[{ accessFlags := 2, nameIndex := 5, descriptorIndex := 74, attributes := #[] }, { accessFlags := 1, nameIndex := 23, descriptorIndex := 24, attributes := #[] }, { accessFlags := 1, nameIndex := 39, descriptorIndex := 40, attributes := #[] }, { accessFlags := 1, nameIndex := 43, descriptorIndex := 40, attributes := #[] }, { accessFlags := 1, nameIndex := 77, descriptorIndex := 49, attributes := #[] }] 33 2 #[] #[{ accessFlags := 18, nameIndex := 11, descriptorIndex := 12, attributes := #[] }, { accessFlags := 18, nameIndex := 15, descriptorIndex := 12, attributes := #[] }, { accessFlags := 18, nameIndex := 18, descriptorIndex := 12, attributes := #[] }])
  fields := #[{ name := "documents", type := (.array .int), accessFlags := 18, slot := 0, constantValue := 0 }, { name := "starts", type := (.array .int), accessFlags := 18, slot := 1, constantValue := 0 }, { name := "positions", type := (.array .int), accessFlags := 18, slot := 2, constantValue := 0 }]
  methods := #[k3m0, k3m1, k3m2, k3m3, k3m4]
  instanceTypes := #[(.array .int), (.array .int), (.array .int)]
  staticTypes := #[]
  resolved := Array.replicate 90 none
  statics := none }

def pool4 : Array CpInfo := pool [(2, .class_ 4), (1, u "java/lang/Object"), (0, u "<init>"), (0, u "()V"), (7, .class_ 16), (1, u "java/util/Arrays"), (57, .class_ 76), (1, u "java/util/Arrays$NaturalOrder"), (32, u "()Ljava/lang/Object;"), (3, .class_ 115), (1, u "java/util/Arrays$LegacyMergeSort"), (1, u "Z"), (10, .nameAndType 129 109), (0, u "clone"), (20, .methodref 151 152), (0, .class_ 153), (0, .nameAndType 154 155), (0, u "java/lang/System"), (0, u "arraycopy"), (0, u "(Ljava/lang/Object;ILjava/lang/Object;II)V"), (146, u "copyOf"), (1, .methodref 305 306), (0, .class_ 307), (0, .nameAndType 308 309), (0, u "java/lang/Math"), (0, u "min"), (0, u "(II)I"), (6, .methodref 317 128), (0, .class_ 318), (0, u "[I"), (56, .class_ 376), (0, u "java/util/Arrays$ArrayList"), (68, u "$assertionsDisabled"), (269, u "MIN_ARRAY_SORT_GRAN"), (0, u "I"), (2, u "INSERTIONSORT_THRESHOLD"), (151, u "([II)[I"), (103, .class_ 976), (0, u "java/util/Arrays$ArrayItr")] 52

def k4m0 : Method := { name := "<init>", desc := "()V", sig := { parameters := [], returnType := none }, accessFlags := 2, code := none }
def k4c1 : Code := { maxStack := 6, maxLocals := 3, code := jdk_65_method_123_code, exceptionTable := #[], attributes := #[] }
def k4m1 : Method := { name := "copyOf", desc := "([II)[I", sig := { parameters := [(.array .int), .int], returnType := some (.array .int) }, accessFlags := 9, code := some k4c1 }
/-- java/util/Arrays -/
def k4 : Class := { plain "java/util/Arrays" (some 0) with
  accessFlags := 49
  interfaces := #[]
  cf := some (fileOf pool4 14 #[.nestMembers #[975, 375, 113, 74]] #[{ accessFlags := 2, nameIndex := 5, descriptorIndex := 6, attributes := #[] }, { accessFlags := 9, nameIndex := 302, descriptorIndex := 871, attributes := #[] }] 49 2 #[] #[{ accessFlags := 26, nameIndex := 715, descriptorIndex := 716, attributes := #[] }, { accessFlags := 26, nameIndex := 719, descriptorIndex := 716, attributes := #[] }, { accessFlags := 4120, nameIndex := 445, descriptorIndex := 117, attributes := #[] }])
  fields := #[{ name := "MIN_ARRAY_SORT_GRAN", type := .int, accessFlags := 26, slot := 0, constantValue := 0 }, { name := "INSERTIONSORT_THRESHOLD", type := .int, accessFlags := 26, slot := 1, constantValue := 0 }, { name := "$assertionsDisabled", type := .boolean, accessFlags := 4120, slot := 2, constantValue := 0 }]
  methods := #[k4m0, k4m1]
  instanceTypes := #[]
  staticTypes := #[.int, .int, .boolean]
  resolved := Array.replicate 1029 none
  statics := none }

def pool5 : Array CpInfo := pool [(1, .class_ 2), (0, u "java/lang/Math"), (1, .class_ 6), (1, u "java/lang/Object"), (0, u "<init>"), (0, u "()V"), (89, .class_ 100), (1, u "java/lang/Math$RandomNumberGeneratorHolder"), (71, u "negativeZeroFloatBits"), (0, u "J"), (2, u "negativeZeroDoubleBits"), (21, u "max"), (2, u "min"), (43, u "$assertionsDisabled"), (0, u "Z"), (88, u "(II)I"), (2, u "twoToTheDoubleScaleDown"), (0, u "D"), (4, u "twoToTheDoubleScaleUp"), (9, u "E"), (3, u "PI"), (2, u "TAU"), (2, u "DEGREES_TO_RADIANS"), (0, u "RADIANS_TO_DEGREES")] 94

def k5m0 : Method := { name := "<init>", desc := "()V", sig := { parameters := [], returnType := none }, accessFlags := 2, code := none }
def k5c1 : Code := { maxStack := 2, maxLocals := 2, code := jdk_29_method_65_code, exceptionTable := #[], attributes := #[] }
def k5m1 : Method := { name := "max", desc := "(II)I", sig := { parameters := [.int, .int], returnType := some .int }, accessFlags := 9, code := some k5c1 }
def k5c2 : Code := { maxStack := 2, maxLocals := 2, code := jdk_29_method_69_code, exceptionTable := #[], attributes := #[] }
def k5m2 : Method := { name := "min", desc := "(II)I", sig := { parameters := [.int, .int], returnType := some .int }, accessFlags := 9, code := some k5c2 }
/-- java/lang/Math -/
def k5 : Class := { plain "java/lang/Math" (some 0) with
  accessFlags := 49
  interfaces := #[]
  cf := some (fileOf pool5 1 #[.nestMembers #[98]] #[{ accessFlags := 2, nameIndex := 7, descriptorIndex := 8, attributes := #[] }, { accessFlags := 9, nameIndex := 198, descriptorIndex := 335, attributes := #[] }, { accessFlags := 9, nameIndex := 201, descriptorIndex := 335, attributes := #[] }] 49 4 #[] #[{ accessFlags := 25, nameIndex := 354, descriptorIndex := 339, attributes := #[] }, { accessFlags := 25, nameIndex := 358, descriptorIndex := 339, attributes := #[] }, { accessFlags := 25, nameIndex := 361, descriptorIndex := 339, attributes := #[] }, { accessFlags := 26, nameIndex := 364, descriptorIndex := 339, attributes := #[] }, { accessFlags := 26, nameIndex := 365, descriptorIndex := 339, attributes := #[] }, { accessFlags := 26, nameIndex := 172, descriptorIndex := 173, attributes := #[] }, { accessFlags := 26, nameIndex := 176, descriptorIndex := 173, attributes := #[] }, { accessFlags := 8, nameIndex := 344, descriptorIndex := 339, attributes := #[] }, { accessFlags := 8, nameIndex := 338, descriptorIndex := 339, attributes := #[] }, { accessFlags := 4120, nameIndex := 245, descriptorIndex := 246, attributes := #[] }])
  fields := #[{ name := "E", type := .double, accessFlags := 25, slot := 0, constantValue := 0 }, { name := "PI", type := .double, accessFlags := 25, slot := 1, constantValue := 0 }, { name := "TAU", type := .double, accessFlags := 25, slot := 2, constantValue := 0 }, { name := "DEGREES_TO_RADIANS", type := .double, accessFlags := 26, slot := 3, constantValue := 0 }, { name := "RADIANS_TO_DEGREES", type := .double, accessFlags := 26, slot := 4, constantValue := 0 }, { name := "negativeZeroFloatBits", type := .long, accessFlags := 26, slot := 5, constantValue := 0 }, { name := "negativeZeroDoubleBits", type := .long, accessFlags := 26, slot := 6, constantValue := 0 }, { name := "twoToTheDoubleScaleUp", type := .double, accessFlags := 8, slot := 7, constantValue := 0 }, { name := "twoToTheDoubleScaleDown", type := .double, accessFlags := 8, slot := 8, constantValue := 0 }, { name := "$assertionsDisabled", type := .boolean, accessFlags := 4120, slot := 9, constantValue := 0 }]
  methods := #[k5m0, k5m1, k5m2]
  instanceTypes := #[]
  staticTypes := #[.double, .double, .double, .double, .double, .long, .long, .double, .double, .boolean]
  resolved := Array.replicate 460 none
  statics := none }

def pool6 : Array CpInfo := pool [(2, .class_ 4), (1, u "java/lang/Object"), (0, u "<init>"), (0, u "()V"), (1, .class_ 10), (1, u "java/lang/System"), (0, u "allowSecurityManager"), (0, u "I"), (16, u "cons"), (0, u "Ljava/io/Console;"), (77, .class_ 110), (1, u "java/lang/System$CallersHolder"), (43, u "initialErrStream"), (0, u "Ljava/io/PrintStream;"), (19, u "security"), (0, u "Ljava/lang/SecurityManager;"), (31, .class_ 209), (0, u "java/lang/System$1"), (7, u "props"), (0, u "Ljava/util/Properties;"), (2, u "lineSeparator"), (0, u "Ljava/lang/String;"), (96, .class_ 321), (1, u "java/lang/System$LoggerFinder"), (5, .class_ 328), (0, u "java/lang/System$Logger"), (67, u "err"), (2, u "out"), (91, u "notSupportedJnuEncoding"), (15, u "in"), (17, u "initialIn"), (0, u "Ljava/io/InputStream;"), (35, u "bootLayer"), (0, u "Ljava/lang/ModuleLayer;"), (99, .class_ 664), (0, u "java/lang/System$2"), (9, u "NEVER"), (2, u "MAYBE"), (49, u "arraycopy"), (0, u "(Ljava/lang/Object;ILjava/lang/Object;II)V"), (72, .class_ 802), (0, u "java/lang/System$Logger$Level")] 31

def k6m0 : Method := { name := "<init>", desc := "()V", sig := { parameters := [], returnType := none }, accessFlags := 2, code := none }
def k6m1 : Method := { name := "arraycopy", desc := "(Ljava/lang/Object;ILjava/lang/Object;II)V", sig := { parameters := [(.object "java/lang/Object"), .int, (.object "java/lang/Object"), .int, .int], returnType := none }, accessFlags := 265, code := none }
/-- java/lang/System -/
def k6 : Class := { plain "java/lang/System" (some 0) with
  accessFlags := 49
  interfaces := #[]
  cf := some (fileOf pool6 8 #[.nestMembers #[319, 327, 801, 108, 663, 208]] #[{ accessFlags := 2, nameIndex := 5, descriptorIndex := 6, attributes := #[] }, { accessFlags := 265, nameIndex := 727, descriptorIndex := 728, attributes := #[] }] 49 2 #[] #[{ accessFlags := 25, nameIndex := 507, descriptorIndex := 526, attributes := #[] }, { accessFlags := 25, nameIndex := 399, descriptorIndex := 155, attributes := #[] }, { accessFlags := 25, nameIndex := 396, descriptorIndex := 155, attributes := #[] }, { accessFlags := 10, nameIndex := 525, descriptorIndex := 526, attributes := #[] }, { accessFlags := 26, nameIndex := 674, descriptorIndex := 12, attributes := #[] }, { accessFlags := 26, nameIndex := 677, descriptorIndex := 12, attributes := #[] }, { accessFlags := 10, nameIndex := 11, descriptorIndex := 12, attributes := #[] }, { accessFlags := 74, nameIndex := 175, descriptorIndex := 176, attributes := #[] }, { accessFlags := 10, nameIndex := 491, descriptorIndex := 222, attributes := #[] }, { accessFlags := 74, nameIndex := 29, descriptorIndex := 30, attributes := #[] }, { accessFlags := 74, nameIndex := 154, descriptorIndex := 155, attributes := #[] }, { accessFlags := 10, nameIndex := 217, descriptorIndex := 218, attributes := #[] }, { accessFlags := 10, nameIndex := 221, descriptorIndex := 222, attributes := #[] }, { accessFlags := 8, nameIndex := 562, descriptorIndex := 563, attributes := #[] }])
  fields := #[{ name := "in", type := (.object "java/io/InputStream"), accessFlags := 25, slot := 0, constantValue := 0 }, { name := "out", type := (.object "java/io/PrintStream"), accessFlags := 25, slot := 1, constantValue := 0 }, { name := "err", type := (.object "java/io/PrintStream"), accessFlags := 25, slot := 2, constantValue := 0 }, { name := "initialIn", type := (.object "java/io/InputStream"), accessFlags := 10, slot := 3, constantValue := 0 }, { name := "NEVER", type := .int, accessFlags := 26, slot := 4, constantValue := 0 }, { name := "MAYBE", type := .int, accessFlags := 26, slot := 5, constantValue := 0 }, { name := "allowSecurityManager", type := .int, accessFlags := 10, slot := 6, constantValue := 0 }, { name := "security", type := (.object "java/lang/SecurityManager"), accessFlags := 74, slot := 7, constantValue := 0 }, { name := "notSupportedJnuEncoding", type := (.object "java/lang/String"), accessFlags := 10, slot := 8, constantValue := 0 }, { name := "cons", type := (.object "java/io/Console"), accessFlags := 74, slot := 9, constantValue := 0 }, { name := "initialErrStream", type := (.object "java/io/PrintStream"), accessFlags := 74, slot := 10, constantValue := 0 }, { name := "props", type := (.object "java/util/Properties"), accessFlags := 10, slot := 11, constantValue := 0 }, { name := "lineSeparator", type := (.object "java/lang/String"), accessFlags := 10, slot := 12, constantValue := 0 }, { name := "bootLayer", type := (.object "java/lang/ModuleLayer"), accessFlags := 8, slot := 13, constantValue := 0 }]
  methods := #[k6m0, k6m1]
  instanceTypes := #[]
  staticTypes := #[(.object "java/io/InputStream"), (.object "java/io/PrintStream"), (.object "java/io/PrintStream"), (.object "java/io/InputStream"), .int, .int, .int, (.object "java/lang/SecurityManager"), (.object "java/lang/String"), (.object "java/io/Console"), (.object "java/io/PrintStream"), (.object "java/util/Properties"), (.object "java/lang/String"), (.object "java/lang/ModuleLayer")]
  resolved := Array.replicate 834 none
  statics := none }

def pool7 : Array CpInfo := pool [(1, .class_ 2), (0, u "java/lang/Cloneable"), (0, .class_ 4), (0, u "java/lang/Object")] 2

/-- java/lang/Cloneable -/
def k7 : Class := { plain "java/lang/Cloneable" (some 0) with
  accessFlags := 1537
  interfaces := #[]
  cf := some (fileOf pool7 1 #[] #[] 1537 3 #[] #[])
  fields := #[]
  methods := #[]
  instanceTypes := #[]
  staticTypes := #[]
  resolved := Array.replicate 7 none
  statics := none }

def pool8 : Array CpInfo := pool [(1, u "java/io/Serializable"), (0, .class_ 1), (0, u "java/lang/Object"), (0, .class_ 3)] 3

/-- java/io/Serializable -/
def k8 : Class := { plain "java/io/Serializable" (some 0) with
  accessFlags := 1537
  interfaces := #[]
  cf := some (fileOf pool8 2 #[] #[] 1537 4 #[] #[])
  fields := #[]
  methods := #[]
  instanceTypes := #[]
  staticTypes := #[]
  resolved := Array.replicate 8 none
  statics := none }

/-- the primitive byte -/
def k9 : Class := { plain "byte" none with kind := .primitive 'B', accessFlags := 0x411 }
/-- [B -/
def k10 : Class := { plain "[B" (some 0) with kind := .array 9 .byte, interfaces := #[7, 8], accessFlags := 1041 }

/-- the primitive int -/
def k11 : Class := { plain "int" none with kind := .primitive 'I', accessFlags := 0x411 }
/-- [I -/
def k12 : Class := { plain "[I" (some 0) with kind := .array 11 .int, interfaces := #[7, 8], accessFlags := 1041 }

def heap : Heap := #[]
def classes : Array Class := #[k0, k1, k2, k3, k4, k5, k6, k7, k8, k9, k10, k11, k12]
def interned : List (Array UInt16 × Addr) := []
def slotsUsed : Nat := 0
def theMethod : MethodId := ⟨1, 1⟩
def args0 : Array Value := #[.int 7, .int 200, .int 3, .int 5, .int 1, .int 6]
def aboutOver (below : List Frame) : State where
  vm := { classes := classes, interned := interned.toArray }
  heap := heap
  slotsUsed := slotsUsed
  threads := #[{ frames := .invoking theMethod args0 :: below }]
def below0 : List Frame := [.native { method := ⟨0, 0⟩, args := #[] }]
def about1 : State := aboutOver below0
def p0 : Program := .bare "" "" ""
def e0 : Env := launch0.env 0 0 0
theorem w_frames : about1.frames = Frame.invoking theMethod args0 :: below0 := rfl
set_option maxRecDepth 65536 in
theorem w_args : argsFit about1.vm theMethod args0 = true := by decide +kernel
set_option maxRecDepth 65536 in
theorem w_heap : heapFits about1 = true := by decide +kernel
set_option maxRecDepth 65536 in
theorem w_runnable : about1.curStatus? = some .runnable := by decide +kernel
set_option maxRecDepth 65536 in
theorem w_alone : about1.alone = true := by decide +kernel
set_option maxRecDepth 65536 in
theorem w_named : about1.methodNamed? x = some theMethod := by decide +kernel
set_option maxRecDepth 65536 in
theorem w_hears : about1.hears theMethod below0 = true := by decide +kernel
set_option maxRecDepth 65536 in
theorem w_ripe : about1.ripe theMethod args0 below0 = true := by decide +kernel
theorem w_running : about1.status = .running := rfl
set_option maxRecDepth 65536 in
theorem w_room : about1.hasRoom e0.platform room_1 = true :=
  launch0.hasRoom_least _ room_1 (by decide +kernel) (by decide +kernel) (by decide +kernel) (by decide +kernel) (by decide +kernel) (by decide +kernel)
theorem allAtoms_all (ts : List Jvm.Cond) (a : Array Jvm.Value) (st : Jvm.State) : (allAtoms ts).before a st = ts.all (fun c => c.before a st) := by
  induction ts with
  | nil => rfl
  | cons c t ih =>
    show (Jvm.Cond.and c (allAtoms t)).before a st = _
    rw [Jvm.Cond.before_and, ih, List.all_cons]
def words1 : List Jvm.Cond := Jvm.Cond.code x code maxLocals ret :: tables_1
/-- a 'code' word, met by the world's own term for the bytes: nothing is compared byte by byte -/
theorem code_word {y : MethodName} {bytes : ByteArray} {mx : Nat} {rt : Option FieldType} {a : Array Value} {s : State} {m : MethodId} {meth : Method} {c : Code} (h1 : s.methodNamed? y = some m) (h2 : s.vm.method? m = some meth) (h3 : meth.code = some c) (h4 : c.code = bytes)
    (h5 : (c.maxLocals == mx && c.exceptionTable.isEmpty && decide (c.maxStack ≤ mostOperands) && decide (meth.sig.returnType = rt) && !meth.locks && decide (parseMethodDescriptor y.desc = some meth.sig)) = true) : (Jvm.Cond.code y bytes mx rt).before a s = true := by
  simp only [Bool.and_eq_true, beq_iff_eq, Bool.not_eq_true', decide_eq_true_eq] at h5
  obtain ⟨⟨⟨⟨⟨g1, g2⟩, g3⟩, g4⟩, g5⟩, g6⟩ := h5
  simp [Cond.before, Cond.holds, Cond.value, h1, h2, h3, h4, g1, g2, g3, g4, g5, g6]
def isCode : Jvm.Cond → Bool
  | .code _ _ _ _ => true
  | _ => false
theorem all_split {L : List Jvm.Cond} {P : Jvm.Cond → Bool} (h1 : L.all (fun c => isCode c || P c) = true) (h2 : ∀ c ∈ L.filter isCode, P c = true) : L.all P = true := by
  refine List.all_eq_true.mpr fun c hc => ?_
  have h := List.all_eq_true.mp h1 c hc
  rcases Bool.eq_false_or_eq_true (isCode c) with hi | hi
  · exact h2 c (List.mem_filter.mpr ⟨hc, hi⟩)
  · simpa [hi] using h
set_option maxRecDepth 65536 in
theorem w_c0 : (Jvm.Cond.code x code maxLocals ret).before args0 about1 = true := code_word (m := ⟨1, 1⟩) (meth := k1m1) (c := k1c1) (by decide +kernel) rfl rfl rfl (by decide +kernel)
set_option maxRecDepth 65536 in
theorem w_c1 : (Jvm.Cond.code ({ cls := "com/example/kensaku/kensaku/index/BuilderBuildPinLaw", name := "run", desc := "(I)[I" } : Jvm.MethodName) method_3_code (1 : Nat) (Option.some (Jvm.ClassFile.FieldType.array Jvm.ClassFile.FieldType.int))).before args0 about1 = true := code_word (m := ⟨1, 2⟩) (meth := k1m2) (c := k1c2) (by decide +kernel) rfl rfl rfl (by decide +kernel)
set_option maxRecDepth 65536 in
theorem w_c2 : (Jvm.Cond.code ({ cls := "com/example/kensaku/kensaku/index/Postings$Builder", name := "<init>", desc := "()V" } : Jvm.MethodName) prog_20_method_1_code (1 : Nat) (Option.none : Option Jvm.ClassFile.FieldType)).before args0 about1 = true := code_word (m := ⟨2, 0⟩) (meth := k2m0) (c := k2c0) (by decide +kernel) rfl rfl rfl (by decide +kernel)
set_option maxRecDepth 65536 in
theorem w_c3 : (Jvm.Cond.code ({ cls := "java/lang/Object", name := "<init>", desc := "()V" } : Jvm.MethodName) object_method_1_code (1 : Nat) (Option.none : Option Jvm.ClassFile.FieldType)).before args0 about1 = true := code_word (m := ⟨0, 0⟩) (meth := k0m0) (c := k0c0) (by decide +kernel) rfl rfl rfl (by decide +kernel)
set_option maxRecDepth 65536 in
theorem w_c4 : (Jvm.Cond.code ({ cls := "com/example/kensaku/kensaku/index/Postings$Builder", name := "build", desc := "()Lcom/example/kensaku/kensaku/index/Postings;" } : Jvm.MethodName) prog_20_method_3_code (1 : Nat) (Option.some (Jvm.ClassFile.FieldType.object "com/example/kensaku/kensaku/index/Postings"))).before args0 about1 = true := code_word (m := ⟨2, 2⟩) (meth := k2m2) (c := k2c2) (by decide +kernel) rfl rfl rfl (by decide +kernel)
set_option maxRecDepth 65536 in
theorem w_c5 : (Jvm.Cond.code ({ cls := "java/util/Arrays", name := "copyOf", desc := "([II)[I" } : Jvm.MethodName) jdk_65_method_123_code (3 : Nat) (Option.some (Jvm.ClassFile.FieldType.array Jvm.ClassFile.FieldType.int))).before args0 about1 = true := code_word (m := ⟨4, 1⟩) (meth := k4m1) (c := k4c1) (by decide +kernel) rfl rfl rfl (by decide +kernel)
set_option maxRecDepth 65536 in
theorem w_c6 : (Jvm.Cond.code ({ cls := "java/lang/Math", name := "min", desc := "(II)I" } : Jvm.MethodName) jdk_29_method_69_code (2 : Nat) (Option.some Jvm.ClassFile.FieldType.int)).before args0 about1 = true := code_word (m := ⟨5, 2⟩) (meth := k5m2) (c := k5c2) (by decide +kernel) rfl rfl rfl (by decide +kernel)
set_option maxRecDepth 65536 in
theorem w_c7 : (Jvm.Cond.code ({ cls := "com/example/kensaku/kensaku/index/Postings", name := "<init>", desc := "([I[I[I)V" } : Jvm.MethodName) prog_19_method_1_code (4 : Nat) (Option.none : Option Jvm.ClassFile.FieldType)).before args0 about1 = true := code_word (m := ⟨3, 0⟩) (meth := k3m0) (c := k3c0) (by decide +kernel) rfl rfl rfl (by decide +kernel)
set_option maxRecDepth 65536 in
theorem w_c8 : (Jvm.Cond.code ({ cls := "com/example/kensaku/kensaku/index/Postings", name := "size", desc := "()I" } : Jvm.MethodName) prog_19_method_2_code (1 : Nat) (Option.some Jvm.ClassFile.FieldType.int)).before args0 about1 = true := code_word (m := ⟨3, 1⟩) (meth := k3m1) (c := k3c1) (by decide +kernel) rfl rfl rfl (by decide +kernel)
set_option maxRecDepth 65536 in
theorem w_c9 : (Jvm.Cond.code ({ cls := "com/example/kensaku/kensaku/index/Postings$Builder", name := "add", desc := "(I[II)V" } : Jvm.MethodName) prog_20_method_2_code (5 : Nat) (Option.none : Option Jvm.ClassFile.FieldType)).before args0 about1 = true := code_word (m := ⟨2, 1⟩) (meth := k2m1) (c := k2c1) (by decide +kernel) rfl rfl rfl (by decide +kernel)
set_option maxRecDepth 65536 in
theorem w_c10 : (Jvm.Cond.code ({ cls := "com/example/kensaku/kensaku/index/BuilderBuildPinLaw", name := "entry", desc := "(Lcom/example/kensaku/kensaku/index/Postings;IIIII)Z" } : Jvm.MethodName) method_4_code (6 : Nat) (Option.some Jvm.ClassFile.FieldType.boolean)).before args0 about1 = true := code_word (m := ⟨1, 3⟩) (meth := k1m3) (c := k1c3) (by decide +kernel) rfl rfl rfl (by decide +kernel)
set_option maxRecDepth 65536 in
theorem w_c11 : (Jvm.Cond.code ({ cls := "com/example/kensaku/kensaku/index/Postings", name := "document", desc := "(I)I" } : Jvm.MethodName) prog_19_method_3_code (2 : Nat) (Option.some Jvm.ClassFile.FieldType.int)).before args0 about1 = true := code_word (m := ⟨3, 2⟩) (meth := k3m2) (c := k3c2) (by decide +kernel) rfl rfl rfl (by decide +kernel)
set_option maxRecDepth 65536 in
theorem w_c12 : (Jvm.Cond.code ({ cls := "com/example/kensaku/kensaku/index/Postings", name := "frequency", desc := "(I)I" } : Jvm.MethodName) prog_19_method_4_code (2 : Nat) (Option.some Jvm.ClassFile.FieldType.int)).before args0 about1 = true := code_word (m := ⟨3, 3⟩) (meth := k3m3) (c := k3c3) (by decide +kernel) rfl rfl rfl (by decide +kernel)
set_option maxRecDepth 65536 in
theorem w_c13 : (Jvm.Cond.code ({ cls := "com/example/kensaku/kensaku/index/Postings", name := "position", desc := "(II)I" } : Jvm.MethodName) prog_19_method_5_code (3 : Nat) (Option.some Jvm.ClassFile.FieldType.int)).before args0 about1 = true := code_word (m := ⟨3, 4⟩) (meth := k3m4) (c := k3c4) (by decide +kernel) rfl rfl rfl (by decide +kernel)
set_option maxRecDepth 65536 in
theorem w_c14 : (Jvm.Cond.code ({ cls := "java/lang/Math", name := "max", desc := "(II)I" } : Jvm.MethodName) jdk_29_method_65_code (2 : Nat) (Option.some Jvm.ClassFile.FieldType.int)).before args0 about1 = true := code_word (m := ⟨5, 1⟩) (meth := k5m1) (c := k5c1) (by decide +kernel) rfl rfl rfl (by decide +kernel)
def codes1 : List Jvm.Cond := [Jvm.Cond.code x code maxLocals ret, Jvm.Cond.code ({ cls := "com/example/kensaku/kensaku/index/BuilderBuildPinLaw", name := "run", desc := "(I)[I" } : Jvm.MethodName) method_3_code (1 : Nat) (Option.some (Jvm.ClassFile.FieldType.array Jvm.ClassFile.FieldType.int)), Jvm.Cond.code ({ cls := "com/example/kensaku/kensaku/index/Postings$Builder", name := "<init>", desc := "()V" } : Jvm.MethodName) prog_20_method_1_code (1 : Nat) (Option.none : Option Jvm.ClassFile.FieldType), Jvm.Cond.code ({ cls := "java/lang/Object", name := "<init>", desc := "()V" } : Jvm.MethodName) object_method_1_code (1 : Nat) (Option.none : Option Jvm.ClassFile.FieldType), Jvm.Cond.code ({ cls := "com/example/kensaku/kensaku/index/Postings$Builder", name := "build", desc := "()Lcom/example/kensaku/kensaku/index/Postings;" } : Jvm.MethodName) prog_20_method_3_code (1 : Nat) (Option.some (Jvm.ClassFile.FieldType.object "com/example/kensaku/kensaku/index/Postings")), Jvm.Cond.code ({ cls := "java/util/Arrays", name := "copyOf", desc := "([II)[I" } : Jvm.MethodName) jdk_65_method_123_code (3 : Nat) (Option.some (Jvm.ClassFile.FieldType.array Jvm.ClassFile.FieldType.int)), Jvm.Cond.code ({ cls := "java/lang/Math", name := "min", desc := "(II)I" } : Jvm.MethodName) jdk_29_method_69_code (2 : Nat) (Option.some Jvm.ClassFile.FieldType.int), Jvm.Cond.code ({ cls := "com/example/kensaku/kensaku/index/Postings", name := "<init>", desc := "([I[I[I)V" } : Jvm.MethodName) prog_19_method_1_code (4 : Nat) (Option.none : Option Jvm.ClassFile.FieldType), Jvm.Cond.code ({ cls := "com/example/kensaku/kensaku/index/Postings", name := "size", desc := "()I" } : Jvm.MethodName) prog_19_method_2_code (1 : Nat) (Option.some Jvm.ClassFile.FieldType.int), Jvm.Cond.code ({ cls := "com/example/kensaku/kensaku/index/Postings$Builder", name := "add", desc := "(I[II)V" } : Jvm.MethodName) prog_20_method_2_code (5 : Nat) (Option.none : Option Jvm.ClassFile.FieldType), Jvm.Cond.code ({ cls := "com/example/kensaku/kensaku/index/BuilderBuildPinLaw", name := "entry", desc := "(Lcom/example/kensaku/kensaku/index/Postings;IIIII)Z" } : Jvm.MethodName) method_4_code (6 : Nat) (Option.some Jvm.ClassFile.FieldType.boolean), Jvm.Cond.code ({ cls := "com/example/kensaku/kensaku/index/Postings", name := "document", desc := "(I)I" } : Jvm.MethodName) prog_19_method_3_code (2 : Nat) (Option.some Jvm.ClassFile.FieldType.int), Jvm.Cond.code ({ cls := "com/example/kensaku/kensaku/index/Postings", name := "frequency", desc := "(I)I" } : Jvm.MethodName) prog_19_method_4_code (2 : Nat) (Option.some Jvm.ClassFile.FieldType.int), Jvm.Cond.code ({ cls := "com/example/kensaku/kensaku/index/Postings", name := "position", desc := "(II)I" } : Jvm.MethodName) prog_19_method_5_code (3 : Nat) (Option.some Jvm.ClassFile.FieldType.int), Jvm.Cond.code ({ cls := "java/lang/Math", name := "max", desc := "(II)I" } : Jvm.MethodName) jdk_29_method_65_code (2 : Nat) (Option.some Jvm.ClassFile.FieldType.int)]
set_option maxRecDepth 65536 in
theorem codes_eq : words1.filter isCode = codes1 := rfl
theorem w_codes : ∀ c ∈ words1.filter isCode, c.before args0 about1 = true := by
  rw [codes_eq]
  intro c hc
  simp only [codes1, List.mem_cons, List.not_mem_nil, or_false] at hc
  rcases hc with rfl | rfl | rfl | rfl | rfl | rfl | rfl | rfl | rfl | rfl | rfl | rfl | rfl | rfl | rfl
  · exact w_c0
  · exact w_c1
  · exact w_c2
  · exact w_c3
  · exact w_c4
  · exact w_c5
  · exact w_c6
  · exact w_c7
  · exact w_c8
  · exact w_c9
  · exact w_c10
  · exact w_c11
  · exact w_c12
  · exact w_c13
  · exact w_c14
set_option maxRecDepth 65536 in
theorem w_t1 : (words1.take 24).all (fun c => isCode c || c.before args0 about1) = true := by decide +kernel
set_option maxRecDepth 65536 in
theorem w_t2 : ((words1.drop 24).take 24).all (fun c => isCode c || c.before args0 about1) = true := by decide +kernel
set_option maxRecDepth 65536 in
theorem w_t3 : (((words1.drop 24).drop 24).take 24).all (fun c => isCode c || c.before args0 about1) = true := by decide +kernel
set_option maxRecDepth 65536 in
theorem w_t4 : (((words1.drop 24).drop 24).drop 24).all (fun c => isCode c || c.before args0 about1) = true := by decide +kernel
theorem w_tables : (allAtoms (Jvm.Cond.code x code maxLocals ret :: tables_1)).before args0 about1 = true := by
  rw [allAtoms_all]
  show words1.all (fun c => c.before args0 about1) = true
  refine all_split ?_ w_codes
  rw [← List.take_append_drop 24 words1, List.all_append, w_t1, ← List.take_append_drop 24 (words1.drop 24), List.all_append, w_t2, ← List.take_append_drop 24 ((words1.drop 24).drop 24), List.all_append, w_t3, w_t4]
  rfl
set_option maxRecDepth 65536 in
theorem w_case : (Jvm.Cond.and given_1 narrow_1).before args0 about1 = true := by decide +kernel
theorem w_applies : (headSpec (Jvm.Cond.code x code maxLocals ret :: tables_1) room_1).applies x e0.platform about1 = true :=
  (Spec.applies_iff w_frames).mpr ⟨w_running, w_runnable, w_alone, w_named, w_hears, w_ripe, w_room, w_tables⟩
theorem atStart : AtStart classFile x code maxLocals ret World_1 tables_1 room_1 Calls_1 rest_1 Pre_1 launch0 p0 e0 about1 theMethod args0 below0 :=
  ⟨lists_1, trivial, launch0.admits_env _ _ _, launch0.least_env, fairChoices_fair.cas, fairChoices_fair.clock, w_frames, w_args, w_heap, w_applies, trivial, trivial, w_case⟩
end start1
theorem witness_1 : WitnessClaimed_1 := ⟨start1.p0, start1.e0, start1.about1, start1.theMethod, start1.args0, start1.below0, start1.atStart⟩
end Jvm.Pilot.@@N@@
