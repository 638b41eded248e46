import JvmDerived
import JvmDerived.Pilot.@@N@@Statement
import JvmDerived.Pilot.@@N@@Code
set_option linter.unusedVariables false
set_option linter.unusedSimpArgs false
namespace Jvm.RoadKit
open Sem ClassFile Op Lib Jvm.Stand Jvm.Free Jvm.LawKit
section New
variable {p : Program} {l : Launch} {e : Env} {R : Room} {s : State} {m : MethodId} {args : Array Value} {below : List Frame} {meth : Method} {c : Code} {T : State} {locs : List Loc} {cells slots : Nat}
theorem retI (X : Stand p l e R s m args below meth c T locs cells slots) (hx : p.tables.exec = Jvm.exec) {pc : Nat} {Ls : Array Slot} {z : Int32} {rest : List Value} (hret : meth.sig.returnType = some .int) (hd : decode c.code pc = .ok (.ireturn, 1)) {fs : List Frame}
    (hl : ∀ (f : JFrame) (acts : List Action), f.method = m → f.locked = none → f.entered = [] → (doReturn e (T.setTop f) acts (some (.int z))).1 = T.setFrames fs) : Steps p.tables e below (T.setTop (mkF m pc Ls (.int z :: rest))) (T.setFrames fs) :=
  retOut X hx hret rfl (Or.inl ⟨rfl, Or.inl rfl, z, rfl⟩) hd hl
end New
end Jvm.RoadKit
namespace Jvm.Pilot.@@N@@
open Jvm Jvm.ClassFile Sem Op Lib Jvm.Free Jvm.Stand Jvm.LawKit Jvm.RoadKit Bundle Jvm.Pilot.@@N@@.Jvm.D
section OwnKit
variable {p : Program} {l : Launch} {e : Env} {R : Room} {m : MethodId} {args : Array Value} {below : List Frame} {meth : Method} {c : Code} {M : State → Heap → Prop} {P : State → Prop} {n0 : Nat} {Z : State} {a0 : Array Value} {own name : String} {bytes : ByteArray} {maxL : Nat} {ret : Option FieldType} {L : List (Addr × (Cell → Prop))} {k n pc pc' : Nat} {Ls Ls' : Array Slot} {st : List Value}
/-! what is known of the heap: a list of the own cells, each with what it holds -/
def Hs (h : Heap) (a : Addr) (φ : Cell → Prop) : Prop := ∃ c : Cell, h[a]? = some c ∧ φ c
def Own (n0 : Nat) (h : Heap) (L : List (Addr × (Cell → Prop))) : Prop := n0 ≤ h.size ∧ (∀ (i j : Nat) x y, L[i]? = some x → L[j]? = some y → x.1 = y.1 → i = j) ∧ ∀ (i : Nat) x, L[i]? = some x → n0 ≤ x.1 ∧ Hs h x.1 x.2
theorem Own.nil {h : Heap} (q : n0 ≤ h.size) : Own n0 h [] := ⟨q, fun i j x y hx => by simp at hx, fun i x hx => by simp at hx⟩
theorem Own.lt {h : Heap} (O : Own n0 h L) {i : Nat} {x : Addr × (Cell → Prop)} (hi : L[i]? = some x) : x.1 < h.size := by
  obtain ⟨c, h1, -⟩ := (O.2.2 i x hi).2
  exact (Array.getElem?_eq_some_iff.mp h1).1
theorem Own.ext {h h' : Heap} (O : Own n0 h L) (E : Ext h h') : Own n0 h' L :=
  ⟨Nat.le_trans O.1 E.1, O.2.1, fun i x hx => ⟨(O.2.2 i x hx).1, by obtain ⟨c, h1, h2⟩ := (O.2.2 i x hx).2; exact ⟨c, E.2 _ _ h1, h2⟩⟩⟩
theorem Own.cons {h h' : Heap} {φ : Cell → Prop} (O : Own n0 h L) (E : Ext h h') (F : Hs h' h.size φ) : Own n0 h' ((h.size, φ) :: L) := by
  have O' := O.ext E
  refine ⟨O'.1, fun i j x y hx hy e => ?_, fun i x hx => ?_⟩
  · match i, j with
    | 0, 0 => rfl
    | 0, j + 1 =>
      simp only [List.getElem?_cons_zero, Option.some.injEq] at hx
      simp only [List.getElem?_cons_succ] at hy
      subst hx; exact absurd e (Nat.ne_of_gt (O.lt hy))
    | i + 1, 0 =>
      simp only [List.getElem?_cons_zero, Option.some.injEq] at hy
      simp only [List.getElem?_cons_succ] at hx
      subst hy; exact absurd e (Nat.ne_of_lt (O.lt hx))
    | i + 1, j + 1 =>
      simp only [List.getElem?_cons_succ] at hx hy
      rw [O.2.1 i j x y hx hy e]
  · match i with
    | 0 =>
      simp only [List.getElem?_cons_zero, Option.some.injEq] at hx
      subst hx; exact ⟨O.1, F⟩
    | i + 1 =>
      simp only [List.getElem?_cons_succ] at hx
      exact O'.2.2 i x hx
theorem Own.set {h h' : Heap} {i : Nat} {a : Addr} {φ φ' : Cell → Prop} (O : Own n0 h L) (hi : L[i]? = some (a, φ)) (hs : h.size ≤ h'.size) (ho : ∀ (b : Addr) (c : Cell), b ≠ a → h[b]? = some c → h'[b]? = some c) (F : Hs h' a φ') : Own n0 h' (L.set i (a, φ')) := by
  have key : ∀ j x, (L.set i (a, φ'))[j]? = some x → (j = i ∧ x = (a, φ')) ∨ (j ≠ i ∧ L[j]? = some x) := by
    intro j x hx
    rw [List.getElem?_set] at hx
    by_cases q : i = j
    · rw [if_pos q] at hx
      split at hx
      · exact Or.inl ⟨q.symm, (Option.some.inj hx).symm⟩
      · cases hx
    · rw [if_neg q] at hx; exact Or.inr ⟨fun e => q e.symm, hx⟩
  refine ⟨Nat.le_trans O.1 hs, fun j j' x y hx hy e => ?_, fun j x hx => ?_⟩
  · rcases key j x hx with ⟨rfl, rfl⟩ | ⟨q1, q2⟩ <;> rcases key j' y hy with ⟨rfl, rfl⟩ | ⟨r1, r2⟩
    · rfl
    · exact O.2.1 _ _ _ _ hi r2 e
    · exact O.2.1 _ _ _ _ q2 hi e
    · exact O.2.1 _ _ _ _ q2 r2 e
  · rcases key j x hx with ⟨rfl, rfl⟩ | ⟨q1, q2⟩
    · exact ⟨(O.2.2 _ _ hi).1, F⟩
    · obtain ⟨c, h1, h2⟩ := (O.2.2 _ _ q2).2
      exact ⟨(O.2.2 _ _ q2).1, c, ho _ _ (fun e => q1 (O.2.1 _ _ _ _ q2 hi e)) h1, h2⟩
theorem Own.wr {h h' : Heap} {i sl : Nat} {v : Value} {a : Addr} {φ φ' : Cell → Prop} (O : Own n0 h L) (Wh : Wr h h' a sl v) (hi : L[i]? = some (a, φ)) (hφ : ∀ c : Cell, φ c → sl < c.slots.size → φ' (c.setSlot sl v)) : Own n0 h' (L.set i (a, φ')) := by
  obtain ⟨c, h1, h2⟩ := (O.2.2 _ _ hi).2
  have hsl : sl < c.slots.size := by
    obtain ⟨cell, g1, -, g3, -⟩ := Wh
    cases h1.symm.trans g1; exact g3
  refine O.set hi (Nat.le_of_eq Wh.size.symm) (fun b cb hb hc => ?_) ?_
  · obtain ⟨c', e1, -, -, -, e5, -⟩ := wr_at Wh hc
    rw [e5 hb] at e1; exact e1
  · obtain ⟨c', e1, -, -, -, -, -, e7⟩ := wr_at Wh h1
    exact ⟨c', e1, by rw [(e7 rfl).1]; exact hφ c h2 hsl⟩
theorem Own.re {h : Heap} {L' : List (Addr × (Cell → Prop))} (O : Own n0 h L) (f : Nat → Nat) (hf : ∀ j x, L'[j]? = some x → L[f j]? = some x) (hinj : ∀ i j, i < L'.length → j < L'.length → f i = f j → i = j) : Own n0 h L' :=
  ⟨O.1, fun i j x y hx hy e => hinj i j (List.getElem?_eq_some_iff.mp hx).1 (List.getElem?_eq_some_iff.mp hy).1 (O.2.1 _ _ _ _ (hf i x hx) (hf j y hy) e), fun i x hx => O.2.2 _ _ (hf i x hx)⟩
theorem Own.front {h : Heap} (O : Own n0 h L) (i : Nat) {x : Addr × (Cell → Prop)} (hi : L[i]? = some x) : Own n0 h (x :: L.eraseIdx i) := by
  refine O.re (fun j => match j with | 0 => i | j + 1 => if j < i then j else j + 1) (fun j y hy => ?_) (fun j j' _ _ e => ?_)
  · match j with
    | 0 => simp only [List.getElem?_cons_zero, Option.some.injEq] at hy; subst hy; exact hi
    | j + 1 =>
      simp only [List.getElem?_cons_succ, List.getElem?_eraseIdx] at hy
      dsimp only
      split at hy
      · rename_i q; rw [if_pos q]; exact hy
      · rename_i q; rw [if_neg q]; exact hy
  · match j, j' with
    | 0, 0 => rfl
    | 0, j' + 1 => dsimp only at e; split at e <;> omega
    | j + 1, 0 => dsimp only at e; split at e <;> omega
    | j + 1, j' + 1 => dsimp only at e; split at e <;> split at e <;> omega
theorem Own.imp {h : Heap} {i : Nat} {a : Addr} {φ φ' : Cell → Prop} (O : Own n0 h L) (hi : L[i]? = some (a, φ)) (q : ∀ c, φ c → φ' c) : Own n0 h (L.set i (a, φ')) :=
  O.set hi (Nat.le_refl _) (fun _ _ _ r => r) (by obtain ⟨c, h1, h2⟩ := (O.2.2 _ _ hi).2; exact ⟨c, h1, q c h2⟩)
theorem Own.drop {h : Heap} (O : Own n0 h L) (i : Nat) : Own n0 h (L.eraseIdx i) := by
  refine O.re (fun j => if j < i then j else j + 1) (fun j y hy => ?_) (fun j j' _ _ e => ?_)
  · rw [List.getElem?_eraseIdx] at hy
    split at hy
    · rename_i q; show L[if j < i then j else j + 1]? = _; rw [if_pos q]; exact hy
    · rename_i q; show L[if j < i then j else j + 1]? = _; rw [if_neg q]; exact hy
  · split at e <;> split at e <;> omega
theorem Own.tail {h : Heap} {x : Addr × (Cell → Prop)} (O : Own n0 h (x :: L)) : Own n0 h L :=
  O.re (fun j => j + 1) (fun j y hy => by simpa using hy) (fun i j _ _ e => by omega)
theorem Own.ne {h : Heap} {i j : Nat} {a b : Addr} {φ ψ : Cell → Prop} (O : Own n0 h L) (hi : L[i]? = some (a, φ)) (hj : L[j]? = some (b, ψ)) (q : i ≠ j) : a ≠ b := fun e => q (O.2.1 _ _ _ _ hi hj e)
/-! arrays of ints, bytes, chars ..: n places, the i-th holds f i -/
def upd (f : Nat → Int32) (i : Nat) (v : Int32) : Nat → Int32 := fun j => if j = i then v else f j
theorem upd_hit (f : Nat → Int32) (i : Nat) (v : Int32) : upd f i v i = v := if_pos rfl
theorem upd_miss (f : Nat → Int32) {i j : Nat} (v : Int32) (q : j ≠ i) : upd f i v j = f j := if_neg q
def ExaC (Z : State) (C : String) (cell : Cell) : Prop := ∃ k : Class, Z.vm.findClass C = some cell.cls ∧ Z.vm.classes[cell.cls]? = some k ∧ cell.vm.isStatics = false ∧ (k.kind = .ordinary → cell.slots.size = k.instanceTypes.size)
def ArrC (Z : State) (ty : FieldType) (n : Nat) (f : Nat → Int32) (c : Cell) : Prop := Z.isArrayOf c ty ∧ c.vm ≠ .unknown ∧ c.slots.size = n ∧ (∀ i, i < n → c.slots[i]? = some (.int (f i))) ∧ (∀ i, i < n → fits ty (.int (f i)) = true) ∧ ExaC Z ("[" ++ ty.toString) c
theorem ArrC.congr {ty : FieldType} {f g : Nat → Int32} {c : Cell} (A : ArrC Z ty n f c) (q : ∀ i, i < n → f i = g i) : ArrC Z ty n g c := ⟨A.1, A.2.1, A.2.2.1, fun i hi => by rw [← q i hi]; exact A.2.2.2.1 i hi, fun i hi => by rw [← q i hi]; exact A.2.2.2.2.1 i hi, A.2.2.2.2.2⟩
theorem ArrC.set {ty : FieldType} {f : Nat → Int32} {c : Cell} {i : Nat} {v : Int32} (A : ArrC Z ty n f c) (hi : i < n) (hv : fits ty (.int v) = true) : ArrC Z ty n (upd f i v) (c.setSlot i (.int v)) := by
  obtain ⟨A1, A2, hs, A4, A5, k, x1, x2, x3, x4⟩ := A
  refine ⟨A1, A2, (sz_set c i _).trans hs, fun j hj => ?_, fun j hj => ?_, k, x1, x2, x3, fun q => (sz_set c i _).trans (x4 q)⟩
  · by_cases q : j = i
    · subst q; rw [upd_hit]; simp [Cell.setSlot, hs, hi]
    · rw [upd_miss _ _ q, ← A4 j hj]
      show (c.slots.setIfInBounds i _)[j]? = _
      exact Array.getElem?_setIfInBounds_ne (Ne.symm q)
  · by_cases q : j = i
    · subst q; rw [upd_hit]; exact hv
    · rw [upd_miss _ _ q]; exact A5 j hj
/-! objects: class C; the fields ks (owner, name, descriptor, type) hold vs -/
def FldC (Z : State) (C n d : String) (v : Value) (cell : Cell) : Prop := ∃ (cf : ClassId) (k : Class) (i : Nat) (f : Field), Z.fieldFound? C n d = some (cf, k, i, f) ∧ f.isStatic = false ∧ cell.vm ≠ .unknown ∧ cell.vm.isStatics = false ∧ Z.vm.assignable cell.cls cf = true ∧ cell.slots[f.slot]? = some v
def ObjC (Z : State) (C : String) (ks : List (String × String × String × FieldType)) (vs : List Value) (c : Cell) : Prop := ExaC Z C c ∧ ∀ (i : Nat) kk v, ks[i]? = some kk → vs[i]? = some v → FldC Z kk.1 kk.2.1 kk.2.2.1 v c
theorem fld_of {h : Heap} {a : Addr} {C nm d : String} {v : Value} {c : Cell} (h1 : h[a]? = some c) (F : FldC Z C nm d v c) : Fld Z h a C nm d v := by
  obtain ⟨cf, k, i, f, r⟩ := F; exact ⟨c, cf, k, i, f, h1, r⟩
theorem of_fld {h : Heap} {a : Addr} {C nm d : String} {v : Value} {c : Cell} (h1 : h[a]? = some c) (F : Fld Z h a C nm d v) : FldC Z C nm d v c := by
  obtain ⟨c', cf, k, i, f, h2, r⟩ := F
  cases h1.symm.trans h2; exact ⟨cf, k, i, f, r⟩
theorem exa_of {h : Heap} {a : Addr} {C : String} {c : Cell} (h1 : h[a]? = some c) (F : ExaC Z C c) : Exa Z h a C := by
  obtain ⟨k, r⟩ := F; exact ⟨c, k, h1, r⟩
theorem of_exa {h : Heap} {a : Addr} {C : String} {c : Cell} (h1 : h[a]? = some c) (F : Exa Z h a C) : ExaC Z C c := by
  obtain ⟨c', k, h2, r⟩ := F
  cases h1.symm.trans h2; exact ⟨k, r⟩
def Lays (Z : State) (a0 : Array Value) (C : String) (ks : List (String × String × String × FieldType)) : Prop := (∀ kk ∈ ks, Laid Z a0 C kk.1 kk.2.1 kk.2.2.1 ∧ parseFieldDescriptor kk.2.2.1 = some kk.2.2.2) ∧ (ks.map (fun kk => kk.2.1)).Nodup
theorem Lays.ne {C : String} {ks : List (String × String × String × FieldType)} (H : Lays Z a0 C ks) {i j : Nat} {x y : String × String × String × FieldType} (hx : ks[i]? = some x) (hy : ks[j]? = some y) (q : i ≠ j) : Jvm.RoadKit.slotOf Z x.1 x.2.1 x.2.2.1 ≠ Jvm.RoadKit.slotOf Z y.1 y.2.1 y.2.2.1 := by
  have h1 := H.1 x (List.mem_of_getElem? hx)
  have h2 := H.1 y (List.mem_of_getElem? hy)
  refine slot_ne h1.1 h2.1 (fun e => q ?_) h1.2 h2.2
  have hi : i < (ks.map (fun kk => kk.2.1)).length := by rw [List.length_map]; exact (List.getElem?_eq_some_iff.mp hx).1
  exact (List.getElem?_inj hi H.2).mp (by rw [List.getElem?_map, List.getElem?_map, hx, hy]; exact congrArg some e)
theorem ObjC.set {C : String} {ks : List (String × String × String × FieldType)} {vs : List Value} {c : Cell} {j : Nat} {kk : String × String × String × FieldType} {v : Value} (A : ObjC Z C ks vs c) (H : Lays Z a0 C ks) (hj : ks[j]? = some kk) (hv : j < vs.length) (hsl : Jvm.RoadKit.slotOf Z kk.1 kk.2.1 kk.2.2.1 < c.slots.size) : ObjC Z C ks (vs.set j v) (c.setSlot (Jvm.RoadKit.slotOf Z kk.1 kk.2.1 kk.2.2.1) v) := by
  obtain ⟨⟨k, e1, e2, e3, e4⟩, F⟩ := A
  refine ⟨⟨k, e1, e2, e3, fun q => (sz_set c _ _).trans (e4 q)⟩, fun i kk' w hk hw => ?_⟩
  rw [List.getElem?_set] at hw
  by_cases q : j = i
  · subst q
    rw [if_pos rfl, if_pos hv] at hw
    cases hj.symm.trans hk
    cases hw
    obtain ⟨v0, hv0⟩ : ∃ v0, vs[j]? = some v0 := ⟨_, List.getElem?_eq_getElem hv⟩
    obtain ⟨cf, kc, ii, f, f1, f2, f3, f4, f5, -⟩ := F j kk v0 hj hv0
    have es : Jvm.RoadKit.slotOf Z kk.1 kk.2.1 kk.2.2.1 = f.slot := by simp [Jvm.RoadKit.slotOf, f1]
    rw [es] at hsl ⊢
    exact ⟨cf, kc, ii, f, f1, f2, f3, f4, f5, by simp [Cell.setSlot, hsl]⟩
  · rw [if_neg q] at hw
    obtain ⟨cf, kc, ii, f, f1, f2, f3, f4, f5, f6⟩ := F i kk' w hk hw
    refine ⟨cf, kc, ii, f, f1, f2, f3, f4, f5, ?_⟩
    have es : Jvm.RoadKit.slotOf Z kk'.1 kk'.2.1 kk'.2.2.1 = f.slot := by simp [Jvm.RoadKit.slotOf, f1]
    have hne := H.ne hk hj (Ne.symm q)
    rw [es] at hne
    rw [← f6]
    exact Array.getElem?_setIfInBounds_ne (Ne.symm hne)
/-! a walk: from every state that stands at pc with these locals and this stack, the end P is reached -/
def Wk (p : Program) (l : Launch) (e : Env) (R : Room) (m : MethodId) (args : Array Value) (below : List Frame) (meth : Method) (c : Code) (M : State → Heap → Prop) (P : State → Prop) (n0 : Nat) (L : List (Addr × (Cell → Prop))) (k n pc : Nat) (Ls : Array Slot) (st : List Value) : Prop :=
  ∀ s T locs, Stand p l e R s m args below meth c T locs k n → M s T.heap → Fr n0 locs → Own n0 T.heap L → ∃ t, Steps p.tables e below (T.setTop (mkF m pc Ls st)) t ∧ P t
def Cx (Z : State) (own name : String) (bytes : ByteArray) (maxL : Nat) (ret : Option FieldType) (p : Program) (m : MethodId) (meth : Method) (c : Code) (M : State → Heap → Prop) : Prop :=
  p.tables.exec = Jvm.exec ∧ c.code = bytes ∧ c.maxLocals = maxL ∧ meth.sig.returnType = ret ∧ meth.locks = false ∧ meth.name = name ∧ (∀ s h, M s h → Z.Warmed39 s.vm ∧ s.vm.findClass own = some m.cls) ∧ ∀ (s : State) (h h' : Heap), h.size ≤ h'.size → M s h → M s h'
theorem Wk.via {st' : List Value} (W : Wk p l e R m args below meth c M P n0 L k n pc' Ls' st') (hs : ∀ (s T : State) (locs : List Loc), Stand p l e R s m args below meth c T locs k n → M s T.heap → Own n0 T.heap L → ∀ t, Steps p.tables e below (T.setTop (mkF m pc' Ls' st')) t → Steps p.tables e below (T.setTop (mkF m pc Ls st)) t) : Wk p l e R m args below meth c M P n0 L k n pc Ls st := by
  intro s T locs X hM hF hO
  obtain ⟨t, h1, h2⟩ := W s T locs X hM hF hO
  exact ⟨t, hs s T locs X hM hO t h1, h2⟩
theorem Wk.more {k' n' : Nat} (W : Wk p l e R m args below meth c M P n0 L k' n' pc Ls st) (hk : k ≤ k') (hn : n ≤ n') : Wk p l e R m args below meth c M P n0 L k n pc Ls st :=
  fun s T locs X hM hF hO => W s T locs (X.more hk hn) hM hF hO
theorem Wk.recast {L' : List (Addr × (Cell → Prop))} (W : Wk p l e R m args below meth c M P n0 L' k n pc Ls st) (q : ∀ h, Own n0 h L → Own n0 h L') : Wk p l e R m args below meth c M P n0 L k n pc Ls st :=
  fun s T locs X hM hF hO => W s T locs X hM hF (q _ hO)
theorem Wk.know {B : Prop} (q : ∀ h, Own n0 h L → B) (W : B → Wk p l e R m args below meth c M P n0 L k n pc Ls st) : Wk p l e R m args below meth c M P n0 L k n pc Ls st :=
  fun s T locs X hM hF hO => W (q _ hO) s T locs X hM hF hO
theorem Wk.cast {Ls2 : Array Slot} {st2 : List Value} (W : Wk p l e R m args below meth c M P n0 L k n pc Ls2 st2) (q : Ls = Ls2) (r : st = st2) : Wk p l e R m args below meth c M P n0 L k n pc Ls st := by subst q r; exact W
theorem Wk.iload {i : Nat} {v : Int32} (C : Cx Z own name bytes maxL ret p m meth c M) (hd : decode bytes pc = .ok (.iload i, 2)) (hl : Ls[i]? = some (.val (.int v))) (hp : pc' = pc + 2) (W : Wk p l e R m args below meth c M P n0 L k n pc' Ls (.int v :: st)) : Wk p l e R m args below meth c M P n0 L k n pc Ls (st) := by
  subst hp
  exact W.via fun s T locs X hM hO t h1 => XS.iload X.here C.1 rfl (hb C.2.1 hd) hl h1
theorem Wk.iloadN {i : Fin 4} {v : Int32} (C : Cx Z own name bytes maxL ret p m meth c M) (hd : decode bytes pc = .ok (.iload_n i, 1)) (hl : Ls[i.val]? = some (.val (.int v))) (hp : pc' = pc + 1) (W : Wk p l e R m args below meth c M P n0 L k n pc' Ls (.int v :: st)) : Wk p l e R m args below meth c M P n0 L k n pc Ls (st) := by
  subst hp
  exact W.via fun s T locs X hM hO t h1 => XS.iloadN X.here C.1 rfl (hb C.2.1 hd) hl h1
theorem Wk.lload {i : Nat} {v : Int64} (C : Cx Z own name bytes maxL ret p m meth c M) (hd : decode bytes pc = .ok (.lload i, 2)) (hl : Ls[i]? = some (.val (.long v))) (hp : pc' = pc + 2) (W : Wk p l e R m args below meth c M P n0 L k n pc' Ls (.long v :: st)) : Wk p l e R m args below meth c M P n0 L k n pc Ls (st) := by
  subst hp
  exact W.via fun s T locs X hM hO t h1 => XS.lload X.here C.1 rfl (hb C.2.1 hd) hl h1
theorem Wk.lloadN {i : Fin 4} {v : Int64} (C : Cx Z own name bytes maxL ret p m meth c M) (hd : decode bytes pc = .ok (.lload_n i, 1)) (hl : Ls[i.val]? = some (.val (.long v))) (hp : pc' = pc + 1) (W : Wk p l e R m args below meth c M P n0 L k n pc' Ls (.long v :: st)) : Wk p l e R m args below meth c M P n0 L k n pc Ls (st) := by
  subst hp
  exact W.via fun s T locs X hM hO t h1 => XS.lloadN X.here C.1 rfl (hb C.2.1 hd) hl h1
theorem Wk.aload {i : Nat} {v : Value} (C : Cx Z own name bytes maxL ret p m meth c M) (hd : decode bytes pc = .ok (.aload i, 2)) (hl : Ls[i]? = some (.val v)) (hr : v.isRef = true) (hp : pc' = pc + 2) (W : Wk p l e R m args below meth c M P n0 L k n pc' Ls (v :: st)) : Wk p l e R m args below meth c M P n0 L k n pc Ls (st) := by
  subst hp
  exact W.via fun s T locs X hM hO t h1 => XS.aload X.here C.1 rfl (hb C.2.1 hd) hl hr h1
theorem Wk.aloadN {i : Fin 4} {v : Value} (C : Cx Z own name bytes maxL ret p m meth c M) (hd : decode bytes pc = .ok (.aload_n i, 1)) (hl : Ls[i.val]? = some (.val v)) (hr : v.isRef = true) (hp : pc' = pc + 1) (W : Wk p l e R m args below meth c M P n0 L k n pc' Ls (v :: st)) : Wk p l e R m args below meth c M P n0 L k n pc Ls (st) := by
  subst hp
  exact W.via fun s T locs X hM hO t h1 => XS.aloadN X.here C.1 rfl (hb C.2.1 hd) hl hr h1
theorem Wk.istore {i : Nat} {x : Int32} (C : Cx Z own name bytes maxL ret p m meth c M) (hd : decode bytes pc = .ok (.istore i, 2)) (hl : storeLocals Ls i (.int x) = some Ls') (hp : pc' = pc + 2) (W : Wk p l e R m args below meth c M P n0 L k n pc' Ls' (st)) : Wk p l e R m args below meth c M P n0 L k n pc Ls (.int x :: st) := by
  subst hp
  exact W.via fun s T locs X hM hO t h1 => XS.istore X.here C.1 rfl (hb C.2.1 hd) rfl hl h1
theorem Wk.istoreV {i : Nat} {x : Int32} (F : Int32 → Array Slot) (C : Cx Z own name bytes maxL ret p m meth c M) (hd : decode bytes pc = .ok (.istore i, 2)) (hl : storeLocals Ls i (.int x) = some (F x)) (hp : pc' = pc + 2) (W : ∀ v : Int32, v = x → Wk p l e R m args below meth c M P n0 L k n pc' (F v) (st)) : Wk p l e R m args below meth c M P n0 L k n pc Ls (.int x :: st) := Wk.istore C hd hl hp (W x rfl)
theorem Wk.istoreN {i : Fin 4} {x : Int32} (C : Cx Z own name bytes maxL ret p m meth c M) (hd : decode bytes pc = .ok (.istore_n i, 1)) (hl : storeLocals Ls i.val (.int x) = some Ls') (hp : pc' = pc + 1) (W : Wk p l e R m args below meth c M P n0 L k n pc' Ls' (st)) : Wk p l e R m args below meth c M P n0 L k n pc Ls (.int x :: st) := by
  subst hp
  exact W.via fun s T locs X hM hO t h1 => XS.istoreN X.here C.1 rfl (hb C.2.1 hd) rfl hl h1
theorem Wk.istoreNV {i : Fin 4} {x : Int32} (F : Int32 → Array Slot) (C : Cx Z own name bytes maxL ret p m meth c M) (hd : decode bytes pc = .ok (.istore_n i, 1)) (hl : storeLocals Ls i.val (.int x) = some (F x)) (hp : pc' = pc + 1) (W : ∀ v : Int32, v = x → Wk p l e R m args below meth c M P n0 L k n pc' (F v) (st)) : Wk p l e R m args below meth c M P n0 L k n pc Ls (.int x :: st) := Wk.istoreN C hd hl hp (W x rfl)
theorem Wk.lstore {i : Nat} {x : Int64} (C : Cx Z own name bytes maxL ret p m meth c M) (hd : decode bytes pc = .ok (.lstore i, 2)) (hl : storeLocals Ls i (.long x) = some Ls') (hp : pc' = pc + 2) (W : Wk p l e R m args below meth c M P n0 L k n pc' Ls' (st)) : Wk p l e R m args below meth c M P n0 L k n pc Ls (.long x :: st) := by
  subst hp
  exact W.via fun s T locs X hM hO t h1 => XS.lstore X.here C.1 rfl (hb C.2.1 hd) rfl hl h1
theorem Wk.lstoreV {i : Nat} {x : Int64} (F : Int64 → Array Slot) (C : Cx Z own name bytes maxL ret p m meth c M) (hd : decode bytes pc = .ok (.lstore i, 2)) (hl : storeLocals Ls i (.long x) = some (F x)) (hp : pc' = pc + 2) (W : ∀ v : Int64, v = x → Wk p l e R m args below meth c M P n0 L k n pc' (F v) (st)) : Wk p l e R m args below meth c M P n0 L k n pc Ls (.long x :: st) := Wk.lstore C hd hl hp (W x rfl)
theorem Wk.lstoreN {i : Fin 4} {x : Int64} (C : Cx Z own name bytes maxL ret p m meth c M) (hd : decode bytes pc = .ok (.lstore_n i, 1)) (hl : storeLocals Ls i.val (.long x) = some Ls') (hp : pc' = pc + 1) (W : Wk p l e R m args below meth c M P n0 L k n pc' Ls' (st)) : Wk p l e R m args below meth c M P n0 L k n pc Ls (.long x :: st) := by
  subst hp
  exact W.via fun s T locs X hM hO t h1 => XS.lstoreN X.here C.1 rfl (hb C.2.1 hd) rfl hl h1
theorem Wk.lstoreNV {i : Fin 4} {x : Int64} (F : Int64 → Array Slot) (C : Cx Z own name bytes maxL ret p m meth c M) (hd : decode bytes pc = .ok (.lstore_n i, 1)) (hl : storeLocals Ls i.val (.long x) = some (F x)) (hp : pc' = pc + 1) (W : ∀ v : Int64, v = x → Wk p l e R m args below meth c M P n0 L k n pc' (F v) (st)) : Wk p l e R m args below meth c M P n0 L k n pc Ls (.long x :: st) := Wk.lstoreN C hd hl hp (W x rfl)
theorem Wk.astore {i : Nat} {x : Value} (C : Cx Z own name bytes maxL ret p m meth c M) (hd : decode bytes pc = .ok (.astore i, 2)) (hr : x.isRef = true) (hl : storeLocals Ls i x = some Ls') (hp : pc' = pc + 2) (W : Wk p l e R m args below meth c M P n0 L k n pc' Ls' (st)) : Wk p l e R m args below meth c M P n0 L k n pc Ls (x :: st) := by
  subst hp
  exact W.via fun s T locs X hM hO t h1 => XS.astore X.here C.1 rfl (hb C.2.1 hd) rfl hr hl h1
theorem Wk.astoreN {i : Fin 4} {x : Value} (C : Cx Z own name bytes maxL ret p m meth c M) (hd : decode bytes pc = .ok (.astore_n i, 1)) (hr : x.isRef = true) (hl : storeLocals Ls i.val x = some Ls') (hp : pc' = pc + 1) (W : Wk p l e R m args below meth c M P n0 L k n pc' Ls' (st)) : Wk p l e R m args below meth c M P n0 L k n pc Ls (x :: st) := by
  subst hp
  exact W.via fun s T locs X hM hO t h1 => XS.astoreN X.here C.1 rfl (hb C.2.1 hd) rfl hr hl h1
theorem Wk.iinc {i : Nat} {cst : Int} {x z : Int32} (C : Cx Z own name bytes maxL ret p m meth c M) (hd : decode bytes pc = .ok (.iinc i cst, 3)) (hl : Ls[i]? = some (.val (.int x))) (hz : x + Int32.ofInt cst = z) (hl' : storeLocals Ls i (.int z) = some Ls') (hp : pc' = pc + 3) (W : Wk p l e R m args below meth c M P n0 L k n pc' Ls' (st)) : Wk p l e R m args below meth c M P n0 L k n pc Ls (st) := by
  subst hp
  exact W.via fun s T locs X hM hO t h1 => XS.iinc X.here C.1 rfl (hb C.2.1 hd) hl (by rw [hz]; exact hl') h1
theorem Wk.iconst {i : Int} {z : Int32} (C : Cx Z own name bytes maxL ret p m meth c M) (hd : decode bytes pc = .ok (.iconst i, 1)) (hz : Int32.ofInt i = z) (hp : pc' = pc + 1) (W : Wk p l e R m args below meth c M P n0 L k n pc' Ls (.int z :: st)) : Wk p l e R m args below meth c M P n0 L k n pc Ls (st) := by
  subst hp
  subst hz
  exact W.via fun s T locs X hM hO t h1 => XS.iconst X.here C.1 rfl (hb C.2.1 hd) h1
theorem Wk.bipush {i : Int} {z : Int32} (C : Cx Z own name bytes maxL ret p m meth c M) (hd : decode bytes pc = .ok (.bipush i, 2)) (hz : (Int8.ofInt i).toInt32 = z) (hp : pc' = pc + 2) (W : Wk p l e R m args below meth c M P n0 L k n pc' Ls (.int z :: st)) : Wk p l e R m args below meth c M P n0 L k n pc Ls (st) := by
  subst hp
  subst hz
  exact W.via fun s T locs X hM hO t h1 => XS.bipush X.here C.1 rfl (hb C.2.1 hd) h1
theorem Wk.sipush {i : Int} {z : Int32} (C : Cx Z own name bytes maxL ret p m meth c M) (hd : decode bytes pc = .ok (.sipush i, 3)) (hz : (Int16.ofInt i).toInt32 = z) (hp : pc' = pc + 3) (W : Wk p l e R m args below meth c M P n0 L k n pc' Ls (.int z :: st)) : Wk p l e R m args below meth c M P n0 L k n pc Ls (st) := by
  subst hp
  subst hz
  exact W.via fun s T locs X hM hO t h1 => XS.sipush X.here C.1 rfl (hb C.2.1 hd) h1
theorem Wk.lconst {i : Fin 2} {z : Int64} (C : Cx Z own name bytes maxL ret p m meth c M) (hd : decode bytes pc = .ok (.lconst i, 1)) (hz : Int64.ofNat i = z) (hp : pc' = pc + 1) (W : Wk p l e R m args below meth c M P n0 L k n pc' Ls (.long z :: st)) : Wk p l e R m args below meth c M P n0 L k n pc Ls (st) := by
  subst hp
  subst hz
  exact W.via fun s T locs X hM hO t h1 => XS.lconst X.here C.1 rfl (hb C.2.1 hd) h1
theorem Wk.aconstNull (C : Cx Z own name bytes maxL ret p m meth c M) (hd : decode bytes pc = .ok (.aconst_null, 1)) (hp : pc' = pc + 1) (W : Wk p l e R m args below meth c M P n0 L k n pc' Ls (.null :: st)) : Wk p l e R m args below meth c M P n0 L k n pc Ls (st) := by
  subst hp
  exact W.via fun s T locs X hM hO t h1 => XS.aconstNull X.here C.1 rfl (hb C.2.1 hd) h1
theorem Wk.ldcInt {i : Nat} {z : Int32} (C : Cx Z own name bytes maxL ret p m meth c M) (w : (Cond.constant own i z).before a0 Z = true) (hd : decode bytes pc = .ok (.ldc i, 2)) (hp : pc' = pc + 2) (W : Wk p l e R m args below meth c M P n0 L k n pc' Ls (.int z :: st)) : Wk p l e R m args below meth c M P n0 L k n pc Ls (st) := by
  subst hp
  exact W.via fun s T locs X hM hO t h1 => X.ldcInt C.1 (C.2.2.2.2.2.2.1 _ _ hM).2 (mvT (C.2.2.2.2.2.2.1 _ _ hM).1 w) (g := mkF m pc Ls st) rfl (hb C.2.1 hd) t h1
theorem Wk.ldcwInt {i : Nat} {z : Int32} (C : Cx Z own name bytes maxL ret p m meth c M) (w : (Cond.constant own i z).before a0 Z = true) (hd : decode bytes pc = .ok (.ldc_w i, 3)) (hp : pc' = pc + 3) (W : Wk p l e R m args below meth c M P n0 L k n pc' Ls (.int z :: st)) : Wk p l e R m args below meth c M P n0 L k n pc Ls (st) := by
  subst hp
  exact W.via fun s T locs X hM hO t h1 => X.ldcwInt C.1 (C.2.2.2.2.2.2.1 _ _ hM).2 (mvT (C.2.2.2.2.2.2.1 _ _ hM).1 w) (g := mkF m pc Ls st) rfl (hb C.2.1 hd) t h1
theorem Wk.ldc2Long {i : Nat} {z : Int64} (C : Cx Z own name bytes maxL ret p m meth c M) (w : (Cond.constantLong own i z).before a0 Z = true) (hd : decode bytes pc = .ok (.ldc2_w i, 3)) (hp : pc' = pc + 3) (W : Wk p l e R m args below meth c M P n0 L k n pc' Ls (.long z :: st)) : Wk p l e R m args below meth c M P n0 L k n pc Ls (st) := by
  subst hp
  exact W.via fun s T locs X hM hO t h1 => X.ldc2Long C.1 (C.2.2.2.2.2.2.1 _ _ hM).2 (mvT (C.2.2.2.2.2.2.1 _ _ hM).1 w) (g := mkF m pc Ls st) rfl (hb C.2.1 hd) t h1
theorem Wk.iadd {x y : Int32} (C : Cx Z own name bytes maxL ret p m meth c M) (hd : decode bytes pc = .ok (.iadd, 1)) (hp : pc' = pc + 1) (W : Wk p l e R m args below meth c M P n0 L k n pc' Ls (.int (x + y) :: st)) : Wk p l e R m args below meth c M P n0 L k n pc Ls (.int y :: .int x :: st) := by
  subst hp
  exact W.via fun s T locs X hM hO t h1 => XS.iadd X.here C.1 rfl (hb C.2.1 hd) rfl h1
theorem Wk.isub {x y : Int32} (C : Cx Z own name bytes maxL ret p m meth c M) (hd : decode bytes pc = .ok (.isub, 1)) (hp : pc' = pc + 1) (W : Wk p l e R m args below meth c M P n0 L k n pc' Ls (.int (x - y) :: st)) : Wk p l e R m args below meth c M P n0 L k n pc Ls (.int y :: .int x :: st) := by
  subst hp
  exact W.via fun s T locs X hM hO t h1 => XS.isub X.here C.1 rfl (hb C.2.1 hd) rfl h1
theorem Wk.imul {x y : Int32} (C : Cx Z own name bytes maxL ret p m meth c M) (hd : decode bytes pc = .ok (.imul, 1)) (hp : pc' = pc + 1) (W : Wk p l e R m args below meth c M P n0 L k n pc' Ls (.int (x * y) :: st)) : Wk p l e R m args below meth c M P n0 L k n pc Ls (.int y :: .int x :: st) := by
  subst hp
  exact W.via fun s T locs X hM hO t h1 => XS.imul X.here C.1 rfl (hb C.2.1 hd) rfl h1
theorem Wk.iand {x y : Int32} (C : Cx Z own name bytes maxL ret p m meth c M) (hd : decode bytes pc = .ok (.iand, 1)) (hp : pc' = pc + 1) (W : Wk p l e R m args below meth c M P n0 L k n pc' Ls (.int (x &&& y) :: st)) : Wk p l e R m args below meth c M P n0 L k n pc Ls (.int y :: .int x :: st) := by
  subst hp
  exact W.via fun s T locs X hM hO t h1 => XS.iand X.here C.1 rfl (hb C.2.1 hd) rfl h1
theorem Wk.ior {x y : Int32} (C : Cx Z own name bytes maxL ret p m meth c M) (hd : decode bytes pc = .ok (.ior, 1)) (hp : pc' = pc + 1) (W : Wk p l e R m args below meth c M P n0 L k n pc' Ls (.int (x ||| y) :: st)) : Wk p l e R m args below meth c M P n0 L k n pc Ls (.int y :: .int x :: st) := by
  subst hp
  exact W.via fun s T locs X hM hO t h1 => XS.ior X.here C.1 rfl (hb C.2.1 hd) rfl h1
theorem Wk.ixor {x y : Int32} (C : Cx Z own name bytes maxL ret p m meth c M) (hd : decode bytes pc = .ok (.ixor, 1)) (hp : pc' = pc + 1) (W : Wk p l e R m args below meth c M P n0 L k n pc' Ls (.int (x ^^^ y) :: st)) : Wk p l e R m args below meth c M P n0 L k n pc Ls (.int y :: .int x :: st) := by
  subst hp
  exact W.via fun s T locs X hM hO t h1 => XS.ixor X.here C.1 rfl (hb C.2.1 hd) rfl h1
theorem Wk.ishl {x y : Int32} (C : Cx Z own name bytes maxL ret p m meth c M) (hd : decode bytes pc = .ok (.ishl, 1)) (hp : pc' = pc + 1) (W : Wk p l e R m args below meth c M P n0 L k n pc' Ls (.int (x <<< (y &&& 31)) :: st)) : Wk p l e R m args below meth c M P n0 L k n pc Ls (.int y :: .int x :: st) := by
  subst hp
  exact W.via fun s T locs X hM hO t h1 => XS.ishl X.here C.1 rfl (hb C.2.1 hd) rfl h1
theorem Wk.ishr {x y : Int32} (C : Cx Z own name bytes maxL ret p m meth c M) (hd : decode bytes pc = .ok (.ishr, 1)) (hp : pc' = pc + 1) (W : Wk p l e R m args below meth c M P n0 L k n pc' Ls (.int (x >>> (y &&& 31)) :: st)) : Wk p l e R m args below meth c M P n0 L k n pc Ls (.int y :: .int x :: st) := by
  subst hp
  exact W.via fun s T locs X hM hO t h1 => XS.ishr X.here C.1 rfl (hb C.2.1 hd) rfl h1
theorem Wk.iushr {x y : Int32} (C : Cx Z own name bytes maxL ret p m meth c M) (hd : decode bytes pc = .ok (.iushr, 1)) (hp : pc' = pc + 1) (W : Wk p l e R m args below meth c M P n0 L k n pc' Ls (.int ((x.toUInt32 >>> (y &&& 31).toUInt32).toInt32) :: st)) : Wk p l e R m args below meth c M P n0 L k n pc Ls (.int y :: .int x :: st) := by
  subst hp
  exact W.via fun s T locs X hM hO t h1 => XS.iushr X.here C.1 rfl (hb C.2.1 hd) rfl h1
theorem Wk.irem {x y : Int32} (C : Cx Z own name bytes maxL ret p m meth c M) (hd : decode bytes pc = .ok (.irem, 1)) (hy : y ≠ 0) (hp : pc' = pc + 1) (W : Wk p l e R m args below meth c M P n0 L k n pc' Ls (.int (x % y) :: st)) : Wk p l e R m args below meth c M P n0 L k n pc Ls (.int y :: .int x :: st) := by
  subst hp
  exact W.via fun s T locs X hM hO t h1 => iremM X C.1 rfl (hb C.2.1 hd) rfl hy h1
theorem Wk.idiv {x y : Int32} (C : Cx Z own name bytes maxL ret p m meth c M) (hd : decode bytes pc = .ok (.idiv, 1)) (hy : y ≠ 0) (hp : pc' = pc + 1) (W : Wk p l e R m args below meth c M P n0 L k n pc' Ls (.int (x / y) :: st)) : Wk p l e R m args below meth c M P n0 L k n pc Ls (.int y :: .int x :: st) := by
  subst hp
  exact W.via fun s T locs X hM hO t h1 => XS.idiv X.here C.1 rfl (hb C.2.1 hd) rfl hy h1
theorem Wk.ladd {x y : Int64} (C : Cx Z own name bytes maxL ret p m meth c M) (hd : decode bytes pc = .ok (.ladd, 1)) (hp : pc' = pc + 1) (W : Wk p l e R m args below meth c M P n0 L k n pc' Ls (.long (x + y) :: st)) : Wk p l e R m args below meth c M P n0 L k n pc Ls (.long y :: .long x :: st) := by
  subst hp
  exact W.via fun s T locs X hM hO t h1 => XS.ladd X.here C.1 rfl (hb C.2.1 hd) rfl h1
theorem Wk.lsub {x y : Int64} (C : Cx Z own name bytes maxL ret p m meth c M) (hd : decode bytes pc = .ok (.lsub, 1)) (hp : pc' = pc + 1) (W : Wk p l e R m args below meth c M P n0 L k n pc' Ls (.long (x - y) :: st)) : Wk p l e R m args below meth c M P n0 L k n pc Ls (.long y :: .long x :: st) := by
  subst hp
  exact W.via fun s T locs X hM hO t h1 => XS.lsub X.here C.1 rfl (hb C.2.1 hd) rfl h1
theorem Wk.lmul {x y : Int64} (C : Cx Z own name bytes maxL ret p m meth c M) (hd : decode bytes pc = .ok (.lmul, 1)) (hp : pc' = pc + 1) (W : Wk p l e R m args below meth c M P n0 L k n pc' Ls (.long (x * y) :: st)) : Wk p l e R m args below meth c M P n0 L k n pc Ls (.long y :: .long x :: st) := by
  subst hp
  exact W.via fun s T locs X hM hO t h1 => XS.lmul X.here C.1 rfl (hb C.2.1 hd) rfl h1
theorem Wk.land {x y : Int64} (C : Cx Z own name bytes maxL ret p m meth c M) (hd : decode bytes pc = .ok (.land, 1)) (hp : pc' = pc + 1) (W : Wk p l e R m args below meth c M P n0 L k n pc' Ls (.long (x &&& y) :: st)) : Wk p l e R m args below meth c M P n0 L k n pc Ls (.long y :: .long x :: st) := by
  subst hp
  exact W.via fun s T locs X hM hO t h1 => XS.land X.here C.1 rfl (hb C.2.1 hd) rfl h1
theorem Wk.lor {x y : Int64} (C : Cx Z own name bytes maxL ret p m meth c M) (hd : decode bytes pc = .ok (.lor, 1)) (hp : pc' = pc + 1) (W : Wk p l e R m args below meth c M P n0 L k n pc' Ls (.long (x ||| y) :: st)) : Wk p l e R m args below meth c M P n0 L k n pc Ls (.long y :: .long x :: st) := by
  subst hp
  exact W.via fun s T locs X hM hO t h1 => XS.lor X.here C.1 rfl (hb C.2.1 hd) rfl h1
theorem Wk.lxor {x y : Int64} (C : Cx Z own name bytes maxL ret p m meth c M) (hd : decode bytes pc = .ok (.lxor, 1)) (hp : pc' = pc + 1) (W : Wk p l e R m args below meth c M P n0 L k n pc' Ls (.long (x ^^^ y) :: st)) : Wk p l e R m args below meth c M P n0 L k n pc Ls (.long y :: .long x :: st) := by
  subst hp
  exact W.via fun s T locs X hM hO t h1 => XS.lxor X.here C.1 rfl (hb C.2.1 hd) rfl h1
theorem Wk.lshl {x : Int64} {y : Int32} (C : Cx Z own name bytes maxL ret p m meth c M) (hd : decode bytes pc = .ok (.lshl, 1)) (hp : pc' = pc + 1) (W : Wk p l e R m args below meth c M P n0 L k n pc' Ls (.long (x <<< (y &&& 0x3f).toInt64) :: st)) : Wk p l e R m args below meth c M P n0 L k n pc Ls (.int y :: .long x :: st) := by
  subst hp
  exact W.via fun s T locs X hM hO t h1 => XS.lshl X.here C.1 rfl (hb C.2.1 hd) rfl h1
theorem Wk.lshr {x : Int64} {y : Int32} (C : Cx Z own name bytes maxL ret p m meth c M) (hd : decode bytes pc = .ok (.lshr, 1)) (hp : pc' = pc + 1) (W : Wk p l e R m args below meth c M P n0 L k n pc' Ls (.long (x >>> (y &&& 0x3f).toInt64) :: st)) : Wk p l e R m args below meth c M P n0 L k n pc Ls (.int y :: .long x :: st) := by
  subst hp
  exact W.via fun s T locs X hM hO t h1 => XS.lshr X.here C.1 rfl (hb C.2.1 hd) rfl h1
theorem Wk.lushr {x : Int64} {y : Int32} (C : Cx Z own name bytes maxL ret p m meth c M) (hd : decode bytes pc = .ok (.lushr, 1)) (hp : pc' = pc + 1) (W : Wk p l e R m args below meth c M P n0 L k n pc' Ls (.long ((x.toUInt64 >>> (y &&& 0x3f).toInt64.toUInt64).toInt64) :: st)) : Wk p l e R m args below meth c M P n0 L k n pc Ls (.int y :: .long x :: st) := by
  subst hp
  exact W.via fun s T locs X hM hO t h1 => XS.lushr X.here C.1 rfl (hb C.2.1 hd) rfl h1
theorem Wk.lrem {x y : Int64} (C : Cx Z own name bytes maxL ret p m meth c M) (hd : decode bytes pc = .ok (.lrem, 1)) (hy : y ≠ 0) (hp : pc' = pc + 1) (W : Wk p l e R m args below meth c M P n0 L k n pc' Ls (.long (x % y) :: st)) : Wk p l e R m args below meth c M P n0 L k n pc Ls (.long y :: .long x :: st) := by
  subst hp
  exact W.via fun s T locs X hM hO t h1 => XS.lrem X.here C.1 rfl (hb C.2.1 hd) rfl hy (by rw [lrem_mod]; exact h1)
theorem Wk.i2b {x : Int32} (C : Cx Z own name bytes maxL ret p m meth c M) (hd : decode bytes pc = .ok (.i2b, 1)) (hp : pc' = pc + 1) (W : Wk p l e R m args below meth c M P n0 L k n pc' Ls (.int (x.toInt8.toInt32) :: st)) : Wk p l e R m args below meth c M P n0 L k n pc Ls (.int x :: st) := by
  subst hp
  exact W.via fun s T locs X hM hO t h1 => XS.i2b X.here C.1 rfl (hb C.2.1 hd) rfl h1
theorem Wk.i2c {x : Int32} (C : Cx Z own name bytes maxL ret p m meth c M) (hd : decode bytes pc = .ok (.i2c, 1)) (hp : pc' = pc + 1) (W : Wk p l e R m args below meth c M P n0 L k n pc' Ls (.int (x.toUInt32.toUInt16.toUInt32.toInt32) :: st)) : Wk p l e R m args below meth c M P n0 L k n pc Ls (.int x :: st) := by
  subst hp
  exact W.via fun s T locs X hM hO t h1 => XS.i2c X.here C.1 rfl (hb C.2.1 hd) rfl h1
theorem Wk.i2s {x : Int32} (C : Cx Z own name bytes maxL ret p m meth c M) (hd : decode bytes pc = .ok (.i2s, 1)) (hp : pc' = pc + 1) (W : Wk p l e R m args below meth c M P n0 L k n pc' Ls (.int (x.toInt16.toInt32) :: st)) : Wk p l e R m args below meth c M P n0 L k n pc Ls (.int x :: st) := by
  subst hp
  exact W.via fun s T locs X hM hO t h1 => XS.i2s X.here C.1 rfl (hb C.2.1 hd) rfl h1
theorem Wk.i2l {x : Int32} (C : Cx Z own name bytes maxL ret p m meth c M) (hd : decode bytes pc = .ok (.i2l, 1)) (hp : pc' = pc + 1) (W : Wk p l e R m args below meth c M P n0 L k n pc' Ls (.long (x.toInt64) :: st)) : Wk p l e R m args below meth c M P n0 L k n pc Ls (.int x :: st) := by
  subst hp
  exact W.via fun s T locs X hM hO t h1 => XS.i2l X.here C.1 rfl (hb C.2.1 hd) rfl h1
theorem Wk.l2i {x : Int64} (C : Cx Z own name bytes maxL ret p m meth c M) (hd : decode bytes pc = .ok (.l2i, 1)) (hp : pc' = pc + 1) (W : Wk p l e R m args below meth c M P n0 L k n pc' Ls (.int (x.toInt32) :: st)) : Wk p l e R m args below meth c M P n0 L k n pc Ls (.long x :: st) := by
  subst hp
  exact W.via fun s T locs X hM hO t h1 => XS.l2i X.here C.1 rfl (hb C.2.1 hd) rfl h1
theorem Wk.lneg {x : Int64} (C : Cx Z own name bytes maxL ret p m meth c M) (hd : decode bytes pc = .ok (.lneg, 1)) (hp : pc' = pc + 1) (W : Wk p l e R m args below meth c M P n0 L k n pc' Ls (.long (-x) :: st)) : Wk p l e R m args below meth c M P n0 L k n pc Ls (.long x :: st) := by
  subst hp
  exact W.via fun s T locs X hM hO t h1 => XS.lneg X.here C.1 rfl (hb C.2.1 hd) rfl h1
theorem Wk.ineg {x : Int32} (C : Cx Z own name bytes maxL ret p m meth c M) (hd : decode bytes pc = .ok (.ineg, 1)) (hp : pc' = pc + 1) (W : Wk p l e R m args below meth c M P n0 L k n pc' Ls (.int (-x) :: st)) : Wk p l e R m args below meth c M P n0 L k n pc Ls (.int x :: st) := by
  subst hp
  exact W.via fun s T locs X hM hO t h1 => XS.ineg X.here C.1 rfl (hb C.2.1 hd) rfl h1
theorem Wk.dup {x : Value} (C : Cx Z own name bytes maxL ret p m meth c M) (hd : decode bytes pc = .ok (.dup, 1)) (hc : x.category = 1) (hp : pc' = pc + 1) (W : Wk p l e R m args below meth c M P n0 L k n pc' Ls (x :: x :: st)) : Wk p l e R m args below meth c M P n0 L k n pc Ls (x :: st) := by
  subst hp
  exact W.via fun s T locs X hM hO t h1 => XS.dup X.here C.1 rfl (hb C.2.1 hd) rfl hc h1
theorem Wk.pop {x : Value} (C : Cx Z own name bytes maxL ret p m meth c M) (hd : decode bytes pc = .ok (.pop, 1)) (hc : x.category = 1) (hp : pc' = pc + 1) (W : Wk p l e R m args below meth c M P n0 L k n pc' Ls (st)) : Wk p l e R m args below meth c M P n0 L k n pc Ls (x :: st) := by
  subst hp
  exact W.via fun s T locs X hM hO t h1 => XS.pop X.here C.1 rfl (hb C.2.1 hd) rfl hc h1
theorem Wk.dupX1 {x y : Value} (C : Cx Z own name bytes maxL ret p m meth c M) (hd : decode bytes pc = .ok (.dup_x1, 1)) (hc : x.category = 1) (hc' : y.category = 1) (hp : pc' = pc + 1) (W : Wk p l e R m args below meth c M P n0 L k n pc' Ls (x :: y :: x :: st)) : Wk p l e R m args below meth c M P n0 L k n pc Ls (x :: y :: st) := by
  subst hp
  exact W.via fun s T locs X hM hO t h1 => XS.dupX1 X.here C.1 rfl (hb C.2.1 hd) rfl hc hc' h1
theorem Wk.dup2 {x y : Value} (C : Cx Z own name bytes maxL ret p m meth c M) (hd : decode bytes pc = .ok (.dup2, 1)) (hc : x.category = 1) (hc' : y.category = 1) (hp : pc' = pc + 1) (W : Wk p l e R m args below meth c M P n0 L k n pc' Ls (x :: y :: x :: y :: st)) : Wk p l e R m args below meth c M P n0 L k n pc Ls (x :: y :: st) := by
  subst hp
  exact W.via fun s T locs X hM hO t h1 => Jvm.Free.XT.dup2 X.here C.1 rfl (hb C.2.1 hd) rfl hc hc' h1
theorem Wk.goto {o : Int} (C : Cx Z own name bytes maxL ret p m meth c M) (hd : decode bytes pc = .ok (.goto o, 3)) (ho : 0 ≤ (pc : Int) + o) (hp : ((pc : Int) + o).toNat = pc') (W : Wk p l e R m args below meth c M P n0 L k n pc' Ls (st)) : Wk p l e R m args below meth c M P n0 L k n pc Ls (st) :=
  W.via fun s T locs X hM hO t h1 => XS.goto X.here C.1 rfl (pc0 := pc) rfl (hb C.2.1 hd) ho hp h1
theorem Wk.icmp_lt {x y : Int32} {o : Int} {pcT pcF : Nat} (C : Cx Z own name bytes maxL ret p m meth c M) (hd : decode bytes pc = .ok (.if_icmp .lt o, 3)) (ho : 0 ≤ (pc : Int) + o) (hp : ((pc : Int) + o).toNat = pcT) (hp' : pcF = pc + 3) (hT : x < y → Wk p l e R m args below meth c M P n0 L k n pcT Ls (st)) (hF : ¬ x < y → Wk p l e R m args below meth c M P n0 L k n pcF Ls (st)) : Wk p l e R m args below meth c M P n0 L k n pc Ls (.int y :: .int x :: st) := by
  subst hp'
  by_cases h : x < y
  · exact (hT h).via fun s T locs X hM hO t h1 => XS.icmpYes X.here C.1 rfl (pc0 := pc) rfl (hb C.2.1 hd) rfl (tlt h).1 ho hp h1
  · exact (hF h).via fun s T locs X hM hO t h1 => XS.icmpNo X.here C.1 rfl (hb C.2.1 hd) rfl (flt h).1 h1
theorem Wk.if_lt {x : Int32} {o : Int} {pcT pcF : Nat} (C : Cx Z own name bytes maxL ret p m meth c M) (hd : decode bytes pc = .ok (.ifCond .lt o, 3)) (ho : 0 ≤ (pc : Int) + o) (hp : ((pc : Int) + o).toNat = pcT) (hp' : pcF = pc + 3) (hT : x < 0 → Wk p l e R m args below meth c M P n0 L k n pcT Ls (st)) (hF : ¬ x < 0 → Wk p l e R m args below meth c M P n0 L k n pcF Ls (st)) : Wk p l e R m args below meth c M P n0 L k n pc Ls (.int x :: st) := by
  subst hp'
  by_cases h : x < 0
  · exact (hT h).via fun s T locs X hM hO t h1 => XS.ifYes X.here C.1 rfl (pc0 := pc) rfl (hb C.2.1 hd) rfl ((if0 _ _).trans (tlt h).1) ho hp h1
  · exact (hF h).via fun s T locs X hM hO t h1 => XS.ifNo X.here C.1 rfl (hb C.2.1 hd) rfl ((if0 _ _).trans (flt h).1) h1
theorem Wk.lcmp_lt {x y : Int64} {o : Int} {pc1 pcT pcF : Nat} (C : Cx Z own name bytes maxL ret p m meth c M) (hd0 : decode bytes pc = .ok (.lcmp, 1)) (hp1 : pc1 = pc + 1) (hd : decode bytes pc1 = .ok (.ifCond .lt o, 3)) (ho : 0 ≤ (pc1 : Int) + o) (hp : ((pc1 : Int) + o).toNat = pcT) (hp' : pcF = pc1 + 3) (hT : x < y → Wk p l e R m args below meth c M P n0 L k n pcT Ls (st)) (hF : ¬ x < y → Wk p l e R m args below meth c M P n0 L k n pcF Ls (st)) : Wk p l e R m args below meth c M P n0 L k n pc Ls (.long y :: .long x :: st) := by
  subst hp1
  have W1 : Wk p l e R m args below meth c M P n0 L k n (pc + 1) Ls (.int (lcmpW x y) :: st) := Wk.if_lt C hd ho hp hp' (fun h => hT ((lw_lt x y).mp h)) (fun h => hF (fun q => h ((lw_lt x y).mpr q)))
  exact W1.via fun s T locs X hM hO t h1 => XS.lcmp X.here C.1 rfl (hb C.2.1 hd0) rfl h1
theorem Wk.icmp_ge {x y : Int32} {o : Int} {pcT pcF : Nat} (C : Cx Z own name bytes maxL ret p m meth c M) (hd : decode bytes pc = .ok (.if_icmp .ge o, 3)) (ho : 0 ≤ (pc : Int) + o) (hp : ((pc : Int) + o).toNat = pcT) (hp' : pcF = pc + 3) (hT : ¬ x < y → Wk p l e R m args below meth c M P n0 L k n pcT Ls (st)) (hF : x < y → Wk p l e R m args below meth c M P n0 L k n pcF Ls (st)) : Wk p l e R m args below meth c M P n0 L k n pc Ls (.int y :: .int x :: st) := by
  subst hp'
  by_cases h : x < y
  · exact (hF h).via fun s T locs X hM hO t h1 => XS.icmpNo X.here C.1 rfl (hb C.2.1 hd) rfl (tlt h).2.1 h1
  · exact (hT h).via fun s T locs X hM hO t h1 => XS.icmpYes X.here C.1 rfl (pc0 := pc) rfl (hb C.2.1 hd) rfl (flt h).2.1 ho hp h1
theorem Wk.if_ge {x : Int32} {o : Int} {pcT pcF : Nat} (C : Cx Z own name bytes maxL ret p m meth c M) (hd : decode bytes pc = .ok (.ifCond .ge o, 3)) (ho : 0 ≤ (pc : Int) + o) (hp : ((pc : Int) + o).toNat = pcT) (hp' : pcF = pc + 3) (hT : ¬ x < 0 → Wk p l e R m args below meth c M P n0 L k n pcT Ls (st)) (hF : x < 0 → Wk p l e R m args below meth c M P n0 L k n pcF Ls (st)) : Wk p l e R m args below meth c M P n0 L k n pc Ls (.int x :: st) := by
  subst hp'
  by_cases h : x < 0
  · exact (hF h).via fun s T locs X hM hO t h1 => XS.ifNo X.here C.1 rfl (hb C.2.1 hd) rfl ((if0 _ _).trans (tlt h).2.1) h1
  · exact (hT h).via fun s T locs X hM hO t h1 => XS.ifYes X.here C.1 rfl (pc0 := pc) rfl (hb C.2.1 hd) rfl ((if0 _ _).trans (flt h).2.1) ho hp h1
theorem Wk.lcmp_ge {x y : Int64} {o : Int} {pc1 pcT pcF : Nat} (C : Cx Z own name bytes maxL ret p m meth c M) (hd0 : decode bytes pc = .ok (.lcmp, 1)) (hp1 : pc1 = pc + 1) (hd : decode bytes pc1 = .ok (.ifCond .ge o, 3)) (ho : 0 ≤ (pc1 : Int) + o) (hp : ((pc1 : Int) + o).toNat = pcT) (hp' : pcF = pc1 + 3) (hT : ¬ x < y → Wk p l e R m args below meth c M P n0 L k n pcT Ls (st)) (hF : x < y → Wk p l e R m args below meth c M P n0 L k n pcF Ls (st)) : Wk p l e R m args below meth c M P n0 L k n pc Ls (.long y :: .long x :: st) := by
  subst hp1
  have W1 : Wk p l e R m args below meth c M P n0 L k n (pc + 1) Ls (.int (lcmpW x y) :: st) := Wk.if_ge C hd ho hp hp' (fun h => hT (fun q => h ((lw_lt x y).mpr q))) (fun h => hF ((lw_lt x y).mp h))
  exact W1.via fun s T locs X hM hO t h1 => XS.lcmp X.here C.1 rfl (hb C.2.1 hd0) rfl h1
theorem Wk.icmp_gt {x y : Int32} {o : Int} {pcT pcF : Nat} (C : Cx Z own name bytes maxL ret p m meth c M) (hd : decode bytes pc = .ok (.if_icmp .gt o, 3)) (ho : 0 ≤ (pc : Int) + o) (hp : ((pc : Int) + o).toNat = pcT) (hp' : pcF = pc + 3) (hT : y < x → Wk p l e R m args below meth c M P n0 L k n pcT Ls (st)) (hF : ¬ y < x → Wk p l e R m args below meth c M P n0 L k n pcF Ls (st)) : Wk p l e R m args below meth c M P n0 L k n pc Ls (.int y :: .int x :: st) := by
  subst hp'
  by_cases h : y < x
  · exact (hT h).via fun s T locs X hM hO t h1 => XS.icmpYes X.here C.1 rfl (pc0 := pc) rfl (hb C.2.1 hd) rfl (tlt h).2.2.1 ho hp h1
  · exact (hF h).via fun s T locs X hM hO t h1 => XS.icmpNo X.here C.1 rfl (hb C.2.1 hd) rfl (flt h).2.2.1 h1
theorem Wk.if_gt {x : Int32} {o : Int} {pcT pcF : Nat} (C : Cx Z own name bytes maxL ret p m meth c M) (hd : decode bytes pc = .ok (.ifCond .gt o, 3)) (ho : 0 ≤ (pc : Int) + o) (hp : ((pc : Int) + o).toNat = pcT) (hp' : pcF = pc + 3) (hT : 0 < x → Wk p l e R m args below meth c M P n0 L k n pcT Ls (st)) (hF : ¬ 0 < x → Wk p l e R m args below meth c M P n0 L k n pcF Ls (st)) : Wk p l e R m args below meth c M P n0 L k n pc Ls (.int x :: st) := by
  subst hp'
  by_cases h : 0 < x
  · exact (hT h).via fun s T locs X hM hO t h1 => XS.ifYes X.here C.1 rfl (pc0 := pc) rfl (hb C.2.1 hd) rfl ((if0 _ _).trans (tlt h).2.2.1) ho hp h1
  · exact (hF h).via fun s T locs X hM hO t h1 => XS.ifNo X.here C.1 rfl (hb C.2.1 hd) rfl ((if0 _ _).trans (flt h).2.2.1) h1
theorem Wk.lcmp_gt {x y : Int64} {o : Int} {pc1 pcT pcF : Nat} (C : Cx Z own name bytes maxL ret p m meth c M) (hd0 : decode bytes pc = .ok (.lcmp, 1)) (hp1 : pc1 = pc + 1) (hd : decode bytes pc1 = .ok (.ifCond .gt o, 3)) (ho : 0 ≤ (pc1 : Int) + o) (hp : ((pc1 : Int) + o).toNat = pcT) (hp' : pcF = pc1 + 3) (hT : y < x → Wk p l e R m args below meth c M P n0 L k n pcT Ls (st)) (hF : ¬ y < x → Wk p l e R m args below meth c M P n0 L k n pcF Ls (st)) : Wk p l e R m args below meth c M P n0 L k n pc Ls (.long y :: .long x :: st) := by
  subst hp1
  have W1 : Wk p l e R m args below meth c M P n0 L k n (pc + 1) Ls (.int (lcmpW x y) :: st) := Wk.if_gt C hd ho hp hp' (fun h => hT ((lw_gt x y).mp h)) (fun h => hF (fun q => h ((lw_gt x y).mpr q)))
  exact W1.via fun s T locs X hM hO t h1 => XS.lcmp X.here C.1 rfl (hb C.2.1 hd0) rfl h1
theorem Wk.icmp_le {x y : Int32} {o : Int} {pcT pcF : Nat} (C : Cx Z own name bytes maxL ret p m meth c M) (hd : decode bytes pc = .ok (.if_icmp .le o, 3)) (ho : 0 ≤ (pc : Int) + o) (hp : ((pc : Int) + o).toNat = pcT) (hp' : pcF = pc + 3) (hT : ¬ y < x → Wk p l e R m args below meth c M P n0 L k n pcT Ls (st)) (hF : y < x → Wk p l e R m args below meth c M P n0 L k n pcF Ls (st)) : Wk p l e R m args below meth c M P n0 L k n pc Ls (.int y :: .int x :: st) := by
  subst hp'
  by_cases h : y < x
  · exact (hF h).via fun s T locs X hM hO t h1 => XS.icmpNo X.here C.1 rfl (hb C.2.1 hd) rfl (tlt h).2.2.2 h1
  · exact (hT h).via fun s T locs X hM hO t h1 => XS.icmpYes X.here C.1 rfl (pc0 := pc) rfl (hb C.2.1 hd) rfl (flt h).2.2.2 ho hp h1
theorem Wk.if_le {x : Int32} {o : Int} {pcT pcF : Nat} (C : Cx Z own name bytes maxL ret p m meth c M) (hd : decode bytes pc = .ok (.ifCond .le o, 3)) (ho : 0 ≤ (pc : Int) + o) (hp : ((pc : Int) + o).toNat = pcT) (hp' : pcF = pc + 3) (hT : ¬ 0 < x → Wk p l e R m args below meth c M P n0 L k n pcT Ls (st)) (hF : 0 < x → Wk p l e R m args below meth c M P n0 L k n pcF Ls (st)) : Wk p l e R m args below meth c M P n0 L k n pc Ls (.int x :: st) := by
  subst hp'
  by_cases h : 0 < x
  · exact (hF h).via fun s T locs X hM hO t h1 => XS.ifNo X.here C.1 rfl (hb C.2.1 hd) rfl ((if0 _ _).trans (tlt h).2.2.2) h1
  · exact (hT h).via fun s T locs X hM hO t h1 => XS.ifYes X.here C.1 rfl (pc0 := pc) rfl (hb C.2.1 hd) rfl ((if0 _ _).trans (flt h).2.2.2) ho hp h1
theorem Wk.lcmp_le {x y : Int64} {o : Int} {pc1 pcT pcF : Nat} (C : Cx Z own name bytes maxL ret p m meth c M) (hd0 : decode bytes pc = .ok (.lcmp, 1)) (hp1 : pc1 = pc + 1) (hd : decode bytes pc1 = .ok (.ifCond .le o, 3)) (ho : 0 ≤ (pc1 : Int) + o) (hp : ((pc1 : Int) + o).toNat = pcT) (hp' : pcF = pc1 + 3) (hT : ¬ y < x → Wk p l e R m args below meth c M P n0 L k n pcT Ls (st)) (hF : y < x → Wk p l e R m args below meth c M P n0 L k n pcF Ls (st)) : Wk p l e R m args below meth c M P n0 L k n pc Ls (.long y :: .long x :: st) := by
  subst hp1
  have W1 : Wk p l e R m args below meth c M P n0 L k n (pc + 1) Ls (.int (lcmpW x y) :: st) := Wk.if_le C hd ho hp hp' (fun h => hT (fun q => h ((lw_gt x y).mpr q))) (fun h => hF ((lw_gt x y).mp h))
  exact W1.via fun s T locs X hM hO t h1 => XS.lcmp X.here C.1 rfl (hb C.2.1 hd0) rfl h1
theorem Wk.icmp_eq {x y : Int32} {o : Int} {pcT pcF : Nat} (C : Cx Z own name bytes maxL ret p m meth c M) (hd : decode bytes pc = .ok (.if_icmp .eq o, 3)) (ho : 0 ≤ (pc : Int) + o) (hp : ((pc : Int) + o).toNat = pcT) (hp' : pcF = pc + 3) (hT : x = y → Wk p l e R m args below meth c M P n0 L k n pcT Ls (st)) (hF : ¬ x = y → Wk p l e R m args below meth c M P n0 L k n pcF Ls (st)) : Wk p l e R m args below meth c M P n0 L k n pc Ls (.int y :: .int x :: st) := by
  subst hp'
  by_cases h : x = y
  · exact (hT h).via fun s T locs X hM hO t h1 => XS.icmpYes X.here C.1 rfl (pc0 := pc) rfl (hb C.2.1 hd) rfl (teq h).1 ho hp h1
  · exact (hF h).via fun s T locs X hM hO t h1 => XS.icmpNo X.here C.1 rfl (hb C.2.1 hd) rfl (feq h).1 h1
theorem Wk.if_eq {x : Int32} {o : Int} {pcT pcF : Nat} (C : Cx Z own name bytes maxL ret p m meth c M) (hd : decode bytes pc = .ok (.ifCond .eq o, 3)) (ho : 0 ≤ (pc : Int) + o) (hp : ((pc : Int) + o).toNat = pcT) (hp' : pcF = pc + 3) (hT : x = 0 → Wk p l e R m args below meth c M P n0 L k n pcT Ls (st)) (hF : ¬ x = 0 → Wk p l e R m args below meth c M P n0 L k n pcF Ls (st)) : Wk p l e R m args below meth c M P n0 L k n pc Ls (.int x :: st) := by
  subst hp'
  by_cases h : x = 0
  · exact (hT h).via fun s T locs X hM hO t h1 => XS.ifYes X.here C.1 rfl (pc0 := pc) rfl (hb C.2.1 hd) rfl ((if0 _ _).trans (teq h).1) ho hp h1
  · exact (hF h).via fun s T locs X hM hO t h1 => XS.ifNo X.here C.1 rfl (hb C.2.1 hd) rfl ((if0 _ _).trans (feq h).1) h1
theorem Wk.lcmp_eq {x y : Int64} {o : Int} {pc1 pcT pcF : Nat} (C : Cx Z own name bytes maxL ret p m meth c M) (hd0 : decode bytes pc = .ok (.lcmp, 1)) (hp1 : pc1 = pc + 1) (hd : decode bytes pc1 = .ok (.ifCond .eq o, 3)) (ho : 0 ≤ (pc1 : Int) + o) (hp : ((pc1 : Int) + o).toNat = pcT) (hp' : pcF = pc1 + 3) (hT : x = y → Wk p l e R m args below meth c M P n0 L k n pcT Ls (st)) (hF : ¬ x = y → Wk p l e R m args below meth c M P n0 L k n pcF Ls (st)) : Wk p l e R m args below meth c M P n0 L k n pc Ls (.long y :: .long x :: st) := by
  subst hp1
  have W1 : Wk p l e R m args below meth c M P n0 L k n (pc + 1) Ls (.int (lcmpW x y) :: st) := Wk.if_eq C hd ho hp hp' (fun h => hT ((lw_eq x y).mp h)) (fun h => hF (fun q => h ((lw_eq x y).mpr q)))
  exact W1.via fun s T locs X hM hO t h1 => XS.lcmp X.here C.1 rfl (hb C.2.1 hd0) rfl h1
theorem Wk.icmp_ne {x y : Int32} {o : Int} {pcT pcF : Nat} (C : Cx Z own name bytes maxL ret p m meth c M) (hd : decode bytes pc = .ok (.if_icmp .ne o, 3)) (ho : 0 ≤ (pc : Int) + o) (hp : ((pc : Int) + o).toNat = pcT) (hp' : pcF = pc + 3) (hT : ¬ x = y → Wk p l e R m args below meth c M P n0 L k n pcT Ls (st)) (hF : x = y → Wk p l e R m args below meth c M P n0 L k n pcF Ls (st)) : Wk p l e R m args below meth c M P n0 L k n pc Ls (.int y :: .int x :: st) := by
  subst hp'
  by_cases h : x = y
  · exact (hF h).via fun s T locs X hM hO t h1 => XS.icmpNo X.here C.1 rfl (hb C.2.1 hd) rfl (teq h).2 h1
  · exact (hT h).via fun s T locs X hM hO t h1 => XS.icmpYes X.here C.1 rfl (pc0 := pc) rfl (hb C.2.1 hd) rfl (feq h).2 ho hp h1
theorem Wk.if_ne {x : Int32} {o : Int} {pcT pcF : Nat} (C : Cx Z own name bytes maxL ret p m meth c M) (hd : decode bytes pc = .ok (.ifCond .ne o, 3)) (ho : 0 ≤ (pc : Int) + o) (hp : ((pc : Int) + o).toNat = pcT) (hp' : pcF = pc + 3) (hT : ¬ x = 0 → Wk p l e R m args below meth c M P n0 L k n pcT Ls (st)) (hF : x = 0 → Wk p l e R m args below meth c M P n0 L k n pcF Ls (st)) : Wk p l e R m args below meth c M P n0 L k n pc Ls (.int x :: st) := by
  subst hp'
  by_cases h : x = 0
  · exact (hF h).via fun s T locs X hM hO t h1 => XS.ifNo X.here C.1 rfl (hb C.2.1 hd) rfl ((if0 _ _).trans (teq h).2) h1
  · exact (hT h).via fun s T locs X hM hO t h1 => XS.ifYes X.here C.1 rfl (pc0 := pc) rfl (hb C.2.1 hd) rfl ((if0 _ _).trans (feq h).2) ho hp h1
theorem Wk.lcmp_ne {x y : Int64} {o : Int} {pc1 pcT pcF : Nat} (C : Cx Z own name bytes maxL ret p m meth c M) (hd0 : decode bytes pc = .ok (.lcmp, 1)) (hp1 : pc1 = pc + 1) (hd : decode bytes pc1 = .ok (.ifCond .ne o, 3)) (ho : 0 ≤ (pc1 : Int) + o) (hp : ((pc1 : Int) + o).toNat = pcT) (hp' : pcF = pc1 + 3) (hT : ¬ x = y → Wk p l e R m args below meth c M P n0 L k n pcT Ls (st)) (hF : x = y → Wk p l e R m args below meth c M P n0 L k n pcF Ls (st)) : Wk p l e R m args below meth c M P n0 L k n pc Ls (.long y :: .long x :: st) := by
  subst hp1
  have W1 : Wk p l e R m args below meth c M P n0 L k n (pc + 1) Ls (.int (lcmpW x y) :: st) := Wk.if_ne C hd ho hp hp' (fun h => hT (fun q => h ((lw_eq x y).mpr q))) (fun h => hF ((lw_eq x y).mp h))
  exact W1.via fun s T locs X hM hO t h1 => XS.lcmp X.here C.1 rfl (hb C.2.1 hd0) rfl h1
theorem Wk.ifnullYes {o : Int} (C : Cx Z own name bytes maxL ret p m meth c M) (hd : decode bytes pc = .ok (.ifnull o, 3)) (ho : 0 ≤ (pc : Int) + o) (hp : ((pc : Int) + o).toNat = pc') (W : Wk p l e R m args below meth c M P n0 L k n pc' Ls (st)) : Wk p l e R m args below meth c M P n0 L k n pc Ls (.null :: st) :=
  W.via fun s T locs X hM hO t h1 => XS.ifnullYes X.here C.1 rfl (pc0 := pc) rfl (hb C.2.1 hd) rfl ho hp h1
theorem Wk.ifnullNo {b : Addr} {o : Int} (C : Cx Z own name bytes maxL ret p m meth c M) (hd : decode bytes pc = .ok (.ifnull o, 3)) (hp : pc' = pc + 3) (W : Wk p l e R m args below meth c M P n0 L k n pc' Ls (st)) : Wk p l e R m args below meth c M P n0 L k n pc Ls (.ref b :: st) := by
  subst hp
  exact W.via fun s T locs X hM hO t h1 => XS.ifnullNo X.here C.1 rfl (hb C.2.1 hd) rfl h1
theorem Wk.ifnonnullYes {b : Addr} {o : Int} (C : Cx Z own name bytes maxL ret p m meth c M) (hd : decode bytes pc = .ok (.ifnonnull o, 3)) (ho : 0 ≤ (pc : Int) + o) (hp : ((pc : Int) + o).toNat = pc') (W : Wk p l e R m args below meth c M P n0 L k n pc' Ls (st)) : Wk p l e R m args below meth c M P n0 L k n pc Ls (.ref b :: st) :=
  W.via fun s T locs X hM hO t h1 => XS.ifnonnullYes X.here C.1 rfl (pc0 := pc) rfl (hb C.2.1 hd) rfl ho hp h1
theorem Wk.ifnonnullNo {o : Int} (C : Cx Z own name bytes maxL ret p m meth c M) (hd : decode bytes pc = .ok (.ifnonnull o, 3)) (hp : pc' = pc + 3) (W : Wk p l e R m args below meth c M P n0 L k n pc' Ls (st)) : Wk p l e R m args below meth c M P n0 L k n pc Ls (.null :: st) := by
  subst hp
  exact W.via fun s T locs X hM hO t h1 => XS.ifnonnullNo X.here C.1 rfl (hb C.2.1 hd) rfl h1
theorem Wk.acmp {cd : ACond} {x y : Value} {o : Int} {same : Bool} (C : Cx Z own name bytes maxL ret p m meth c M) (hd : decode bytes pc = .ok (.if_acmp cd o, 3)) (h1 : x.isRef = true) (h2 : y.isRef = true) (hq : decide (x = y) = same) (ho : 0 ≤ (pc : Int) + o) (hp : pc' = if acV cd same = true then ((pc : Int) + o).toNat else pc + 3) (W : Wk p l e R m args below meth c M P n0 L k n pc' Ls (st)) : Wk p l e R m args below meth c M P n0 L k n pc Ls (y :: x :: st) :=
  W.via fun s T locs X hM hO t r => Jvm.RoadKit.acmp (g := mkF m pc Ls (y :: x :: st)) X C.1 rfl h1 h2 (pc0 := pc) rfl (hb C.2.1 hd) rfl hq ho hp r
theorem Wk.join0 {pcj : Nat} (Lj : Array Slot) (sj : List Value) (J : Wk p l e R m args below meth c M P n0 L k n pcj Lj (sj)) (K : Wk p l e R m args below meth c M P n0 L k n pcj Lj (sj) → Wk p l e R m args below meth c M P n0 L k n pc Ls (st)) : Wk p l e R m args below meth c M P n0 L k n pc Ls (st) := K J
theorem Wk.join1 {pcj : Nat} {A0 : Type} (F : A0 → Array Slot) (G : A0 → List Value) (E0 : A0) (J : ∀ v0, v0 = E0 → Wk p l e R m args below meth c M P n0 L k n pcj (F v0) (G v0)) (K : (∀ v0, v0 = E0 → Wk p l e R m args below meth c M P n0 L k n pcj (F v0) (G v0)) → Wk p l e R m args below meth c M P n0 L k n pc Ls (st)) : Wk p l e R m args below meth c M P n0 L k n pc Ls (st) := K J
theorem Wk.join2 {pcj : Nat} {A0 A1 : Type} (F : A0 → A1 → Array Slot) (G : A0 → A1 → List Value) (E0 : A0) (E1 : A1) (J : ∀ v0 v1, v0 = E0 → v1 = E1 → Wk p l e R m args below meth c M P n0 L k n pcj (F v0 v1) (G v0 v1)) (K : (∀ v0 v1, v0 = E0 → v1 = E1 → Wk p l e R m args below meth c M P n0 L k n pcj (F v0 v1) (G v0 v1)) → Wk p l e R m args below meth c M P n0 L k n pc Ls (st)) : Wk p l e R m args below meth c M P n0 L k n pc Ls (st) := K J
theorem Wk.join3 {pcj : Nat} {A0 A1 A2 : Type} (F : A0 → A1 → A2 → Array Slot) (G : A0 → A1 → A2 → List Value) (E0 : A0) (E1 : A1) (E2 : A2) (J : ∀ v0 v1 v2, v0 = E0 → v1 = E1 → v2 = E2 → Wk p l e R m args below meth c M P n0 L k n pcj (F v0 v1 v2) (G v0 v1 v2)) (K : (∀ v0 v1 v2, v0 = E0 → v1 = E1 → v2 = E2 → Wk p l e R m args below meth c M P n0 L k n pcj (F v0 v1 v2) (G v0 v1 v2)) → Wk p l e R m args below meth c M P n0 L k n pc Ls (st)) : Wk p l e R m args below meth c M P n0 L k n pc Ls (st) := K J
theorem Wk.join4 {pcj : Nat} {A0 A1 A2 A3 : Type} (F : A0 → A1 → A2 → A3 → Array Slot) (G : A0 → A1 → A2 → A3 → List Value) (E0 : A0) (E1 : A1) (E2 : A2) (E3 : A3) (J : ∀ v0 v1 v2 v3, v0 = E0 → v1 = E1 → v2 = E2 → v3 = E3 → Wk p l e R m args below meth c M P n0 L k n pcj (F v0 v1 v2 v3) (G v0 v1 v2 v3)) (K : (∀ v0 v1 v2 v3, v0 = E0 → v1 = E1 → v2 = E2 → v3 = E3 → Wk p l e R m args below meth c M P n0 L k n pcj (F v0 v1 v2 v3) (G v0 v1 v2 v3)) → Wk p l e R m args below meth c M P n0 L k n pc Ls (st)) : Wk p l e R m args below meth c M P n0 L k n pc Ls (st) := K J
theorem Wk.ind {A : Type} (μ : A → Nat) (F : A → Array Slot) (H : A → List (Addr × (Cell → Prop))) (I : A → Prop) (step : ∀ a, I a → (∀ b, I b → μ b < μ a → Wk p l e R m args below meth c M P n0 (H b) k n pc (F b) (st)) → Wk p l e R m args below meth c M P n0 (H a) k n pc (F a) (st)) (a : A) (ha : I a) : Wk p l e R m args below meth c M P n0 (H a) k n pc (F a) (st) := by
  have key : ∀ (N : Nat) (a : A), μ a < N → I a → Wk p l e R m args below meth c M P n0 (H a) k n pc (F a) (st) := by
    intro N
    induction N with
    | zero => intro a h; exact absurd h (Nat.not_lt_zero _)
    | succ N ih => intro a h hI; exact step a hI fun b hb hlt => ih b (by omega) hb
  exact key _ a (Nat.lt_succ_self _) ha
theorem idx_of {j : Int32} {i nn : Nat} (hj : j.toInt = (i : Int)) (hi : i < nn) : ¬ (j < 0 ∨ nn ≤ j.toNatClampNeg) ∧ j.toNatClampNeg = i := by
  have e : j.toNatClampNeg = i := by show j.toInt.toNat = i; omega
  refine ⟨fun q => ?_, e⟩
  rcases q with q | q
  · rw [Int32.lt_iff_toInt_lt] at q
    have : (0 : Int32).toInt = 0 := rfl
    omega
  · omega
theorem Wk.iaload {a : Addr} {j : Int32} {q i nn : Nat} {f : Nat → Int32} (C : Cx Z own name bytes maxL ret p m meth c M) (hd : decode bytes pc = .ok (.iaload, 1)) (hL : L[q]? = some (a, ArrC Z .int nn f)) (hj : j.toInt = (i : Int)) (hi : i < nn) (hp : pc' = pc + 1) (W : Wk p l e R m args below meth c M P n0 L k n pc' Ls (.int (f i) :: st)) : Wk p l e R m args below meth c M P n0 L k n pc Ls (.int j :: .ref a :: st) := by
  subst hp
  refine W.via fun s T locs X hM hO t r => ?_
  obtain ⟨cl, g1, g2, g3, g4, g5, -⟩ := (hO.2.2 _ _ hL).2
  obtain ⟨b1, b2⟩ := idx_of hj hi
  rw [← g4] at b1
  exact X.iaload C.1 (j := j) (v := .int (f i)) g1 (State.isArrayOf_alike (C.2.2.2.2.2.2.1 _ _ hM).1.alike g2) g3 b1 (by rw [b2]; exact g5 i hi) (g := mkF m pc Ls (.int j :: .ref a :: st)) rfl rfl (hb C.2.1 hd) t r
theorem Wk.baload {a : Addr} {j : Int32} {q i nn : Nat} {f : Nat → Int32} (C : Cx Z own name bytes maxL ret p m meth c M) (hd : decode bytes pc = .ok (.baload, 1)) (hL : L[q]? = some (a, ArrC Z .byte nn f)) (hj : j.toInt = (i : Int)) (hi : i < nn) (hp : pc' = pc + 1) (W : Wk p l e R m args below meth c M P n0 L k n pc' Ls (.int (f i) :: st)) : Wk p l e R m args below meth c M P n0 L k n pc Ls (.int j :: .ref a :: st) := by
  subst hp
  refine W.via fun s T locs X hM hO t r => ?_
  obtain ⟨cl, g1, g2, g3, g4, g5, -⟩ := (hO.2.2 _ _ hL).2
  obtain ⟨b1, b2⟩ := idx_of hj hi
  rw [← g4] at b1
  exact X.baloadBytes C.1 (j := j) (v := .int (f i)) g1 (State.isArrayOf_alike (C.2.2.2.2.2.2.1 _ _ hM).1.alike g2) g3 b1 (by rw [b2]; exact g5 i hi) (g := mkF m pc Ls (.int j :: .ref a :: st)) rfl rfl (hb C.2.1 hd) t r
theorem Wk.caload {a : Addr} {j : Int32} {q i nn : Nat} {f : Nat → Int32} (C : Cx Z own name bytes maxL ret p m meth c M) (hd : decode bytes pc = .ok (.caload, 1)) (hL : L[q]? = some (a, ArrC Z .char nn f)) (hj : j.toInt = (i : Int)) (hi : i < nn) (hp : pc' = pc + 1) (W : Wk p l e R m args below meth c M P n0 L k n pc' Ls (.int (f i) :: st)) : Wk p l e R m args below meth c M P n0 L k n pc Ls (.int j :: .ref a :: st) := by
  subst hp
  refine W.via fun s T locs X hM hO t r => ?_
  obtain ⟨cl, g1, g2, g3, g4, g5, -⟩ := (hO.2.2 _ _ hL).2
  obtain ⟨b1, b2⟩ := idx_of hj hi
  rw [← g4] at b1
  exact X.caload C.1 (j := j) (v := .int (f i)) g1 (State.isArrayOf_alike (C.2.2.2.2.2.2.1 _ _ hM).1.alike g2) g3 b1 (by rw [b2]; exact g5 i hi) (g := mkF m pc Ls (.int j :: .ref a :: st)) rfl rfl (hb C.2.1 hd) t r
theorem Wk.arraylength {a : Addr} {q nn : Nat} {ty : FieldType} {z : Int32} {φ : Cell → Prop} (C : Cx Z own name bytes maxL ret p m meth c M) (hd : decode bytes pc = .ok (.arraylength, 1)) (hL : L[q]? = some (a, φ)) (hφ : ∀ c, φ c → Z.isArrayOf c ty ∧ c.slots.size = nn) (hz : nn.toInt32 = z) (hp : pc' = pc + 1) (W : Wk p l e R m args below meth c M P n0 L k n pc' Ls (.int z :: st)) : Wk p l e R m args below meth c M P n0 L k n pc Ls (.ref a :: st) := by
  subst hp hz
  refine W.via fun s T locs X hM hO t r => ?_
  obtain ⟨cl, g1, g2⟩ := (hO.2.2 _ _ hL).2
  obtain ⟨g3, g4⟩ := hφ cl g2
  subst g4
  exact X.arraylength C.1 g1 (State.isArrayOf_alike (C.2.2.2.2.2.2.1 _ _ hM).1.alike g3) (g := mkF m pc Ls (.ref a :: st)) rfl rfl (hb C.2.1 hd) t r
theorem Wk.iastore {a : Addr} {j x : Int32} {q i nn : Nat} {f : Nat → Int32} (C : Cx Z own name bytes maxL ret p m meth c M) (hd : decode bytes pc = .ok (.iastore, 1)) (hL : L[q]? = some (a, ArrC Z .int nn f)) (hj : j.toInt = (i : Int)) (hi : i < nn) (hp : pc' = pc + 1) (W : Wk p l e R m args below meth c M P n0 (L.set q (a, ArrC Z .int nn (upd f i (x)))) k n pc' Ls (st)) : Wk p l e R m args below meth c M P n0 L k n pc Ls (.int x :: .int j :: .ref a :: st) := by
  subst hp
  intro s T locs X hM hF hO
  obtain ⟨h0, cl, g1, g2, g3, g4, -⟩ := hO.2.2 _ _ hL
  obtain ⟨b1, b2⟩ := idx_of hj hi
  rw [← g4] at b1
  obtain ⟨T', h', X', e', Wh, stp⟩ := stI X C.1 (C.2.2.2.2.2.2.1 _ _ hM).1 rfl ⟨g1, g2, g3⟩ (j := j) b1 (g := mkF m pc Ls (.int x :: .int j :: .ref a :: st)) rfl rfl (hb C.2.1 hd)
  rw [b2] at Wh
  subst e'
  obtain ⟨t, r1, r2⟩ := W s T' _ X' (C.2.2.2.2.2.2.2 s _ _ (Nat.le_of_eq Wh.size.symm) hM) (Fr.snoc X' hF h0) (hO.wr Wh hL (φ' := ArrC Z .int nn (upd f i (x))) fun c hc _ => hc.set hi rfl)
  exact ⟨t, stp t r1, r2⟩
theorem Wk.bastore {a : Addr} {j x : Int32} {q i nn : Nat} {f : Nat → Int32} (C : Cx Z own name bytes maxL ret p m meth c M) (hd : decode bytes pc = .ok (.bastore, 1)) (hL : L[q]? = some (a, ArrC Z .byte nn f)) (hj : j.toInt = (i : Int)) (hi : i < nn) (hp : pc' = pc + 1) (W : Wk p l e R m args below meth c M P n0 (L.set q (a, ArrC Z .byte nn (upd f i (x.toInt8.toInt32)))) k n pc' Ls (st)) : Wk p l e R m args below meth c M P n0 L k n pc Ls (.int x :: .int j :: .ref a :: st) := by
  subst hp
  intro s T locs X hM hF hO
  obtain ⟨h0, cl, g1, g2, g3, g4, -⟩ := hO.2.2 _ _ hL
  obtain ⟨b1, b2⟩ := idx_of hj hi
  rw [← g4] at b1
  obtain ⟨T', h', X', e', Wh, stp⟩ := stB X C.1 (C.2.2.2.2.2.2.1 _ _ hM).1 rfl ⟨g1, g2, g3⟩ (j := j) b1 (g := mkF m pc Ls (.int x :: .int j :: .ref a :: st)) rfl rfl (hb C.2.1 hd)
  rw [b2] at Wh
  subst e'
  obtain ⟨t, r1, r2⟩ := W s T' _ X' (C.2.2.2.2.2.2.2 s _ _ (Nat.le_of_eq Wh.size.symm) hM) (Fr.snoc X' hF h0) (hO.wr Wh hL (φ' := ArrC Z .byte nn (upd f i (x.toInt8.toInt32))) fun c hc _ => hc.set hi (fits_nar_byte x))
  exact ⟨t, stp t r1, r2⟩
theorem Wk.castore {a : Addr} {j x : Int32} {q i nn : Nat} {f : Nat → Int32} (C : Cx Z own name bytes maxL ret p m meth c M) (hd : decode bytes pc = .ok (.castore, 1)) (hL : L[q]? = some (a, ArrC Z .char nn f)) (hj : j.toInt = (i : Int)) (hi : i < nn) (hp : pc' = pc + 1) (W : Wk p l e R m args below meth c M P n0 (L.set q (a, ArrC Z .char nn (upd f i (nar .char x)))) k n pc' Ls (st)) : Wk p l e R m args below meth c M P n0 L k n pc Ls (.int x :: .int j :: .ref a :: st) := by
  subst hp
  intro s T locs X hM hF hO
  obtain ⟨h0, cl, g1, g2, g3, g4, -⟩ := hO.2.2 _ _ hL
  obtain ⟨b1, b2⟩ := idx_of hj hi
  rw [← g4] at b1
  obtain ⟨T', h', X', e', Wh, stp⟩ := stC X C.1 (C.2.2.2.2.2.2.1 _ _ hM).1 rfl ⟨g1, g2, g3⟩ (j := j) b1 (g := mkF m pc Ls (.int x :: .int j :: .ref a :: st)) rfl rfl (hb C.2.1 hd)
  rw [b2] at Wh
  subst e'
  obtain ⟨t, r1, r2⟩ := W s T' _ X' (C.2.2.2.2.2.2.2 s _ _ (Nat.le_of_eq Wh.size.symm) hM) (Fr.snoc X' hF h0) (hO.wr Wh hL (φ' := ArrC Z .char nn (upd f i (nar .char x))) fun c hc _ => hc.set hi (fits_nar_char x))
  exact ⟨t, stp t r1, r2⟩
theorem Wk.newarray {aty : ArrayType} {z : Int32} {nn cap : Nat} {d : Int32} (C : Cx Z own name bytes maxL ret p m meth c M) (w : (Cond.arrayClass (newarray.typeOf aty)).before a0 Z = true) (hd : decode bytes pc = .ok (.newarray aty, 2)) (hdv : defaultValue (newarray.typeOf aty) = .int d) (hfd : fits (newarray.typeOf aty) (.int d) = true) (hz : z.toInt = (nn : Int)) (hcap : nn ≤ cap) (hb8 : cap * 8 ≤ 536870912) (hk : k + 1 ≤ R.cells) (hn : n + cap ≤ R.slots) (hp : pc' = pc + 2)
    (W : ∀ a : Addr, Wk p l e R m args below meth c M P n0 ((a, ArrC Z (newarray.typeOf aty) nn (fun _ => d)) :: L) (k + 1) (n + cap) pc' Ls (.ref a :: st)) : Wk p l e R m args below meth c M P n0 L k n pc Ls (.int z :: st) := by
  subst hp
  intro s T locs X hM hF hO
  have ez : z.toNatClampNeg = nn := by show z.toInt.toNat = nn; omega
  have nz : ¬ z < 0 := fun q => by
    rw [Int32.lt_iff_toInt_lt] at q
    have : (0 : Int32).toInt = 0 := rfl
    omega
  obtain ⟨T', h', cA, X', e', E, A, Ex, stp⟩ := newPE X C.1 (C.2.2.2.2.2.2.1 _ _ hM).1 w rfl (g := mkF m pc Ls (.int z :: st)) rfl (hb C.2.1 hd) rfl nz (cap := cap) (by rw [ez]; exact hcap) hb8 hk hn (ad := "[" ++ (newarray.typeOf aty).toString) rfl
  subst e'
  obtain ⟨t, r1, r2⟩ := W T.heap.size s T' _ X' (C.2.2.2.2.2.2.2 s _ _ E.1 hM) hF (hO.cons E ⟨_, A.1, A.2.1, A.2.2, (sz_new _ _ _).trans ez, fun i hi => by
    show (Array.replicate z.toNatClampNeg (defaultValue (newarray.typeOf aty)))[i]? = _
    rw [ez, hdv]; simp [hi], fun _ _ => hfd, of_exa A.1 Ex⟩)
  exact ⟨t, stp t r1, r2⟩
def AnyC : Cell → Prop := fun _ => True
theorem Wk.anewarray {C' : String} {index : Nat} {z : Int32} {nn cap : Nat} (C : Cx Z own name bytes maxL ret p m meth c M) (w1 : (Cond.classLink own index C').before a0 Z = true) (w2 : (Cond.arrayOver (.object C')).before a0 Z = true) (hd : decode bytes pc = .ok (.anewarray index, 3)) (hz : z.toInt = (nn : Int)) (hcap : nn ≤ cap) (hb8 : cap * 8 ≤ 536870912) (hk : k + 1 ≤ R.cells) (hn : n + cap ≤ R.slots) (hp : pc' = pc + 3)
    (W : ∀ a : Addr, Wk p l e R m args below meth c M P n0 ((a, AnyC) :: L) (k + 1) (n + cap) pc' Ls (.ref a :: st)) : Wk p l e R m args below meth c M P n0 L k n pc Ls (.int z :: st) := by
  subst hp
  intro s T locs X hM hF hO
  have ez : z.toNatClampNeg = nn := by show z.toInt.toNat = nn; omega
  have nz : ¬ z < 0 := fun q => by
    rw [Int32.lt_iff_toInt_lt] at q
    have : (0 : Int32).toInt = 0 := rfl
    omega
  obtain ⟨T', h', cA, X', e', E, A, -, stp⟩ := newR X C.1 (C.2.2.2.2.2.2.1 _ _ hM).1 (C.2.2.2.2.2.2.1 _ _ hM).2 w1 w2 rfl (g := mkF m pc Ls (.int z :: st)) rfl (hb C.2.1 hd) rfl nz (cap := cap) (by rw [ez]; exact hcap) hb8 hk hn
  subst e'
  obtain ⟨t, r1, r2⟩ := W T.heap.size s T' _ X' (C.2.2.2.2.2.2.2 s _ _ E.1 hM) hF (hO.cons E ⟨_, A.1, trivial⟩)
  exact ⟨t, stp t r1, r2⟩
theorem Wk.new {C' : String} {index nf : Nat} {ks : List (String × String × String × FieldType)} {vs : List Value} (C : Cx Z own name bytes maxL ret p m meth c M) (w : (Cond.classLink own index C').before a0 Z = true) (wi : (Cond.instantiable C' nf).before a0 Z = true) (wz : (Cond.initialized C').before a0 Z = true) (H : Lays Z a0 C' ks) (hd : decode bytes pc = .ok (.new index, 3)) (hv : vs = ks.map (fun kk => defaultValue kk.2.2.2)) (hk : k + 1 ≤ R.cells) (hn : n + nf ≤ R.slots) (hp : pc' = pc + 3)
    (W : ∀ a : Addr, Wk p l e R m args below meth c M P n0 ((a, ObjC Z C' ks vs) :: L) (k + 1) (n + nf) pc' Ls (.ref a :: st)) : Wk p l e R m args below meth c M P n0 L k n pc Ls (st) := by
  subst hp hv
  intro s T locs X hM hF hO
  obtain ⟨T', h', X', e', E, A, D, -, stp⟩ := newO X C.1 (C.2.2.2.2.2.2.1 _ _ hM).1 (C.2.2.2.2.2.2.1 _ _ hM).2 w wi wz rfl (g := mkF m pc Ls st) rfl (hb C.2.1 hd) hk hn
  subst e'
  obtain ⟨cl, kc, g1, -⟩ := id A
  obtain ⟨t, r1, r2⟩ := W T.heap.size s T' _ X' (C.2.2.2.2.2.2.2 s _ _ E.1 hM) hF (hO.cons E ⟨cl, g1, of_exa g1 A, fun i kk v hkk hvv => by
    rw [List.getElem?_map, hkk] at hvv
    cases hvv
    have q := H.1 kk (List.mem_of_getElem? hkk)
    exact of_fld g1 (D q.1 q.2)⟩)
  exact ⟨t, stp t r1, r2⟩
theorem Wk.getfield {C' O nm d host : String} {ty : FieldType} {index i q : Nat} {a : Addr} {ks : List (String × String × String × FieldType)} {vs : List Value} {v : Value} (C : Cx Z own name bytes maxL ret p m meth c M) (w : (Cond.fieldLink own index O nm d).before a0 Z = true ∨ (Cond.fieldLinkNest own index O nm d host).before a0 Z = true) (hd : decode bytes pc = .ok (.getfield index, 3)) (hL : L[q]? = some (a, ObjC Z C' ks vs)) (hk : ks[i]? = some (O, nm, d, ty)) (hv : vs[i]? = some v) (hp : pc' = pc + 3)
    (W : Wk p l e R m args below meth c M P n0 L k n pc' Ls (v :: st)) : Wk p l e R m args below meth c M P n0 L k n pc Ls (.ref a :: st) := by
  subst hp
  intro s T locs X hM hF hO
  obtain ⟨h0, cl, g1, g2, g3⟩ := hO.2.2 _ _ hL
  obtain ⟨T', X', e', stp⟩ := getF X C.1 (C.2.2.2.2.2.2.1 _ _ hM).1 (C.2.2.2.2.2.2.1 _ _ hM).2 w Via.refl rfl (fld_of g1 (g3 i _ v hk hv)) (g := mkF m pc Ls (.ref a :: st)) rfl rfl (hb C.2.1 hd)
  rw [← e'] at hM hO
  obtain ⟨t, r1, r2⟩ := W s T' _ X' hM hF hO
  exact ⟨t, stp t r1, r2⟩
theorem Wk.putfield {C' O nm d host : String} {ty : FieldType} {index i q nf : Nat} {a : Addr} {ks : List (String × String × String × FieldType)} {vs : List Value} {v : Value} (C : Cx Z own name bytes maxL ret p m meth c M) (w : (Cond.fieldLink own index O nm d).before a0 Z = true ∨ (Cond.fieldLinkNest own index O nm d host).before a0 Z = true) (H : Lays Z a0 C' ks) (hlay : (Cond.lays C' O nm d).before a0 Z = true ∨ ((Cond.laysFinal C' O nm d).before a0 Z = true ∧ own = O ∧ name = "<init>")) (wi : (Cond.instantiable C' nf).before a0 Z = true) (hd : decode bytes pc = .ok (.putfield index, 3)) (hL : L[q]? = some (a, ObjC Z C' ks vs)) (hk : ks[i]? = some (O, nm, d, ty)) (hv : i < vs.length) (hnar : narrow ty v = v) (hfit : fits ty v = true) (hp : pc' = pc + 3)
    (W : Wk p l e R m args below meth c M P n0 (L.set q (a, ObjC Z C' ks (vs.set i v))) k n pc' Ls (st)) : Wk p l e R m args below meth c M P n0 L k n pc Ls (v :: .ref a :: st) := by
  subst hp
  intro s T locs X hM hF hO
  obtain ⟨h0, cl, g1, g2, g3⟩ := hO.2.2 _ _ hL
  obtain ⟨v0, hv0⟩ : ∃ v0, vs[i]? = some v0 := ⟨_, List.getElem?_eq_getElem hv⟩
  have hpf : parseFieldDescriptor d = some ty := (H.1 (O, nm, d, ty) (List.mem_of_getElem? hk)).2
  obtain ⟨T', h', X', e', Wh, stp⟩ := putF (own := own) (R0 := O) (O := O) (n := nm) (d := d) (host := host) (C := C') (kk := nf) (v := v) (old := v0) X C.1 (C.2.2.2.2.2.2.1 _ _ hM).1 (C.2.2.2.2.2.2.1 _ _ hM).2 w Via.refl rfl (fld_of g1 (g3 i _ v0 hk hv0)) (exa_of g1 g2) (hlay.imp id fun q => ⟨q.1, q.2.1, C.2.2.2.2.2.1.trans q.2.2⟩) wi (ty := ty) hpf hnar hfit (g := mkF m pc Ls (v :: .ref a :: st)) rfl rfl (hb C.2.1 hd)
  subst e'
  have hset : ∀ c, ObjC Z C' ks vs c → Jvm.RoadKit.slotOf Z O nm d < c.slots.size → ObjC Z C' ks (vs.set i v) (c.setSlot (Jvm.RoadKit.slotOf Z O nm d) v) := fun c hc hsl => ObjC.set (kk := (O, nm, d, ty)) hc H hk hv hsl
  obtain ⟨t, r1, r2⟩ := W s T' _ X' (C.2.2.2.2.2.2.2 s _ _ (Nat.le_of_eq Wh.size.symm) hM) (Fr.snoc X' hF h0) (hO.wr Wh hL hset)
  exact ⟨t, stp t r1, r2⟩
/-! the end: v is returned, Q holds of it and of the heap -/
def Pend (below : List Frame) (FE : Outcome → State → List Loc → Prop) (n0 : Nat) (Q : Option Value → Heap → Prop) (t : State) : Prop := ∃ v L, t.status = .running ∧ Ended t below (.returned v) ∧ Q v t.heap ∧ Fr n0 L ∧ FE (.returned v) t L
def Ok (M : State → Heap → Prop) (FE : Outcome → State → List Loc → Prop) (K N : Nat) : Prop := ∀ (s t : State) (L : List Loc) (k n : Nat) (v : Option Value), M s t.heap → s.WarmedH t.vm → s.sameButNew ({ t with vm := s.vm } : State) L k n → k ≤ K → n ≤ N → FE (.returned v) t L
theorem Wk.retI {z : Int32} {FE : Outcome → State → List Loc → Prop} {Q : Option Value → Heap → Prop} {K N : Nat} (C : Cx Z own name bytes maxL (some .int) p m meth c M) (J : Ok M FE K N) (hd : decode bytes pc = .ok (.ireturn, 1)) (hk : k ≤ K) (hn : n ≤ N) (hq : ∀ h, Own n0 h L → Q (some (.int z)) h) : Wk p l e R m args below meth c M (Pend below FE n0 Q) n0 L k n pc Ls (.int z :: st) := by
  intro s T locs X hM hF hO
  obtain ⟨fs, hr, hrun, hended, hW, hsame⟩ := X.leave (v := some (.int z)) (fun h => by rw [C.2.2.2.1] at h; cases h) C.2.2.2.2.1
  exact ⟨_, Jvm.RoadKit.retI X C.1 C.2.2.2.1 (hb C.2.1 hd) hr, _, locs, hrun, hended, hq _ hO, hF, J s _ locs k n _ hM hW hsame hk hn⟩
theorem Wk.retN {z z' : Int32} {ty : FieldType} {FE : Outcome → State → List Loc → Prop} {Q : Option Value → Heap → Prop} {K N : Nat} (C : Cx Z own name bytes maxL (some ty) p m meth c M) (J : Ok M FE K N) (hd : decode bytes pc = .ok (.ireturn, 1)) (hk : k ≤ K) (hn : n ≤ N) (ht : ty = .boolean ∨ ty = .byte ∨ ty = .char ∨ ty = .short) (hz : nar ty z = z') (hq : ∀ h, Own n0 h L → Q (some (.int z')) h) : Wk p l e R m args below meth c M (Pend below FE n0 Q) n0 L k n pc Ls (.int z :: st) := by
  subst hz
  intro s T locs X hM hF hO
  obtain ⟨fs, hr, hrun, hended, hW, hsame⟩ := X.leave (v := some (.int (nar ty z))) (fun h => by rw [C.2.2.2.1] at h; cases h) C.2.2.2.2.1
  exact ⟨_, Jvm.RoadKit.retN X C.1 C.2.2.2.1 ht (hb C.2.1 hd) hr, _, locs, hrun, hended, hq _ hO, hF, J s _ locs k n _ hM hW hsame hk hn⟩
theorem Wk.retL {z : Int64} {FE : Outcome → State → List Loc → Prop} {Q : Option Value → Heap → Prop} {K N : Nat} (C : Cx Z own name bytes maxL (some .long) p m meth c M) (J : Ok M FE K N) (hd : decode bytes pc = .ok (.lreturn, 1)) (hk : k ≤ K) (hn : n ≤ N) (hq : ∀ h, Own n0 h L → Q (some (.long z)) h) : Wk p l e R m args below meth c M (Pend below FE n0 Q) n0 L k n pc Ls (.long z :: []) := by
  intro s T locs X hM hF hO
  obtain ⟨fs, hr, hrun, hended, hW, hsame⟩ := X.leave (v := some (.long z)) (fun h => by rw [C.2.2.2.1] at h; cases h) C.2.2.2.2.1
  exact ⟨_, X.lreturnOut C.1 C.2.2.2.1 (hb C.2.1 hd) hr, _, locs, hrun, hended, hq _ hO, hF, J s _ locs k n _ hM hW hsame hk hn⟩
theorem Wk.retA {z : Value} {ty : FieldType} {FE : Outcome → State → List Loc → Prop} {Q : Option Value → Heap → Prop} {K N : Nat} (C : Cx Z own name bytes maxL (some ty) p m meth c M) (J : Ok M FE K N) (hd : decode bytes pc = .ok (.areturn, 1)) (hk : k ≤ K) (hn : n ≤ N) (hz : z.isRef = true) (ht : ty.isReference = true) (hq : ∀ h, Own n0 h L → Q (some z) h) : Wk p l e R m args below meth c M (Pend below FE n0 Q) n0 L k n pc Ls (z :: []) := by
  intro s T locs X hM hF hO
  obtain ⟨fs, hr, hrun, hended, hW, hsame⟩ := X.leave (v := some z) (fun h => by rw [C.2.2.2.1] at h; cases h) C.2.2.2.2.1
  exact ⟨_, X.areturnOut C.1 hz C.2.2.2.1 ht (hb C.2.1 hd) hr, _, locs, hrun, hended, hq _ hO, hF, J s _ locs k n _ hM hW hsame hk hn⟩
theorem Wk.retV {FE : Outcome → State → List Loc → Prop} {Q : Option Value → Heap → Prop} {K N : Nat} (C : Cx Z own name bytes maxL none p m meth c M) (J : Ok M FE K N) (hd : decode bytes pc = .ok (.return_, 1)) (hk : k ≤ K) (hn : n ≤ N) (hq : ∀ h, Own n0 h L → Q none h) : Wk p l e R m args below meth c M (Pend below FE n0 Q) n0 L k n pc Ls ([]) := by
  intro s T locs X hM hF hO
  obtain ⟨fs, hr, hrun, hended, hW, hsame⟩ := X.leave (v := none) (fun h => by rfl) C.2.2.2.2.1
  exact ⟨_, X.returnOut C.1 C.2.2.2.1 (hb C.2.1 hd) hr, _, locs, hrun, hended, hq _ hO, hF, J s _ locs k n _ hM hW hsame hk hn⟩
/-- a method's contract: called with as' over the heap h it returns, and Q holds -/
def Meth (l : Launch) (Z : State) (y : MethodName) (bytes : ByteArray) (maxL : Nat) (ret : Option FieldType) (ws : List Jvm.Cond) (rm : Room) (as' : Array Value) (h : Heap) (n0 : Nat) (Q : Option Value → Heap → Prop) : Prop :=
  MetFree l y (head1 (Jvm.Cond.code y bytes maxL ret :: ws) rm) (fun a U => a = as' ∧ Z.Warmed39 U.vm ∧ U.heap = h) (fun _ _ _ _ _ => True) (fun _ U o U' => ∃ v L, o = .returned v ∧ (Q v U'.heap ∧ h.size ≤ U'.heap.size ∧ Fr n0 L) ∧ FrameEnd U o U' L rm.cells rm.slots)
theorem Meth.of {y : MethodName} {ws : List Jvm.Cond} {rm : Room} {as' : Array Value} {h : Heap} {Q : Option Value → Heap → Prop} (hp : plainFor y = true) (hE : ∀ m, entryFrame m as' maxL = mkF m 0 Ls []) (hO : Own n0 h L)
    (body : ∀ (p : Program) (e : Env) (m : MethodId) (below : List Frame) (meth : Method) (c : Code) (M : State → Heap → Prop) (FE : Outcome → State → List Loc → Prop), Cx Z y.cls y.name bytes maxL ret p m meth c M → Ok M FE rm.cells rm.slots → Wk p l e rm m as' below meth c M (Pend below FE n0 Q) n0 L 0 0 0 Ls []) :
    Meth l Z y bytes maxL ret ws rm as' h n0 Q := by
  refine MetFree.of_bodySF hp hisR ?_
  intro p e s m args below meth c s₁ Bd hml0 hP hK
  obtain ⟨rfl, hZ, hh⟩ := hP
  have hnm := (name_of_methodNamed Bd.named Bd.method).1
  have e0 : s₁.heap = h := by rw [← hh, Bd.state]; rfl
  have CC : Cx Z y.cls y.name bytes maxL ret p m meth c (fun s' _ => s' = s) := ⟨Bd.exec, Bd.bytes, hml0, Bd.returns, Bd.notSynchronized, hnm, fun s' _ q => by subst q; exact ⟨hZ, findClass_of_methodNamed Bd.named⟩, fun _ _ _ _ q => q⟩
  have JJ : Ok (fun s' _ => s' = s) (fun o t L => FrameEnd s o t L rm.cells rm.slots) rm.cells rm.slots := fun s' t L k n v q hW hs hk hn => by subst q; exact ⟨⟨_, rfl⟩, hW, hs.mono hk hn⟩
  obtain ⟨t, r1, v, Lo, r2, r3, r4, r5, r6⟩ := body p e m below meth c _ _ CC JJ s s₁ [] (Stand.of_body Bd) rfl (Fr.nil n0) (by rw [e0]; exact hO)
  refine ⟨t, .returned v, castTop (hE m) r1, r2, r3, v, Lo, rfl, ⟨r4, ?_, r5⟩, r6⟩
  rw [← hh]; exact r6.2.2.2.1
theorem Wk.callS {y : MethodName} {bytes' : ByteArray} {maxL' : Nat} {ret' : Option FieldType} {index W0 : Nat} {rm : Room} {Q : Option Value → Heap → Prop} {argsL st0 : List Value} {ps : List FieldType} {rt : Option FieldType} (C : Cx Z own name bytes maxL ret p m meth c M) (w1 : (Jvm.Cond.methodLink own index y).before a0 Z = true) (w2 : (Jvm.Cond.static y).before a0 Z = true) (w3 : (Jvm.Cond.initialized y.cls).before a0 Z = true) (w4 : (Jvm.Cond.code y bytes' maxL' ret').before a0 Z = true) (hy : y.cls ≠ "java/lang/invoke/MethodHandle" ∧ y.cls ≠ "java/lang/invoke/VarHandle")
    (hM : ∀ h, Own n0 h L → Meth l Z y bytes' maxL' ret' [] rm argsL.toArray h n0 Q) (hf : rm.frames + 1 ≤ R.frames) (hl : W0 + (maxL' + 11) + rm.locals ≤ R.locals) (hk : k + rm.cells ≤ R.cells) (hn : n + rm.slots ≤ R.slots) (hd : decode bytes pc = .ok (.invokestatic index, 3)) (hsz : Ls.size = maxL) (hpd : parseMethodDescriptor y.desc = some ⟨ps, rt⟩) (hlen : argsL.length = ps.length) (hst : st0 = argsL.reverse ++ st) (hW : (st.map fun v => v.category).sum = W0) (hp : pc' = pc + 3)
    (W : ∀ v h', Q v h' → ∃ L', Own n0 h' L' ∧ Wk p l e R m args below meth c M P n0 L' (k + rm.cells) (n + rm.slots) pc' Ls (v.toList ++ st)) : Wk p l e R m args below meth c M P n0 L k n pc Ls (st0) := by
  subst hp hst
  intro s T locs X hMs hF hO
  obtain ⟨hZ, hown⟩ := C.2.2.2.2.2.2.1 _ _ hMs
  obtain ⟨_, _, ⟨T1, L1, k1, n1⟩, -, X', ⟨Lc, hQ, l1, y1, z1⟩, stp⟩ := Jvm.LawKit.callS X C.1 (y := y) hown (mvT hZ w1) (mvT hZ w2) (mvT hZ w3) (mvT hZ w4) hy (backOf (W := W0) (Q := fun v h' L => Q v h' ∧ T.heap.size ≤ h'.size ∧ Fr n0 L) (hM _ hO) hZ w4 w3 hf hl) (g := mkF m pc Ls (argsL.reverse ++ st)) rfl (hsz.trans C.2.2.1.symm) (argsL := argsL) (rest := st) (lenOf hpd hlen) rfl (by show 2 * 0 + _ ≤ _; omega) (hb C.2.1 hd) (fun _ _ => ⟨rfl, rfl, hk, hn⟩)
  dsimp only [Pt.U, Pt.locs, Pt.cells, Pt.slots] at X' l1 y1 z1 stp hQ
  subst l1 y1 z1
  obtain ⟨hQ1, hQ2, hQ3⟩ := hQ
  obtain ⟨L', O', W'⟩ := W _ _ hQ1
  obtain ⟨t, r1, r2⟩ := W' s T1 _ X' (C.2.2.2.2.2.2.2 s _ _ hQ2 hMs) (Fr.app hF hQ3) O'
  exact ⟨t, stp t r1, r2⟩
theorem Wk.callI {y : MethodName} {bytes' : ByteArray} {maxL' : Nat} {ret' : Option FieldType} {index W0 : Nat} {rm : Room} {Q : Option Value → Heap → Prop} {a : Addr} {argsL st0 : List Value} {ps : List FieldType} {rt : Option FieldType} (C : Cx Z own name bytes maxL ret p m meth c M) (hret' : ret' = none) (hy1 : y.name = "<init>") (w1 : (Jvm.Cond.methodLink own index y).before a0 Z = true) (w2 : (Jvm.Cond.instanceMethod y).before a0 Z = true) (w3 : (Jvm.Cond.initialized y.cls).before a0 Z = true) (w4 : (Jvm.Cond.code y bytes' maxL' ret').before a0 Z = true) (hy : y.cls ≠ "java/lang/invoke/MethodHandle" ∧ y.cls ≠ "java/lang/invoke/VarHandle")
    (hM : ∀ h, Own n0 h L → Meth l Z y bytes' maxL' ret' [] rm (.ref a :: argsL).toArray h n0 Q) (hf : rm.frames + 1 ≤ R.frames) (hl : W0 + (maxL' + 11) + rm.locals ≤ R.locals) (hk : k + rm.cells ≤ R.cells) (hn : n + rm.slots ≤ R.slots) (hd : decode bytes pc = .ok (.invokespecial index, 3)) (hsz : Ls.size = maxL) (hpd : parseMethodDescriptor y.desc = some ⟨ps, rt⟩) (hlen : argsL.length = ps.length) (hst : st0 = argsL.reverse ++ .ref a :: st) (hW : (st.map fun v => v.category).sum = W0) (hp : pc' = pc + 3)
    (W : ∀ v h', Q v h' → ∃ L', Own n0 h' L' ∧ Wk p l e R m args below meth c M P n0 L' (k + rm.cells) (n + rm.slots) pc' Ls (v.toList ++ st)) : Wk p l e R m args below meth c M P n0 L k n pc Ls (st0) := by
  subst hp hst
  intro s T locs X hMs hF hO
  subst hret'
  obtain ⟨hZ, hown⟩ := C.2.2.2.2.2.2.1 _ _ hMs
  obtain ⟨_, _, ⟨T1, L1, k1, n1⟩, -, X', ⟨Lc, hQ, l1, y1, z1⟩, stp⟩ := X.specialBack C.1 (y := y) hy1 hown (mvT hZ w1) (mvT hZ w2) (mvT hZ w4) hy (backOf (W := W0) (Q := fun v h' L => Q v h' ∧ T.heap.size ≤ h'.size ∧ Fr n0 L) (hM _ hO) hZ w4 w3 hf hl) (g := mkF m pc Ls (argsL.reverse ++ .ref a :: st)) rfl (hsz.trans C.2.2.1.symm) (Steps.refl _) (a := a) (argsL := argsL) (rest := st) (lenOf hpd hlen) rfl (by show 2 * 0 + _ ≤ _; omega) (hb C.2.1 hd) (fun _ _ => ⟨rfl, rfl, hk, hn⟩)
  dsimp only [Pt.U, Pt.locs, Pt.cells, Pt.slots] at X' l1 y1 z1 stp hQ
  subst l1 y1 z1
  obtain ⟨hQ1, hQ2, hQ3⟩ := hQ
  obtain ⟨L', O', W'⟩ := W _ _ hQ1
  obtain ⟨t, r1, r2⟩ := W' s T1 _ X' (C.2.2.2.2.2.2.2 s _ _ hQ2 hMs) (Fr.app hF hQ3) O'
  exact ⟨t, stp.trans r1, r2⟩
theorem Wk.callV {y : MethodName} {C' : String} {bytes' : ByteArray} {maxL' : Nat} {ret' : Option FieldType} {index W0 q : Nat} {rm : Room} {Q : Option Value → Heap → Prop} {a : Addr} {ks : List (String × String × String × FieldType)} {vs : List Value} {argsL st0 : List Value} {ps : List FieldType} {rt : Option FieldType} (C : Cx Z own name bytes maxL ret p m meth c M) (hL : L[q]? = some (a, ObjC Z C' ks vs)) (w1 : (Jvm.Cond.methodLink own index y).before a0 Z = true) (w5 : (Jvm.Cond.declares y).before a0 Z = true) (w6 : (Jvm.Cond.selects C' y y).before a0 Z = true) (w2 : (Jvm.Cond.instanceMethod y).before a0 Z = true) (w3 : (Jvm.Cond.initialized y.cls).before a0 Z = true) (w4 : (Jvm.Cond.code y bytes' maxL' ret').before a0 Z = true) (hy : y.cls ≠ "java/lang/invoke/MethodHandle" ∧ y.cls ≠ "java/lang/invoke/VarHandle")
    (hM : ∀ h, Own n0 h L → Meth l Z y bytes' maxL' ret' [] rm (.ref a :: argsL).toArray h n0 Q) (hf : rm.frames + 1 ≤ R.frames) (hl : W0 + (maxL' + 11) + rm.locals ≤ R.locals) (hk : k + rm.cells ≤ R.cells) (hn : n + rm.slots ≤ R.slots) (hd : decode bytes pc = .ok (.invokevirtual index, 3)) (hsz : Ls.size = maxL) (hpd : parseMethodDescriptor y.desc = some ⟨ps, rt⟩) (hlen : argsL.length = ps.length) (hst : st0 = argsL.reverse ++ .ref a :: st) (hW : (st.map fun v => v.category).sum = W0) (hp : pc' = pc + 3)
    (W : ∀ v h', Q v h' → ∃ L', Own n0 h' L' ∧ Wk p l e R m args below meth c M P n0 L' (k + rm.cells) (n + rm.slots) pc' Ls (v.toList ++ st)) : Wk p l e R m args below meth c M P n0 L k n pc Ls (st0) := by
  subst hp hst
  intro s T locs X hMs hF hO
  obtain ⟨hZ, hown⟩ := C.2.2.2.2.2.2.1 _ _ hMs
  obtain ⟨h0, cl, g1, g2, g3⟩ := hO.2.2 _ _ hL
  obtain ⟨cq, kq, qa, qb, qc⟩ := isOf hZ rfl (exa_of g1 g2)
  obtain ⟨_, _, ⟨T1, L1, k1, n1⟩, -, X', ⟨Lc, hQ, l1, y1, z1⟩, stp⟩ := X.virtualBack C.1 (y := y) (z := y) hown (mvT hZ w1) (mvT hZ w5) (notFace_of_selects (args := #[]) (mvT hZ w6)) (mvT hZ w6) (mvT hZ w2) hy (backOf (W := W0) (Q := fun v h' L => Q v h' ∧ T.heap.size ≤ h'.size ∧ Fr n0 L) (hM _ hO) hZ w4 w3 hf hl) qa qc (g := mkF m pc Ls (argsL.reverse ++ .ref a :: st)) rfl (hsz.trans C.2.2.1.symm) (Steps.refl _) (argsL := argsL) (rest := st) (lenOf hpd hlen) rfl (by show 2 * 0 + _ ≤ _; omega) (hb C.2.1 hd) (fun _ _ => ⟨rfl, rfl, hk, hn⟩)
  dsimp only [Pt.U, Pt.locs, Pt.cells, Pt.slots] at X' l1 y1 z1 stp hQ
  subst l1 y1 z1
  obtain ⟨hQ1, hQ2, hQ3⟩ := hQ
  obtain ⟨L', O', W'⟩ := W _ _ hQ1
  obtain ⟨t, r1, r2⟩ := W' s T1 _ X' (C.2.2.2.2.2.2.2 s _ _ hQ2 hMs) (Fr.app hF hQ3) O'
  exact ⟨t, stp.trans r1, r2⟩
end OwnKit
abbrev HW (Z : State) (a0 : Array Value) : Prop := ∀ d ∈ tables_1, d.before a0 Z = true
theorem w0 {Z : State} {a0 : Array Value} (hw : HW Z a0) : (Jvm.Cond.methodLink "com/example/orderwire/orderwire/NewOrderHasStopPxPinLaw" (7 : Nat) ({ cls := "com/example/orderwire/orderwire/NewOrder", name := "hasStopPx", desc := "(C)Z" } : Jvm.MethodName)).before a0 Z = true := hw _ (List.mem_of_getElem? (i := 0) rfl)
theorem w1 {Z : State} {a0 : Array Value} (hw : HW Z a0) : (Jvm.Cond.static ({ cls := "com/example/orderwire/orderwire/NewOrder", name := "hasStopPx", desc := "(C)Z" } : Jvm.MethodName)).before a0 Z = true := hw _ (List.mem_of_getElem? (i := 1) rfl)
theorem w2 {Z : State} {a0 : Array Value} (hw : HW Z a0) : (Jvm.Cond.initialized "com/example/orderwire/orderwire/NewOrder").before a0 Z = true := hw _ (List.mem_of_getElem? (i := 2) rfl)
theorem w3 {Z : State} {a0 : Array Value} (hw : HW Z a0) : (Jvm.Cond.code ({ cls := "com/example/orderwire/orderwire/NewOrder", name := "hasStopPx", desc := "(C)Z" } : Jvm.MethodName) prog_32_method_7_code (1 : Nat) (Option.some Jvm.ClassFile.FieldType.boolean)).before a0 Z = true := hw _ (List.mem_of_getElem? (i := 3) rfl)
theorem w4 {Z : State} {a0 : Array Value} (hw : HW Z a0) : (Jvm.Cond.methodLink "com/example/orderwire/orderwire/NewOrderHasStopPxPinLaw" (13 : Nat) ({ cls := "com/example/orderwire/orderwire/NewOrderHasStopPxPinLaw", name := "expected", desc := "(C)Z" } : Jvm.MethodName)).before a0 Z = true := hw _ (List.mem_of_getElem? (i := 4) rfl)
theorem w5 {Z : State} {a0 : Array Value} (hw : HW Z a0) : (Jvm.Cond.static ({ cls := "com/example/orderwire/orderwire/NewOrderHasStopPxPinLaw", name := "expected", desc := "(C)Z" } : Jvm.MethodName)).before a0 Z = true := hw _ (List.mem_of_getElem? (i := 5) rfl)
theorem w6 {Z : State} {a0 : Array Value} (hw : HW Z a0) : (Jvm.Cond.initialized "com/example/orderwire/orderwire/NewOrderHasStopPxPinLaw").before a0 Z = true := hw _ (List.mem_of_getElem? (i := 6) rfl)
theorem w7 {Z : State} {a0 : Array Value} (hw : HW Z a0) : (Jvm.Cond.code ({ cls := "com/example/orderwire/orderwire/NewOrderHasStopPxPinLaw", name := "expected", desc := "(C)Z" } : Jvm.MethodName) method_2_code (2 : Nat) (Option.some Jvm.ClassFile.FieldType.boolean)).before a0 Z = true := hw _ (List.mem_of_getElem? (i := 7) rfl)
theorem d1_0 : decode prog_32_method_7_code 0 = .ok (.iload_n 0, 1) := by decide +kernel
theorem d1_1 : decode prog_32_method_7_code 1 = .ok (.bipush 51, 2) := by decide +kernel
theorem d1_3 : decode prog_32_method_7_code 3 = .ok (.if_icmp .eq 15, 3) := by decide +kernel
theorem d1_6 : decode prog_32_method_7_code 6 = .ok (.iload_n 0, 1) := by decide +kernel
theorem d1_7 : decode prog_32_method_7_code 7 = .ok (.bipush 52, 2) := by decide +kernel
theorem d1_9 : decode prog_32_method_7_code 9 = .ok (.if_icmp .eq 9, 3) := by decide +kernel
theorem d1_12 : decode prog_32_method_7_code 12 = .ok (.iload_n 0, 1) := by decide +kernel
theorem d1_13 : decode prog_32_method_7_code 13 = .ok (.bipush 82, 2) := by decide +kernel
theorem d1_15 : decode prog_32_method_7_code 15 = .ok (.if_icmp .ne 7, 3) := by decide +kernel
theorem d1_18 : decode prog_32_method_7_code 18 = .ok (.iconst 1, 1) := by decide +kernel
theorem d1_19 : decode prog_32_method_7_code 19 = .ok (.goto 4, 3) := by decide +kernel
theorem d1_22 : decode prog_32_method_7_code 22 = .ok (.iconst 0, 1) := by decide +kernel
theorem d1_23 : decode prog_32_method_7_code 23 = .ok (.ireturn, 1) := by decide +kernel
theorem d2_0 : decode method_2_code 0 = .ok (.iload_n 0, 1) := by decide +kernel
theorem d2_1 : decode method_2_code 1 = .ok (.bipush 51, 2) := by decide +kernel
theorem d2_3 : decode method_2_code 3 = .ok (.isub, 1) := by decide +kernel
theorem d2_4 : decode method_2_code 4 = .ok (.istore_n 1, 1) := by decide +kernel
theorem d2_5 : decode method_2_code 5 = .ok (.iload_n 1, 1) := by decide +kernel
theorem d2_6 : decode method_2_code 6 = .ok (.ifCond .lt 10, 3) := by decide +kernel
theorem d2_9 : decode method_2_code 9 = .ok (.iload_n 1, 1) := by decide +kernel
theorem d2_10 : decode method_2_code 10 = .ok (.iconst 2, 1) := by decide +kernel
theorem d2_11 : decode method_2_code 11 = .ok (.if_icmp .ge 5, 3) := by decide +kernel
theorem d2_14 : decode method_2_code 14 = .ok (.iconst 1, 1) := by decide +kernel
theorem d2_15 : decode method_2_code 15 = .ok (.ireturn, 1) := by decide +kernel
theorem d2_16 : decode method_2_code 16 = .ok (.iload_n 0, 1) := by decide +kernel
theorem d2_17 : decode method_2_code 17 = .ok (.bipush 82, 2) := by decide +kernel
theorem d2_19 : decode method_2_code 19 = .ok (.if_icmp .ne 7, 3) := by decide +kernel
theorem d2_22 : decode method_2_code 22 = .ok (.iconst 1, 1) := by decide +kernel
theorem d2_23 : decode method_2_code 23 = .ok (.goto 4, 3) := by decide +kernel
theorem d2_26 : decode method_2_code 26 = .ok (.iconst 0, 1) := by decide +kernel
theorem d2_27 : decode method_2_code 27 = .ok (.ireturn, 1) := by decide +kernel
theorem pd_0 : parseMethodDescriptor "(C)Z" = some ⟨[.char], some .boolean⟩ := by decide +kernel
theorem pn_0 : plainName "com/example/orderwire/orderwire/NewOrder" = true := by first | (simp [plainName, overriddenIn]; done) | decide +kernel
theorem pn_1 : plainName "com/example/orderwire/orderwire/NewOrderHasStopPxPinLaw" = true := by first | (simp [plainName, overriddenIn]; done) | decide +kernel
def F1 (x0 : Int32) : Int32 := (if x0 = (51 : Int32) then (1 : Int32) else (if x0 = (52 : Int32) then (1 : Int32) else (if x0 = (82 : Int32) then (1 : Int32) else (0 : Int32))))
theorem ef_rm1 (m : MethodId) (x0 : Int32) : entryFrame m #[.int x0] 1 = mkF m 0 #[.val (.int x0)] [] := by first | (simp [entryFrame, mkF, argsToLocals, Value.category]; done) | rfl
set_option maxRecDepth 65536 in
set_option maxHeartbeats 40000000 in
theorem rm1 (l : Launch) (Z : State) (a0 : Array Value) (hw : HW Z a0) (x0 : Int32) (L : List (Addr × (Cell → Prop))) (h : Heap) (n0 : Nat) (O : Own n0 h L) :
    Meth l Z (⟨"com/example/orderwire/orderwire/NewOrder", "hasStopPx", "(C)Z"⟩ : MethodName) prog_32_method_7_code 1 (some .boolean) [] ({ frames := 0, cells := 0, slots := 0, locals := 0 } : Room) #[.int x0] h n0 (fun v h' => v = some (.int (nar .boolean (F1 x0))) ∧ Own n0 h' L) := by
  refine Meth.of (plainFor_of_name pn_0) (fun m => ef_rm1 m x0) O ?_
  intro p e m below meth c M FE C J
  change Cx Z "com/example/orderwire/orderwire/NewOrder" "hasStopPx" prog_32_method_7_code 1 (some .boolean) p m meth c M at C
  clear O
  refine Wk.iloadN (pc' := 1) C d1_0 rfl rfl ?_
  refine Wk.bipush (z := (51 : Int32)) (pc' := 3) C d1_1 rfl rfl ?_
  refine Wk.icmp_eq (pcT := 18) (pcF := 6) C d1_3 (by decide) (by decide) rfl (fun c1 => ?_) (fun c1 => ?_)
  · skip
    refine Wk.iconst (z := (1 : Int32)) (pc' := 19) C d1_18 rfl rfl ?_
    refine Wk.goto (pc' := 23) C d1_19 (by decide) (by decide) ?_
    exact Wk.retN C J d1_23 (by decide) (by decide) (by simp) rfl (fun h O => ⟨by rw [F1, if_pos c1], O⟩)
  · skip
    refine Wk.iloadN (pc' := 7) C d1_6 rfl rfl ?_
    refine Wk.bipush (z := (52 : Int32)) (pc' := 9) C d1_7 rfl rfl ?_
    refine Wk.icmp_eq (pcT := 18) (pcF := 12) C d1_9 (by decide) (by decide) rfl (fun c2 => ?_) (fun c2 => ?_)
    · skip
      refine Wk.iconst (z := (1 : Int32)) (pc' := 19) C d1_18 rfl rfl ?_
      refine Wk.goto (pc' := 23) C d1_19 (by decide) (by decide) ?_
      exact Wk.retN C J d1_23 (by decide) (by decide) (by simp) rfl (fun h O => ⟨by rw [F1, if_neg c1, if_pos c2], O⟩)
    · skip
      refine Wk.iloadN (pc' := 13) C d1_12 rfl rfl ?_
      refine Wk.bipush (z := (82 : Int32)) (pc' := 15) C d1_13 rfl rfl ?_
      refine Wk.icmp_ne (pcT := 22) (pcF := 18) C d1_15 (by decide) (by decide) rfl (fun c3 => ?_) (fun c3 => ?_)
      · skip
        refine Wk.iconst (z := (0 : Int32)) (pc' := 23) C d1_22 rfl rfl ?_
        exact Wk.retN C J d1_23 (by decide) (by decide) (by simp) rfl (fun h O => ⟨by rw [F1, if_neg c1, if_neg c2, if_neg c3], O⟩)
      · skip
        refine Wk.iconst (z := (1 : Int32)) (pc' := 19) C d1_18 rfl rfl ?_
        refine Wk.goto (pc' := 23) C d1_19 (by decide) (by decide) ?_
        exact Wk.retN C J d1_23 (by decide) (by decide) (by simp) rfl (fun h O => ⟨by rw [F1, if_neg c1, if_neg c2, if_pos c3], O⟩)
def F2 (x0 : Int32) : Int32 := (if (x0 - (51 : Int32)) < 0 then (if x0 = (82 : Int32) then (1 : Int32) else (0 : Int32)) else (if (x0 - (51 : Int32)) < (2 : Int32) then (1 : Int32) else (if x0 = (82 : Int32) then (1 : Int32) else (0 : Int32))))
theorem ef_rm2 (m : MethodId) (x0 : Int32) : entryFrame m #[.int x0] 2 = mkF m 0 #[.val (.int x0), .unset] [] := by first | (simp [entryFrame, mkF, argsToLocals, Value.category]; done) | rfl
set_option maxRecDepth 65536 in
set_option maxHeartbeats 40000000 in
theorem rm2 (l : Launch) (Z : State) (a0 : Array Value) (hw : HW Z a0) (x0 : Int32) (L : List (Addr × (Cell → Prop))) (h : Heap) (n0 : Nat) (O : Own n0 h L) :
    Meth l Z (⟨"com/example/orderwire/orderwire/NewOrderHasStopPxPinLaw", "expected", "(C)Z"⟩ : MethodName) method_2_code 2 (some .boolean) [] ({ frames := 0, cells := 0, slots := 0, locals := 0 } : Room) #[.int x0] h n0 (fun v h' => v = some (.int (nar .boolean (F2 x0))) ∧ Own n0 h' L) := by
  refine Meth.of (plainFor_of_name pn_1) (fun m => ef_rm2 m x0) O ?_
  intro p e m below meth c M FE C J
  change Cx Z "com/example/orderwire/orderwire/NewOrderHasStopPxPinLaw" "expected" method_2_code 2 (some .boolean) p m meth c M at C
  clear O
  refine Wk.iloadN (pc' := 1) C d2_0 rfl rfl ?_
  refine Wk.bipush (z := (51 : Int32)) (pc' := 3) C d2_1 rfl rfl ?_
  refine Wk.isub (pc' := 4) C d2_3 rfl ?_
  refine Wk.istoreN (Ls' := #[.val (.int x0), .val (.int (x0 - (51 : Int32)))]) (pc' := 5) C d2_4 rfl rfl ?_
  refine Wk.iloadN (pc' := 6) C d2_5 rfl rfl ?_
  refine Wk.if_lt (pcT := 16) (pcF := 9) C d2_6 (by decide) (by decide) rfl (fun c4 => ?_) (fun c4 => ?_)
  · skip
    refine Wk.iloadN (pc' := 17) C d2_16 rfl rfl ?_
    refine Wk.bipush (z := (82 : Int32)) (pc' := 19) C d2_17 rfl rfl ?_
    refine Wk.icmp_ne (pcT := 26) (pcF := 22) C d2_19 (by decide) (by decide) rfl (fun c5 => ?_) (fun c5 => ?_)
    · skip
      refine Wk.iconst (z := (0 : Int32)) (pc' := 27) C d2_26 rfl rfl ?_
      exact Wk.retN C J d2_27 (by decide) (by decide) (by simp) rfl (fun h O => ⟨by rw [F2, if_pos c4, if_neg c5], O⟩)
    · skip
      refine Wk.iconst (z := (1 : Int32)) (pc' := 23) C d2_22 rfl rfl ?_
      refine Wk.goto (pc' := 27) C d2_23 (by decide) (by decide) ?_
      exact Wk.retN C J d2_27 (by decide) (by decide) (by simp) rfl (fun h O => ⟨by rw [F2, if_pos c4, if_pos c5], O⟩)
  · skip
    refine Wk.iloadN (pc' := 10) C d2_9 rfl rfl ?_
    refine Wk.iconst (z := (2 : Int32)) (pc' := 11) C d2_10 rfl rfl ?_
    refine Wk.icmp_ge (pcT := 16) (pcF := 14) C d2_11 (by decide) (by decide) rfl (fun c6 => ?_) (fun c6 => ?_)
    · skip
      refine Wk.iloadN (pc' := 17) C d2_16 rfl rfl ?_
      refine Wk.bipush (z := (82 : Int32)) (pc' := 19) C d2_17 rfl rfl ?_
      refine Wk.icmp_ne (pcT := 26) (pcF := 22) C d2_19 (by decide) (by decide) rfl (fun c7 => ?_) (fun c7 => ?_)
      · skip
        refine Wk.iconst (z := (0 : Int32)) (pc' := 27) C d2_26 rfl rfl ?_
        exact Wk.retN C J d2_27 (by decide) (by decide) (by simp) rfl (fun h O => ⟨by rw [F2, if_neg c4, if_neg c6, if_neg c7], O⟩)
      · skip
        refine Wk.iconst (z := (1 : Int32)) (pc' := 23) C d2_22 rfl rfl ?_
        refine Wk.goto (pc' := 27) C d2_23 (by decide) (by decide) ?_
        exact Wk.retN C J d2_27 (by decide) (by decide) (by simp) rfl (fun h O => ⟨by rw [F2, if_neg c4, if_neg c6, if_pos c7], O⟩)
    · skip
      refine Wk.iconst (z := (1 : Int32)) (pc' := 15) C d2_14 rfl rfl ?_
      exact Wk.retN C J d2_15 (by decide) (by decide) (by simp) rfl (fun h O => ⟨by rw [F2, if_neg c4, if_pos c6], O⟩)
theorem own_key (c : Int32) : F1 c = F2 c := by
  have e := c_isub c 51
  have r := rng32 c
  have r2 := rng32 (c - 51)
  have z51 : (51 : Int32).toInt = 51 := rfl
  have z0 : (0 : Int32).toInt = 0 := rfl
  have z2 : (2 : Int32).toInt = 2 := rfl
  by_cases h1 : c = 51
  · subst h1; decide
  by_cases h2 : c = 52
  · subst h2; decide
  have n1 : c.toInt ≠ 51 := fun q => h1 (Int32.toInt_inj.mp q)
  have n2 : c.toInt ≠ 52 := fun q => h2 (Int32.toInt_inj.mp q)
  unfold F1 F2
  rw [if_neg h1, if_neg h2]
  by_cases h3 : c - 51 < 0
  · rw [if_pos h3]
  · have h4 : ¬ c - 51 < 2 := fun q => by
      rw [Int32.lt_iff_toInt_lt] at q h3
      omega
    rw [if_neg h3, if_neg h4]
theorem ef_rmLaw (m : MethodId) (x0 : Int32) : entryFrame m #[.int x0] 2 = mkF m 0 #[.val (.int x0), .unset] [] := by first | (simp [entryFrame, mkF, argsToLocals, Value.category]; done) | rfl
set_option maxRecDepth 65536 in
set_option maxHeartbeats 40000000 in
theorem rmLaw (l : Launch) (Z : State) (a0 : Array Value) (hw : HW Z a0) (x0 : Int32) (h : Heap) (n0 : Nat) (O : Own n0 h []) :
    Meth l Z x code maxLocals ret tables_1 room_1 #[.int x0] h n0 (fun v h' => v = some (.int 1)) := by
  refine Meth.of (plainFor_of_name pn_1) (fun m => ef_rmLaw m x0) O ?_
  intro p e m below meth c M FE C J
  change Cx Z "com/example/orderwire/orderwire/NewOrderHasStopPxPinLaw" "law" code 2 (some .boolean) p m meth c M at C
  clear O
  refine Wk.iloadN (pc' := 1) C at_0 rfl rfl ?_
  refine Wk.i2c (pc' := 2) C at_1 rfl ?_
  refine Wk.istoreNV (fun v8 => #[.val (.int x0), .val (.int v8)]) (pc' := 3) C at_2 rfl rfl ?_
  intro v8 hv8
  refine Wk.iloadN (pc' := 4) C at_3 rfl rfl ?_
  refine Wk.callS (pc' := 7) (rm := { frames := 0, cells := 0, slots := 0, locals := 0 }) (W0 := 0) (argsL := [.int v8]) (st := []) C (w0 hw) (w1 hw) (w2 hw) (w3 hw) (by decide) (fun h O => rm1 l Z a0 hw v8 [] h n0 O) (by decide) (by decide) (by decide) (by decide) at_4 rfl pd_0 rfl rfl rfl rfl ?_
  rintro _ h' ⟨rfl, O'⟩
  refine ⟨_, O', ?_⟩
  change Wk p l e _ m _ below meth c _ _ n0 [] 0 0 7 #[.val (.int x0), .val (.int v8)] [.int (nar .boolean (F1 v8))]
  refine Wk.iloadN (pc' := 8) C at_7 rfl rfl ?_
  refine Wk.callS (pc' := 11) (rm := { frames := 0, cells := 0, slots := 0, locals := 0 }) (W0 := 1) (argsL := [.int v8]) (st := [.int (nar .boolean (F1 v8))]) C (w4 hw) (w5 hw) (w6 hw) (w7 hw) (by decide) (fun h O => rm2 l Z a0 hw v8 [] h n0 O) (by decide) (by decide) (by decide) (by decide) at_8 rfl pd_0 rfl rfl rfl rfl ?_
  rintro _ h' ⟨rfl, O'⟩
  refine ⟨_, O', ?_⟩
  change Wk p l e _ m _ below meth c _ _ n0 [] 0 0 11 #[.val (.int x0), .val (.int v8)] [.int (nar .boolean (F2 v8)), .int (nar .boolean (F1 v8))]
  refine Wk.join1 (pcj := 19) (fun v10 => #[.val (.int x0), .val (.int v8)]) (fun v10 => [.int v10]) (if (nar .boolean (F1 v8)) = (nar .boolean (F2 v8)) then (1 : Int32) else (0 : Int32)) ?_ (fun J11 => ?_)
  · intro v10 hv10
    exact Wk.retN C J at_19 (by decide) (by decide) (by simp) (by rw [hv10, if_pos (by rw [own_key])]; rfl) (fun h O => rfl)
  · skip
    refine Wk.icmp_ne (pcT := 18) (pcF := 14) C at_11 (by decide) (by decide) rfl (fun c12 => ?_) (fun c12 => ?_)
    · skip
      refine Wk.iconst (z := (0 : Int32)) (pc' := 19) C at_18 rfl rfl ?_
      exact J11 _ (by first | rw [if_neg c12] | simp only [if_neg c12] | rfl)
    · skip
      refine Wk.iconst (z := (1 : Int32)) (pc' := 15) C at_14 rfl rfl ?_
      refine Wk.goto (pc' := 19) C at_15 (by decide) (by decide) ?_
      exact J11 _ (by first | rw [if_pos c12] | simp only [if_pos c12] | rfl)
set_option maxRecDepth 65536 in
set_option maxHeartbeats 40000000 in
theorem comes_1 {Post : Tables → Env → Array Value → State → Outcome → State → Prop} (hpost : ∀ tb e args s v u, (limb_1_1.after args s (.returned v) u = true ∧ limb_1_2.after args s (.returned v) u = true ∧ True) → FrameEnd s (.returned v) u (Jvm.fieldLocs frame_1_writes args s ++ Jvm.arrayLocs frame_1_arrays args s ++ Jvm.staticLocs frame_1_statics s) 0 0 → Post tb e args s (.returned v) u) :
    ArmFor flags0 classFile x code maxLocals ret World_1 tables_1 room_1 Calls_1 rest_1 Pre_1 Post := by
  intro l hfl _ _ p e ha hc hk s m args below hf hA hF happ hP
  obtain ⟨hcalls, hrest, hpre⟩ := hP
  obtain ⟨-, -, -, hnamed, -, -, -, hat⟩ := (Spec.applies_iff hf).mp happ
  obtain ⟨hg, hn⟩ := and_e (Cond.before_iff.mp (show (Jvm.Cond.and given_1 narrow_1).before args s = true from hpre))
  obtain ⟨hcount, hr0⟩ := and_e hg
  have hi0 := hr0
  obtain ⟨w0, rfl⟩ : ∃ w0 : Value, args = #[w0] := by
    have hs : args.size = 1 := by simpa [Cond.value, given_1] using hcount
    obtain ⟨L⟩ := args
    match L, hs with
    | [w0], _ => exact ⟨w0, rfl⟩
  have hw : HW s _ := fun d (hd : d ∈ tables_1) => atoms_spec (ws := Jvm.Cond.code x code maxLocals ret :: tables_1) hat d (List.mem_cons_of_mem _ hd)
  obtain ⟨i0, e0⟩ := is_v hi0
  obtain rfl : w0 = (.int i0) := Option.some.inj e0
  obtain ⟨n, o, h1, h2, h3, _, L, rfl, ⟨rfl, -, N⟩, hq⟩ := rmLaw l s _ hw i0 s.heap s.heap.size (Own.nil (Nat.le_refl _)) p e ha hc hk s m _ below hf ((Spec.applies_iff_loose hf).mp happ).1 ⟨rfl, State.Warmed39.refl s, rfl⟩ trivial
  refine ⟨n, _, h1, h2, h3, hpost _ _ _ _ _ _ ⟨Cond.after_iff.mpr rfl, Cond.after_iff.mpr (eq_i res_at (Term.int_eval (1)) rfl), trivial⟩ ⟨hq.1, hq.2.1, (hq.2.2.sift fun y hy => Or.inr (N y hy)).mono (by decide) (by decide)⟩⟩
theorem main_1_1 : Claimed_1_1 := comes_1 fun _ _ _ _ _ _ h hF => ⟨h.1, hF⟩
theorem main_1_2 : Claimed_1_2 := comes_1 fun _ _ _ _ _ _ h hF => ⟨h.2.1, hF⟩
end Jvm.Pilot.@@N@@
namespace Jvm.Pilot.@@N@@
open Jvm Jvm.ClassFile Sem Op Lib Jvm.Free Jvm.Stand Jvm.Pilot.@@N@@.Jvm.D
/-! MADE BY PROGRAM (witnessworld.py) out of the Statement's table words and the real class files: 10 classes; the members and pool entries that the words name. The judged class is class 1, her method 2. -/
namespace start1
open Jvm.ClassFile
def u (s : String) : CpInfo := .utf8 (stringToUtf16 s)
/-- a pool by its gaps: so many unusable entries, then the entry; so many at the end -/
def gap : Nat → List CpInfo → List CpInfo
  | 0, r => r
  | n + 1, r => .unusable :: gap n r
def poolList (es : List (Nat × CpInfo)) (last : Nat) : List CpInfo := es.foldr (fun e r => gap e.1 (e.2 :: r)) (gap last [])
def pool (es : List (Nat × CpInfo)) (last : Nat) : Array CpInfo := ⟨poolList es last⟩
def fileOf (pool : Array CpInfo) (this : Nat) (attrs : Array Attribute := #[]) (ms : Array MethodInfo := #[]) (fl : Nat := 33) (sup : Nat := 0) (ifs : Array Nat := #[]) (fds : Array FieldInfo := #[]) : ClassFile where
  minorVersion := 0
  majorVersion := 65
  constantPool := pool
  accessFlags := fl
  thisClass := this
  superClass := sup
  interfaces := ifs
  fields := fds
  methods := ms
  attributes := attrs
def plain (name : String) (sup : Option ClassId) : Class where
  name := name
  kind := .ordinary
  loader := none
  accessFlags := 33
  super := sup
  interfaces := #[]
  cf := none
  fields := #[]
  methods := #[]
  instanceTypes := #[]
  staticTypes := #[]
  resolved := #[]
  callSites := []
  init := .initialized
  statics := none
  mirror := none

def pool0 : Array CpInfo := pool [(5, u "<init>"), (0, u "()V"), (1, .class_ 10), (1, u "java/lang/Object")] 113

def k0m0 : Method := { name := "<init>", desc := "()V", sig := { parameters := [], returnType := none }, accessFlags := 1, code := none }
/-- java/lang/Object -/
def k0 : Class := { plain "java/lang/Object" none with
  accessFlags := 33
  interfaces := #[]
  cf := some (fileOf pool0 8 #[] #[{ accessFlags := 1, nameIndex := 5, descriptorIndex := 6, attributes := #[] }] 33 0 #[] #[])
  fields := #[]
  methods := #[k0m0]
  instanceTypes := #[]
  staticTypes := #[]
  resolved := Array.replicate 124 none
  statics := none }

def pool1 : Array CpInfo := pool [(2, .class_ 4), (1, u "java/lang/Object"), (0, u "<init>"), (0, u "()V"), (0, .methodref 8 9), (0, .class_ 10), (0, .nameAndType 11 12), (0, u "com/example/orderwire/orderwire/NewOrder"), (0, u "hasStopPx"), (0, u "(C)Z"), (0, .methodref 14 15), (0, .class_ 16), (0, .nameAndType 17 12), (0, u "com/example/orderwire/orderwire/NewOrderHasStopPxPinLaw"), (0, u "expected"), (3, u "law"), (0, u "(I)Z")] 2

def k1m0 : Method := { name := "<init>", desc := "()V", sig := { parameters := [], returnType := none }, accessFlags := 2, code := none }
def k1c1 : Code := { maxStack := 2, maxLocals := 2, code := method_2_code, exceptionTable := #[], attributes := #[] }
def k1m1 : Method := { name := "expected", desc := "(C)Z", sig := { parameters := [.char], returnType := some .boolean }, accessFlags := 10, code := some k1c1 }
def k1c2 : Code := { maxStack := 2, maxLocals := 2, code := code, exceptionTable := #[], attributes := #[] }
def k1m2 : Method := { name := "law", desc := "(I)Z", sig := { parameters := [.int], returnType := some .boolean }, accessFlags := 9, code := some k1c2 }
/-- com/example/orderwire/orderwire/NewOrderHasStopPxPinLaw -/
def k1 : Class := { plain "com/example/orderwire/orderwire/NewOrderHasStopPxPinLaw" (some 0) with
  accessFlags := 49
  interfaces := #[]
  cf := some (fileOf pool1 14 #[] #[{ accessFlags := 2, nameIndex := 5, descriptorIndex := 6, attributes := #[] }, { accessFlags := 10, nameIndex := 17, descriptorIndex := 12, attributes := #[] }, { accessFlags := 9, nameIndex := 21, descriptorIndex := 22, attributes := #[] }] 49 2 #[] #[])
  fields := #[]
  methods := #[k1m0, k1m1, k1m2]
  instanceTypes := #[]
  staticTypes := #[]
  resolved := Array.replicate 25 none
  statics := none }

def pool2 : Array CpInfo := pool [(2, .class_ 4), (1, u "java/lang/Object"), (0, u "<init>"), (0, u "()V"), (0, .class_ 8), (0, u "java/lang/Record")] 13

def k2m0 : Method := { name := "<init>", desc := "()V", sig := { parameters := [], returnType := none }, accessFlags := 4, code := none }
/-- java/lang/Record -/
def k2 : Class := { plain "java/lang/Record" (some 0) with
  accessFlags := 1057
  interfaces := #[]
  cf := some (fileOf pool2 7 #[] #[{ accessFlags := 4, nameIndex := 5, descriptorIndex := 6, attributes := #[] }] 1057 2 #[] #[])
  fields := #[]
  methods := #[k2m0]
  instanceTypes := #[]
  staticTypes := #[]
  resolved := Array.replicate 22 none
  statics := none }

def pool3 : Array CpInfo := pool [(2, .class_ 4), (1, u "java/lang/Record"), (3, .class_ 10), (1, u "com/example/orderwire/orderwire/NewOrder"), (0, u "clOrdId"), (0, u "Ljava/lang/String;"), (2, u "secondaryClOrdId"), (2, u "parties"), (0, u "Lcom/example/orderwire/orderwire/Parties;"), (2, u "account"), (2, u "securityId"), (2, u "securityIdSource"), (2, u "ordType"), (0, u "C"), (2, u "timeInForce"), (2, u "side"), (2, u "orderBook"), (0, u "I"), (2, u "orderQty"), (0, u "Ljava/math/BigDecimal;"), (2, u "displayQty"), (2, u "price"), (2, u "orderCapacity"), (2, u "trdKey"), (2, u "instructions"), (0, u "Lcom/example/orderwire/orderwire/OrderInstructions;"), (58, u "(C)Z"), (54, u "MARKET"), (2, u "LIMIT"), (1, u "STOP"), (1, u "STOP_LIMIT"), (1, u "PEGGED"), (1, u "PEGGED_LIMIT"), (1, u "DAY"), (1, u "GOOD_TILL_CANCEL"), (0, u "IMMEDIATE_OR_CANCEL"), (0, u "FILL_OR_KILL"), (0, u "GOOD_TILL_DATE"), (1, u "UNDISCLOSED"), (12, u "hasStopPx")] 42

def k3c0 : Code := { maxStack := 2, maxLocals := 1, code := prog_32_method_7_code, exceptionTable := #[], attributes := #[] }
def k3m0 : Method := { name := "hasStopPx", desc := "(C)Z", sig := { parameters := [.char], returnType := some .boolean }, accessFlags := 8, code := some k3c0 }
/-- com/example/orderwire/orderwire/NewOrder -/
def k3 : Class := { plain "com/example/orderwire/orderwire/NewOrder" (some 2) with
  accessFlags := 48
  interfaces := #[]
  cf := some (fileOf pool3 8 #[] #[{ accessFlags := 8, nameIndex := 209, descriptorIndex := 121, attributes := #[] }] 48 2 #[] #[{ accessFlags := 18, nameIndex := 11, descriptorIndex := 12, attributes := #[] }, { accessFlags := 18, nameIndex := 15, descriptorIndex := 12, attributes := #[] }, { accessFlags := 18, nameIndex := 18, descriptorIndex := 19, attributes := #[] }, { accessFlags := 18, nameIndex := 22, descriptorIndex := 12, attributes := #[] }, { accessFlags := 18, nameIndex := 25, descriptorIndex := 12, attributes := #[] }, { accessFlags := 18, nameIndex := 28, descriptorIndex := 12, attributes := #[] }, { accessFlags := 18, nameIndex := 31, descriptorIndex := 32, attributes := #[] }, { accessFlags := 18, nameIndex := 35, descriptorIndex := 32, attributes := #[] }, { accessFlags := 18, nameIndex := 38, descriptorIndex := 32, attributes := #[] }, { accessFlags := 18, nameIndex := 41, descriptorIndex := 42, attributes := #[] }, { accessFlags := 18, nameIndex := 45, descriptorIndex := 46, attributes := #[] }, { accessFlags := 18, nameIndex := 49, descriptorIndex := 46, attributes := #[] }, { accessFlags := 18, nameIndex := 52, descriptorIndex := 46, attributes := #[] }, { accessFlags := 18, nameIndex := 55, descriptorIndex := 32, attributes := #[] }, { accessFlags := 18, nameIndex := 58, descriptorIndex := 12, attributes := #[] }, { accessFlags := 18, nameIndex := 61, descriptorIndex := 62, attributes := #[] }, { accessFlags := 24, nameIndex := 176, descriptorIndex := 32, attributes := #[] }, { accessFlags := 24, nameIndex := 179, descriptorIndex := 32, attributes := #[] }, { accessFlags := 24, nameIndex := 181, descriptorIndex := 32, attributes := #[] }, { accessFlags := 24, nameIndex := 183, descriptorIndex := 32, attributes := #[] }, { accessFlags := 24, nameIndex := 185, descriptorIndex := 32, attributes := #[] }, { accessFlags := 24, nameIndex := 187, descriptorIndex := 32, attributes := #[] }, { accessFlags := 24, nameIndex := 189, descriptorIndex := 32, attributes := #[] }, { accessFlags := 24, nameIndex := 191, descriptorIndex := 32, attributes := #[] }, { accessFlags := 24, nameIndex := 192, descriptorIndex := 32, attributes := #[] }, { accessFlags := 24, nameIndex := 193, descriptorIndex := 32, attributes := #[] }, { accessFlags := 24, nameIndex := 194, descriptorIndex := 32, attributes := #[] }, { accessFlags := 24, nameIndex := 196, descriptorIndex := 32, attributes := #[] }])
  fields := #[{ name := "clOrdId", type := (.object "java/lang/String"), accessFlags := 18, slot := 0, constantValue := 0 }, { name := "secondaryClOrdId", type := (.object "java/lang/String"), accessFlags := 18, slot := 1, constantValue := 0 }, { name := "parties", type := (.object "com/example/orderwire/orderwire/Parties"), accessFlags := 18, slot := 2, constantValue := 0 }, { name := "account", type := (.object "java/lang/String"), accessFlags := 18, slot := 3, constantValue := 0 }, { name := "securityId", type := (.object "java/lang/String"), accessFlags := 18, slot := 4, constantValue := 0 }, { name := "securityIdSource", type := (.object "java/lang/String"), accessFlags := 18, slot := 5, constantValue := 0 }, { name := "ordType", type := .char, accessFlags := 18, slot := 6, constantValue := 0 }, { name := "timeInForce", type := .char, accessFlags := 18, slot := 7, constantValue := 0 }, { name := "side", type := .char, accessFlags := 18, slot := 8, constantValue := 0 }, { name := "orderBook", type := .int, accessFlags := 18, slot := 9, constantValue := 0 }, { name := "orderQty", type := (.object "java/math/BigDecimal"), accessFlags := 18, slot := 10, constantValue := 0 }, { name := "displayQty", type := (.object "java/math/BigDecimal"), accessFlags := 18, slot := 11, constantValue := 0 }, { name := "price", type := (.object "java/math/BigDecimal"), accessFlags := 18, slot := 12, constantValue := 0 }, { name := "orderCapacity", type := .char, accessFlags := 18, slot := 13, constantValue := 0 }, { name := "trdKey", type := (.object "java/lang/String"), accessFlags := 18, slot := 14, constantValue := 0 }, { name := "instructions", type := (.object "com/example/orderwire/orderwire/OrderInstructions"), accessFlags := 18, slot := 15, constantValue := 0 }, { name := "MARKET", type := .char, accessFlags := 24, slot := 0, constantValue := 0 }, { name := "LIMIT", type := .char, accessFlags := 24, slot := 1, constantValue := 0 }, { name := "STOP", type := .char, accessFlags := 24, slot := 2, constantValue := 0 }, { name := "STOP_LIMIT", type := .char, accessFlags := 24, slot := 3, constantValue := 0 }, { name := "PEGGED", type := .char, accessFlags := 24, slot := 4, constantValue := 0 }, { name := "PEGGED_LIMIT", type := .char, accessFlags := 24, slot := 5, constantValue := 0 }, { name := "DAY", type := .char, accessFlags := 24, slot := 6, constantValue := 0 }, { name := "GOOD_TILL_CANCEL", type := .char, accessFlags := 24, slot := 7, constantValue := 0 }, { name := "IMMEDIATE_OR_CANCEL", type := .char, accessFlags := 24, slot := 8, constantValue := 0 }, { name := "FILL_OR_KILL", type := .char, accessFlags := 24, slot := 9, constantValue := 0 }, { name := "GOOD_TILL_DATE", type := .char, accessFlags := 24, slot := 10, constantValue := 0 }, { name := "UNDISCLOSED", type := .char, accessFlags := 24, slot := 11, constantValue := 0 }]
  methods := #[k3m0]
  instanceTypes := #[(.object "java/lang/String"), (.object "java/lang/String"), (.object "com/example/orderwire/orderwire/Parties"), (.object "java/lang/String"), (.object "java/lang/String"), (.object "java/lang/String"), .char, .char, .char, .int, (.object "java/math/BigDecimal"), (.object "java/math/BigDecimal"), (.object "java/math/BigDecimal"), .char, (.object "java/lang/String"), (.object "com/example/orderwire/orderwire/OrderInstructions")]
  staticTypes := #[.char, .char, .char, .char, .char, .char, .char, .char, .char, .char, .char, .char]
  resolved := Array.replicate 252 none
  statics := none }

def pool4 : Array CpInfo := pool [(1, u "java/lang/Cloneable"), (0, .class_ 1), (0, u "java/lang/Object"), (0, .class_ 3)] 3

/-- java/lang/Cloneable -/
def k4 : Class := { plain "java/lang/Cloneable" (some 0) with
  accessFlags := 1537
  interfaces := #[]
  cf := some (fileOf pool4 2 #[] #[] 1537 4 #[] #[])
  fields := #[]
  methods := #[]
  instanceTypes := #[]
  staticTypes := #[]
  resolved := Array.replicate 8 none
  statics := none }

def pool5 : Array CpInfo := pool [(1, u "java/io/Serializable"), (0, .class_ 1), (0, u "java/lang/Object"), (0, .class_ 3)] 3

/-- java/io/Serializable -/
def k5 : Class := { plain "java/io/Serializable" (some 0) with
  accessFlags := 1537
  interfaces := #[]
  cf := some (fileOf pool5 2 #[] #[] 1537 4 #[] #[])
  fields := #[]
  methods := #[]
  instanceTypes := #[]
  staticTypes := #[]
  resolved := Array.replicate 8 none
  statics := none }

/-- the primitive byte -/
def k6 : Class := { plain "byte" none with kind := .primitive 'B', accessFlags := 0x411 }
/-- [B -/
def k7 : Class := { plain "[B" (some 0) with kind := .array 6 .byte, interfaces := #[4, 5], accessFlags := 1041 }

/-- the primitive int -/
def k8 : Class := { plain "int" none with kind := .primitive 'I', accessFlags := 0x411 }
/-- [I -/
def k9 : Class := { plain "[I" (some 0) with kind := .array 8 .int, interfaces := #[4, 5], accessFlags := 1041 }

def heap : Heap := #[]
def classes : Array Class := #[k0, k1, k2, k3, k4, k5, k6, k7, k8, k9]
def interned : List (Array UInt16 × Addr) := []
def slotsUsed : Nat := 0
def theMethod : MethodId := ⟨1, 2⟩
def args0 : Array Value := #[.int 51]
def aboutOver (below : List Frame) : State where
  vm := { classes := classes, interned := interned.toArray }
  heap := heap
  slotsUsed := slotsUsed
  threads := #[{ frames := .invoking theMethod args0 :: below }]
def below0 : List Frame := [.native { method := ⟨0, 0⟩, args := #[] }]
def about1 : State := aboutOver below0
def p0 : Program := .bare "" "" ""
def e0 : Env := launch0.env 0 0 0
theorem w_frames : about1.frames = Frame.invoking theMethod args0 :: below0 := rfl
set_option maxRecDepth 65536 in
theorem w_args : argsFit about1.vm theMethod args0 = true := by decide +kernel
set_option maxRecDepth 65536 in
theorem w_heap : heapFits about1 = true := by decide +kernel
set_option maxRecDepth 65536 in
theorem w_runnable : about1.curStatus? = some .runnable := by decide +kernel
set_option maxRecDepth 65536 in
theorem w_alone : about1.alone = true := by decide +kernel
set_option maxRecDepth 65536 in
theorem w_named : about1.methodNamed? x = some theMethod := by decide +kernel
set_option maxRecDepth 65536 in
theorem w_hears : about1.hears theMethod below0 = true := by decide +kernel
set_option maxRecDepth 65536 in
theorem w_ripe : about1.ripe theMethod args0 below0 = true := by decide +kernel
theorem w_running : about1.status = .running := rfl
set_option maxRecDepth 65536 in
theorem w_room : about1.hasRoom e0.platform room_1 = true :=
  launch0.hasRoom_least _ room_1 (by decide +kernel) (by decide +kernel) (by decide +kernel) (by decide +kernel) (by decide +kernel) (by decide +kernel)
theorem allAtoms_all (ts : List Jvm.Cond) (a : Array Jvm.Value) (st : Jvm.State) : (allAtoms ts).before a st = ts.all (fun c => c.before a st) := by
  induction ts with
  | nil => rfl
  | cons c t ih =>
    show (Jvm.Cond.and c (allAtoms t)).before a st = _
    rw [Jvm.Cond.before_and, ih, List.all_cons]
def words1 : List Jvm.Cond := Jvm.Cond.code x code maxLocals ret :: tables_1
/-- a 'code' word, met by the world's own term for the bytes: nothing is compared byte by byte -/
theorem code_word {y : MethodName} {bytes : ByteArray} {mx : Nat} {rt : Option FieldType} {a : Array Value} {s : State} {m : MethodId} {meth : Method} {c : Code} (h1 : s.methodNamed? y = some m) (h2 : s.vm.method? m = some meth) (h3 : meth.code = some c) (h4 : c.code = bytes)
    (h5 : (c.maxLocals == mx && c.exceptionTable.isEmpty && decide (c.maxStack ≤ mostOperands) && decide (meth.sig.returnType = rt) && !meth.locks && decide (parseMethodDescriptor y.desc = some meth.sig)) = true) : (Jvm.Cond.code y bytes mx rt).before a s = true := by
  simp only [Bool.and_eq_true, beq_iff_eq, Bool.not_eq_true', decide_eq_true_eq] at h5
  obtain ⟨⟨⟨⟨⟨g1, g2⟩, g3⟩, g4⟩, g5⟩, g6⟩ := h5
  simp [Cond.before, Cond.holds, Cond.value, h1, h2, h3, h4, g1, g2, g3, g4, g5, g6]
def isCode : Jvm.Cond → Bool
  | .code _ _ _ _ => true
  | _ => false
theorem all_split {L : List Jvm.Cond} {P : Jvm.Cond → Bool} (h1 : L.all (fun c => isCode c || P c) = true) (h2 : ∀ c ∈ L.filter isCode, P c = true) : L.all P = true := by
  refine List.all_eq_true.mpr fun c hc => ?_
  have h := List.all_eq_true.mp h1 c hc
  rcases Bool.eq_false_or_eq_true (isCode c) with hi | hi
  · exact h2 c (List.mem_filter.mpr ⟨hc, hi⟩)
  · simpa [hi] using h
set_option maxRecDepth 65536 in
theorem w_c0 : (Jvm.Cond.code x code maxLocals ret).before args0 about1 = true := code_word (m := ⟨1, 2⟩) (meth := k1m2) (c := k1c2) (by decide +kernel) rfl rfl rfl (by decide +kernel)
set_option maxRecDepth 65536 in
theorem w_c1 : (Jvm.Cond.code ({ cls := "com/example/orderwire/orderwire/NewOrder", name := "hasStopPx", desc := "(C)Z" } : Jvm.MethodName) prog_32_method_7_code (1 : Nat) (Option.some Jvm.ClassFile.FieldType.boolean)).before args0 about1 = true := code_word (m := ⟨3, 0⟩) (meth := k3m0) (c := k3c0) (by decide +kernel) rfl rfl rfl (by decide +kernel)
set_option maxRecDepth 65536 in
theorem w_c2 : (Jvm.Cond.code ({ cls := "com/example/orderwire/orderwire/NewOrderHasStopPxPinLaw", name := "expected", desc := "(C)Z" } : Jvm.MethodName) method_2_code (2 : Nat) (Option.some Jvm.ClassFile.FieldType.boolean)).before args0 about1 = true := code_word (m := ⟨1, 1⟩) (meth := k1m1) (c := k1c1) (by decide +kernel) rfl rfl rfl (by decide +kernel)
def codes1 : List Jvm.Cond := [Jvm.Cond.code x code maxLocals ret, Jvm.Cond.code ({ cls := "com/example/orderwire/orderwire/NewOrder", name := "hasStopPx", desc := "(C)Z" } : Jvm.MethodName) prog_32_method_7_code (1 : Nat) (Option.some Jvm.ClassFile.FieldType.boolean), Jvm.Cond.code ({ cls := "com/example/orderwire/orderwire/NewOrderHasStopPxPinLaw", name := "expected", desc := "(C)Z" } : Jvm.MethodName) method_2_code (2 : Nat) (Option.some Jvm.ClassFile.FieldType.boolean)]
set_option maxRecDepth 65536 in
theorem codes_eq : words1.filter isCode = codes1 := rfl
theorem w_codes : ∀ c ∈ words1.filter isCode, c.before args0 about1 = true := by
  rw [codes_eq]
  intro c hc
  simp only [codes1, List.mem_cons, List.not_mem_nil, or_false] at hc
  rcases hc with rfl | rfl | rfl
  · exact w_c0
  · exact w_c1
  · exact w_c2
set_option maxRecDepth 65536 in
theorem w_t1 : words1.all (fun c => isCode c || c.before args0 about1) = true := by decide +kernel
theorem w_tables : (allAtoms (Jvm.Cond.code x code maxLocals ret :: tables_1)).before args0 about1 = true := by
  rw [allAtoms_all]
  show words1.all (fun c => c.before args0 about1) = true
  refine all_split ?_ w_codes
  rw [w_t1]
set_option maxRecDepth 65536 in
theorem w_case : (Jvm.Cond.and given_1 narrow_1).before args0 about1 = true := by decide +kernel
theorem w_applies : (headSpec (Jvm.Cond.code x code maxLocals ret :: tables_1) room_1).applies x e0.platform about1 = true :=
  (Spec.applies_iff w_frames).mpr ⟨w_running, w_runnable, w_alone, w_named, w_hears, w_ripe, w_room, w_tables⟩
theorem atStart : AtStart classFile x code maxLocals ret World_1 tables_1 room_1 Calls_1 rest_1 Pre_1 launch0 p0 e0 about1 theMethod args0 below0 :=
  ⟨lists_1, trivial, launch0.admits_env _ _ _, launch0.least_env, fairChoices_fair.cas, fairChoices_fair.clock, w_frames, w_args, w_heap, w_applies, trivial, trivial, w_case⟩
end start1
theorem witness_1 : WitnessClaimed_1 := ⟨start1.p0, start1.e0, start1.about1, start1.theMethod, start1.args0, start1.below0, start1.atStart⟩
end Jvm.Pilot.@@N@@
