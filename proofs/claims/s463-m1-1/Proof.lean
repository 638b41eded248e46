import JvmDerived
import JvmDerived.Pilot.@@N@@Statement
import JvmDerived.Pilot.@@N@@Code
set_option linter.unusedVariables false
set_option linter.unusedSimpArgs false
namespace Jvm.RoadKit
open Sem ClassFile Op Lib Jvm.Stand Jvm.Free Jvm.LawKit
section New
variable {p : Program} {l : Launch} {e : Env} {R : Room} {s : State} {m : MethodId} {args : Array Value} {below : List Frame} {meth : Method} {c : Code} {T : State} {locs : List Loc} {cells slots : Nat}
theorem retI (X : Stand p l e R s m args below meth c T locs cells slots) (hx : p.tables.exec = Jvm.exec) {pc : Nat} {Ls : Array Slot} {z : Int32} {rest : List Value} (hret : meth.sig.returnType = some .int) (hd : decode c.code pc = .ok (.ireturn, 1)) {fs : List Frame}
    (hl : ∀ (f : JFrame) (acts : List Action), f.method = m → f.locked = none → f.entered = [] → (doReturn e (T.setTop f) acts (some (.int z))).1 = T.setFrames fs) : Steps p.tables e below (T.setTop (mkF m pc Ls (.int z :: rest))) (T.setFrames fs) :=
  retOut X hx hret rfl (Or.inl ⟨rfl, Or.inl rfl, z, rfl⟩) hd hl
end New
end Jvm.RoadKit
namespace Jvm.Pilot.@@N@@
open Jvm Jvm.ClassFile Sem Op Lib Jvm.Free Jvm.Stand Jvm.LawKit Jvm.RoadKit Bundle Jvm.Pilot.@@N@@.Jvm.D
section OwnKit
variable {p : Program} {l : Launch} {e : Env} {R : Room} {m : MethodId} {args : Array Value} {below : List Frame} {meth : Method} {c : Code} {M : State → Heap → Prop} {P : State → Prop} {n0 : Nat} {Z : State} {a0 : Array Value} {own name : String} {bytes : ByteArray} {maxL : Nat} {ret : Option FieldType} {L : List (Addr × (Cell → Prop))} {k n pc pc' : Nat} {Ls Ls' : Array Slot} {st : List Value}
/-! what is known of the heap: a list of the own cells, each with what it holds -/
def Hs (h : Heap) (a : Addr) (φ : Cell → Prop) : Prop := ∃ c : Cell, h[a]? = some c ∧ φ c
def Own (n0 : Nat) (h : Heap) (L : List (Addr × (Cell → Prop))) : Prop := n0 ≤ h.size ∧ (∀ (i j : Nat) x y, L[i]? = some x → L[j]? = some y → x.1 = y.1 → i = j) ∧ ∀ (i : Nat) x, L[i]? = some x → n0 ≤ x.1 ∧ Hs h x.1 x.2
theorem Own.nil {h : Heap} (q : n0 ≤ h.size) : Own n0 h [] := ⟨q, fun i j x y hx => by simp at hx, fun i x hx => by simp at hx⟩
theorem Own.lt {h : Heap} (O : Own n0 h L) {i : Nat} {x : Addr × (Cell → Prop)} (hi : L[i]? = some x) : x.1 < h.size := by
  obtain ⟨c, h1, -⟩ := (O.2.2 i x hi).2
  exact (Array.getElem?_eq_some_iff.mp h1).1
theorem Own.ext {h h' : Heap} (O : Own n0 h L) (E : Ext h h') : Own n0 h' L :=
  ⟨Nat.le_trans O.1 E.1, O.2.1, fun i x hx => ⟨(O.2.2 i x hx).1, by obtain ⟨c, h1, h2⟩ := (O.2.2 i x hx).2; exact ⟨c, E.2 _ _ h1, h2⟩⟩⟩
theorem Own.cons {h h' : Heap} {φ : Cell → Prop} (O : Own n0 h L) (E : Ext h h') (F : Hs h' h.size φ) : Own n0 h' ((h.size, φ) :: L) := by
  have O' := O.ext E
  refine ⟨O'.1, fun i j x y hx hy e => ?_, fun i x hx => ?_⟩
  · match i, j with
    | 0, 0 => rfl
    | 0, j + 1 =>
      simp only [List.getElem?_cons_zero, Option.some.injEq] at hx
      simp only [List.getElem?_cons_succ] at hy
      subst hx; exact absurd e (Nat.ne_of_gt (O.lt hy))
    | i + 1, 0 =>
      simp only [List.getElem?_cons_zero, Option.some.injEq] at hy
      simp only [List.getElem?_cons_succ] at hx
      subst hy; exact absurd e (Nat.ne_of_lt (O.lt hx))
    | i + 1, j + 1 =>
      simp only [List.getElem?_cons_succ] at hx hy
      rw [O.2.1 i j x y hx hy e]
  · match i with
    | 0 =>
      simp only [List.getElem?_cons_zero, Option.some.injEq] at hx
      subst hx; exact ⟨O.1, F⟩
    | i + 1 =>
      simp only [List.getElem?_cons_succ] at hx
      exact O'.2.2 i x hx
theorem Own.set {h h' : Heap} {i : Nat} {a : Addr} {φ φ' : Cell → Prop} (O : Own n0 h L) (hi : L[i]? = some (a, φ)) (hs : h.size ≤ h'.size) (ho : ∀ (b : Addr) (c : Cell), b ≠ a → h[b]? = some c → h'[b]? = some c) (F : Hs h' a φ') : Own n0 h' (L.set i (a, φ')) := by
  have key : ∀ j x, (L.set i (a, φ'))[j]? = some x → (j = i ∧ x = (a, φ')) ∨ (j ≠ i ∧ L[j]? = some x) := by
    intro j x hx
    rw [List.getElem?_set] at hx
    by_cases q : i = j
    · rw [if_pos q] at hx
      split at hx
      · exact Or.inl ⟨q.symm, (Option.some.inj hx).symm⟩
      · cases hx
    · rw [if_neg q] at hx; exact Or.inr ⟨fun e => q e.symm, hx⟩
  refine ⟨Nat.le_trans O.1 hs, fun j j' x y hx hy e => ?_, fun j x hx => ?_⟩
  · rcases key j x hx with ⟨rfl, rfl⟩ | ⟨q1, q2⟩ <;> rcases key j' y hy with ⟨rfl, rfl⟩ | ⟨r1, r2⟩
    · rfl
    · exact O.2.1 _ _ _ _ hi r2 e
    · exact O.2.1 _ _ _ _ q2 hi e
    · exact O.2.1 _ _ _ _ q2 r2 e
  · rcases key j x hx with ⟨rfl, rfl⟩ | ⟨q1, q2⟩
    · exact ⟨(O.2.2 _ _ hi).1, F⟩
    · obtain ⟨c, h1, h2⟩ := (O.2.2 _ _ q2).2
      exact ⟨(O.2.2 _ _ q2).1, c, ho _ _ (fun e => q1 (O.2.1 _ _ _ _ q2 hi e)) h1, h2⟩
theorem Own.wr {h h' : Heap} {i sl : Nat} {v : Value} {a : Addr} {φ φ' : Cell → Prop} (O : Own n0 h L) (Wh : Wr h h' a sl v) (hi : L[i]? = some (a, φ)) (hφ : ∀ c : Cell, φ c → sl < c.slots.size → φ' (c.setSlot sl v)) : Own n0 h' (L.set i (a, φ')) := by
  obtain ⟨c, h1, h2⟩ := (O.2.2 _ _ hi).2
  have hsl : sl < c.slots.size := by
    obtain ⟨cell, g1, -, g3, -⟩ := Wh
    cases h1.symm.trans g1; exact g3
  refine O.set hi (Nat.le_of_eq Wh.size.symm) (fun b cb hb hc => ?_) ?_
  · obtain ⟨c', e1, -, -, -, e5, -⟩ := wr_at Wh hc
    rw [e5 hb] at e1; exact e1
  · obtain ⟨c', e1, -, -, -, -, -, e7⟩ := wr_at Wh h1
    exact ⟨c', e1, by rw [(e7 rfl).1]; exact hφ c h2 hsl⟩
theorem Own.re {h : Heap} {L' : List (Addr × (Cell → Prop))} (O : Own n0 h L) (f : Nat → Nat) (hf : ∀ j x, L'[j]? = some x → L[f j]? = some x) (hinj : ∀ i j, i < L'.length → j < L'.length → f i = f j → i = j) : Own n0 h L' :=
  ⟨O.1, fun i j x y hx hy e => hinj i j (List.getElem?_eq_some_iff.mp hx).1 (List.getElem?_eq_some_iff.mp hy).1 (O.2.1 _ _ _ _ (hf i x hx) (hf j y hy) e), fun i x hx => O.2.2 _ _ (hf i x hx)⟩
theorem Own.front {h : Heap} (O : Own n0 h L) (i : Nat) {x : Addr × (Cell → Prop)} (hi : L[i]? = some x) : Own n0 h (x :: L.eraseIdx i) := by
  refine O.re (fun j => match j with | 0 => i | j + 1 => if j < i then j else j + 1) (fun j y hy => ?_) (fun j j' _ _ e => ?_)
  · match j with
    | 0 => simp only [List.getElem?_cons_zero, Option.some.injEq] at hy; subst hy; exact hi
    | j + 1 =>
      simp only [List.getElem?_cons_succ, List.getElem?_eraseIdx] at hy
      dsimp only
      split at hy
      · rename_i q; rw [if_pos q]; exact hy
      · rename_i q; rw [if_neg q]; exact hy
  · match j, j' with
    | 0, 0 => rfl
    | 0, j' + 1 => dsimp only at e; split at e <;> omega
    | j + 1, 0 => dsimp only at e; split at e <;> omega
    | j + 1, j' + 1 => dsimp only at e; split at e <;> split at e <;> omega
theorem Own.imp {h : Heap} {i : Nat} {a : Addr} {φ φ' : Cell → Prop} (O : Own n0 h L) (hi : L[i]? = some (a, φ)) (q : ∀ c, φ c → φ' c) : Own n0 h (L.set i (a, φ')) :=
  O.set hi (Nat.le_refl _) (fun _ _ _ r => r) (by obtain ⟨c, h1, h2⟩ := (O.2.2 _ _ hi).2; exact ⟨c, h1, q c h2⟩)
theorem Own.drop {h : Heap} (O : Own n0 h L) (i : Nat) : Own n0 h (L.eraseIdx i) := by
  refine O.re (fun j => if j < i then j else j + 1) (fun j y hy => ?_) (fun j j' _ _ e => ?_)
  · rw [List.getElem?_eraseIdx] at hy
    split at hy
    · rename_i q; show L[if j < i then j else j + 1]? = _; rw [if_pos q]; exact hy
    · rename_i q; show L[if j < i then j else j + 1]? = _; rw [if_neg q]; exact hy
  · split at e <;> split at e <;> omega
theorem Own.tail {h : Heap} {x : Addr × (Cell → Prop)} (O : Own n0 h (x :: L)) : Own n0 h L :=
  O.re (fun j => j + 1) (fun j y hy => by simpa using hy) (fun i j _ _ e => by omega)
theorem Own.ne {h : Heap} {i j : Nat} {a b : Addr} {φ ψ : Cell → Prop} (O : Own n0 h L) (hi : L[i]? = some (a, φ)) (hj : L[j]? = some (b, ψ)) (q : i ≠ j) : a ≠ b := fun e => q (O.2.1 _ _ _ _ hi hj e)
/-! arrays of ints, bytes, chars ..: n places, the i-th holds f i -/
def upd (f : Nat → Int32) (i : Nat) (v : Int32) : Nat → Int32 := fun j => if j = i then v else f j
theorem upd_hit (f : Nat → Int32) (i : Nat) (v : Int32) : upd f i v i = v := if_pos rfl
theorem upd_miss (f : Nat → Int32) {i j : Nat} (v : Int32) (q : j ≠ i) : upd f i v j = f j := if_neg q
def ExaC (Z : State) (C : String) (cell : Cell) : Prop := ∃ k : Class, Z.vm.findClass C = some cell.cls ∧ Z.vm.classes[cell.cls]? = some k ∧ cell.vm.isStatics = false ∧ (k.kind = .ordinary → cell.slots.size = k.instanceTypes.size)
def ArrC (Z : State) (ty : FieldType) (n : Nat) (f : Nat → Int32) (c : Cell) : Prop := Z.isArrayOf c ty ∧ c.vm ≠ .unknown ∧ c.slots.size = n ∧ (∀ i, i < n → c.slots[i]? = some (.int (f i))) ∧ (∀ i, i < n → fits ty (.int (f i)) = true) ∧ ExaC Z ("[" ++ ty.toString) c
theorem ArrC.congr {ty : FieldType} {f g : Nat → Int32} {c : Cell} (A : ArrC Z ty n f c) (q : ∀ i, i < n → f i = g i) : ArrC Z ty n g c := ⟨A.1, A.2.1, A.2.2.1, fun i hi => by rw [← q i hi]; exact A.2.2.2.1 i hi, fun i hi => by rw [← q i hi]; exact A.2.2.2.2.1 i hi, A.2.2.2.2.2⟩
theorem ArrC.set {ty : FieldType} {f : Nat → Int32} {c : Cell} {i : Nat} {v : Int32} (A : ArrC Z ty n f c) (hi : i < n) (hv : fits ty (.int v) = true) : ArrC Z ty n (upd f i v) (c.setSlot i (.int v)) := by
  obtain ⟨A1, A2, hs, A4, A5, k, x1, x2, x3, x4⟩ := A
  refine ⟨A1, A2, (sz_set c i _).trans hs, fun j hj => ?_, fun j hj => ?_, k, x1, x2, x3, fun q => (sz_set c i _).trans (x4 q)⟩
  · by_cases q : j = i
    · subst q; rw [upd_hit]; simp [Cell.setSlot, hs, hi]
    · rw [upd_miss _ _ q, ← A4 j hj]
      show (c.slots.setIfInBounds i _)[j]? = _
      exact Array.getElem?_setIfInBounds_ne (Ne.symm q)
  · by_cases q : j = i
    · subst q; rw [upd_hit]; exact hv
    · rw [upd_miss _ _ q]; exact A5 j hj
/-! objects: class C; the fields ks (owner, name, descriptor, type) hold vs -/
def FldC (Z : State) (C n d : String) (v : Value) (cell : Cell) : Prop := ∃ (cf : ClassId) (k : Class) (i : Nat) (f : Field), Z.fieldFound? C n d = some (cf, k, i, f) ∧ f.isStatic = false ∧ cell.vm ≠ .unknown ∧ cell.vm.isStatics = false ∧ Z.vm.assignable cell.cls cf = true ∧ cell.slots[f.slot]? = some v
def ObjC (Z : State) (C : String) (ks : List (String × String × String × FieldType)) (vs : List Value) (c : Cell) : Prop := ExaC Z C c ∧ ∀ (i : Nat) kk v, ks[i]? = some kk → vs[i]? = some v → FldC Z kk.1 kk.2.1 kk.2.2.1 v c
theorem fld_of {h : Heap} {a : Addr} {C nm d : String} {v : Value} {c : Cell} (h1 : h[a]? = some c) (F : FldC Z C nm d v c) : Fld Z h a C nm d v := by
  obtain ⟨cf, k, i, f, r⟩ := F; exact ⟨c, cf, k, i, f, h1, r⟩
theorem of_fld {h : Heap} {a : Addr} {C nm d : String} {v : Value} {c : Cell} (h1 : h[a]? = some c) (F : Fld Z h a C nm d v) : FldC Z C nm d v c := by
  obtain ⟨c', cf, k, i, f, h2, r⟩ := F
  cases h1.symm.trans h2; exact ⟨cf, k, i, f, r⟩
theorem exa_of {h : Heap} {a : Addr} {C : String} {c : Cell} (h1 : h[a]? = some c) (F : ExaC Z C c) : Exa Z h a C := by
  obtain ⟨k, r⟩ := F; exact ⟨c, k, h1, r⟩
theorem of_exa {h : Heap} {a : Addr} {C : String} {c : Cell} (h1 : h[a]? = some c) (F : Exa Z h a C) : ExaC Z C c := by
  obtain ⟨c', k, h2, r⟩ := F
  cases h1.symm.trans h2; exact ⟨k, r⟩
def Lays (Z : State) (a0 : Array Value) (C : String) (ks : List (String × String × String × FieldType)) : Prop := (∀ kk ∈ ks, Laid Z a0 C kk.1 kk.2.1 kk.2.2.1 ∧ parseFieldDescriptor kk.2.2.1 = some kk.2.2.2) ∧ (ks.map (fun kk => kk.2.1)).Nodup
theorem Lays.ne {C : String} {ks : List (String × String × String × FieldType)} (H : Lays Z a0 C ks) {i j : Nat} {x y : String × String × String × FieldType} (hx : ks[i]? = some x) (hy : ks[j]? = some y) (q : i ≠ j) : Jvm.RoadKit.slotOf Z x.1 x.2.1 x.2.2.1 ≠ Jvm.RoadKit.slotOf Z y.1 y.2.1 y.2.2.1 := by
  have h1 := H.1 x (List.mem_of_getElem? hx)
  have h2 := H.1 y (List.mem_of_getElem? hy)
  refine slot_ne h1.1 h2.1 (fun e => q ?_) h1.2 h2.2
  have hi : i < (ks.map (fun kk => kk.2.1)).length := by rw [List.length_map]; exact (List.getElem?_eq_some_iff.mp hx).1
  exact (List.getElem?_inj hi H.2).mp (by rw [List.getElem?_map, List.getElem?_map, hx, hy]; exact congrArg some e)
theorem ObjC.set {C : String} {ks : List (String × String × String × FieldType)} {vs : List Value} {c : Cell} {j : Nat} {kk : String × String × String × FieldType} {v : Value} (A : ObjC Z C ks vs c) (H : Lays Z a0 C ks) (hj : ks[j]? = some kk) (hv : j < vs.length) (hsl : Jvm.RoadKit.slotOf Z kk.1 kk.2.1 kk.2.2.1 < c.slots.size) : ObjC Z C ks (vs.set j v) (c.setSlot (Jvm.RoadKit.slotOf Z kk.1 kk.2.1 kk.2.2.1) v) := by
  obtain ⟨⟨k, e1, e2, e3, e4⟩, F⟩ := A
  refine ⟨⟨k, e1, e2, e3, fun q => (sz_set c _ _).trans (e4 q)⟩, fun i kk' w hk hw => ?_⟩
  rw [List.getElem?_set] at hw
  by_cases q : j = i
  · subst q
    rw [if_pos rfl, if_pos hv] at hw
    cases hj.symm.trans hk
    cases hw
    obtain ⟨v0, hv0⟩ : ∃ v0, vs[j]? = some v0 := ⟨_, List.getElem?_eq_getElem hv⟩
    obtain ⟨cf, kc, ii, f, f1, f2, f3, f4, f5, -⟩ := F j kk v0 hj hv0
    have es : Jvm.RoadKit.slotOf Z kk.1 kk.2.1 kk.2.2.1 = f.slot := by simp [Jvm.RoadKit.slotOf, f1]
    rw [es] at hsl ⊢
    exact ⟨cf, kc, ii, f, f1, f2, f3, f4, f5, by simp [Cell.setSlot, hsl]⟩
  · rw [if_neg q] at hw
    obtain ⟨cf, kc, ii, f, f1, f2, f3, f4, f5, f6⟩ := F i kk' w hk hw
    refine ⟨cf, kc, ii, f, f1, f2, f3, f4, f5, ?_⟩
    have es : Jvm.RoadKit.slotOf Z kk'.1 kk'.2.1 kk'.2.2.1 = f.slot := by simp [Jvm.RoadKit.slotOf, f1]
    have hne := H.ne hk hj (Ne.symm q)
    rw [es] at hne
    rw [← f6]
    exact Array.getElem?_setIfInBounds_ne (Ne.symm hne)
/-! a walk: from every state that stands at pc with these locals and this stack, the end P is reached -/
def Wk (p : Program) (l : Launch) (e : Env) (R : Room) (m : MethodId) (args : Array Value) (below : List Frame) (meth : Method) (c : Code) (M : State → Heap → Prop) (P : State → Prop) (n0 : Nat) (L : List (Addr × (Cell → Prop))) (k n pc : Nat) (Ls : Array Slot) (st : List Value) : Prop :=
  ∀ s T locs, Stand p l e R s m args below meth c T locs k n → M s T.heap → Fr n0 locs → Own n0 T.heap L → ∃ t, Steps p.tables e below (T.setTop (mkF m pc Ls st)) t ∧ P t
def Cx (Z : State) (own name : String) (bytes : ByteArray) (maxL : Nat) (ret : Option FieldType) (p : Program) (m : MethodId) (meth : Method) (c : Code) (M : State → Heap → Prop) : Prop :=
  p.tables.exec = Jvm.exec ∧ c.code = bytes ∧ c.maxLocals = maxL ∧ meth.sig.returnType = ret ∧ meth.locks = false ∧ meth.name = name ∧ (∀ s h, M s h → Z.Warmed39 s.vm ∧ s.vm.findClass own = some m.cls) ∧ ∀ (s : State) (h h' : Heap), h.size ≤ h'.size → M s h → M s h'
theorem Wk.via {st' : List Value} (W : Wk p l e R m args below meth c M P n0 L k n pc' Ls' st') (hs : ∀ (s T : State) (locs : List Loc), Stand p l e R s m args below meth c T locs k n → M s T.heap → Own n0 T.heap L → ∀ t, Steps p.tables e below (T.setTop (mkF m pc' Ls' st')) t → Steps p.tables e below (T.setTop (mkF m pc Ls st)) t) : Wk p l e R m args below meth c M P n0 L k n pc Ls st := by
  intro s T locs X hM hF hO
  obtain ⟨t, h1, h2⟩ := W s T locs X hM hF hO
  exact ⟨t, hs s T locs X hM hO t h1, h2⟩
theorem Wk.more {k' n' : Nat} (W : Wk p l e R m args below meth c M P n0 L k' n' pc Ls st) (hk : k ≤ k') (hn : n ≤ n') : Wk p l e R m args below meth c M P n0 L k n pc Ls st :=
  fun s T locs X hM hF hO => W s T locs (X.more hk hn) hM hF hO
theorem Wk.recast {L' : List (Addr × (Cell → Prop))} (W : Wk p l e R m args below meth c M P n0 L' k n pc Ls st) (q : ∀ h, Own n0 h L → Own n0 h L') : Wk p l e R m args below meth c M P n0 L k n pc Ls st :=
  fun s T locs X hM hF hO => W s T locs X hM hF (q _ hO)
theorem Wk.know {B : Prop} (q : ∀ h, Own n0 h L → B) (W : B → Wk p l e R m args below meth c M P n0 L k n pc Ls st) : Wk p l e R m args below meth c M P n0 L k n pc Ls st :=
  fun s T locs X hM hF hO => W (q _ hO) s T locs X hM hF hO
theorem Wk.cast {Ls2 : Array Slot} {st2 : List Value} (W : Wk p l e R m args below meth c M P n0 L k n pc Ls2 st2) (q : Ls = Ls2) (r : st = st2) : Wk p l e R m args below meth c M P n0 L k n pc Ls st := by subst q r; exact W
theorem Wk.iload {i : Nat} {v : Int32} (C : Cx Z own name bytes maxL ret p m meth c M) (hd : decode bytes pc = .ok (.iload i, 2)) (hl : Ls[i]? = some (.val (.int v))) (hp : pc' = pc + 2) (W : Wk p l e R m args below meth c M P n0 L k n pc' Ls (.int v :: st)) : Wk p l e R m args below meth c M P n0 L k n pc Ls (st) := by
  subst hp
  exact W.via fun s T locs X hM hO t h1 => XS.iload X.here C.1 rfl (hb C.2.1 hd) hl h1
theorem Wk.iloadN {i : Fin 4} {v : Int32} (C : Cx Z own name bytes maxL ret p m meth c M) (hd : decode bytes pc = .ok (.iload_n i, 1)) (hl : Ls[i.val]? = some (.val (.int v))) (hp : pc' = pc + 1) (W : Wk p l e R m args below meth c M P n0 L k n pc' Ls (.int v :: st)) : Wk p l e R m args below meth c M P n0 L k n pc Ls (st) := by
  subst hp
  exact W.via fun s T locs X hM hO t h1 => XS.iloadN X.here C.1 rfl (hb C.2.1 hd) hl h1
theorem Wk.lload {i : Nat} {v : Int64} (C : Cx Z own name bytes maxL ret p m meth c M) (hd : decode bytes pc = .ok (.lload i, 2)) (hl : Ls[i]? = some (.val (.long v))) (hp : pc' = pc + 2) (W : Wk p l e R m args below meth c M P n0 L k n pc' Ls (.long v :: st)) : Wk p l e R m args below meth c M P n0 L k n pc Ls (st) := by
  subst hp
  exact W.via fun s T locs X hM hO t h1 => XS.lload X.here C.1 rfl (hb C.2.1 hd) hl h1
theorem Wk.lloadN {i : Fin 4} {v : Int64} (C : Cx Z own name bytes maxL ret p m meth c M) (hd : decode bytes pc = .ok (.lload_n i, 1)) (hl : Ls[i.val]? = some (.val (.long v))) (hp : pc' = pc + 1) (W : Wk p l e R m args below meth c M P n0 L k n pc' Ls (.long v :: st)) : Wk p l e R m args below meth c M P n0 L k n pc Ls (st) := by
  subst hp
  exact W.via fun s T locs X hM hO t h1 => XS.lloadN X.here C.1 rfl (hb C.2.1 hd) hl h1
theorem Wk.aload {i : Nat} {v : Value} (C : Cx Z own name bytes maxL ret p m meth c M) (hd : decode bytes pc = .ok (.aload i, 2)) (hl : Ls[i]? = some (.val v)) (hr : v.isRef = true) (hp : pc' = pc + 2) (W : Wk p l e R m args below meth c M P n0 L k n pc' Ls (v :: st)) : Wk p l e R m args below meth c M P n0 L k n pc Ls (st) := by
  subst hp
  exact W.via fun s T locs X hM hO t h1 => XS.aload X.here C.1 rfl (hb C.2.1 hd) hl hr h1
theorem Wk.aloadN {i : Fin 4} {v : Value} (C : Cx Z own name bytes maxL ret p m meth c M) (hd : decode bytes pc = .ok (.aload_n i, 1)) (hl : Ls[i.val]? = some (.val v)) (hr : v.isRef = true) (hp : pc' = pc + 1) (W : Wk p l e R m args below meth c M P n0 L k n pc' Ls (v :: st)) : Wk p l e R m args below meth c M P n0 L k n pc Ls (st) := by
  subst hp
  exact W.via fun s T locs X hM hO t h1 => XS.aloadN X.here C.1 rfl (hb C.2.1 hd) hl hr h1
theorem Wk.istore {i : Nat} {x : Int32} (C : Cx Z own name bytes maxL ret p m meth c M) (hd : decode bytes pc = .ok (.istore i, 2)) (hl : storeLocals Ls i (.int x) = some Ls') (hp : pc' = pc + 2) (W : Wk p l e R m args below meth c M P n0 L k n pc' Ls' (st)) : Wk p l e R m args below meth c M P n0 L k n pc Ls (.int x :: st) := by
  subst hp
  exact W.via fun s T locs X hM hO t h1 => XS.istore X.here C.1 rfl (hb C.2.1 hd) rfl hl h1
theorem Wk.istoreV {i : Nat} {x : Int32} (F : Int32 → Array Slot) (C : Cx Z own name bytes maxL ret p m meth c M) (hd : decode bytes pc = .ok (.istore i, 2)) (hl : storeLocals Ls i (.int x) = some (F x)) (hp : pc' = pc + 2) (W : ∀ v : Int32, v = x → Wk p l e R m args below meth c M P n0 L k n pc' (F v) (st)) : Wk p l e R m args below meth c M P n0 L k n pc Ls (.int x :: st) := Wk.istore C hd hl hp (W x rfl)
theorem Wk.istoreN {i : Fin 4} {x : Int32} (C : Cx Z own name bytes maxL ret p m meth c M) (hd : decode bytes pc = .ok (.istore_n i, 1)) (hl : storeLocals Ls i.val (.int x) = some Ls') (hp : pc' = pc + 1) (W : Wk p l e R m args below meth c M P n0 L k n pc' Ls' (st)) : Wk p l e R m args below meth c M P n0 L k n pc Ls (.int x :: st) := by
  subst hp
  exact W.via fun s T locs X hM hO t h1 => XS.istoreN X.here C.1 rfl (hb C.2.1 hd) rfl hl h1
theorem Wk.istoreNV {i : Fin 4} {x : Int32} (F : Int32 → Array Slot) (C : Cx Z own name bytes maxL ret p m meth c M) (hd : decode bytes pc = .ok (.istore_n i, 1)) (hl : storeLocals Ls i.val (.int x) = some (F x)) (hp : pc' = pc + 1) (W : ∀ v : Int32, v = x → Wk p l e R m args below meth c M P n0 L k n pc' (F v) (st)) : Wk p l e R m args below meth c M P n0 L k n pc Ls (.int x :: st) := Wk.istoreN C hd hl hp (W x rfl)
theorem Wk.lstore {i : Nat} {x : Int64} (C : Cx Z own name bytes maxL ret p m meth c M) (hd : decode bytes pc = .ok (.lstore i, 2)) (hl : storeLocals Ls i (.long x) = some Ls') (hp : pc' = pc + 2) (W : Wk p l e R m args below meth c M P n0 L k n pc' Ls' (st)) : Wk p l e R m args below meth c M P n0 L k n pc Ls (.long x :: st) := by
  subst hp
  exact W.via fun s T locs X hM hO t h1 => XS.lstore X.here C.1 rfl (hb C.2.1 hd) rfl hl h1
theorem Wk.lstoreV {i : Nat} {x : Int64} (F : Int64 → Array Slot) (C : Cx Z own name bytes maxL ret p m meth c M) (hd : decode bytes pc = .ok (.lstore i, 2)) (hl : storeLocals Ls i (.long x) = some (F x)) (hp : pc' = pc + 2) (W : ∀ v : Int64, v = x → Wk p l e R m args below meth c M P n0 L k n pc' (F v) (st)) : Wk p l e R m args below meth c M P n0 L k n pc Ls (.long x :: st) := Wk.lstore C hd hl hp (W x rfl)
theorem Wk.lstoreN {i : Fin 4} {x : Int64} (C : Cx Z own name bytes maxL ret p m meth c M) (hd : decode bytes pc = .ok (.lstore_n i, 1)) (hl : storeLocals Ls i.val (.long x) = some Ls') (hp : pc' = pc + 1) (W : Wk p l e R m args below meth c M P n0 L k n pc' Ls' (st)) : Wk p l e R m args below meth c M P n0 L k n pc Ls (.long x :: st) := by
  subst hp
  exact W.via fun s T locs X hM hO t h1 => XS.lstoreN X.here C.1 rfl (hb C.2.1 hd) rfl hl h1
theorem Wk.lstoreNV {i : Fin 4} {x : Int64} (F : Int64 → Array Slot) (C : Cx Z own name bytes maxL ret p m meth c M) (hd : decode bytes pc = .ok (.lstore_n i, 1)) (hl : storeLocals Ls i.val (.long x) = some (F x)) (hp : pc' = pc + 1) (W : ∀ v : Int64, v = x → Wk p l e R m args below meth c M P n0 L k n pc' (F v) (st)) : Wk p l e R m args below meth c M P n0 L k n pc Ls (.long x :: st) := Wk.lstoreN C hd hl hp (W x rfl)
theorem Wk.astore {i : Nat} {x : Value} (C : Cx Z own name bytes maxL ret p m meth c M) (hd : decode bytes pc = .ok (.astore i, 2)) (hr : x.isRef = true) (hl : storeLocals Ls i x = some Ls') (hp : pc' = pc + 2) (W : Wk p l e R m args below meth c M P n0 L k n pc' Ls' (st)) : Wk p l e R m args below meth c M P n0 L k n pc Ls (x :: st) := by
  subst hp
  exact W.via fun s T locs X hM hO t h1 => XS.astore X.here C.1 rfl (hb C.2.1 hd) rfl hr hl h1
theorem Wk.astoreN {i : Fin 4} {x : Value} (C : Cx Z own name bytes maxL ret p m meth c M) (hd : decode bytes pc = .ok (.astore_n i, 1)) (hr : x.isRef = true) (hl : storeLocals Ls i.val x = some Ls') (hp : pc' = pc + 1) (W : Wk p l e R m args below meth c M P n0 L k n pc' Ls' (st)) : Wk p l e R m args below meth c M P n0 L k n pc Ls (x :: st) := by
  subst hp
  exact W.via fun s T locs X hM hO t h1 => XS.astoreN X.here C.1 rfl (hb C.2.1 hd) rfl hr hl h1
theorem Wk.iinc {i : Nat} {cst : Int} {x z : Int32} (C : Cx Z own name bytes maxL ret p m meth c M) (hd : decode bytes pc = .ok (.iinc i cst, 3)) (hl : Ls[i]? = some (.val (.int x))) (hz : x + Int32.ofInt cst = z) (hl' : storeLocals Ls i (.int z) = some Ls') (hp : pc' = pc + 3) (W : Wk p l e R m args below meth c M P n0 L k n pc' Ls' (st)) : Wk p l e R m args below meth c M P n0 L k n pc Ls (st) := by
  subst hp
  exact W.via fun s T locs X hM hO t h1 => XS.iinc X.here C.1 rfl (hb C.2.1 hd) hl (by rw [hz]; exact hl') h1
theorem Wk.iconst {i : Int} {z : Int32} (C : Cx Z own name bytes maxL ret p m meth c M) (hd : decode bytes pc = .ok (.iconst i, 1)) (hz : Int32.ofInt i = z) (hp : pc' = pc + 1) (W : Wk p l e R m args below meth c M P n0 L k n pc' Ls (.int z :: st)) : Wk p l e R m args below meth c M P n0 L k n pc Ls (st) := by
  subst hp
  subst hz
  exact W.via fun s T locs X hM hO t h1 => XS.iconst X.here C.1 rfl (hb C.2.1 hd) h1
theorem Wk.bipush {i : Int} {z : Int32} (C : Cx Z own name bytes maxL ret p m meth c M) (hd : decode bytes pc = .ok (.bipush i, 2)) (hz : (Int8.ofInt i).toInt32 = z) (hp : pc' = pc + 2) (W : Wk p l e R m args below meth c M P n0 L k n pc' Ls (.int z :: st)) : Wk p l e R m args below meth c M P n0 L k n pc Ls (st) := by
  subst hp
  subst hz
  exact W.via fun s T locs X hM hO t h1 => XS.bipush X.here C.1 rfl (hb C.2.1 hd) h1
theorem Wk.sipush {i : Int} {z : Int32} (C : Cx Z own name bytes maxL ret p m meth c M) (hd : decode bytes pc = .ok (.sipush i, 3)) (hz : (Int16.ofInt i).toInt32 = z) (hp : pc' = pc + 3) (W : Wk p l e R m args below meth c M P n0 L k n pc' Ls (.int z :: st)) : Wk p l e R m args below meth c M P n0 L k n pc Ls (st) := by
  subst hp
  subst hz
  exact W.via fun s T locs X hM hO t h1 => XS.sipush X.here C.1 rfl (hb C.2.1 hd) h1
theorem Wk.lconst {i : Fin 2} {z : Int64} (C : Cx Z own name bytes maxL ret p m meth c M) (hd : decode bytes pc = .ok (.lconst i, 1)) (hz : Int64.ofNat i = z) (hp : pc' = pc + 1) (W : Wk p l e R m args below meth c M P n0 L k n pc' Ls (.long z :: st)) : Wk p l e R m args below meth c M P n0 L k n pc Ls (st) := by
  subst hp
  subst hz
  exact W.via fun s T locs X hM hO t h1 => XS.lconst X.here C.1 rfl (hb C.2.1 hd) h1
theorem Wk.aconstNull (C : Cx Z own name bytes maxL ret p m meth c M) (hd : decode bytes pc = .ok (.aconst_null, 1)) (hp : pc' = pc + 1) (W : Wk p l e R m args below meth c M P n0 L k n pc' Ls (.null :: st)) : Wk p l e R m args below meth c M P n0 L k n pc Ls (st) := by
  subst hp
  exact W.via fun s T locs X hM hO t h1 => XS.aconstNull X.here C.1 rfl (hb C.2.1 hd) h1
theorem Wk.ldcInt {i : Nat} {z : Int32} (C : Cx Z own name bytes maxL ret p m meth c M) (w : (Cond.constant own i z).before a0 Z = true) (hd : decode bytes pc = .ok (.ldc i, 2)) (hp : pc' = pc + 2) (W : Wk p l e R m args below meth c M P n0 L k n pc' Ls (.int z :: st)) : Wk p l e R m args below meth c M P n0 L k n pc Ls (st) := by
  subst hp
  exact W.via fun s T locs X hM hO t h1 => X.ldcInt C.1 (C.2.2.2.2.2.2.1 _ _ hM).2 (mvT (C.2.2.2.2.2.2.1 _ _ hM).1 w) (g := mkF m pc Ls st) rfl (hb C.2.1 hd) t h1
theorem Wk.ldcwInt {i : Nat} {z : Int32} (C : Cx Z own name bytes maxL ret p m meth c M) (w : (Cond.constant own i z).before a0 Z = true) (hd : decode bytes pc = .ok (.ldc_w i, 3)) (hp : pc' = pc + 3) (W : Wk p l e R m args below meth c M P n0 L k n pc' Ls (.int z :: st)) : Wk p l e R m args below meth c M P n0 L k n pc Ls (st) := by
  subst hp
  exact W.via fun s T locs X hM hO t h1 => X.ldcwInt C.1 (C.2.2.2.2.2.2.1 _ _ hM).2 (mvT (C.2.2.2.2.2.2.1 _ _ hM).1 w) (g := mkF m pc Ls st) rfl (hb C.2.1 hd) t h1
theorem Wk.ldc2Long {i : Nat} {z : Int64} (C : Cx Z own name bytes maxL ret p m meth c M) (w : (Cond.constantLong own i z).before a0 Z = true) (hd : decode bytes pc = .ok (.ldc2_w i, 3)) (hp : pc' = pc + 3) (W : Wk p l e R m args below meth c M P n0 L k n pc' Ls (.long z :: st)) : Wk p l e R m args below meth c M P n0 L k n pc Ls (st) := by
  subst hp
  exact W.via fun s T locs X hM hO t h1 => X.ldc2Long C.1 (C.2.2.2.2.2.2.1 _ _ hM).2 (mvT (C.2.2.2.2.2.2.1 _ _ hM).1 w) (g := mkF m pc Ls st) rfl (hb C.2.1 hd) t h1
theorem Wk.iadd {x y : Int32} (C : Cx Z own name bytes maxL ret p m meth c M) (hd : decode bytes pc = .ok (.iadd, 1)) (hp : pc' = pc + 1) (W : Wk p l e R m args below meth c M P n0 L k n pc' Ls (.int (x + y) :: st)) : Wk p l e R m args below meth c M P n0 L k n pc Ls (.int y :: .int x :: st) := by
  subst hp
  exact W.via fun s T locs X hM hO t h1 => XS.iadd X.here C.1 rfl (hb C.2.1 hd) rfl h1
theorem Wk.isub {x y : Int32} (C : Cx Z own name bytes maxL ret p m meth c M) (hd : decode bytes pc = .ok (.isub, 1)) (hp : pc' = pc + 1) (W : Wk p l e R m args below meth c M P n0 L k n pc' Ls (.int (x - y) :: st)) : Wk p l e R m args below meth c M P n0 L k n pc Ls (.int y :: .int x :: st) := by
  subst hp
  exact W.via fun s T locs X hM hO t h1 => XS.isub X.here C.1 rfl (hb C.2.1 hd) rfl h1
theorem Wk.imul {x y : Int32} (C : Cx Z own name bytes maxL ret p m meth c M) (hd : decode bytes pc = .ok (.imul, 1)) (hp : pc' = pc + 1) (W : Wk p l e R m args below meth c M P n0 L k n pc' Ls (.int (x * y) :: st)) : Wk p l e R m args below meth c M P n0 L k n pc Ls (.int y :: .int x :: st) := by
  subst hp
  exact W.via fun s T locs X hM hO t h1 => XS.imul X.here C.1 rfl (hb C.2.1 hd) rfl h1
theorem Wk.iand {x y : Int32} (C : Cx Z own name bytes maxL ret p m meth c M) (hd : decode bytes pc = .ok (.iand, 1)) (hp : pc' = pc + 1) (W : Wk p l e R m args below meth c M P n0 L k n pc' Ls (.int (x &&& y) :: st)) : Wk p l e R m args below meth c M P n0 L k n pc Ls (.int y :: .int x :: st) := by
  subst hp
  exact W.via fun s T locs X hM hO t h1 => XS.iand X.here C.1 rfl (hb C.2.1 hd) rfl h1
theorem Wk.ior {x y : Int32} (C : Cx Z own name bytes maxL ret p m meth c M) (hd : decode bytes pc = .ok (.ior, 1)) (hp : pc' = pc + 1) (W : Wk p l e R m args below meth c M P n0 L k n pc' Ls (.int (x ||| y) :: st)) : Wk p l e R m args below meth c M P n0 L k n pc Ls (.int y :: .int x :: st) := by
  subst hp
  exact W.via fun s T locs X hM hO t h1 => XS.ior X.here C.1 rfl (hb C.2.1 hd) rfl h1
theorem Wk.ixor {x y : Int32} (C : Cx Z own name bytes maxL ret p m meth c M) (hd : decode bytes pc = .ok (.ixor, 1)) (hp : pc' = pc + 1) (W : Wk p l e R m args below meth c M P n0 L k n pc' Ls (.int (x ^^^ y) :: st)) : Wk p l e R m args below meth c M P n0 L k n pc Ls (.int y :: .int x :: st) := by
  subst hp
  exact W.via fun s T locs X hM hO t h1 => XS.ixor X.here C.1 rfl (hb C.2.1 hd) rfl h1
theorem Wk.ishl {x y : Int32} (C : Cx Z own name bytes maxL ret p m meth c M) (hd : decode bytes pc = .ok (.ishl, 1)) (hp : pc' = pc + 1) (W : Wk p l e R m args below meth c M P n0 L k n pc' Ls (.int (x <<< (y &&& 31)) :: st)) : Wk p l e R m args below meth c M P n0 L k n pc Ls (.int y :: .int x :: st) := by
  subst hp
  exact W.via fun s T locs X hM hO t h1 => XS.ishl X.here C.1 rfl (hb C.2.1 hd) rfl h1
theorem Wk.ishr {x y : Int32} (C : Cx Z own name bytes maxL ret p m meth c M) (hd : decode bytes pc = .ok (.ishr, 1)) (hp : pc' = pc + 1) (W : Wk p l e R m args below meth c M P n0 L k n pc' Ls (.int (x >>> (y &&& 31)) :: st)) : Wk p l e R m args below meth c M P n0 L k n pc Ls (.int y :: .int x :: st) := by
  subst hp
  exact W.via fun s T locs X hM hO t h1 => XS.ishr X.here C.1 rfl (hb C.2.1 hd) rfl h1
theorem Wk.iushr {x y : Int32} (C : Cx Z own name bytes maxL ret p m meth c M) (hd : decode bytes pc = .ok (.iushr, 1)) (hp : pc' = pc + 1) (W : Wk p l e R m args below meth c M P n0 L k n pc' Ls (.int ((x.toUInt32 >>> (y &&& 31).toUInt32).toInt32) :: st)) : Wk p l e R m args below meth c M P n0 L k n pc Ls (.int y :: .int x :: st) := by
  subst hp
  exact W.via fun s T locs X hM hO t h1 => XS.iushr X.here C.1 rfl (hb C.2.1 hd) rfl h1
theorem Wk.irem {x y : Int32} (C : Cx Z own name bytes maxL ret p m meth c M) (hd : decode bytes pc = .ok (.irem, 1)) (hy : y ≠ 0) (hp : pc' = pc + 1) (W : Wk p l e R m args below meth c M P n0 L k n pc' Ls (.int (x % y) :: st)) : Wk p l e R m args below meth c M P n0 L k n pc Ls (.int y :: .int x :: st) := by
  subst hp
  exact W.via fun s T locs X hM hO t h1 => iremM X C.1 rfl (hb C.2.1 hd) rfl hy h1
theorem Wk.idiv {x y : Int32} (C : Cx Z own name bytes maxL ret p m meth c M) (hd : decode bytes pc = .ok (.idiv, 1)) (hy : y ≠ 0) (hp : pc' = pc + 1) (W : Wk p l e R m args below meth c M P n0 L k n pc' Ls (.int (x / y) :: st)) : Wk p l e R m args below meth c M P n0 L k n pc Ls (.int y :: .int x :: st) := by
  subst hp
  exact W.via fun s T locs X hM hO t h1 => XS.idiv X.here C.1 rfl (hb C.2.1 hd) rfl hy h1
theorem Wk.ladd {x y : Int64} (C : Cx Z own name bytes maxL ret p m meth c M) (hd : decode bytes pc = .ok (.ladd, 1)) (hp : pc' = pc + 1) (W : Wk p l e R m args below meth c M P n0 L k n pc' Ls (.long (x + y) :: st)) : Wk p l e R m args below meth c M P n0 L k n pc Ls (.long y :: .long x :: st) := by
  subst hp
  exact W.via fun s T locs X hM hO t h1 => XS.ladd X.here C.1 rfl (hb C.2.1 hd) rfl h1
theorem Wk.lsub {x y : Int64} (C : Cx Z own name bytes maxL ret p m meth c M) (hd : decode bytes pc = .ok (.lsub, 1)) (hp : pc' = pc + 1) (W : Wk p l e R m args below meth c M P n0 L k n pc' Ls (.long (x - y) :: st)) : Wk p l e R m args below meth c M P n0 L k n pc Ls (.long y :: .long x :: st) := by
  subst hp
  exact W.via fun s T locs X hM hO t h1 => XS.lsub X.here C.1 rfl (hb C.2.1 hd) rfl h1
theorem Wk.lmul {x y : Int64} (C : Cx Z own name bytes maxL ret p m meth c M) (hd : decode bytes pc = .ok (.lmul, 1)) (hp : pc' = pc + 1) (W : Wk p l e R m args below meth c M P n0 L k n pc' Ls (.long (x * y) :: st)) : Wk p l e R m args below meth c M P n0 L k n pc Ls (.long y :: .long x :: st) := by
  subst hp
  exact W.via fun s T locs X hM hO t h1 => XS.lmul X.here C.1 rfl (hb C.2.1 hd) rfl h1
theorem Wk.land {x y : Int64} (C : Cx Z own name bytes maxL ret p m meth c M) (hd : decode bytes pc = .ok (.land, 1)) (hp : pc' = pc + 1) (W : Wk p l e R m args below meth c M P n0 L k n pc' Ls (.long (x &&& y) :: st)) : Wk p l e R m args below meth c M P n0 L k n pc Ls (.long y :: .long x :: st) := by
  subst hp
  exact W.via fun s T locs X hM hO t h1 => XS.land X.here C.1 rfl (hb C.2.1 hd) rfl h1
theorem Wk.lor {x y : Int64} (C : Cx Z own name bytes maxL ret p m meth c M) (hd : decode bytes pc = .ok (.lor, 1)) (hp : pc' = pc + 1) (W : Wk p l e R m args below meth c M P n0 L k n pc' Ls (.long (x ||| y) :: st)) : Wk p l e R m args below meth c M P n0 L k n pc Ls (.long y :: .long x :: st) := by
  subst hp
  exact W.via fun s T locs X hM hO t h1 => XS.lor X.here C.1 rfl (hb C.2.1 hd) rfl h1
theorem Wk.lxor {x y : Int64} (C : Cx Z own name bytes maxL ret p m meth c M) (hd : decode bytes pc = .ok (.lxor, 1)) (hp : pc' = pc + 1) (W : Wk p l e R m args below meth c M P n0 L k n pc' Ls (.long (x ^^^ y) :: st)) : Wk p l e R m args below meth c M P n0 L k n pc Ls (.long y :: .long x :: st) := by
  subst hp
  exact W.via fun s T locs X hM hO t h1 => XS.lxor X.here C.1 rfl (hb C.2.1 hd) rfl h1
theorem Wk.lshl {x : Int64} {y : Int32} (C : Cx Z own name bytes maxL ret p m meth c M) (hd : decode bytes pc = .ok (.lshl, 1)) (hp : pc' = pc + 1) (W : Wk p l e R m args below meth c M P n0 L k n pc' Ls (.long (x <<< (y &&& 0x3f).toInt64) :: st)) : Wk p l e R m args below meth c M P n0 L k n pc Ls (.int y :: .long x :: st) := by
  subst hp
  exact W.via fun s T locs X hM hO t h1 => XS.lshl X.here C.1 rfl (hb C.2.1 hd) rfl h1
theorem Wk.lshr {x : Int64} {y : Int32} (C : Cx Z own name bytes maxL ret p m meth c M) (hd : decode bytes pc = .ok (.lshr, 1)) (hp : pc' = pc + 1) (W : Wk p l e R m args below meth c M P n0 L k n pc' Ls (.long (x >>> (y &&& 0x3f).toInt64) :: st)) : Wk p l e R m args below meth c M P n0 L k n pc Ls (.int y :: .long x :: st) := by
  subst hp
  exact W.via fun s T locs X hM hO t h1 => XS.lshr X.here C.1 rfl (hb C.2.1 hd) rfl h1
theorem Wk.lushr {x : Int64} {y : Int32} (C : Cx Z own name bytes maxL ret p m meth c M) (hd : decode bytes pc = .ok (.lushr, 1)) (hp : pc' = pc + 1) (W : Wk p l e R m args below meth c M P n0 L k n pc' Ls (.long ((x.toUInt64 >>> (y &&& 0x3f).toInt64.toUInt64).toInt64) :: st)) : Wk p l e R m args below meth c M P n0 L k n pc Ls (.int y :: .long x :: st) := by
  subst hp
  exact W.via fun s T locs X hM hO t h1 => XS.lushr X.here C.1 rfl (hb C.2.1 hd) rfl h1
theorem Wk.lrem {x y : Int64} (C : Cx Z own name bytes maxL ret p m meth c M) (hd : decode bytes pc = .ok (.lrem, 1)) (hy : y ≠ 0) (hp : pc' = pc + 1) (W : Wk p l e R m args below meth c M P n0 L k n pc' Ls (.long (x % y) :: st)) : Wk p l e R m args below meth c M P n0 L k n pc Ls (.long y :: .long x :: st) := by
  subst hp
  exact W.via fun s T locs X hM hO t h1 => XS.lrem X.here C.1 rfl (hb C.2.1 hd) rfl hy (by rw [lrem_mod]; exact h1)
theorem Wk.i2b {x : Int32} (C : Cx Z own name bytes maxL ret p m meth c M) (hd : decode bytes pc = .ok (.i2b, 1)) (hp : pc' = pc + 1) (W : Wk p l e R m args below meth c M P n0 L k n pc' Ls (.int (x.toInt8.toInt32) :: st)) : Wk p l e R m args below meth c M P n0 L k n pc Ls (.int x :: st) := by
  subst hp
  exact W.via fun s T locs X hM hO t h1 => XS.i2b X.here C.1 rfl (hb C.2.1 hd) rfl h1
theorem Wk.i2c {x : Int32} (C : Cx Z own name bytes maxL ret p m meth c M) (hd : decode bytes pc = .ok (.i2c, 1)) (hp : pc' = pc + 1) (W : Wk p l e R m args below meth c M P n0 L k n pc' Ls (.int (x.toUInt32.toUInt16.toUInt32.toInt32) :: st)) : Wk p l e R m args below meth c M P n0 L k n pc Ls (.int x :: st) := by
  subst hp
  exact W.via fun s T locs X hM hO t h1 => XS.i2c X.here C.1 rfl (hb C.2.1 hd) rfl h1
theorem Wk.i2s {x : Int32} (C : Cx Z own name bytes maxL ret p m meth c M) (hd : decode bytes pc = .ok (.i2s, 1)) (hp : pc' = pc + 1) (W : Wk p l e R m args below meth c M P n0 L k n pc' Ls (.int (x.toInt16.toInt32) :: st)) : Wk p l e R m args below meth c M P n0 L k n pc Ls (.int x :: st) := by
  subst hp
  exact W.via fun s T locs X hM hO t h1 => XS.i2s X.here C.1 rfl (hb C.2.1 hd) rfl h1
theorem Wk.i2l {x : Int32} (C : Cx Z own name bytes maxL ret p m meth c M) (hd : decode bytes pc = .ok (.i2l, 1)) (hp : pc' = pc + 1) (W : Wk p l e R m args below meth c M P n0 L k n pc' Ls (.long (x.toInt64) :: st)) : Wk p l e R m args below meth c M P n0 L k n pc Ls (.int x :: st) := by
  subst hp
  exact W.via fun s T locs X hM hO t h1 => XS.i2l X.here C.1 rfl (hb C.2.1 hd) rfl h1
theorem Wk.l2i {x : Int64} (C : Cx Z own name bytes maxL ret p m meth c M) (hd : decode bytes pc = .ok (.l2i, 1)) (hp : pc' = pc + 1) (W : Wk p l e R m args below meth c M P n0 L k n pc' Ls (.int (x.toInt32) :: st)) : Wk p l e R m args below meth c M P n0 L k n pc Ls (.long x :: st) := by
  subst hp
  exact W.via fun s T locs X hM hO t h1 => XS.l2i X.here C.1 rfl (hb C.2.1 hd) rfl h1
theorem Wk.lneg {x : Int64} (C : Cx Z own name bytes maxL ret p m meth c M) (hd : decode bytes pc = .ok (.lneg, 1)) (hp : pc' = pc + 1) (W : Wk p l e R m args below meth c M P n0 L k n pc' Ls (.long (-x) :: st)) : Wk p l e R m args below meth c M P n0 L k n pc Ls (.long x :: st) := by
  subst hp
  exact W.via fun s T locs X hM hO t h1 => XS.lneg X.here C.1 rfl (hb C.2.1 hd) rfl h1
theorem Wk.ineg {x : Int32} (C : Cx Z own name bytes maxL ret p m meth c M) (hd : decode bytes pc = .ok (.ineg, 1)) (hp : pc' = pc + 1) (W : Wk p l e R m args below meth c M P n0 L k n pc' Ls (.int (-x) :: st)) : Wk p l e R m args below meth c M P n0 L k n pc Ls (.int x :: st) := by
  subst hp
  exact W.via fun s T locs X hM hO t h1 => XS.ineg X.here C.1 rfl (hb C.2.1 hd) rfl h1
theorem Wk.dup {x : Value} (C : Cx Z own name bytes maxL ret p m meth c M) (hd : decode bytes pc = .ok (.dup, 1)) (hc : x.category = 1) (hp : pc' = pc + 1) (W : Wk p l e R m args below meth c M P n0 L k n pc' Ls (x :: x :: st)) : Wk p l e R m args below meth c M P n0 L k n pc Ls (x :: st) := by
  subst hp
  exact W.via fun s T locs X hM hO t h1 => XS.dup X.here C.1 rfl (hb C.2.1 hd) rfl hc h1
theorem Wk.pop {x : Value} (C : Cx Z own name bytes maxL ret p m meth c M) (hd : decode bytes pc = .ok (.pop, 1)) (hc : x.category = 1) (hp : pc' = pc + 1) (W : Wk p l e R m args below meth c M P n0 L k n pc' Ls (st)) : Wk p l e R m args below meth c M P n0 L k n pc Ls (x :: st) := by
  subst hp
  exact W.via fun s T locs X hM hO t h1 => XS.pop X.here C.1 rfl (hb C.2.1 hd) rfl hc h1
theorem Wk.dupX1 {x y : Value} (C : Cx Z own name bytes maxL ret p m meth c M) (hd : decode bytes pc = .ok (.dup_x1, 1)) (hc : x.category = 1) (hc' : y.category = 1) (hp : pc' = pc + 1) (W : Wk p l e R m args below meth c M P n0 L k n pc' Ls (x :: y :: x :: st)) : Wk p l e R m args below meth c M P n0 L k n pc Ls (x :: y :: st) := by
  subst hp
  exact W.via fun s T locs X hM hO t h1 => XS.dupX1 X.here C.1 rfl (hb C.2.1 hd) rfl hc hc' h1
theorem Wk.dup2 {x y : Value} (C : Cx Z own name bytes maxL ret p m meth c M) (hd : decode bytes pc = .ok (.dup2, 1)) (hc : x.category = 1) (hc' : y.category = 1) (hp : pc' = pc + 1) (W : Wk p l e R m args below meth c M P n0 L k n pc' Ls (x :: y :: x :: y :: st)) : Wk p l e R m args below meth c M P n0 L k n pc Ls (x :: y :: st) := by
  subst hp
  exact W.via fun s T locs X hM hO t h1 => Jvm.Free.XT.dup2 X.here C.1 rfl (hb C.2.1 hd) rfl hc hc' h1
theorem Wk.goto {o : Int} (C : Cx Z own name bytes maxL ret p m meth c M) (hd : decode bytes pc = .ok (.goto o, 3)) (ho : 0 ≤ (pc : Int) + o) (hp : ((pc : Int) + o).toNat = pc') (W : Wk p l e R m args below meth c M P n0 L k n pc' Ls (st)) : Wk p l e R m args below meth c M P n0 L k n pc Ls (st) :=
  W.via fun s T locs X hM hO t h1 => XS.goto X.here C.1 rfl (pc0 := pc) rfl (hb C.2.1 hd) ho hp h1
theorem Wk.icmp_lt {x y : Int32} {o : Int} {pcT pcF : Nat} (C : Cx Z own name bytes maxL ret p m meth c M) (hd : decode bytes pc = .ok (.if_icmp .lt o, 3)) (ho : 0 ≤ (pc : Int) + o) (hp : ((pc : Int) + o).toNat = pcT) (hp' : pcF = pc + 3) (hT : x < y → Wk p l e R m args below meth c M P n0 L k n pcT Ls (st)) (hF : ¬ x < y → Wk p l e R m args below meth c M P n0 L k n pcF Ls (st)) : Wk p l e R m args below meth c M P n0 L k n pc Ls (.int y :: .int x :: st) := by
  subst hp'
  by_cases h : x < y
  · exact (hT h).via fun s T locs X hM hO t h1 => XS.icmpYes X.here C.1 rfl (pc0 := pc) rfl (hb C.2.1 hd) rfl (tlt h).1 ho hp h1
  · exact (hF h).via fun s T locs X hM hO t h1 => XS.icmpNo X.here C.1 rfl (hb C.2.1 hd) rfl (flt h).1 h1
theorem Wk.if_lt {x : Int32} {o : Int} {pcT pcF : Nat} (C : Cx Z own name bytes maxL ret p m meth c M) (hd : decode bytes pc = .ok (.ifCond .lt o, 3)) (ho : 0 ≤ (pc : Int) + o) (hp : ((pc : Int) + o).toNat = pcT) (hp' : pcF = pc + 3) (hT : x < 0 → Wk p l e R m args below meth c M P n0 L k n pcT Ls (st)) (hF : ¬ x < 0 → Wk p l e R m args below meth c M P n0 L k n pcF Ls (st)) : Wk p l e R m args below meth c M P n0 L k n pc Ls (.int x :: st) := by
  subst hp'
  by_cases h : x < 0
  · exact (hT h).via fun s T locs X hM hO t h1 => XS.ifYes X.here C.1 rfl (pc0 := pc) rfl (hb C.2.1 hd) rfl ((if0 _ _).trans (tlt h).1) ho hp h1
  · exact (hF h).via fun s T locs X hM hO t h1 => XS.ifNo X.here C.1 rfl (hb C.2.1 hd) rfl ((if0 _ _).trans (flt h).1) h1
theorem Wk.lcmp_lt {x y : Int64} {o : Int} {pc1 pcT pcF : Nat} (C : Cx Z own name bytes maxL ret p m meth c M) (hd0 : decode bytes pc = .ok (.lcmp, 1)) (hp1 : pc1 = pc + 1) (hd : decode bytes pc1 = .ok (.ifCond .lt o, 3)) (ho : 0 ≤ (pc1 : Int) + o) (hp : ((pc1 : Int) + o).toNat = pcT) (hp' : pcF = pc1 + 3) (hT : x < y → Wk p l e R m args below meth c M P n0 L k n pcT Ls (st)) (hF : ¬ x < y → Wk p l e R m args below meth c M P n0 L k n pcF Ls (st)) : Wk p l e R m args below meth c M P n0 L k n pc Ls (.long y :: .long x :: st) := by
  subst hp1
  have W1 : Wk p l e R m args below meth c M P n0 L k n (pc + 1) Ls (.int (lcmpW x y) :: st) := Wk.if_lt C hd ho hp hp' (fun h => hT ((lw_lt x y).mp h)) (fun h => hF (fun q => h ((lw_lt x y).mpr q)))
  exact W1.via fun s T locs X hM hO t h1 => XS.lcmp X.here C.1 rfl (hb C.2.1 hd0) rfl h1
theorem Wk.icmp_ge {x y : Int32} {o : Int} {pcT pcF : Nat} (C : Cx Z own name bytes maxL ret p m meth c M) (hd : decode bytes pc = .ok (.if_icmp .ge o, 3)) (ho : 0 ≤ (pc : Int) + o) (hp : ((pc : Int) + o).toNat = pcT) (hp' : pcF = pc + 3) (hT : ¬ x < y → Wk p l e R m args below meth c M P n0 L k n pcT Ls (st)) (hF : x < y → Wk p l e R m args below meth c M P n0 L k n pcF Ls (st)) : Wk p l e R m args below meth c M P n0 L k n pc Ls (.int y :: .int x :: st) := by
  subst hp'
  by_cases h : x < y
  · exact (hF h).via fun s T locs X hM hO t h1 => XS.icmpNo X.here C.1 rfl (hb C.2.1 hd) rfl (tlt h).2.1 h1
  · exact (hT h).via fun s T locs X hM hO t h1 => XS.icmpYes X.here C.1 rfl (pc0 := pc) rfl (hb C.2.1 hd) rfl (flt h).2.1 ho hp h1
theorem Wk.if_ge {x : Int32} {o : Int} {pcT pcF : Nat} (C : Cx Z own name bytes maxL ret p m meth c M) (hd : decode bytes pc = .ok (.ifCond .ge o, 3)) (ho : 0 ≤ (pc : Int) + o) (hp : ((pc : Int) + o).toNat = pcT) (hp' : pcF = pc + 3) (hT : ¬ x < 0 → Wk p l e R m args below meth c M P n0 L k n pcT Ls (st)) (hF : x < 0 → Wk p l e R m args below meth c M P n0 L k n pcF Ls (st)) : Wk p l e R m args below meth c M P n0 L k n pc Ls (.int x :: st) := by
  subst hp'
  by_cases h : x < 0
  · exact (hF h).via fun s T locs X hM hO t h1 => XS.ifNo X.here C.1 rfl (hb C.2.1 hd) rfl ((if0 _ _).trans (tlt h).2.1) h1
  · exact (hT h).via fun s T locs X hM hO t h1 => XS.ifYes X.here C.1 rfl (pc0 := pc) rfl (hb C.2.1 hd) rfl ((if0 _ _).trans (flt h).2.1) ho hp h1
theorem Wk.lcmp_ge {x y : Int64} {o : Int} {pc1 pcT pcF : Nat} (C : Cx Z own name bytes maxL ret p m meth c M) (hd0 : decode bytes pc = .ok (.lcmp, 1)) (hp1 : pc1 = pc + 1) (hd : decode bytes pc1 = .ok (.ifCond .ge o, 3)) (ho : 0 ≤ (pc1 : Int) + o) (hp : ((pc1 : Int) + o).toNat = pcT) (hp' : pcF = pc1 + 3) (hT : ¬ x < y → Wk p l e R m args below meth c M P n0 L k n pcT Ls (st)) (hF : x < y → Wk p l e R m args below meth c M P n0 L k n pcF Ls (st)) : Wk p l e R m args below meth c M P n0 L k n pc Ls (.long y :: .long x :: st) := by
  subst hp1
  have W1 : Wk p l e R m args below meth c M P n0 L k n (pc + 1) Ls (.int (lcmpW x y) :: st) := Wk.if_ge C hd ho hp hp' (fun h => hT (fun q => h ((lw_lt x y).mpr q))) (fun h => hF ((lw_lt x y).mp h))
  exact W1.via fun s T locs X hM hO t h1 => XS.lcmp X.here C.1 rfl (hb C.2.1 hd0) rfl h1
theorem Wk.icmp_gt {x y : Int32} {o : Int} {pcT pcF : Nat} (C : Cx Z own name bytes maxL ret p m meth c M) (hd : decode bytes pc = .ok (.if_icmp .gt o, 3)) (ho : 0 ≤ (pc : Int) + o) (hp : ((pc : Int) + o).toNat = pcT) (hp' : pcF = pc + 3) (hT : y < x → Wk p l e R m args below meth c M P n0 L k n pcT Ls (st)) (hF : ¬ y < x → Wk p l e R m args below meth c M P n0 L k n pcF Ls (st)) : Wk p l e R m args below meth c M P n0 L k n pc Ls (.int y :: .int x :: st) := by
  subst hp'
  by_cases h : y < x
  · exact (hT h).via fun s T locs X hM hO t h1 => XS.icmpYes X.here C.1 rfl (pc0 := pc) rfl (hb C.2.1 hd) rfl (tlt h).2.2.1 ho hp h1
  · exact (hF h).via fun s T locs X hM hO t h1 => XS.icmpNo X.here C.1 rfl (hb C.2.1 hd) rfl (flt h).2.2.1 h1
theorem Wk.if_gt {x : Int32} {o : Int} {pcT pcF : Nat} (C : Cx Z own name bytes maxL ret p m meth c M) (hd : decode bytes pc = .ok (.ifCond .gt o, 3)) (ho : 0 ≤ (pc : Int) + o) (hp : ((pc : Int) + o).toNat = pcT) (hp' : pcF = pc + 3) (hT : 0 < x → Wk p l e R m args below meth c M P n0 L k n pcT Ls (st)) (hF : ¬ 0 < x → Wk p l e R m args below meth c M P n0 L k n pcF Ls (st)) : Wk p l e R m args below meth c M P n0 L k n pc Ls (.int x :: st) := by
  subst hp'
  by_cases h : 0 < x
  · exact (hT h).via fun s T locs X hM hO t h1 => XS.ifYes X.here C.1 rfl (pc0 := pc) rfl (hb C.2.1 hd) rfl ((if0 _ _).trans (tlt h).2.2.1) ho hp h1
  · exact (hF h).via fun s T locs X hM hO t h1 => XS.ifNo X.here C.1 rfl (hb C.2.1 hd) rfl ((if0 _ _).trans (flt h).2.2.1) h1
theorem Wk.lcmp_gt {x y : Int64} {o : Int} {pc1 pcT pcF : Nat} (C : Cx Z own name bytes maxL ret p m meth c M) (hd0 : decode bytes pc = .ok (.lcmp, 1)) (hp1 : pc1 = pc + 1) (hd : decode bytes pc1 = .ok (.ifCond .gt o, 3)) (ho : 0 ≤ (pc1 : Int) + o) (hp : ((pc1 : Int) + o).toNat = pcT) (hp' : pcF = pc1 + 3) (hT : y < x → Wk p l e R m args below meth c M P n0 L k n pcT Ls (st)) (hF : ¬ y < x → Wk p l e R m args below meth c M P n0 L k n pcF Ls (st)) : Wk p l e R m args below meth c M P n0 L k n pc Ls (.long y :: .long x :: st) := by
  subst hp1
  have W1 : Wk p l e R m args below meth c M P n0 L k n (pc + 1) Ls (.int (lcmpW x y) :: st) := Wk.if_gt C hd ho hp hp' (fun h => hT ((lw_gt x y).mp h)) (fun h => hF (fun q => h ((lw_gt x y).mpr q)))
  exact W1.via fun s T locs X hM hO t h1 => XS.lcmp X.here C.1 rfl (hb C.2.1 hd0) rfl h1
theorem Wk.icmp_le {x y : Int32} {o : Int} {pcT pcF : Nat} (C : Cx Z own name bytes maxL ret p m meth c M) (hd : decode bytes pc = .ok (.if_icmp .le o, 3)) (ho : 0 ≤ (pc : Int) + o) (hp : ((pc : Int) + o).toNat = pcT) (hp' : pcF = pc + 3) (hT : ¬ y < x → Wk p l e R m args below meth c M P n0 L k n pcT Ls (st)) (hF : y < x → Wk p l e R m args below meth c M P n0 L k n pcF Ls (st)) : Wk p l e R m args below meth c M P n0 L k n pc Ls (.int y :: .int x :: st) := by
  subst hp'
  by_cases h : y < x
  · exact (hF h).via fun s T locs X hM hO t h1 => XS.icmpNo X.here C.1 rfl (hb C.2.1 hd) rfl (tlt h).2.2.2 h1
  · exact (hT h).via fun s T locs X hM hO t h1 => XS.icmpYes X.here C.1 rfl (pc0 := pc) rfl (hb C.2.1 hd) rfl (flt h).2.2.2 ho hp h1
theorem Wk.if_le {x : Int32} {o : Int} {pcT pcF : Nat} (C : Cx Z own name bytes maxL ret p m meth c M) (hd : decode bytes pc = .ok (.ifCond .le o, 3)) (ho : 0 ≤ (pc : Int) + o) (hp : ((pc : Int) + o).toNat = pcT) (hp' : pcF = pc + 3) (hT : ¬ 0 < x → Wk p l e R m args below meth c M P n0 L k n pcT Ls (st)) (hF : 0 < x → Wk p l e R m args below meth c M P n0 L k n pcF Ls (st)) : Wk p l e R m args below meth c M P n0 L k n pc Ls (.int x :: st) := by
  subst hp'
  by_cases h : 0 < x
  · exact (hF h).via fun s T locs X hM hO t h1 => XS.ifNo X.here C.1 rfl (hb C.2.1 hd) rfl ((if0 _ _).trans (tlt h).2.2.2) h1
  · exact (hT h).via fun s T locs X hM hO t h1 => XS.ifYes X.here C.1 rfl (pc0 := pc) rfl (hb C.2.1 hd) rfl ((if0 _ _).trans (flt h).2.2.2) ho hp h1
theorem Wk.lcmp_le {x y : Int64} {o : Int} {pc1 pcT pcF : Nat} (C : Cx Z own name bytes maxL ret p m meth c M) (hd0 : decode bytes pc = .ok (.lcmp, 1)) (hp1 : pc1 = pc + 1) (hd : decode bytes pc1 = .ok (.ifCond .le o, 3)) (ho : 0 ≤ (pc1 : Int) + o) (hp : ((pc1 : Int) + o).toNat = pcT) (hp' : pcF = pc1 + 3) (hT : ¬ y < x → Wk p l e R m args below meth c M P n0 L k n pcT Ls (st)) (hF : y < x → Wk p l e R m args below meth c M P n0 L k n pcF Ls (st)) : Wk p l e R m args below meth c M P n0 L k n pc Ls (.long y :: .long x :: st) := by
  subst hp1
  have W1 : Wk p l e R m args below meth c M P n0 L k n (pc + 1) Ls (.int (lcmpW x y) :: st) := Wk.if_le C hd ho hp hp' (fun h => hT (fun q => h ((lw_gt x y).mpr q))) (fun h => hF ((lw_gt x y).mp h))
  exact W1.via fun s T locs X hM hO t h1 => XS.lcmp X.here C.1 rfl (hb C.2.1 hd0) rfl h1
theorem Wk.icmp_eq {x y : Int32} {o : Int} {pcT pcF : Nat} (C : Cx Z own name bytes maxL ret p m meth c M) (hd : decode bytes pc = .ok (.if_icmp .eq o, 3)) (ho : 0 ≤ (pc : Int) + o) (hp : ((pc : Int) + o).toNat = pcT) (hp' : pcF = pc + 3) (hT : x = y → Wk p l e R m args below meth c M P n0 L k n pcT Ls (st)) (hF : ¬ x = y → Wk p l e R m args below meth c M P n0 L k n pcF Ls (st)) : Wk p l e R m args below meth c M P n0 L k n pc Ls (.int y :: .int x :: st) := by
  subst hp'
  by_cases h : x = y
  · exact (hT h).via fun s T locs X hM hO t h1 => XS.icmpYes X.here C.1 rfl (pc0 := pc) rfl (hb C.2.1 hd) rfl (teq h).1 ho hp h1
  · exact (hF h).via fun s T locs X hM hO t h1 => XS.icmpNo X.here C.1 rfl (hb C.2.1 hd) rfl (feq h).1 h1
theorem Wk.if_eq {x : Int32} {o : Int} {pcT pcF : Nat} (C : Cx Z own name bytes maxL ret p m meth c M) (hd : decode bytes pc = .ok (.ifCond .eq o, 3)) (ho : 0 ≤ (pc : Int) + o) (hp : ((pc : Int) + o).toNat = pcT) (hp' : pcF = pc + 3) (hT : x = 0 → Wk p l e R m args below meth c M P n0 L k n pcT Ls (st)) (hF : ¬ x = 0 → Wk p l e R m args below meth c M P n0 L k n pcF Ls (st)) : Wk p l e R m args below meth c M P n0 L k n pc Ls (.int x :: st) := by
  subst hp'
  by_cases h : x = 0
  · exact (hT h).via fun s T locs X hM hO t h1 => XS.ifYes X.here C.1 rfl (pc0 := pc) rfl (hb C.2.1 hd) rfl ((if0 _ _).trans (teq h).1) ho hp h1
  · exact (hF h).via fun s T locs X hM hO t h1 => XS.ifNo X.here C.1 rfl (hb C.2.1 hd) rfl ((if0 _ _).trans (feq h).1) h1
theorem Wk.lcmp_eq {x y : Int64} {o : Int} {pc1 pcT pcF : Nat} (C : Cx Z own name bytes maxL ret p m meth c M) (hd0 : decode bytes pc = .ok (.lcmp, 1)) (hp1 : pc1 = pc + 1) (hd : decode bytes pc1 = .ok (.ifCond .eq o, 3)) (ho : 0 ≤ (pc1 : Int) + o) (hp : ((pc1 : Int) + o).toNat = pcT) (hp' : pcF = pc1 + 3) (hT : x = y → Wk p l e R m args below meth c M P n0 L k n pcT Ls (st)) (hF : ¬ x = y → Wk p l e R m args below meth c M P n0 L k n pcF Ls (st)) : Wk p l e R m args below meth c M P n0 L k n pc Ls (.long y :: .long x :: st) := by
  subst hp1
  have W1 : Wk p l e R m args below meth c M P n0 L k n (pc + 1) Ls (.int (lcmpW x y) :: st) := Wk.if_eq C hd ho hp hp' (fun h => hT ((lw_eq x y).mp h)) (fun h => hF (fun q => h ((lw_eq x y).mpr q)))
  exact W1.via fun s T locs X hM hO t h1 => XS.lcmp X.here C.1 rfl (hb C.2.1 hd0) rfl h1
theorem Wk.icmp_ne {x y : Int32} {o : Int} {pcT pcF : Nat} (C : Cx Z own name bytes maxL ret p m meth c M) (hd : decode bytes pc = .ok (.if_icmp .ne o, 3)) (ho : 0 ≤ (pc : Int) + o) (hp : ((pc : Int) + o).toNat = pcT) (hp' : pcF = pc + 3) (hT : ¬ x = y → Wk p l e R m args below meth c M P n0 L k n pcT Ls (st)) (hF : x = y → Wk p l e R m args below meth c M P n0 L k n pcF Ls (st)) : Wk p l e R m args below meth c M P n0 L k n pc Ls (.int y :: .int x :: st) := by
  subst hp'
  by_cases h : x = y
  · exact (hF h).via fun s T locs X hM hO t h1 => XS.icmpNo X.here C.1 rfl (hb C.2.1 hd) rfl (teq h).2 h1
  · exact (hT h).via fun s T locs X hM hO t h1 => XS.icmpYes X.here C.1 rfl (pc0 := pc) rfl (hb C.2.1 hd) rfl (feq h).2 ho hp h1
theorem Wk.if_ne {x : Int32} {o : Int} {pcT pcF : Nat} (C : Cx Z own name bytes maxL ret p m meth c M) (hd : decode bytes pc = .ok (.ifCond .ne o, 3)) (ho : 0 ≤ (pc : Int) + o) (hp : ((pc : Int) + o).toNat = pcT) (hp' : pcF = pc + 3) (hT : ¬ x = 0 → Wk p l e R m args below meth c M P n0 L k n pcT Ls (st)) (hF : x = 0 → Wk p l e R m args below meth c M P n0 L k n pcF Ls (st)) : Wk p l e R m args below meth c M P n0 L k n pc Ls (.int x :: st) := by
  subst hp'
  by_cases h : x = 0
  · exact (hF h).via fun s T locs X hM hO t h1 => XS.ifNo X.here C.1 rfl (hb C.2.1 hd) rfl ((if0 _ _).trans (teq h).2) h1
  · exact (hT h).via fun s T locs X hM hO t h1 => XS.ifYes X.here C.1 rfl (pc0 := pc) rfl (hb C.2.1 hd) rfl ((if0 _ _).trans (feq h).2) ho hp h1
theorem Wk.lcmp_ne {x y : Int64} {o : Int} {pc1 pcT pcF : Nat} (C : Cx Z own name bytes maxL ret p m meth c M) (hd0 : decode bytes pc = .ok (.lcmp, 1)) (hp1 : pc1 = pc + 1) (hd : decode bytes pc1 = .ok (.ifCond .ne o, 3)) (ho : 0 ≤ (pc1 : Int) + o) (hp : ((pc1 : Int) + o).toNat = pcT) (hp' : pcF = pc1 + 3) (hT : ¬ x = y → Wk p l e R m args below meth c M P n0 L k n pcT Ls (st)) (hF : x = y → Wk p l e R m args below meth c M P n0 L k n pcF Ls (st)) : Wk p l e R m args below meth c M P n0 L k n pc Ls (.long y :: .long x :: st) := by
  subst hp1
  have W1 : Wk p l e R m args below meth c M P n0 L k n (pc + 1) Ls (.int (lcmpW x y) :: st) := Wk.if_ne C hd ho hp hp' (fun h => hT (fun q => h ((lw_eq x y).mpr q))) (fun h => hF ((lw_eq x y).mp h))
  exact W1.via fun s T locs X hM hO t h1 => XS.lcmp X.here C.1 rfl (hb C.2.1 hd0) rfl h1
theorem Wk.ifnullYes {o : Int} (C : Cx Z own name bytes maxL ret p m meth c M) (hd : decode bytes pc = .ok (.ifnull o, 3)) (ho : 0 ≤ (pc : Int) + o) (hp : ((pc : Int) + o).toNat = pc') (W : Wk p l e R m args below meth c M P n0 L k n pc' Ls (st)) : Wk p l e R m args below meth c M P n0 L k n pc Ls (.null :: st) :=
  W.via fun s T locs X hM hO t h1 => XS.ifnullYes X.here C.1 rfl (pc0 := pc) rfl (hb C.2.1 hd) rfl ho hp h1
theorem Wk.ifnullNo {b : Addr} {o : Int} (C : Cx Z own name bytes maxL ret p m meth c M) (hd : decode bytes pc = .ok (.ifnull o, 3)) (hp : pc' = pc + 3) (W : Wk p l e R m args below meth c M P n0 L k n pc' Ls (st)) : Wk p l e R m args below meth c M P n0 L k n pc Ls (.ref b :: st) := by
  subst hp
  exact W.via fun s T locs X hM hO t h1 => XS.ifnullNo X.here C.1 rfl (hb C.2.1 hd) rfl h1
theorem Wk.ifnonnullYes {b : Addr} {o : Int} (C : Cx Z own name bytes maxL ret p m meth c M) (hd : decode bytes pc = .ok (.ifnonnull o, 3)) (ho : 0 ≤ (pc : Int) + o) (hp : ((pc : Int) + o).toNat = pc') (W : Wk p l e R m args below meth c M P n0 L k n pc' Ls (st)) : Wk p l e R m args below meth c M P n0 L k n pc Ls (.ref b :: st) :=
  W.via fun s T locs X hM hO t h1 => XS.ifnonnullYes X.here C.1 rfl (pc0 := pc) rfl (hb C.2.1 hd) rfl ho hp h1
theorem Wk.ifnonnullNo {o : Int} (C : Cx Z own name bytes maxL ret p m meth c M) (hd : decode bytes pc = .ok (.ifnonnull o, 3)) (hp : pc' = pc + 3) (W : Wk p l e R m args below meth c M P n0 L k n pc' Ls (st)) : Wk p l e R m args below meth c M P n0 L k n pc Ls (.null :: st) := by
  subst hp
  exact W.via fun s T locs X hM hO t h1 => XS.ifnonnullNo X.here C.1 rfl (hb C.2.1 hd) rfl h1
theorem Wk.acmp {cd : ACond} {x y : Value} {o : Int} {same : Bool} (C : Cx Z own name bytes maxL ret p m meth c M) (hd : decode bytes pc = .ok (.if_acmp cd o, 3)) (h1 : x.isRef = true) (h2 : y.isRef = true) (hq : decide (x = y) = same) (ho : 0 ≤ (pc : Int) + o) (hp : pc' = if acV cd same = true then ((pc : Int) + o).toNat else pc + 3) (W : Wk p l e R m args below meth c M P n0 L k n pc' Ls (st)) : Wk p l e R m args below meth c M P n0 L k n pc Ls (y :: x :: st) :=
  W.via fun s T locs X hM hO t r => Jvm.RoadKit.acmp (g := mkF m pc Ls (y :: x :: st)) X C.1 rfl h1 h2 (pc0 := pc) rfl (hb C.2.1 hd) rfl hq ho hp r
theorem Wk.join0 {pcj : Nat} (Lj : Array Slot) (sj : List Value) (J : Wk p l e R m args below meth c M P n0 L k n pcj Lj (sj)) (K : Wk p l e R m args below meth c M P n0 L k n pcj Lj (sj) → Wk p l e R m args below meth c M P n0 L k n pc Ls (st)) : Wk p l e R m args below meth c M P n0 L k n pc Ls (st) := K J
theorem Wk.join1 {pcj : Nat} {A0 : Type} (F : A0 → Array Slot) (G : A0 → List Value) (E0 : A0) (J : ∀ v0, v0 = E0 → Wk p l e R m args below meth c M P n0 L k n pcj (F v0) (G v0)) (K : (∀ v0, v0 = E0 → Wk p l e R m args below meth c M P n0 L k n pcj (F v0) (G v0)) → Wk p l e R m args below meth c M P n0 L k n pc Ls (st)) : Wk p l e R m args below meth c M P n0 L k n pc Ls (st) := K J
theorem Wk.join2 {pcj : Nat} {A0 A1 : Type} (F : A0 → A1 → Array Slot) (G : A0 → A1 → List Value) (E0 : A0) (E1 : A1) (J : ∀ v0 v1, v0 = E0 → v1 = E1 → Wk p l e R m args below meth c M P n0 L k n pcj (F v0 v1) (G v0 v1)) (K : (∀ v0 v1, v0 = E0 → v1 = E1 → Wk p l e R m args below meth c M P n0 L k n pcj (F v0 v1) (G v0 v1)) → Wk p l e R m args below meth c M P n0 L k n pc Ls (st)) : Wk p l e R m args below meth c M P n0 L k n pc Ls (st) := K J
theorem Wk.join3 {pcj : Nat} {A0 A1 A2 : Type} (F : A0 → A1 → A2 → Array Slot) (G : A0 → A1 → A2 → List Value) (E0 : A0) (E1 : A1) (E2 : A2) (J : ∀ v0 v1 v2, v0 = E0 → v1 = E1 → v2 = E2 → Wk p l e R m args below meth c M P n0 L k n pcj (F v0 v1 v2) (G v0 v1 v2)) (K : (∀ v0 v1 v2, v0 = E0 → v1 = E1 → v2 = E2 → Wk p l e R m args below meth c M P n0 L k n pcj (F v0 v1 v2) (G v0 v1 v2)) → Wk p l e R m args below meth c M P n0 L k n pc Ls (st)) : Wk p l e R m args below meth c M P n0 L k n pc Ls (st) := K J
theorem Wk.join4 {pcj : Nat} {A0 A1 A2 A3 : Type} (F : A0 → A1 → A2 → A3 → Array Slot) (G : A0 → A1 → A2 → A3 → List Value) (E0 : A0) (E1 : A1) (E2 : A2) (E3 : A3) (J : ∀ v0 v1 v2 v3, v0 = E0 → v1 = E1 → v2 = E2 → v3 = E3 → Wk p l e R m args below meth c M P n0 L k n pcj (F v0 v1 v2 v3) (G v0 v1 v2 v3)) (K : (∀ v0 v1 v2 v3, v0 = E0 → v1 = E1 → v2 = E2 → v3 = E3 → Wk p l e R m args below meth c M P n0 L k n pcj (F v0 v1 v2 v3) (G v0 v1 v2 v3)) → Wk p l e R m args below meth c M P n0 L k n pc Ls (st)) : Wk p l e R m args below meth c M P n0 L k n pc Ls (st) := K J
theorem Wk.ind {A : Type} (μ : A → Nat) (F : A → Array Slot) (H : A → List (Addr × (Cell → Prop))) (I : A → Prop) (step : ∀ a, I a → (∀ b, I b → μ b < μ a → Wk p l e R m args below meth c M P n0 (H b) k n pc (F b) (st)) → Wk p l e R m args below meth c M P n0 (H a) k n pc (F a) (st)) (a : A) (ha : I a) : Wk p l e R m args below meth c M P n0 (H a) k n pc (F a) (st) := by
  have key : ∀ (N : Nat) (a : A), μ a < N → I a → Wk p l e R m args below meth c M P n0 (H a) k n pc (F a) (st) := by
    intro N
    induction N with
    | zero => intro a h; exact absurd h (Nat.not_lt_zero _)
    | succ N ih => intro a h hI; exact step a hI fun b hb hlt => ih b (by omega) hb
  exact key _ a (Nat.lt_succ_self _) ha
theorem idx_of {j : Int32} {i nn : Nat} (hj : j.toInt = (i : Int)) (hi : i < nn) : ¬ (j < 0 ∨ nn ≤ j.toNatClampNeg) ∧ j.toNatClampNeg = i := by
  have e : j.toNatClampNeg = i := by show j.toInt.toNat = i; omega
  refine ⟨fun q => ?_, e⟩
  rcases q with q | q
  · rw [Int32.lt_iff_toInt_lt] at q
    have : (0 : Int32).toInt = 0 := rfl
    omega
  · omega
theorem Wk.iaload {a : Addr} {j : Int32} {q i nn : Nat} {f : Nat → Int32} (C : Cx Z own name bytes maxL ret p m meth c M) (hd : decode bytes pc = .ok (.iaload, 1)) (hL : L[q]? = some (a, ArrC Z .int nn f)) (hj : j.toInt = (i : Int)) (hi : i < nn) (hp : pc' = pc + 1) (W : Wk p l e R m args below meth c M P n0 L k n pc' Ls (.int (f i) :: st)) : Wk p l e R m args below meth c M P n0 L k n pc Ls (.int j :: .ref a :: st) := by
  subst hp
  refine W.via fun s T locs X hM hO t r => ?_
  obtain ⟨cl, g1, g2, g3, g4, g5, -⟩ := (hO.2.2 _ _ hL).2
  obtain ⟨b1, b2⟩ := idx_of hj hi
  rw [← g4] at b1
  exact X.iaload C.1 (j := j) (v := .int (f i)) g1 (State.isArrayOf_alike (C.2.2.2.2.2.2.1 _ _ hM).1.alike g2) g3 b1 (by rw [b2]; exact g5 i hi) (g := mkF m pc Ls (.int j :: .ref a :: st)) rfl rfl (hb C.2.1 hd) t r
theorem Wk.baload {a : Addr} {j : Int32} {q i nn : Nat} {f : Nat → Int32} (C : Cx Z own name bytes maxL ret p m meth c M) (hd : decode bytes pc = .ok (.baload, 1)) (hL : L[q]? = some (a, ArrC Z .byte nn f)) (hj : j.toInt = (i : Int)) (hi : i < nn) (hp : pc' = pc + 1) (W : Wk p l e R m args below meth c M P n0 L k n pc' Ls (.int (f i) :: st)) : Wk p l e R m args below meth c M P n0 L k n pc Ls (.int j :: .ref a :: st) := by
  subst hp
  refine W.via fun s T locs X hM hO t r => ?_
  obtain ⟨cl, g1, g2, g3, g4, g5, -⟩ := (hO.2.2 _ _ hL).2
  obtain ⟨b1, b2⟩ := idx_of hj hi
  rw [← g4] at b1
  exact X.baloadBytes C.1 (j := j) (v := .int (f i)) g1 (State.isArrayOf_alike (C.2.2.2.2.2.2.1 _ _ hM).1.alike g2) g3 b1 (by rw [b2]; exact g5 i hi) (g := mkF m pc Ls (.int j :: .ref a :: st)) rfl rfl (hb C.2.1 hd) t r
theorem Wk.caload {a : Addr} {j : Int32} {q i nn : Nat} {f : Nat → Int32} (C : Cx Z own name bytes maxL ret p m meth c M) (hd : decode bytes pc = .ok (.caload, 1)) (hL : L[q]? = some (a, ArrC Z .char nn f)) (hj : j.toInt = (i : Int)) (hi : i < nn) (hp : pc' = pc + 1) (W : Wk p l e R m args below meth c M P n0 L k n pc' Ls (.int (f i) :: st)) : Wk p l e R m args below meth c M P n0 L k n pc Ls (.int j :: .ref a :: st) := by
  subst hp
  refine W.via fun s T locs X hM hO t r => ?_
  obtain ⟨cl, g1, g2, g3, g4, g5, -⟩ := (hO.2.2 _ _ hL).2
  obtain ⟨b1, b2⟩ := idx_of hj hi
  rw [← g4] at b1
  exact X.caload C.1 (j := j) (v := .int (f i)) g1 (State.isArrayOf_alike (C.2.2.2.2.2.2.1 _ _ hM).1.alike g2) g3 b1 (by rw [b2]; exact g5 i hi) (g := mkF m pc Ls (.int j :: .ref a :: st)) rfl rfl (hb C.2.1 hd) t r
theorem Wk.arraylength {a : Addr} {q nn : Nat} {ty : FieldType} {z : Int32} {φ : Cell → Prop} (C : Cx Z own name bytes maxL ret p m meth c M) (hd : decode bytes pc = .ok (.arraylength, 1)) (hL : L[q]? = some (a, φ)) (hφ : ∀ c, φ c → Z.isArrayOf c ty ∧ c.slots.size = nn) (hz : nn.toInt32 = z) (hp : pc' = pc + 1) (W : Wk p l e R m args below meth c M P n0 L k n pc' Ls (.int z :: st)) : Wk p l e R m args below meth c M P n0 L k n pc Ls (.ref a :: st) := by
  subst hp hz
  refine W.via fun s T locs X hM hO t r => ?_
  obtain ⟨cl, g1, g2⟩ := (hO.2.2 _ _ hL).2
  obtain ⟨g3, g4⟩ := hφ cl g2
  subst g4
  exact X.arraylength C.1 g1 (State.isArrayOf_alike (C.2.2.2.2.2.2.1 _ _ hM).1.alike g3) (g := mkF m pc Ls (.ref a :: st)) rfl rfl (hb C.2.1 hd) t r
theorem Wk.iastore {a : Addr} {j x : Int32} {q i nn : Nat} {f : Nat → Int32} (C : Cx Z own name bytes maxL ret p m meth c M) (hd : decode bytes pc = .ok (.iastore, 1)) (hL : L[q]? = some (a, ArrC Z .int nn f)) (hj : j.toInt = (i : Int)) (hi : i < nn) (hp : pc' = pc + 1) (W : Wk p l e R m args below meth c M P n0 (L.set q (a, ArrC Z .int nn (upd f i (x)))) k n pc' Ls (st)) : Wk p l e R m args below meth c M P n0 L k n pc Ls (.int x :: .int j :: .ref a :: st) := by
  subst hp
  intro s T locs X hM hF hO
  obtain ⟨h0, cl, g1, g2, g3, g4, -⟩ := hO.2.2 _ _ hL
  obtain ⟨b1, b2⟩ := idx_of hj hi
  rw [← g4] at b1
  obtain ⟨T', h', X', e', Wh, stp⟩ := stI X C.1 (C.2.2.2.2.2.2.1 _ _ hM).1 rfl ⟨g1, g2, g3⟩ (j := j) b1 (g := mkF m pc Ls (.int x :: .int j :: .ref a :: st)) rfl rfl (hb C.2.1 hd)
  rw [b2] at Wh
  subst e'
  obtain ⟨t, r1, r2⟩ := W s T' _ X' (C.2.2.2.2.2.2.2 s _ _ (Nat.le_of_eq Wh.size.symm) hM) (Fr.snoc X' hF h0) (hO.wr Wh hL (φ' := ArrC Z .int nn (upd f i (x))) fun c hc _ => hc.set hi rfl)
  exact ⟨t, stp t r1, r2⟩
theorem Wk.bastore {a : Addr} {j x : Int32} {q i nn : Nat} {f : Nat → Int32} (C : Cx Z own name bytes maxL ret p m meth c M) (hd : decode bytes pc = .ok (.bastore, 1)) (hL : L[q]? = some (a, ArrC Z .byte nn f)) (hj : j.toInt = (i : Int)) (hi : i < nn) (hp : pc' = pc + 1) (W : Wk p l e R m args below meth c M P n0 (L.set q (a, ArrC Z .byte nn (upd f i (x.toInt8.toInt32)))) k n pc' Ls (st)) : Wk p l e R m args below meth c M P n0 L k n pc Ls (.int x :: .int j :: .ref a :: st) := by
  subst hp
  intro s T locs X hM hF hO
  obtain ⟨h0, cl, g1, g2, g3, g4, -⟩ := hO.2.2 _ _ hL
  obtain ⟨b1, b2⟩ := idx_of hj hi
  rw [← g4] at b1
  obtain ⟨T', h', X', e', Wh, stp⟩ := stB X C.1 (C.2.2.2.2.2.2.1 _ _ hM).1 rfl ⟨g1, g2, g3⟩ (j := j) b1 (g := mkF m pc Ls (.int x :: .int j :: .ref a :: st)) rfl rfl (hb C.2.1 hd)
  rw [b2] at Wh
  subst e'
  obtain ⟨t, r1, r2⟩ := W s T' _ X' (C.2.2.2.2.2.2.2 s _ _ (Nat.le_of_eq Wh.size.symm) hM) (Fr.snoc X' hF h0) (hO.wr Wh hL (φ' := ArrC Z .byte nn (upd f i (x.toInt8.toInt32))) fun c hc _ => hc.set hi (fits_nar_byte x))
  exact ⟨t, stp t r1, r2⟩
theorem Wk.castore {a : Addr} {j x : Int32} {q i nn : Nat} {f : Nat → Int32} (C : Cx Z own name bytes maxL ret p m meth c M) (hd : decode bytes pc = .ok (.castore, 1)) (hL : L[q]? = some (a, ArrC Z .char nn f)) (hj : j.toInt = (i : Int)) (hi : i < nn) (hp : pc' = pc + 1) (W : Wk p l e R m args below meth c M P n0 (L.set q (a, ArrC Z .char nn (upd f i (nar .char x)))) k n pc' Ls (st)) : Wk p l e R m args below meth c M P n0 L k n pc Ls (.int x :: .int j :: .ref a :: st) := by
  subst hp
  intro s T locs X hM hF hO
  obtain ⟨h0, cl, g1, g2, g3, g4, -⟩ := hO.2.2 _ _ hL
  obtain ⟨b1, b2⟩ := idx_of hj hi
  rw [← g4] at b1
  obtain ⟨T', h', X', e', Wh, stp⟩ := stC X C.1 (C.2.2.2.2.2.2.1 _ _ hM).1 rfl ⟨g1, g2, g3⟩ (j := j) b1 (g := mkF m pc Ls (.int x :: .int j :: .ref a :: st)) rfl rfl (hb C.2.1 hd)
  rw [b2] at Wh
  subst e'
  obtain ⟨t, r1, r2⟩ := W s T' _ X' (C.2.2.2.2.2.2.2 s _ _ (Nat.le_of_eq Wh.size.symm) hM) (Fr.snoc X' hF h0) (hO.wr Wh hL (φ' := ArrC Z .char nn (upd f i (nar .char x))) fun c hc _ => hc.set hi (fits_nar_char x))
  exact ⟨t, stp t r1, r2⟩
theorem Wk.newarray {aty : ArrayType} {z : Int32} {nn cap : Nat} {d : Int32} (C : Cx Z own name bytes maxL ret p m meth c M) (w : (Cond.arrayClass (newarray.typeOf aty)).before a0 Z = true) (hd : decode bytes pc = .ok (.newarray aty, 2)) (hdv : defaultValue (newarray.typeOf aty) = .int d) (hfd : fits (newarray.typeOf aty) (.int d) = true) (hz : z.toInt = (nn : Int)) (hcap : nn ≤ cap) (hb8 : cap * 8 ≤ 536870912) (hk : k + 1 ≤ R.cells) (hn : n + cap ≤ R.slots) (hp : pc' = pc + 2)
    (W : ∀ a : Addr, Wk p l e R m args below meth c M P n0 ((a, ArrC Z (newarray.typeOf aty) nn (fun _ => d)) :: L) (k + 1) (n + cap) pc' Ls (.ref a :: st)) : Wk p l e R m args below meth c M P n0 L k n pc Ls (.int z :: st) := by
  subst hp
  intro s T locs X hM hF hO
  have ez : z.toNatClampNeg = nn := by show z.toInt.toNat = nn; omega
  have nz : ¬ z < 0 := fun q => by
    rw [Int32.lt_iff_toInt_lt] at q
    have : (0 : Int32).toInt = 0 := rfl
    omega
  obtain ⟨T', h', cA, X', e', E, A, Ex, stp⟩ := newPE X C.1 (C.2.2.2.2.2.2.1 _ _ hM).1 w rfl (g := mkF m pc Ls (.int z :: st)) rfl (hb C.2.1 hd) rfl nz (cap := cap) (by rw [ez]; exact hcap) hb8 hk hn (ad := "[" ++ (newarray.typeOf aty).toString) rfl
  subst e'
  obtain ⟨t, r1, r2⟩ := W T.heap.size s T' _ X' (C.2.2.2.2.2.2.2 s _ _ E.1 hM) hF (hO.cons E ⟨_, A.1, A.2.1, A.2.2, (sz_new _ _ _).trans ez, fun i hi => by
    show (Array.replicate z.toNatClampNeg (defaultValue (newarray.typeOf aty)))[i]? = _
    rw [ez, hdv]; simp [hi], fun _ _ => hfd, of_exa A.1 Ex⟩)
  exact ⟨t, stp t r1, r2⟩
def AnyC : Cell → Prop := fun _ => True
theorem Wk.anewarray {C' : String} {index : Nat} {z : Int32} {nn cap : Nat} (C : Cx Z own name bytes maxL ret p m meth c M) (w1 : (Cond.classLink own index C').before a0 Z = true) (w2 : (Cond.arrayOver (.object C')).before a0 Z = true) (hd : decode bytes pc = .ok (.anewarray index, 3)) (hz : z.toInt = (nn : Int)) (hcap : nn ≤ cap) (hb8 : cap * 8 ≤ 536870912) (hk : k + 1 ≤ R.cells) (hn : n + cap ≤ R.slots) (hp : pc' = pc + 3)
    (W : ∀ a : Addr, Wk p l e R m args below meth c M P n0 ((a, AnyC) :: L) (k + 1) (n + cap) pc' Ls (.ref a :: st)) : Wk p l e R m args below meth c M P n0 L k n pc Ls (.int z :: st) := by
  subst hp
  intro s T locs X hM hF hO
  have ez : z.toNatClampNeg = nn := by show z.toInt.toNat = nn; omega
  have nz : ¬ z < 0 := fun q => by
    rw [Int32.lt_iff_toInt_lt] at q
    have : (0 : Int32).toInt = 0 := rfl
    omega
  obtain ⟨T', h', cA, X', e', E, A, -, stp⟩ := newR X C.1 (C.2.2.2.2.2.2.1 _ _ hM).1 (C.2.2.2.2.2.2.1 _ _ hM).2 w1 w2 rfl (g := mkF m pc Ls (.int z :: st)) rfl (hb C.2.1 hd) rfl nz (cap := cap) (by rw [ez]; exact hcap) hb8 hk hn
  subst e'
  obtain ⟨t, r1, r2⟩ := W T.heap.size s T' _ X' (C.2.2.2.2.2.2.2 s _ _ E.1 hM) hF (hO.cons E ⟨_, A.1, trivial⟩)
  exact ⟨t, stp t r1, r2⟩
theorem Wk.new {C' : String} {index nf : Nat} {ks : List (String × String × String × FieldType)} {vs : List Value} (C : Cx Z own name bytes maxL ret p m meth c M) (w : (Cond.classLink own index C').before a0 Z = true) (wi : (Cond.instantiable C' nf).before a0 Z = true) (wz : (Cond.initialized C').before a0 Z = true) (H : Lays Z a0 C' ks) (hd : decode bytes pc = .ok (.new index, 3)) (hv : vs = ks.map (fun kk => defaultValue kk.2.2.2)) (hk : k + 1 ≤ R.cells) (hn : n + nf ≤ R.slots) (hp : pc' = pc + 3)
    (W : ∀ a : Addr, Wk p l e R m args below meth c M P n0 ((a, ObjC Z C' ks vs) :: L) (k + 1) (n + nf) pc' Ls (.ref a :: st)) : Wk p l e R m args below meth c M P n0 L k n pc Ls (st) := by
  subst hp hv
  intro s T locs X hM hF hO
  obtain ⟨T', h', X', e', E, A, D, -, stp⟩ := newO X C.1 (C.2.2.2.2.2.2.1 _ _ hM).1 (C.2.2.2.2.2.2.1 _ _ hM).2 w wi wz rfl (g := mkF m pc Ls st) rfl (hb C.2.1 hd) hk hn
  subst e'
  obtain ⟨cl, kc, g1, -⟩ := id A
  obtain ⟨t, r1, r2⟩ := W T.heap.size s T' _ X' (C.2.2.2.2.2.2.2 s _ _ E.1 hM) hF (hO.cons E ⟨cl, g1, of_exa g1 A, fun i kk v hkk hvv => by
    rw [List.getElem?_map, hkk] at hvv
    cases hvv
    have q := H.1 kk (List.mem_of_getElem? hkk)
    exact of_fld g1 (D q.1 q.2)⟩)
  exact ⟨t, stp t r1, r2⟩
theorem Wk.getfield {C' O nm d host : String} {ty : FieldType} {index i q : Nat} {a : Addr} {ks : List (String × String × String × FieldType)} {vs : List Value} {v : Value} (C : Cx Z own name bytes maxL ret p m meth c M) (w : (Cond.fieldLink own index O nm d).before a0 Z = true ∨ (Cond.fieldLinkNest own index O nm d host).before a0 Z = true) (hd : decode bytes pc = .ok (.getfield index, 3)) (hL : L[q]? = some (a, ObjC Z C' ks vs)) (hk : ks[i]? = some (O, nm, d, ty)) (hv : vs[i]? = some v) (hp : pc' = pc + 3)
    (W : Wk p l e R m args below meth c M P n0 L k n pc' Ls (v :: st)) : Wk p l e R m args below meth c M P n0 L k n pc Ls (.ref a :: st) := by
  subst hp
  intro s T locs X hM hF hO
  obtain ⟨h0, cl, g1, g2, g3⟩ := hO.2.2 _ _ hL
  obtain ⟨T', X', e', stp⟩ := getF X C.1 (C.2.2.2.2.2.2.1 _ _ hM).1 (C.2.2.2.2.2.2.1 _ _ hM).2 w Via.refl rfl (fld_of g1 (g3 i _ v hk hv)) (g := mkF m pc Ls (.ref a :: st)) rfl rfl (hb C.2.1 hd)
  rw [← e'] at hM hO
  obtain ⟨t, r1, r2⟩ := W s T' _ X' hM hF hO
  exact ⟨t, stp t r1, r2⟩
theorem Wk.putfield {C' O nm d host : String} {ty : FieldType} {index i q nf : Nat} {a : Addr} {ks : List (String × String × String × FieldType)} {vs : List Value} {v : Value} (C : Cx Z own name bytes maxL ret p m meth c M) (w : (Cond.fieldLink own index O nm d).before a0 Z = true ∨ (Cond.fieldLinkNest own index O nm d host).before a0 Z = true) (H : Lays Z a0 C' ks) (hlay : (Cond.lays C' O nm d).before a0 Z = true ∨ ((Cond.laysFinal C' O nm d).before a0 Z = true ∧ own = O ∧ name = "<init>")) (wi : (Cond.instantiable C' nf).before a0 Z = true) (hd : decode bytes pc = .ok (.putfield index, 3)) (hL : L[q]? = some (a, ObjC Z C' ks vs)) (hk : ks[i]? = some (O, nm, d, ty)) (hv : i < vs.length) (hnar : narrow ty v = v) (hfit : fits ty v = true) (hp : pc' = pc + 3)
    (W : Wk p l e R m args below meth c M P n0 (L.set q (a, ObjC Z C' ks (vs.set i v))) k n pc' Ls (st)) : Wk p l e R m args below meth c M P n0 L k n pc Ls (v :: .ref a :: st) := by
  subst hp
  intro s T locs X hM hF hO
  obtain ⟨h0, cl, g1, g2, g3⟩ := hO.2.2 _ _ hL
  obtain ⟨v0, hv0⟩ : ∃ v0, vs[i]? = some v0 := ⟨_, List.getElem?_eq_getElem hv⟩
  have hpf : parseFieldDescriptor d = some ty := (H.1 (O, nm, d, ty) (List.mem_of_getElem? hk)).2
  obtain ⟨T', h', X', e', Wh, stp⟩ := putF (own := own) (R0 := O) (O := O) (n := nm) (d := d) (host := host) (C := C') (kk := nf) (v := v) (old := v0) X C.1 (C.2.2.2.2.2.2.1 _ _ hM).1 (C.2.2.2.2.2.2.1 _ _ hM).2 w Via.refl rfl (fld_of g1 (g3 i _ v0 hk hv0)) (exa_of g1 g2) (hlay.imp id fun q => ⟨q.1, q.2.1, C.2.2.2.2.2.1.trans q.2.2⟩) wi (ty := ty) hpf hnar hfit (g := mkF m pc Ls (v :: .ref a :: st)) rfl rfl (hb C.2.1 hd)
  subst e'
  have hset : ∀ c, ObjC Z C' ks vs c → Jvm.RoadKit.slotOf Z O nm d < c.slots.size → ObjC Z C' ks (vs.set i v) (c.setSlot (Jvm.RoadKit.slotOf Z O nm d) v) := fun c hc hsl => ObjC.set (kk := (O, nm, d, ty)) hc H hk hv hsl
  obtain ⟨t, r1, r2⟩ := W s T' _ X' (C.2.2.2.2.2.2.2 s _ _ (Nat.le_of_eq Wh.size.symm) hM) (Fr.snoc X' hF h0) (hO.wr Wh hL hset)
  exact ⟨t, stp t r1, r2⟩
theorem Wk.objInit {idx W0 : Nat} {a : Addr} (C : Cx Z own name bytes maxL ret p m meth c M) (w1 : (Cond.methodLink own idx Lib.objectInit).before a0 Z = true) (w2 : (Cond.instanceMethod Lib.objectInit).before a0 Z = true) (w3 : (Cond.code Lib.objectInit object_method_1_code 1 none).before a0 Z = true) (hd : decode bytes pc = .ok (.invokespecial idx, 3)) (hsz : Ls.size = maxL) (hf : 1 ≤ R.frames) (hW : (st.map fun v => v.category).sum = W0) (hl : W0 + 12 ≤ R.locals) (hp : pc' = pc + 3)
    (W : Wk p l e R m args below meth c M P n0 L k n pc' Ls (st)) : Wk p l e R m args below meth c M P n0 L k n pc Ls (.ref a :: st) := by
  subst hp
  intro s T locs X hM hF hO
  obtain ⟨T', X', e', stp⟩ := initO X C.1 (C.2.2.2.2.2.2.1 _ _ hM).1 (C.2.2.2.2.2.2.1 _ _ hM).2 w1 w2 w3 rfl (g := mkF m pc Ls (.ref a :: st)) rfl (hsz.trans C.2.2.1.symm) (rest := st) rfl (hb C.2.1 hd) hf (W := W0) (by show 2 * 0 + _ ≤ _; omega) hl
  rw [← e'] at hM hO
  obtain ⟨t, r1, r2⟩ := W s T' _ X' hM hF hO
  exact ⟨t, stp t r1, r2⟩
/-! the end: v is returned, Q holds of it and of the heap -/
def Pend (below : List Frame) (FE : Outcome → State → List Loc → Prop) (n0 : Nat) (Q : Option Value → Heap → Prop) (t : State) : Prop := ∃ v L, t.status = .running ∧ Ended t below (.returned v) ∧ Q v t.heap ∧ Fr n0 L ∧ FE (.returned v) t L
def Ok (M : State → Heap → Prop) (FE : Outcome → State → List Loc → Prop) (K N : Nat) : Prop := ∀ (s t : State) (L : List Loc) (k n : Nat) (v : Option Value), M s t.heap → s.WarmedH t.vm → s.sameButNew ({ t with vm := s.vm } : State) L k n → k ≤ K → n ≤ N → FE (.returned v) t L
theorem Wk.retI {z : Int32} {FE : Outcome → State → List Loc → Prop} {Q : Option Value → Heap → Prop} {K N : Nat} (C : Cx Z own name bytes maxL (some .int) p m meth c M) (J : Ok M FE K N) (hd : decode bytes pc = .ok (.ireturn, 1)) (hk : k ≤ K) (hn : n ≤ N) (hq : ∀ h, Own n0 h L → Q (some (.int z)) h) : Wk p l e R m args below meth c M (Pend below FE n0 Q) n0 L k n pc Ls (.int z :: st) := by
  intro s T locs X hM hF hO
  obtain ⟨fs, hr, hrun, hended, hW, hsame⟩ := X.leave (v := some (.int z)) (fun h => by rw [C.2.2.2.1] at h; cases h) C.2.2.2.2.1
  exact ⟨_, Jvm.RoadKit.retI X C.1 C.2.2.2.1 (hb C.2.1 hd) hr, _, locs, hrun, hended, hq _ hO, hF, J s _ locs k n _ hM hW hsame hk hn⟩
theorem Wk.retN {z z' : Int32} {ty : FieldType} {FE : Outcome → State → List Loc → Prop} {Q : Option Value → Heap → Prop} {K N : Nat} (C : Cx Z own name bytes maxL (some ty) p m meth c M) (J : Ok M FE K N) (hd : decode bytes pc = .ok (.ireturn, 1)) (hk : k ≤ K) (hn : n ≤ N) (ht : ty = .boolean ∨ ty = .byte ∨ ty = .char ∨ ty = .short) (hz : nar ty z = z') (hq : ∀ h, Own n0 h L → Q (some (.int z')) h) : Wk p l e R m args below meth c M (Pend below FE n0 Q) n0 L k n pc Ls (.int z :: st) := by
  subst hz
  intro s T locs X hM hF hO
  obtain ⟨fs, hr, hrun, hended, hW, hsame⟩ := X.leave (v := some (.int (nar ty z))) (fun h => by rw [C.2.2.2.1] at h; cases h) C.2.2.2.2.1
  exact ⟨_, Jvm.RoadKit.retN X C.1 C.2.2.2.1 ht (hb C.2.1 hd) hr, _, locs, hrun, hended, hq _ hO, hF, J s _ locs k n _ hM hW hsame hk hn⟩
theorem Wk.retL {z : Int64} {FE : Outcome → State → List Loc → Prop} {Q : Option Value → Heap → Prop} {K N : Nat} (C : Cx Z own name bytes maxL (some .long) p m meth c M) (J : Ok M FE K N) (hd : decode bytes pc = .ok (.lreturn, 1)) (hk : k ≤ K) (hn : n ≤ N) (hq : ∀ h, Own n0 h L → Q (some (.long z)) h) : Wk p l e R m args below meth c M (Pend below FE n0 Q) n0 L k n pc Ls (.long z :: []) := by
  intro s T locs X hM hF hO
  obtain ⟨fs, hr, hrun, hended, hW, hsame⟩ := X.leave (v := some (.long z)) (fun h => by rw [C.2.2.2.1] at h; cases h) C.2.2.2.2.1
  exact ⟨_, X.lreturnOut C.1 C.2.2.2.1 (hb C.2.1 hd) hr, _, locs, hrun, hended, hq _ hO, hF, J s _ locs k n _ hM hW hsame hk hn⟩
theorem Wk.retA {z : Value} {ty : FieldType} {FE : Outcome → State → List Loc → Prop} {Q : Option Value → Heap → Prop} {K N : Nat} (C : Cx Z own name bytes maxL (some ty) p m meth c M) (J : Ok M FE K N) (hd : decode bytes pc = .ok (.areturn, 1)) (hk : k ≤ K) (hn : n ≤ N) (hz : z.isRef = true) (ht : ty.isReference = true) (hq : ∀ h, Own n0 h L → Q (some z) h) : Wk p l e R m args below meth c M (Pend below FE n0 Q) n0 L k n pc Ls (z :: []) := by
  intro s T locs X hM hF hO
  obtain ⟨fs, hr, hrun, hended, hW, hsame⟩ := X.leave (v := some z) (fun h => by rw [C.2.2.2.1] at h; cases h) C.2.2.2.2.1
  exact ⟨_, X.areturnOut C.1 hz C.2.2.2.1 ht (hb C.2.1 hd) hr, _, locs, hrun, hended, hq _ hO, hF, J s _ locs k n _ hM hW hsame hk hn⟩
theorem Wk.retV {FE : Outcome → State → List Loc → Prop} {Q : Option Value → Heap → Prop} {K N : Nat} (C : Cx Z own name bytes maxL none p m meth c M) (J : Ok M FE K N) (hd : decode bytes pc = .ok (.return_, 1)) (hk : k ≤ K) (hn : n ≤ N) (hq : ∀ h, Own n0 h L → Q none h) : Wk p l e R m args below meth c M (Pend below FE n0 Q) n0 L k n pc Ls ([]) := by
  intro s T locs X hM hF hO
  obtain ⟨fs, hr, hrun, hended, hW, hsame⟩ := X.leave (v := none) (fun h => by rfl) C.2.2.2.2.1
  exact ⟨_, X.returnOut C.1 C.2.2.2.1 (hb C.2.1 hd) hr, _, locs, hrun, hended, hq _ hO, hF, J s _ locs k n _ hM hW hsame hk hn⟩
/-- a method's contract: called with as' over the heap h it returns, and Q holds -/
def Meth (l : Launch) (Z : State) (y : MethodName) (bytes : ByteArray) (maxL : Nat) (ret : Option FieldType) (ws : List Jvm.Cond) (rm : Room) (as' : Array Value) (h : Heap) (n0 : Nat) (Q : Option Value → Heap → Prop) : Prop :=
  MetFree l y (head1 (Jvm.Cond.code y bytes maxL ret :: ws) rm) (fun a U => a = as' ∧ Z.Warmed39 U.vm ∧ U.heap = h) (fun _ _ _ _ _ => True) (fun _ U o U' => ∃ v L, o = .returned v ∧ (Q v U'.heap ∧ h.size ≤ U'.heap.size ∧ Fr n0 L) ∧ FrameEnd U o U' L rm.cells rm.slots)
theorem Meth.of {y : MethodName} {ws : List Jvm.Cond} {rm : Room} {as' : Array Value} {h : Heap} {Q : Option Value → Heap → Prop} (hp : plainFor y = true) (hE : ∀ m, entryFrame m as' maxL = mkF m 0 Ls []) (hO : Own n0 h L)
    (body : ∀ (p : Program) (e : Env) (m : MethodId) (below : List Frame) (meth : Method) (c : Code) (M : State → Heap → Prop) (FE : Outcome → State → List Loc → Prop), Cx Z y.cls y.name bytes maxL ret p m meth c M → Ok M FE rm.cells rm.slots → Wk p l e rm m as' below meth c M (Pend below FE n0 Q) n0 L 0 0 0 Ls []) :
    Meth l Z y bytes maxL ret ws rm as' h n0 Q := by
  refine MetFree.of_bodySF hp hisR ?_
  intro p e s m args below meth c s₁ Bd hml0 hP hK
  obtain ⟨rfl, hZ, hh⟩ := hP
  have hnm := (name_of_methodNamed Bd.named Bd.method).1
  have e0 : s₁.heap = h := by rw [← hh, Bd.state]; rfl
  have CC : Cx Z y.cls y.name bytes maxL ret p m meth c (fun s' _ => s' = s) := ⟨Bd.exec, Bd.bytes, hml0, Bd.returns, Bd.notSynchronized, hnm, fun s' _ q => by subst q; exact ⟨hZ, findClass_of_methodNamed Bd.named⟩, fun _ _ _ _ q => q⟩
  have JJ : Ok (fun s' _ => s' = s) (fun o t L => FrameEnd s o t L rm.cells rm.slots) rm.cells rm.slots := fun s' t L k n v q hW hs hk hn => by subst q; exact ⟨⟨_, rfl⟩, hW, hs.mono hk hn⟩
  obtain ⟨t, r1, v, Lo, r2, r3, r4, r5, r6⟩ := body p e m below meth c _ _ CC JJ s s₁ [] (Stand.of_body Bd) rfl (Fr.nil n0) (by rw [e0]; exact hO)
  refine ⟨t, .returned v, castTop (hE m) r1, r2, r3, v, Lo, rfl, ⟨r4, ?_, r5⟩, r6⟩
  rw [← hh]; exact r6.2.2.2.1
theorem Wk.callS {y : MethodName} {bytes' : ByteArray} {maxL' : Nat} {ret' : Option FieldType} {index W0 : Nat} {rm : Room} {Q : Option Value → Heap → Prop} {argsL st0 : List Value} {ps : List FieldType} {rt : Option FieldType} (C : Cx Z own name bytes maxL ret p m meth c M) (w1 : (Jvm.Cond.methodLink own index y).before a0 Z = true) (w2 : (Jvm.Cond.static y).before a0 Z = true) (w3 : (Jvm.Cond.initialized y.cls).before a0 Z = true) (w4 : (Jvm.Cond.code y bytes' maxL' ret').before a0 Z = true) (hy : y.cls ≠ "java/lang/invoke/MethodHandle" ∧ y.cls ≠ "java/lang/invoke/VarHandle")
    (hM : ∀ h, Own n0 h L → Meth l Z y bytes' maxL' ret' [] rm argsL.toArray h n0 Q) (hf : rm.frames + 1 ≤ R.frames) (hl : W0 + (maxL' + 11) + rm.locals ≤ R.locals) (hk : k + rm.cells ≤ R.cells) (hn : n + rm.slots ≤ R.slots) (hd : decode bytes pc = .ok (.invokestatic index, 3)) (hsz : Ls.size = maxL) (hpd : parseMethodDescriptor y.desc = some ⟨ps, rt⟩) (hlen : argsL.length = ps.length) (hst : st0 = argsL.reverse ++ st) (hW : (st.map fun v => v.category).sum = W0) (hp : pc' = pc + 3)
    (W : ∀ v h', Q v h' → ∃ L', Own n0 h' L' ∧ Wk p l e R m args below meth c M P n0 L' (k + rm.cells) (n + rm.slots) pc' Ls (v.toList ++ st)) : Wk p l e R m args below meth c M P n0 L k n pc Ls (st0) := by
  subst hp hst
  intro s T locs X hMs hF hO
  obtain ⟨hZ, hown⟩ := C.2.2.2.2.2.2.1 _ _ hMs
  obtain ⟨_, _, ⟨T1, L1, k1, n1⟩, -, X', ⟨Lc, hQ, l1, y1, z1⟩, stp⟩ := Jvm.LawKit.callS X C.1 (y := y) hown (mvT hZ w1) (mvT hZ w2) (mvT hZ w3) (mvT hZ w4) hy (backOf (W := W0) (Q := fun v h' L => Q v h' ∧ T.heap.size ≤ h'.size ∧ Fr n0 L) (hM _ hO) hZ w4 w3 hf hl) (g := mkF m pc Ls (argsL.reverse ++ st)) rfl (hsz.trans C.2.2.1.symm) (argsL := argsL) (rest := st) (lenOf hpd hlen) rfl (by show 2 * 0 + _ ≤ _; omega) (hb C.2.1 hd) (fun _ _ => ⟨rfl, rfl, hk, hn⟩)
  dsimp only [Pt.U, Pt.locs, Pt.cells, Pt.slots] at X' l1 y1 z1 stp hQ
  subst l1 y1 z1
  obtain ⟨hQ1, hQ2, hQ3⟩ := hQ
  obtain ⟨L', O', W'⟩ := W _ _ hQ1
  obtain ⟨t, r1, r2⟩ := W' s T1 _ X' (C.2.2.2.2.2.2.2 s _ _ hQ2 hMs) (Fr.app hF hQ3) O'
  exact ⟨t, stp t r1, r2⟩
theorem Wk.callI {y : MethodName} {bytes' : ByteArray} {maxL' : Nat} {ret' : Option FieldType} {index W0 : Nat} {rm : Room} {Q : Option Value → Heap → Prop} {a : Addr} {argsL st0 : List Value} {ps : List FieldType} {rt : Option FieldType} (C : Cx Z own name bytes maxL ret p m meth c M) (hret' : ret' = none) (hy1 : y.name = "<init>") (w1 : (Jvm.Cond.methodLink own index y).before a0 Z = true) (w2 : (Jvm.Cond.instanceMethod y).before a0 Z = true) (w3 : (Jvm.Cond.initialized y.cls).before a0 Z = true) (w4 : (Jvm.Cond.code y bytes' maxL' ret').before a0 Z = true) (hy : y.cls ≠ "java/lang/invoke/MethodHandle" ∧ y.cls ≠ "java/lang/invoke/VarHandle")
    (hM : ∀ h, Own n0 h L → Meth l Z y bytes' maxL' ret' [] rm (.ref a :: argsL).toArray h n0 Q) (hf : rm.frames + 1 ≤ R.frames) (hl : W0 + (maxL' + 11) + rm.locals ≤ R.locals) (hk : k + rm.cells ≤ R.cells) (hn : n + rm.slots ≤ R.slots) (hd : decode bytes pc = .ok (.invokespecial index, 3)) (hsz : Ls.size = maxL) (hpd : parseMethodDescriptor y.desc = some ⟨ps, rt⟩) (hlen : argsL.length = ps.length) (hst : st0 = argsL.reverse ++ .ref a :: st) (hW : (st.map fun v => v.category).sum = W0) (hp : pc' = pc + 3)
    (W : ∀ v h', Q v h' → ∃ L', Own n0 h' L' ∧ Wk p l e R m args below meth c M P n0 L' (k + rm.cells) (n + rm.slots) pc' Ls (v.toList ++ st)) : Wk p l e R m args below meth c M P n0 L k n pc Ls (st0) := by
  subst hp hst
  intro s T locs X hMs hF hO
  subst hret'
  obtain ⟨hZ, hown⟩ := C.2.2.2.2.2.2.1 _ _ hMs
  obtain ⟨_, _, ⟨T1, L1, k1, n1⟩, -, X', ⟨Lc, hQ, l1, y1, z1⟩, stp⟩ := X.specialBack C.1 (y := y) hy1 hown (mvT hZ w1) (mvT hZ w2) (mvT hZ w4) hy (backOf (W := W0) (Q := fun v h' L => Q v h' ∧ T.heap.size ≤ h'.size ∧ Fr n0 L) (hM _ hO) hZ w4 w3 hf hl) (g := mkF m pc Ls (argsL.reverse ++ .ref a :: st)) rfl (hsz.trans C.2.2.1.symm) (Steps.refl _) (a := a) (argsL := argsL) (rest := st) (lenOf hpd hlen) rfl (by show 2 * 0 + _ ≤ _; omega) (hb C.2.1 hd) (fun _ _ => ⟨rfl, rfl, hk, hn⟩)
  dsimp only [Pt.U, Pt.locs, Pt.cells, Pt.slots] at X' l1 y1 z1 stp hQ
  subst l1 y1 z1
  obtain ⟨hQ1, hQ2, hQ3⟩ := hQ
  obtain ⟨L', O', W'⟩ := W _ _ hQ1
  obtain ⟨t, r1, r2⟩ := W' s T1 _ X' (C.2.2.2.2.2.2.2 s _ _ hQ2 hMs) (Fr.app hF hQ3) O'
  exact ⟨t, stp.trans r1, r2⟩
theorem Wk.callV {y : MethodName} {C' : String} {bytes' : ByteArray} {maxL' : Nat} {ret' : Option FieldType} {index W0 q : Nat} {rm : Room} {Q : Option Value → Heap → Prop} {a : Addr} {ks : List (String × String × String × FieldType)} {vs : List Value} {argsL st0 : List Value} {ps : List FieldType} {rt : Option FieldType} (C : Cx Z own name bytes maxL ret p m meth c M) (hL : L[q]? = some (a, ObjC Z C' ks vs)) (w1 : (Jvm.Cond.methodLink own index y).before a0 Z = true) (w5 : (Jvm.Cond.declares y).before a0 Z = true) (w6 : (Jvm.Cond.selects C' y y).before a0 Z = true) (w2 : (Jvm.Cond.instanceMethod y).before a0 Z = true) (w3 : (Jvm.Cond.initialized y.cls).before a0 Z = true) (w4 : (Jvm.Cond.code y bytes' maxL' ret').before a0 Z = true) (hy : y.cls ≠ "java/lang/invoke/MethodHandle" ∧ y.cls ≠ "java/lang/invoke/VarHandle")
    (hM : ∀ h, Own n0 h L → Meth l Z y bytes' maxL' ret' [] rm (.ref a :: argsL).toArray h n0 Q) (hf : rm.frames + 1 ≤ R.frames) (hl : W0 + (maxL' + 11) + rm.locals ≤ R.locals) (hk : k + rm.cells ≤ R.cells) (hn : n + rm.slots ≤ R.slots) (hd : decode bytes pc = .ok (.invokevirtual index, 3)) (hsz : Ls.size = maxL) (hpd : parseMethodDescriptor y.desc = some ⟨ps, rt⟩) (hlen : argsL.length = ps.length) (hst : st0 = argsL.reverse ++ .ref a :: st) (hW : (st.map fun v => v.category).sum = W0) (hp : pc' = pc + 3)
    (W : ∀ v h', Q v h' → ∃ L', Own n0 h' L' ∧ Wk p l e R m args below meth c M P n0 L' (k + rm.cells) (n + rm.slots) pc' Ls (v.toList ++ st)) : Wk p l e R m args below meth c M P n0 L k n pc Ls (st0) := by
  subst hp hst
  intro s T locs X hMs hF hO
  obtain ⟨hZ, hown⟩ := C.2.2.2.2.2.2.1 _ _ hMs
  obtain ⟨h0, cl, g1, g2, g3⟩ := hO.2.2 _ _ hL
  obtain ⟨cq, kq, qa, qb, qc⟩ := isOf hZ rfl (exa_of g1 g2)
  obtain ⟨_, _, ⟨T1, L1, k1, n1⟩, -, X', ⟨Lc, hQ, l1, y1, z1⟩, stp⟩ := X.virtualBack C.1 (y := y) (z := y) hown (mvT hZ w1) (mvT hZ w5) (notFace_of_selects (args := #[]) (mvT hZ w6)) (mvT hZ w6) (mvT hZ w2) hy (backOf (W := W0) (Q := fun v h' L => Q v h' ∧ T.heap.size ≤ h'.size ∧ Fr n0 L) (hM _ hO) hZ w4 w3 hf hl) qa qc (g := mkF m pc Ls (argsL.reverse ++ .ref a :: st)) rfl (hsz.trans C.2.2.1.symm) (Steps.refl _) (argsL := argsL) (rest := st) (lenOf hpd hlen) rfl (by show 2 * 0 + _ ≤ _; omega) (hb C.2.1 hd) (fun _ _ => ⟨rfl, rfl, hk, hn⟩)
  dsimp only [Pt.U, Pt.locs, Pt.cells, Pt.slots] at X' l1 y1 z1 stp hQ
  subst l1 y1 z1
  obtain ⟨hQ1, hQ2, hQ3⟩ := hQ
  obtain ⟨L', O', W'⟩ := W _ _ hQ1
  obtain ⟨t, r1, r2⟩ := W' s T1 _ X' (C.2.2.2.2.2.2.2 s _ _ hQ2 hMs) (Fr.app hF hQ3) O'
  exact ⟨t, stp.trans r1, r2⟩
end OwnKit
section OwnMore
variable {p : Program} {l : Launch} {e : Env} {R : Room} {m : MethodId} {args : Array Value} {below : List Frame} {meth : Method} {c : Code} {M : State → Heap → Prop} {P : State → Prop} {n0 : Nat} {Z : State} {a0 : Array Value} {own name : String} {bytes : ByteArray} {maxL : Nat} {ret : Option FieldType} {L : List (Addr × (Cell → Prop))} {k n pc pc' : Nat} {Ls Ls' : Array Slot} {st : List Value}
def vals (f : Nat → Int32) (n : Nat) : List Value := (List.range n).map fun i => .int (f i)
theorem vals_len (f : Nat → Int32) (n : Nat) : (vals f n).length = n := by simp [vals]
theorem vals_at (f : Nat → Int32) {n i : Nat} (h : i < n) : (vals f n)[i]? = some (.int (f i)) := by simp [vals, h]
theorem vals_getD (f : Nat → Int32) {n i : Nat} (d : Value) (h : i < n) : (vals f n).getD i d = .int (f i) := by rw [List.getD_eq_getElem?_getD, vals_at f h]; rfl
theorem clamp32 {n : Nat} (h : n < 2 ^ 31) : n.toInt32.toNatClampNeg = n ∧ ¬ n.toInt32 < 0 := by
  have e : n.toInt32.toInt = n := len_toInt h
  refine ⟨by show n.toInt32.toInt.toNat = n; omega, fun q => ?_⟩
  rw [Int32.lt_iff_toInt_lt] at q
  have : (0 : Int32).toInt = 0 := rfl
  omega
theorem clampI {z : Int32} {i : Nat} (h : z.toInt = (i : Int)) : z.toNatClampNeg = i ∧ ¬ z < 0 := by
  refine ⟨by show z.toInt.toNat = i; omega, fun q => ?_⟩
  rw [Int32.lt_iff_toInt_lt] at q
  have : (0 : Int32).toInt = 0 := rfl
  omega
theorem toArv {ty : FieldType} {f : Nat → Int32} {n : Nat} {h : Heap} {a : Addr} {c : Cell} (h1 : h[a]? = some c) (A : ArrC Z ty n f c) (hn : n < 2 ^ 31) : Arv Z h a c.cls ty n.toInt32 (vals f n) (.int 0) := by
  obtain ⟨A1, A2, A3, A4, A5, -⟩ := A
  have e := clamp32 hn
  exact ⟨c, ⟨h1, A1, A2⟩, rfl, by rw [A3, e.1], e.2, fun i hi => by rw [A3] at hi; rw [vals_getD f _ hi]; exact A4 i hi, fun i hi => by rw [A3] at hi; rw [vals_getD f _ hi]; exact A5 i hi⟩
theorem ofArv {ty : FieldType} {g : Nat → Int32} {n : Nat} {h : Heap} {a : Addr} {k : ClassId} {vs : List Value} {d : Value} (B : Arv Z h a k ty n.toInt32 vs d) (hn : n < 2 ^ 31) (hv : ∀ i, i < n → vs.getD i d = .int (g i)) (E : Exa Z h a ("[" ++ ty.toString)) : Hs h a (ArrC Z ty n g) := by
  obtain ⟨c, A, -, S, -, H, G⟩ := B
  have e := clamp32 hn
  rw [e.1] at S
  refine ⟨c, A.1, A.2.1, A.2.2, S, fun i hi => ?_, fun i hi => ?_, of_exa A.1 E⟩
  · rw [← hv i hi]; exact H i (by rw [S]; exact hi)
  · rw [← hv i hi]; exact G i (by rw [S]; exact hi)
def cpy (f g : Nat → Int32) (i j k : Nat) : Nat → Int32 := fun x => if j ≤ x ∧ x < j + k then f (i + (x - j)) else g x
theorem cpy_at (f g : Nat → Int32) {na nb i j k x : Nat} (d d' : Value) (h4 : i + k ≤ na) (h5 : j + k ≤ nb) (hx : x < nb) :
    ((vals g nb).take j ++ ((List.range k).map fun t => (vals f na).getD (i + t) d') ++ (vals g nb).drop (j + k)).getD x d = .int (cpy f g i j k x) := by
  have l1 : ((vals g nb).take j).length = j := by rw [List.length_take, vals_len]; omega
  have l2 : ((List.range k).map fun t => (vals f na).getD (i + t) d').length = k := by simp
  rw [List.getD_eq_getElem?_getD]
  unfold cpy
  by_cases h1 : x < j
  · rw [if_neg (by omega), List.append_assoc, List.getElem?_append_left (by rw [l1]; exact h1), List.getElem?_take_of_lt h1, vals_at g hx]; rfl
  · by_cases h2 : x < j + k
    · rw [if_pos ⟨by omega, h2⟩, List.getElem?_append_left (by rw [List.length_append, l1, l2]; exact h2), List.getElem?_append_right (by rw [l1]; omega), l1, List.getElem?_map, List.getElem?_range (by omega)]
      show ((vals f na).getD (i + (x - j)) d') = _
      rw [vals_getD f _ (by omega)]
    · rw [if_neg (by omega), List.getElem?_append_right (by rw [List.length_append, l1, l2]; omega), List.length_append, l1, l2, List.getElem?_drop, show j + k + (x - (j + k)) = x by omega, vals_at g hx]; rfl
theorem Wk.arraycopy {ty : FieldType} {a b : Addr} {f g : Nat → Int32} {na nb q1 q2 i j kk W0 index : Nat} {sp dp ln : Int32} (C : Cx Z own name bytes maxL ret p m meth c M) (w1 : (Jvm.Cond.methodLink own index Jvm.Stand.acN).before a0 Z = true) (w2 : (Jvm.Cond.native Jvm.Stand.acN).before a0 Z = true) (w3 : (Jvm.Cond.static Jvm.Stand.acN).before a0 Z = true) (w4 : (Jvm.Cond.initialized "java/lang/System").before a0 Z = true)
    (hd : decode bytes pc = .ok (.invokestatic index, 3)) (hq1 : L[q1]? = some (a, ArrC Z ty na f)) (hq2 : L[q2]? = some (b, ArrC Z ty nb g)) (hprim : refKind ty = false) (hna : na < 2 ^ 31) (hnb : nb < 2 ^ 31) (hsp : sp.toInt = (i : Int)) (hdp : dp.toInt = (j : Int)) (hln : ln.toInt = (kk : Int)) (h4 : i + kk ≤ na) (h5 : j + kk ≤ nb) (hsz : Ls.size = maxL) (hf : 1 ≤ R.frames) (hW : (st.map fun v => v.category).sum = W0) (hlo : W0 + (nativeFrameWords "java/lang/System" "arraycopy" 5 + 11) ≤ R.locals) (hp : pc' = pc + 3)
    (W : Wk p l e R m args below meth c M P n0 (L.set q2 (b, ArrC Z ty nb (cpy f g i j kk))) k n pc' Ls (st)) : Wk p l e R m args below meth c M P n0 L k n pc Ls (.int ln :: .int dp :: .ref b :: .int sp :: .ref a :: st) := by
  subst hp
  intro s T locs X hM hF hO
  obtain ⟨hZ, hown⟩ := C.2.2.2.2.2.2.1 _ _ hM
  obtain ⟨-, ca, ga, Aa⟩ := hO.2.2 _ _ hq1
  obtain ⟨hb0, cb, gb, Ab⟩ := hO.2.2 _ _ hq2
  have es := clampI hsp
  have ed := clampI hdp
  have el := clampI hln
  have ea := clamp32 hna
  have eb := clamp32 hnb
  obtain ⟨T', h', L', X', e', N', K', B', stp⟩ := cpA X C.1 hZ hown w1 w2 w3 w4 rfl (toArv ga Aa hna) (toArv gb Ab hnb) (Or.inl ⟨rfl, hprim⟩) es.2 ed.2 el.2 (by rw [es.1, el.1, ea.1]; exact h4) (by rw [ed.1, el.1, eb.1]; exact h5) rfl (by rw [ed.1, el.1, vals_len]; exact h5) hF hb0 (g := mkF m pc Ls (.int ln :: .int dp :: .ref b :: .int sp :: .ref a :: st)) rfl (hsz.trans C.2.2.1.symm) rfl (hb C.2.1 hd) hf (W := W0) (by show 2 * 0 + _ ≤ _; omega) hlo
  subst e'
  have E' : Exa Z T'.heap b ("[" ++ ty.toString) := (exa_of gb Ab.2.2.2.2.2).keep K'
  rw [es.1, ed.1, el.1] at B'
  have HB : Hs T'.heap b (ArrC Z ty nb (cpy f g i j kk)) := ofArv B' hnb (fun x hx => cpy_at f g _ _ h4 h5 hx) E'
  obtain ⟨t, r1, r2⟩ := W s T' L' X' (C.2.2.2.2.2.2.2 s _ _ K'.1 hM) N' (hO.set hq2 K'.1 (fun x cx hx hc => K'.2.1 x cx hc (fun q => hx (List.mem_singleton.mp q))) HB)
  exact ⟨t, stp t r1, r2⟩
theorem Wk.cloneA {ty : FieldType} {a : Addr} {f : Nat → Int32} {nn q W0 cap index : Nat} {ad : String} (C : Cx Z own name bytes maxL ret p m meth c M) (w1 : (Jvm.Cond.methodLink own index ⟨ad, "clone", "()Ljava/lang/Object;"⟩).before a0 Z = true) (w2 : (Jvm.Cond.sameMethod ad "java/lang/Object" "clone" "()Ljava/lang/Object;").before a0 Z = true) (w3 : (Jvm.Cond.native ⟨"java/lang/Object", "clone", "()Ljava/lang/Object;"⟩).before a0 Z = true) (w4 : (Jvm.Cond.instanceMethod ⟨"java/lang/Object", "clone", "()Ljava/lang/Object;"⟩).before a0 Z = true) (w5 : (Jvm.Cond.selects ad ⟨ad, "clone", "()Ljava/lang/Object;"⟩ ⟨"java/lang/Object", "clone", "()Ljava/lang/Object;"⟩).before a0 Z = true) (w6 : (Jvm.Cond.castable ad "java/lang/Cloneable").before a0 Z = true)
    (hd : decode bytes pc = .ok (.invokevirtual index, 3)) (had : "[" ++ ty.toString = ad) (hq : L[q]? = some (a, ArrC Z ty nn f)) (hnn : nn < 2 ^ 31) (hcap : nn ≤ cap) (hsz : Ls.size = maxL) (hf : 1 ≤ R.frames) (hW : (st.map fun v => v.category).sum = W0) (hlo : W0 + 14 ≤ R.locals) (hk : k + 1 ≤ R.cells) (hn : n + cap ≤ R.slots) (hp : pc' = pc + 3)
    (W : ∀ b : Addr, Wk p l e R m args below meth c M P n0 ((b, ArrC Z ty nn f) :: L) (k + 1) (n + cap) pc' Ls (.ref b :: st)) : Wk p l e R m args below meth c M P n0 L k n pc Ls (.ref a :: st) := by
  subst hp
  intro s T locs X hM hF hO
  obtain ⟨hZ, hown⟩ := C.2.2.2.2.2.2.1 _ _ hM
  obtain ⟨-, ca, ga, Aa⟩ := hO.2.2 _ _ hq
  have ea := clamp32 hnn
  obtain ⟨T', h', X', e', E, F', Ex, stp⟩ := cloneH X C.1 hZ hown w1 w2 w3 w4 w5 w6 rfl (toArv ga Aa hnn).arh (had ▸ exa_of ga Aa.2.2.2.2.2) (g := mkF m pc Ls (.ref a :: st)) rfl (hsz.trans C.2.2.1.symm) rfl (hb C.2.1 hd) hf (W := W0) (cap := cap) (by show 2 * 0 + _ ≤ _; omega) hlo (by rw [ea.1]; exact hcap) hk hn
  subst e'
  have HB : Hs T'.heap T.heap.size (ArrC Z ty nn f) := ofArv F' hnn (fun x hx => vals_getD f _ hx) (had ▸ Ex)
  obtain ⟨t, r1, r2⟩ := W T.heap.size s T' _ X' (C.2.2.2.2.2.2.2 s _ _ E.1 hM) hF (hO.cons E HB)
  exact ⟨t, stp t r1, r2⟩
theorem Wk.castA {ty : FieldType} {a : Addr} {f : Nat → Int32} {nn q index : Nat} {ad : String} (C : Cx Z own name bytes maxL ret p m meth c M) (w : (Jvm.Cond.classLink own index ad).before a0 Z = true) (hd : decode bytes pc = .ok (.checkcast index, 3)) (had : "[" ++ ty.toString = ad) (hq : L[q]? = some (a, ArrC Z ty nn f)) (hp : pc' = pc + 3)
    (W : Wk p l e R m args below meth c M P n0 L k n pc' Ls (.ref a :: st)) : Wk p l e R m args below meth c M P n0 L k n pc Ls (.ref a :: st) := by
  subst hp
  intro s T locs X hM hF hO
  obtain ⟨hZ, hown⟩ := C.2.2.2.2.2.2.1 _ _ hM
  obtain ⟨-, ca, ga, Aa⟩ := hO.2.2 _ _ hq
  have Ex : Exa Z T.heap a ad := had ▸ exa_of ga Aa.2.2.2.2.2
  obtain ⟨T', X', e', stp⟩ := castY X C.1 hZ hown w rfl (Ins.self Ex) (g := mkF m pc Ls (.ref a :: st)) rfl rfl (hb C.2.1 hd)
  rw [← e'] at hM hO
  obtain ⟨t, r1, r2⟩ := W s T' _ X' hM hF hO
  exact ⟨t, stp t r1, r2⟩
theorem notFace_same {C' : String} {y x' z : MethodName} (w : (Jvm.Cond.selects C' x' z).before a0 Z = true) (hc : y.cls = z.cls) : ∀ s : State, Z.Warmed39 s.vm → NotFace s y := by
  intro s hZ r0 h0
  obtain ⟨c2, r2, m2, -, -, q3, -, kP, hkP, hkPi⟩ := Cond.selects_spec (mvT (args := #[]) hZ w)
  have e1 := findClass_of_methodNamed h0
  have e2 := findClass_of_methodNamed q3
  rw [hc] at e1
  have e3 : r0.cls = m2.cls := Option.some.inj (e1.symm.trans e2)
  exact ⟨kP, e3 ▸ hkP, hkPi⟩
theorem mvMN {s : State} {args' : Array Value} {own' host : String} {y : MethodName} {index : Nat} (hZ : Z.Warmed39 s.vm) (w : (Jvm.Cond.methodLinkNest own' index y host).before a0 Z = true) : (Jvm.Cond.methodLinkNest own' index y host).before args' s = true := (Cond.methodLinkNest_wide hZ w :)
theorem Wk.callIN {y : MethodName} {host : String} {bytes' : ByteArray} {maxL' : Nat} {ret' : Option FieldType} {index W0 : Nat} {rm : Room} {Q : Option Value → Heap → Prop} {a : Addr} {argsL st0 : List Value} {ps : List FieldType} {rt : Option FieldType} (C : Cx Z own name bytes maxL ret p m meth c M) (hret' : ret' = none) (hy1 : y.name = "<init>") (w1 : (Jvm.Cond.methodLinkNest own index y host).before a0 Z = true) (w2 : (Jvm.Cond.instanceMethod y).before a0 Z = true) (w3 : (Jvm.Cond.initialized y.cls).before a0 Z = true) (w4 : (Jvm.Cond.code y bytes' maxL' ret').before a0 Z = true) (hy : y.cls ≠ "java/lang/invoke/MethodHandle" ∧ y.cls ≠ "java/lang/invoke/VarHandle")
    (hM : ∀ h, Own n0 h L → Meth l Z y bytes' maxL' ret' [] rm (.ref a :: argsL).toArray h n0 Q) (hf : rm.frames + 1 ≤ R.frames) (hl : W0 + (maxL' + 11) + rm.locals ≤ R.locals) (hk : k + rm.cells ≤ R.cells) (hn : n + rm.slots ≤ R.slots) (hd : decode bytes pc = .ok (.invokespecial index, 3)) (hsz : Ls.size = maxL) (hpd : parseMethodDescriptor y.desc = some ⟨ps, rt⟩) (hlen : argsL.length = ps.length) (hst : st0 = argsL.reverse ++ .ref a :: st) (hW : (st.map fun v => v.category).sum = W0) (hp : pc' = pc + 3)
    (W : ∀ v h', Q v h' → ∃ L', Own n0 h' L' ∧ Wk p l e R m args below meth c M P n0 L' (k + rm.cells) (n + rm.slots) pc' Ls (v.toList ++ st)) : Wk p l e R m args below meth c M P n0 L k n pc Ls (st0) := by
  subst hp hst hret'
  intro s T locs X hMs hF hO
  obtain ⟨hZ, hown⟩ := C.2.2.2.2.2.2.1 _ _ hMs
  obtain ⟨_, _, ⟨T1, L1, k1, n1⟩, -, X', ⟨Lc, hQ, l1, y1, z1⟩, stp⟩ := X.specialBackNest C.1 (y := y) hy1 hown (mvMN hZ w1) (mvT hZ w2) (mvT hZ w4) hy (backOf (W := W0) (Q := fun v h' L => Q v h' ∧ T.heap.size ≤ h'.size ∧ Fr n0 L) (hM _ hO) hZ w4 w3 hf hl) (g := mkF m pc Ls (argsL.reverse ++ .ref a :: st)) rfl (hsz.trans C.2.2.1.symm) (Steps.refl _) (a := a) (argsL := argsL) (rest := st) (lenOf hpd hlen) rfl (by show 2 * 0 + _ ≤ _; omega) (hb C.2.1 hd) (fun _ _ => ⟨rfl, rfl, hk, hn⟩)
  dsimp only [Pt.U, Pt.locs, Pt.cells, Pt.slots] at X' l1 y1 z1 stp hQ
  subst l1 y1 z1
  obtain ⟨hQ1, hQ2, hQ3⟩ := hQ
  obtain ⟨L', O', W'⟩ := W _ _ hQ1
  obtain ⟨t, r1, r2⟩ := W' s T1 _ X' (C.2.2.2.2.2.2.2 s _ _ hQ2 hMs) (Fr.app hF hQ3) O'
  exact ⟨t, stp.trans r1, r2⟩
theorem Wk.callP {y : MethodName} {C' : String} {bytes' : ByteArray} {maxL' : Nat} {ret' : Option FieldType} {index W0 q : Nat} {rm : Room} {Q : Option Value → Heap → Prop} {a : Addr} {ks : List (String × String × String × FieldType)} {vs : List Value} {argsL st0 : List Value} {ps : List FieldType} {rt : Option FieldType} (C : Cx Z own name bytes maxL ret p m meth c M) (hL : L[q]? = some (a, ObjC Z C' ks vs)) (w1 : (Jvm.Cond.methodLink own index y).before a0 Z = true) (w2 : (Jvm.Cond.instanceMethod y).before a0 Z = true) (w5 : (Jvm.Cond.privateMethod y).before a0 Z = true) (hnf : ∀ s : State, Z.Warmed39 s.vm → NotFace s y) (w3 : (Jvm.Cond.initialized y.cls).before a0 Z = true) (w4 : (Jvm.Cond.code y bytes' maxL' ret').before a0 Z = true) (hy : y.cls ≠ "java/lang/invoke/MethodHandle" ∧ y.cls ≠ "java/lang/invoke/VarHandle")
    (hM : ∀ h, Own n0 h L → Meth l Z y bytes' maxL' ret' [] rm (.ref a :: argsL).toArray h n0 Q) (hf : rm.frames + 1 ≤ R.frames) (hl : W0 + (maxL' + 11) + rm.locals ≤ R.locals) (hk : k + rm.cells ≤ R.cells) (hn : n + rm.slots ≤ R.slots) (hd : decode bytes pc = .ok (.invokevirtual index, 3)) (hsz : Ls.size = maxL) (hpd : parseMethodDescriptor y.desc = some ⟨ps, rt⟩) (hlen : argsL.length = ps.length) (hst : st0 = argsL.reverse ++ .ref a :: st) (hW : (st.map fun v => v.category).sum = W0) (hp : pc' = pc + 3)
    (W : ∀ v h', Q v h' → ∃ L', Own n0 h' L' ∧ Wk p l e R m args below meth c M P n0 L' (k + rm.cells) (n + rm.slots) pc' Ls (v.toList ++ st)) : Wk p l e R m args below meth c M P n0 L k n pc Ls (st0) := by
  subst hp hst
  intro s T locs X hMs hF hO
  obtain ⟨hZ, hown⟩ := C.2.2.2.2.2.2.1 _ _ hMs
  obtain ⟨h0, cl, g1, g2, g3⟩ := hO.2.2 _ _ hL
  have hobj : ∀ z, cl.vm ≠ .statics z := fun z r => by obtain ⟨_, -, -, x3, -⟩ := g2; rw [r] at x3; cases x3
  have v2 := mvT (args := args) hZ w2
  have v4 := mvT (args := args) hZ w4
  obtain ⟨mk, methM, hnamed, hmethM, hstM, habM⟩ := Cond.instanceMethod_spec v2
  obtain ⟨methM', cM, hmethM', -, -, -, -, -, -, hsigM⟩ := Cond.code_spec hnamed v4
  cases hmethM.symm.trans hmethM'
  obtain ⟨kP, hkP, hkPi⟩ := hnf s hZ mk hnamed
  have hselP : selectMethod e.platform s.vm cl.cls mk = .method mk := selectMethod_private hmethM (Cond.privateMethod_at (mvP (args := #[]) hZ w5) mk methM hnamed hmethM)
  obtain ⟨vm₁, X₁, hstep₁⟩ := X.invokevirtual C.1 hown (mvT hZ w1) hnamed hmethM hstM hkP hkPi hy (a := a) (cell := cl) g1 hobj hselP hmethM habM hkP hkPi (g := mkF m pc Ls (argsL.reverse ++ .ref a :: st)) rfl (argsL := argsL) (rest := st) (lenOf hpd hlen _ hsigM) rfl (hb C.2.1 hd)
  have hK := backOf (R := R) (p := p) (e := e) (below := below) (s := s) (args := args) (len := 3) (W := W0) (Q := fun v h' L => Q v h' ∧ T.heap.size ≤ h'.size ∧ Fr n0 L) (hM _ hO) hZ w4 w3 hf hl
  obtain ⟨v, ⟨T1, L1, k1, n1⟩, X', ⟨Lc, hQ, l1, y1, z1⟩, stp⟩ := hK m meth c ⟨T.setVm vm₁, locs, k, n⟩ { mkF m pc Ls (argsL.reverse ++ .ref a :: st) with stack := st } (.invokevirtual index) mk (.ref a :: argsL).toArray X₁ rfl (hsz.trans C.2.2.1.symm) (hb C.2.1 hd) (by show 2 * 0 + (st.map fun v => v.category).sum ≤ W0; omega) (X₁.named hnamed) ⟨rfl, rfl, hk, hn⟩
  dsimp only [Pt.U, Pt.locs, Pt.cells, Pt.slots] at X' l1 y1 z1 stp hQ
  subst l1 y1 z1
  obtain ⟨hQ1, hQ2, hQ3⟩ := hQ
  obtain ⟨L', O', W'⟩ := W _ _ hQ1
  obtain ⟨t, r1, r2⟩ := W' s T1 _ X' (C.2.2.2.2.2.2.2 s _ _ hQ2 hMs) (Fr.app hF hQ3) O'
  exact ⟨t, (hstep₁ _ fun acts => by rw [doInvoke_state]; exact Steps.refl _).trans (stp.trans r1), r2⟩
end OwnMore
abbrev HW (Z : State) (a0 : Array Value) : Prop := ∀ d ∈ tables_1, d.before a0 Z = true
theorem w0 {Z : State} {a0 : Array Value} (hw : HW Z a0) : (Jvm.Cond.methodLink "com/example/vole/vole/textprotocol/RequestLineReleasePinLaw" (7 : Nat) ({ cls := "com/example/vole/vole/textprotocol/RequestLineReleasePinLaw", name := "line", desc := "(II)[B" } : Jvm.MethodName)).before a0 Z = true := hw _ (List.mem_of_getElem? (i := 0) rfl)
theorem w1 {Z : State} {a0 : Array Value} (hw : HW Z a0) : (Jvm.Cond.static ({ cls := "com/example/vole/vole/textprotocol/RequestLineReleasePinLaw", name := "line", desc := "(II)[B" } : Jvm.MethodName)).before a0 Z = true := hw _ (List.mem_of_getElem? (i := 1) rfl)
theorem w2 {Z : State} {a0 : Array Value} (hw : HW Z a0) : (Jvm.Cond.initialized "com/example/vole/vole/textprotocol/RequestLineReleasePinLaw").before a0 Z = true := hw _ (List.mem_of_getElem? (i := 2) rfl)
theorem w3 {Z : State} {a0 : Array Value} (hw : HW Z a0) : (Jvm.Cond.code ({ cls := "com/example/vole/vole/textprotocol/RequestLineReleasePinLaw", name := "line", desc := "(II)[B" } : Jvm.MethodName) method_3_code (3 : Nat) (Option.some (Jvm.ClassFile.FieldType.array Jvm.ClassFile.FieldType.byte))).before a0 Z = true := hw _ (List.mem_of_getElem? (i := 3) rfl)
theorem w4 {Z : State} {a0 : Array Value} (hw : HW Z a0) : (Jvm.Cond.arrayClass Jvm.ClassFile.FieldType.byte).before a0 Z = true := hw _ (List.mem_of_getElem? (i := 4) rfl)
theorem w5 {Z : State} {a0 : Array Value} (hw : HW Z a0) : (Jvm.Cond.methodLink "com/example/vole/vole/textprotocol/RequestLineReleasePinLaw" (37 : Nat) ({ cls := "com/example/vole/vole/textprotocol/RequestLineReleasePinLaw", name := "pick", desc := "(III)B" } : Jvm.MethodName)).before a0 Z = true := hw _ (List.mem_of_getElem? (i := 5) rfl)
theorem w6 {Z : State} {a0 : Array Value} (hw : HW Z a0) : (Jvm.Cond.static ({ cls := "com/example/vole/vole/textprotocol/RequestLineReleasePinLaw", name := "pick", desc := "(III)B" } : Jvm.MethodName)).before a0 Z = true := hw _ (List.mem_of_getElem? (i := 6) rfl)
theorem w7 {Z : State} {a0 : Array Value} (hw : HW Z a0) : (Jvm.Cond.code ({ cls := "com/example/vole/vole/textprotocol/RequestLineReleasePinLaw", name := "pick", desc := "(III)B" } : Jvm.MethodName) method_4_code (3 : Nat) (Option.some Jvm.ClassFile.FieldType.byte)).before a0 Z = true := hw _ (List.mem_of_getElem? (i := 7) rfl)
theorem w8 {Z : State} {a0 : Array Value} (hw : HW Z a0) : (Jvm.Cond.classLink "com/example/vole/vole/textprotocol/RequestLineReleasePinLaw" (13 : Nat) "com/example/vole/vole/textprotocol/RequestLine").before a0 Z = true := hw _ (List.mem_of_getElem? (i := 8) rfl)
theorem w9 {Z : State} {a0 : Array Value} (hw : HW Z a0) : (Jvm.Cond.instantiable "com/example/vole/vole/textprotocol/RequestLine" (5 : Nat)).before a0 Z = true := hw _ (List.mem_of_getElem? (i := 9) rfl)
theorem w10 {Z : State} {a0 : Array Value} (hw : HW Z a0) : (Jvm.Cond.initialized "com/example/vole/vole/textprotocol/RequestLine").before a0 Z = true := hw _ (List.mem_of_getElem? (i := 10) rfl)
theorem w11 {Z : State} {a0 : Array Value} (hw : HW Z a0) : (Jvm.Cond.methodLink "com/example/vole/vole/textprotocol/RequestLineReleasePinLaw" (15 : Nat) ({ cls := "com/example/vole/vole/textprotocol/RequestLine", name := "<init>", desc := "()V" } : Jvm.MethodName)).before a0 Z = true := hw _ (List.mem_of_getElem? (i := 11) rfl)
theorem w12 {Z : State} {a0 : Array Value} (hw : HW Z a0) : (Jvm.Cond.instanceMethod ({ cls := "com/example/vole/vole/textprotocol/RequestLine", name := "<init>", desc := "()V" } : Jvm.MethodName)).before a0 Z = true := hw _ (List.mem_of_getElem? (i := 12) rfl)
theorem w13 {Z : State} {a0 : Array Value} (hw : HW Z a0) : (Jvm.Cond.code ({ cls := "com/example/vole/vole/textprotocol/RequestLine", name := "<init>", desc := "()V" } : Jvm.MethodName) prog_27_method_1_code (1 : Nat) (Option.none : Option Jvm.ClassFile.FieldType)).before a0 Z = true := hw _ (List.mem_of_getElem? (i := 13) rfl)
theorem w14 {Z : State} {a0 : Array Value} (hw : HW Z a0) : (Jvm.Cond.methodLink "com/example/vole/vole/textprotocol/RequestLine" (1 : Nat) ({ cls := "java/lang/Object", name := "<init>", desc := "()V" } : Jvm.MethodName)).before a0 Z = true := hw _ (List.mem_of_getElem? (i := 14) rfl)
theorem w15 {Z : State} {a0 : Array Value} (hw : HW Z a0) : (Jvm.Cond.instanceMethod ({ cls := "java/lang/Object", name := "<init>", desc := "()V" } : Jvm.MethodName)).before a0 Z = true := hw _ (List.mem_of_getElem? (i := 15) rfl)
theorem w16 {Z : State} {a0 : Array Value} (hw : HW Z a0) : (Jvm.Cond.code ({ cls := "java/lang/Object", name := "<init>", desc := "()V" } : Jvm.MethodName) object_method_1_code (1 : Nat) (Option.none : Option Jvm.ClassFile.FieldType)).before a0 Z = true := hw _ (List.mem_of_getElem? (i := 16) rfl)
theorem w17 {Z : State} {a0 : Array Value} (hw : HW Z a0) : (Jvm.Cond.arrayClass Jvm.ClassFile.FieldType.int).before a0 Z = true := hw _ (List.mem_of_getElem? (i := 17) rfl)
theorem w18 {Z : State} {a0 : Array Value} (hw : HW Z a0) : (Jvm.Cond.fieldLink "com/example/vole/vole/textprotocol/RequestLine" (9 : Nat) "com/example/vole/vole/textprotocol/RequestLine" "starts" "[I").before a0 Z = true := hw _ (List.mem_of_getElem? (i := 18) rfl)
theorem w19 {Z : State} {a0 : Array Value} (hw : HW Z a0) : (Jvm.Cond.lays "com/example/vole/vole/textprotocol/RequestLine" "com/example/vole/vole/textprotocol/RequestLine" "starts" "[I").before a0 Z = true := hw _ (List.mem_of_getElem? (i := 19) rfl)
theorem w20 {Z : State} {a0 : Array Value} (hw : HW Z a0) : (Jvm.Cond.fieldLink "com/example/vole/vole/textprotocol/RequestLine" (13 : Nat) "com/example/vole/vole/textprotocol/RequestLine" "ends" "[I").before a0 Z = true := hw _ (List.mem_of_getElem? (i := 20) rfl)
theorem w21 {Z : State} {a0 : Array Value} (hw : HW Z a0) : (Jvm.Cond.lays "com/example/vole/vole/textprotocol/RequestLine" "com/example/vole/vole/textprotocol/RequestLine" "ends" "[I").before a0 Z = true := hw _ (List.mem_of_getElem? (i := 21) rfl)
theorem w22 {Z : State} {a0 : Array Value} (hw : HW Z a0) : (Jvm.Cond.methodLink "com/example/vole/vole/textprotocol/RequestLineReleasePinLaw" (16 : Nat) ({ cls := "com/example/vole/vole/textprotocol/RequestLine", name := "split", desc := "([BII)V" } : Jvm.MethodName)).before a0 Z = true := hw _ (List.mem_of_getElem? (i := 22) rfl)
theorem w23 {Z : State} {a0 : Array Value} (hw : HW Z a0) : (Jvm.Cond.declares ({ cls := "com/example/vole/vole/textprotocol/RequestLine", name := "split", desc := "([BII)V" } : Jvm.MethodName)).before a0 Z = true := hw _ (List.mem_of_getElem? (i := 23) rfl)
theorem w24 {Z : State} {a0 : Array Value} (hw : HW Z a0) : (Jvm.Cond.instanceMethod ({ cls := "com/example/vole/vole/textprotocol/RequestLine", name := "split", desc := "([BII)V" } : Jvm.MethodName)).before a0 Z = true := hw _ (List.mem_of_getElem? (i := 24) rfl)
theorem w25 {Z : State} {a0 : Array Value} (hw : HW Z a0) : (Jvm.Cond.selects "com/example/vole/vole/textprotocol/RequestLine" ({ cls := "com/example/vole/vole/textprotocol/RequestLine", name := "split", desc := "([BII)V" } : Jvm.MethodName) ({ cls := "com/example/vole/vole/textprotocol/RequestLine", name := "split", desc := "([BII)V" } : Jvm.MethodName)).before a0 Z = true := hw _ (List.mem_of_getElem? (i := 25) rfl)
theorem w26 {Z : State} {a0 : Array Value} (hw : HW Z a0) : (Jvm.Cond.code ({ cls := "com/example/vole/vole/textprotocol/RequestLine", name := "split", desc := "([BII)V" } : Jvm.MethodName) prog_27_method_2_code (6 : Nat) (Option.none : Option Jvm.ClassFile.FieldType)).before a0 Z = true := hw _ (List.mem_of_getElem? (i := 26) rfl)
theorem w27 {Z : State} {a0 : Array Value} (hw : HW Z a0) : (Jvm.Cond.fieldLink "com/example/vole/vole/textprotocol/RequestLine" (16 : Nat) "com/example/vole/vole/textprotocol/RequestLine" "line" "[B").before a0 Z = true := hw _ (List.mem_of_getElem? (i := 27) rfl)
theorem w28 {Z : State} {a0 : Array Value} (hw : HW Z a0) : (Jvm.Cond.lays "com/example/vole/vole/textprotocol/RequestLine" "com/example/vole/vole/textprotocol/RequestLine" "line" "[B").before a0 Z = true := hw _ (List.mem_of_getElem? (i := 28) rfl)
theorem w29 {Z : State} {a0 : Array Value} (hw : HW Z a0) : (Jvm.Cond.fieldLink "com/example/vole/vole/textprotocol/RequestLine" (20 : Nat) "com/example/vole/vole/textprotocol/RequestLine" "detached" "Z").before a0 Z = true := hw _ (List.mem_of_getElem? (i := 29) rfl)
theorem w30 {Z : State} {a0 : Array Value} (hw : HW Z a0) : (Jvm.Cond.lays "com/example/vole/vole/textprotocol/RequestLine" "com/example/vole/vole/textprotocol/RequestLine" "detached" "Z").before a0 Z = true := hw _ (List.mem_of_getElem? (i := 30) rfl)
theorem w31 {Z : State} {a0 : Array Value} (hw : HW Z a0) : (Jvm.Cond.fieldLink "com/example/vole/vole/textprotocol/RequestLine" (24 : Nat) "com/example/vole/vole/textprotocol/RequestLine" "count" "I").before a0 Z = true := hw _ (List.mem_of_getElem? (i := 31) rfl)
theorem w32 {Z : State} {a0 : Array Value} (hw : HW Z a0) : (Jvm.Cond.lays "com/example/vole/vole/textprotocol/RequestLine" "com/example/vole/vole/textprotocol/RequestLine" "count" "I").before a0 Z = true := hw _ (List.mem_of_getElem? (i := 32) rfl)
theorem w33 {Z : State} {a0 : Array Value} (hw : HW Z a0) : (Jvm.Cond.methodLink "com/example/vole/vole/textprotocol/RequestLine" (28 : Nat) ({ cls := "com/example/vole/vole/textprotocol/RequestLine", name := "add", desc := "(II)V" } : Jvm.MethodName)).before a0 Z = true := hw _ (List.mem_of_getElem? (i := 33) rfl)
theorem w34 {Z : State} {a0 : Array Value} (hw : HW Z a0) : (Jvm.Cond.instanceMethod ({ cls := "com/example/vole/vole/textprotocol/RequestLine", name := "add", desc := "(II)V" } : Jvm.MethodName)).before a0 Z = true := hw _ (List.mem_of_getElem? (i := 34) rfl)
theorem w35 {Z : State} {a0 : Array Value} (hw : HW Z a0) : (Jvm.Cond.privateMethod ({ cls := "com/example/vole/vole/textprotocol/RequestLine", name := "add", desc := "(II)V" } : Jvm.MethodName)).before a0 Z = true := hw _ (List.mem_of_getElem? (i := 35) rfl)
theorem w36 {Z : State} {a0 : Array Value} (hw : HW Z a0) : (Jvm.Cond.code ({ cls := "com/example/vole/vole/textprotocol/RequestLine", name := "add", desc := "(II)V" } : Jvm.MethodName) prog_27_method_3_code (3 : Nat) (Option.none : Option Jvm.ClassFile.FieldType)).before a0 Z = true := hw _ (List.mem_of_getElem? (i := 36) rfl)
theorem w37 {Z : State} {a0 : Array Value} (hw : HW Z a0) : (Jvm.Cond.methodLink "com/example/vole/vole/textprotocol/RequestLineReleasePinLaw" (27 : Nat) ({ cls := "com/example/vole/vole/textprotocol/RequestLine", name := "release", desc := "()V" } : Jvm.MethodName)).before a0 Z = true := hw _ (List.mem_of_getElem? (i := 37) rfl)
theorem w38 {Z : State} {a0 : Array Value} (hw : HW Z a0) : (Jvm.Cond.declares ({ cls := "com/example/vole/vole/textprotocol/RequestLine", name := "release", desc := "()V" } : Jvm.MethodName)).before a0 Z = true := hw _ (List.mem_of_getElem? (i := 38) rfl)
theorem w39 {Z : State} {a0 : Array Value} (hw : HW Z a0) : (Jvm.Cond.instanceMethod ({ cls := "com/example/vole/vole/textprotocol/RequestLine", name := "release", desc := "()V" } : Jvm.MethodName)).before a0 Z = true := hw _ (List.mem_of_getElem? (i := 39) rfl)
theorem w40 {Z : State} {a0 : Array Value} (hw : HW Z a0) : (Jvm.Cond.selects "com/example/vole/vole/textprotocol/RequestLine" ({ cls := "com/example/vole/vole/textprotocol/RequestLine", name := "release", desc := "()V" } : Jvm.MethodName) ({ cls := "com/example/vole/vole/textprotocol/RequestLine", name := "release", desc := "()V" } : Jvm.MethodName)).before a0 Z = true := hw _ (List.mem_of_getElem? (i := 40) rfl)
theorem w41 {Z : State} {a0 : Array Value} (hw : HW Z a0) : (Jvm.Cond.code ({ cls := "com/example/vole/vole/textprotocol/RequestLine", name := "release", desc := "()V" } : Jvm.MethodName) prog_27_method_5_code (1 : Nat) (Option.none : Option Jvm.ClassFile.FieldType)).before a0 Z = true := hw _ (List.mem_of_getElem? (i := 41) rfl)
theorem w42 {Z : State} {a0 : Array Value} (hw : HW Z a0) : (Jvm.Cond.methodLink "com/example/vole/vole/textprotocol/RequestLineReleasePinLaw" (20 : Nat) ({ cls := "com/example/vole/vole/textprotocol/RequestLine", name := "count", desc := "()I" } : Jvm.MethodName)).before a0 Z = true := hw _ (List.mem_of_getElem? (i := 42) rfl)
theorem w43 {Z : State} {a0 : Array Value} (hw : HW Z a0) : (Jvm.Cond.declares ({ cls := "com/example/vole/vole/textprotocol/RequestLine", name := "count", desc := "()I" } : Jvm.MethodName)).before a0 Z = true := hw _ (List.mem_of_getElem? (i := 43) rfl)
theorem w44 {Z : State} {a0 : Array Value} (hw : HW Z a0) : (Jvm.Cond.instanceMethod ({ cls := "com/example/vole/vole/textprotocol/RequestLine", name := "count", desc := "()I" } : Jvm.MethodName)).before a0 Z = true := hw _ (List.mem_of_getElem? (i := 44) rfl)
theorem w45 {Z : State} {a0 : Array Value} (hw : HW Z a0) : (Jvm.Cond.selects "com/example/vole/vole/textprotocol/RequestLine" ({ cls := "com/example/vole/vole/textprotocol/RequestLine", name := "count", desc := "()I" } : Jvm.MethodName) ({ cls := "com/example/vole/vole/textprotocol/RequestLine", name := "count", desc := "()I" } : Jvm.MethodName)).before a0 Z = true := hw _ (List.mem_of_getElem? (i := 45) rfl)
theorem w46 {Z : State} {a0 : Array Value} (hw : HW Z a0) : (Jvm.Cond.code ({ cls := "com/example/vole/vole/textprotocol/RequestLine", name := "count", desc := "()I" } : Jvm.MethodName) prog_27_method_7_code (1 : Nat) (Option.some Jvm.ClassFile.FieldType.int)).before a0 Z = true := hw _ (List.mem_of_getElem? (i := 46) rfl)
theorem w47 {Z : State} {a0 : Array Value} (hw : HW Z a0) : (Jvm.Cond.methodLink "com/example/vole/vole/textprotocol/RequestLineReleasePinLaw" (30 : Nat) ({ cls := "com/example/vole/vole/textprotocol/RequestLine", name := "copiedLength", desc := "()I" } : Jvm.MethodName)).before a0 Z = true := hw _ (List.mem_of_getElem? (i := 47) rfl)
theorem w48 {Z : State} {a0 : Array Value} (hw : HW Z a0) : (Jvm.Cond.declares ({ cls := "com/example/vole/vole/textprotocol/RequestLine", name := "copiedLength", desc := "()I" } : Jvm.MethodName)).before a0 Z = true := hw _ (List.mem_of_getElem? (i := 48) rfl)
theorem w49 {Z : State} {a0 : Array Value} (hw : HW Z a0) : (Jvm.Cond.instanceMethod ({ cls := "com/example/vole/vole/textprotocol/RequestLine", name := "copiedLength", desc := "()I" } : Jvm.MethodName)).before a0 Z = true := hw _ (List.mem_of_getElem? (i := 49) rfl)
theorem w50 {Z : State} {a0 : Array Value} (hw : HW Z a0) : (Jvm.Cond.selects "com/example/vole/vole/textprotocol/RequestLine" ({ cls := "com/example/vole/vole/textprotocol/RequestLine", name := "copiedLength", desc := "()I" } : Jvm.MethodName) ({ cls := "com/example/vole/vole/textprotocol/RequestLine", name := "copiedLength", desc := "()I" } : Jvm.MethodName)).before a0 Z = true := hw _ (List.mem_of_getElem? (i := 50) rfl)
theorem w51 {Z : State} {a0 : Array Value} (hw : HW Z a0) : (Jvm.Cond.code ({ cls := "com/example/vole/vole/textprotocol/RequestLine", name := "copiedLength", desc := "()I" } : Jvm.MethodName) prog_27_method_6_code (1 : Nat) (Option.some Jvm.ClassFile.FieldType.int)).before a0 Z = true := hw _ (List.mem_of_getElem? (i := 51) rfl)
theorem w52 {Z : State} {a0 : Array Value} (hw : HW Z a0) : (Jvm.Cond.methodLink "com/example/vole/vole/textprotocol/RequestLineReleasePinLaw" (33 : Nat) ({ cls := "com/example/vole/vole/textprotocol/RequestLineReleasePinLaw", name := "tokens", desc := "([B)I" } : Jvm.MethodName)).before a0 Z = true := hw _ (List.mem_of_getElem? (i := 52) rfl)
theorem w53 {Z : State} {a0 : Array Value} (hw : HW Z a0) : (Jvm.Cond.static ({ cls := "com/example/vole/vole/textprotocol/RequestLineReleasePinLaw", name := "tokens", desc := "([B)I" } : Jvm.MethodName)).before a0 Z = true := hw _ (List.mem_of_getElem? (i := 53) rfl)
theorem w54 {Z : State} {a0 : Array Value} (hw : HW Z a0) : (Jvm.Cond.code ({ cls := "com/example/vole/vole/textprotocol/RequestLineReleasePinLaw", name := "tokens", desc := "([B)I" } : Jvm.MethodName) method_5_code (2 : Nat) (Option.some Jvm.ClassFile.FieldType.int)).before a0 Z = true := hw _ (List.mem_of_getElem? (i := 54) rfl)
theorem w55 {Z : State} {a0 : Array Value} (hw : HW Z a0) : (Jvm.Cond.methodLink "com/example/vole/vole/textprotocol/RequestLineReleasePinLaw" (24 : Nat) ({ cls := "com/example/vole/vole/textprotocol/RequestLine", name := "detach", desc := "()V" } : Jvm.MethodName)).before a0 Z = true := hw _ (List.mem_of_getElem? (i := 55) rfl)
theorem w56 {Z : State} {a0 : Array Value} (hw : HW Z a0) : (Jvm.Cond.declares ({ cls := "com/example/vole/vole/textprotocol/RequestLine", name := "detach", desc := "()V" } : Jvm.MethodName)).before a0 Z = true := hw _ (List.mem_of_getElem? (i := 56) rfl)
theorem w57 {Z : State} {a0 : Array Value} (hw : HW Z a0) : (Jvm.Cond.instanceMethod ({ cls := "com/example/vole/vole/textprotocol/RequestLine", name := "detach", desc := "()V" } : Jvm.MethodName)).before a0 Z = true := hw _ (List.mem_of_getElem? (i := 57) rfl)
theorem w58 {Z : State} {a0 : Array Value} (hw : HW Z a0) : (Jvm.Cond.selects "com/example/vole/vole/textprotocol/RequestLine" ({ cls := "com/example/vole/vole/textprotocol/RequestLine", name := "detach", desc := "()V" } : Jvm.MethodName) ({ cls := "com/example/vole/vole/textprotocol/RequestLine", name := "detach", desc := "()V" } : Jvm.MethodName)).before a0 Z = true := hw _ (List.mem_of_getElem? (i := 58) rfl)
theorem w59 {Z : State} {a0 : Array Value} (hw : HW Z a0) : (Jvm.Cond.code ({ cls := "com/example/vole/vole/textprotocol/RequestLine", name := "detach", desc := "()V" } : Jvm.MethodName) prog_27_method_4_code (3 : Nat) (Option.none : Option Jvm.ClassFile.FieldType)).before a0 Z = true := hw _ (List.mem_of_getElem? (i := 59) rfl)
theorem w60 {Z : State} {a0 : Array Value} (hw : HW Z a0) : (Jvm.Cond.methodLink "com/example/vole/vole/textprotocol/RequestLine" (38 : Nat) ({ cls := "java/util/Arrays", name := "copyOfRange", desc := "([BII)[B" } : Jvm.MethodName)).before a0 Z = true := hw _ (List.mem_of_getElem? (i := 60) rfl)
theorem w61 {Z : State} {a0 : Array Value} (hw : HW Z a0) : (Jvm.Cond.static ({ cls := "java/util/Arrays", name := "copyOfRange", desc := "([BII)[B" } : Jvm.MethodName)).before a0 Z = true := hw _ (List.mem_of_getElem? (i := 61) rfl)
theorem w62 {Z : State} {a0 : Array Value} (hw : HW Z a0) : (Jvm.Cond.initialized "java/util/Arrays").before a0 Z = true := hw _ (List.mem_of_getElem? (i := 62) rfl)
theorem w63 {Z : State} {a0 : Array Value} (hw : HW Z a0) : (Jvm.Cond.code ({ cls := "java/util/Arrays", name := "copyOfRange", desc := "([BII)[B" } : Jvm.MethodName) jdk_65_method_132_code (3 : Nat) (Option.some (Jvm.ClassFile.FieldType.array Jvm.ClassFile.FieldType.byte))).before a0 Z = true := hw _ (List.mem_of_getElem? (i := 63) rfl)
theorem w64 {Z : State} {a0 : Array Value} (hw : HW Z a0) : (Jvm.Cond.methodLink "java/util/Arrays" (339 : Nat) ({ cls := "java/util/Arrays", name := "copyOfRangeByte", desc := "([BII)[B" } : Jvm.MethodName)).before a0 Z = true := hw _ (List.mem_of_getElem? (i := 64) rfl)
theorem w65 {Z : State} {a0 : Array Value} (hw : HW Z a0) : (Jvm.Cond.static ({ cls := "java/util/Arrays", name := "copyOfRangeByte", desc := "([BII)[B" } : Jvm.MethodName)).before a0 Z = true := hw _ (List.mem_of_getElem? (i := 65) rfl)
theorem w66 {Z : State} {a0 : Array Value} (hw : HW Z a0) : (Jvm.Cond.code ({ cls := "java/util/Arrays", name := "copyOfRangeByte", desc := "([BII)[B" } : Jvm.MethodName) jdk_65_method_133_code (5 : Nat) (Option.some (Jvm.ClassFile.FieldType.array Jvm.ClassFile.FieldType.byte))).before a0 Z = true := hw _ (List.mem_of_getElem? (i := 66) rfl)
theorem w67 {Z : State} {a0 : Array Value} (hw : HW Z a0) : (Jvm.Cond.methodLink "java/util/Arrays" (343 : Nat) ({ cls := "java/util/Arrays", name := "checkLength", desc := "(II)V" } : Jvm.MethodName)).before a0 Z = true := hw _ (List.mem_of_getElem? (i := 67) rfl)
theorem w68 {Z : State} {a0 : Array Value} (hw : HW Z a0) : (Jvm.Cond.static ({ cls := "java/util/Arrays", name := "checkLength", desc := "(II)V" } : Jvm.MethodName)).before a0 Z = true := hw _ (List.mem_of_getElem? (i := 68) rfl)
theorem w69 {Z : State} {a0 : Array Value} (hw : HW Z a0) : (Jvm.Cond.code ({ cls := "java/util/Arrays", name := "checkLength", desc := "(II)V" } : Jvm.MethodName) jdk_65_method_131_code (2 : Nat) (Option.none : Option Jvm.ClassFile.FieldType)).before a0 Z = true := hw _ (List.mem_of_getElem? (i := 69) rfl)
theorem w70 {Z : State} {a0 : Array Value} (hw : HW Z a0) : (Jvm.Cond.methodLink "java/util/Arrays" (304 : Nat) ({ cls := "java/lang/Math", name := "min", desc := "(II)I" } : Jvm.MethodName)).before a0 Z = true := hw _ (List.mem_of_getElem? (i := 70) rfl)
theorem w71 {Z : State} {a0 : Array Value} (hw : HW Z a0) : (Jvm.Cond.static ({ cls := "java/lang/Math", name := "min", desc := "(II)I" } : Jvm.MethodName)).before a0 Z = true := hw _ (List.mem_of_getElem? (i := 71) rfl)
theorem w72 {Z : State} {a0 : Array Value} (hw : HW Z a0) : (Jvm.Cond.initialized "java/lang/Math").before a0 Z = true := hw _ (List.mem_of_getElem? (i := 72) rfl)
theorem w73 {Z : State} {a0 : Array Value} (hw : HW Z a0) : (Jvm.Cond.code ({ cls := "java/lang/Math", name := "min", desc := "(II)I" } : Jvm.MethodName) jdk_29_method_69_code (2 : Nat) (Option.some Jvm.ClassFile.FieldType.int)).before a0 Z = true := hw _ (List.mem_of_getElem? (i := 73) rfl)
theorem w74 {Z : State} {a0 : Array Value} (hw : HW Z a0) : (Jvm.Cond.methodLink "java/util/Arrays" (150 : Nat) ({ cls := "java/lang/System", name := "arraycopy", desc := "(Ljava/lang/Object;ILjava/lang/Object;II)V" } : Jvm.MethodName)).before a0 Z = true := hw _ (List.mem_of_getElem? (i := 74) rfl)
theorem w75 {Z : State} {a0 : Array Value} (hw : HW Z a0) : (Jvm.Cond.static ({ cls := "java/lang/System", name := "arraycopy", desc := "(Ljava/lang/Object;ILjava/lang/Object;II)V" } : Jvm.MethodName)).before a0 Z = true := hw _ (List.mem_of_getElem? (i := 75) rfl)
theorem w76 {Z : State} {a0 : Array Value} (hw : HW Z a0) : (Jvm.Cond.initialized "java/lang/System").before a0 Z = true := hw _ (List.mem_of_getElem? (i := 76) rfl)
theorem w77 {Z : State} {a0 : Array Value} (hw : HW Z a0) : (Jvm.Cond.native ({ cls := "java/lang/System", name := "arraycopy", desc := "(Ljava/lang/Object;ILjava/lang/Object;II)V" } : Jvm.MethodName)).before a0 Z = true := hw _ (List.mem_of_getElem? (i := 77) rfl)
theorem w78 {Z : State} {a0 : Array Value} (hw : HW Z a0) : (Jvm.Cond.methodLink "java/util/Arrays" (310 : Nat) ({ cls := "[B", name := "clone", desc := "()Ljava/lang/Object;" } : Jvm.MethodName)).before a0 Z = true := hw _ (List.mem_of_getElem? (i := 78) rfl)
theorem w79 {Z : State} {a0 : Array Value} (hw : HW Z a0) : (Jvm.Cond.sameMethod "[B" "java/lang/Object" "clone" "()Ljava/lang/Object;").before a0 Z = true := hw _ (List.mem_of_getElem? (i := 79) rfl)
theorem w81 {Z : State} {a0 : Array Value} (hw : HW Z a0) : (Jvm.Cond.instanceMethod ({ cls := "java/lang/Object", name := "clone", desc := "()Ljava/lang/Object;" } : Jvm.MethodName)).before a0 Z = true := hw _ (List.mem_of_getElem? (i := 81) rfl)
theorem w82 {Z : State} {a0 : Array Value} (hw : HW Z a0) : (Jvm.Cond.selects "[B" ({ cls := "[B", name := "clone", desc := "()Ljava/lang/Object;" } : Jvm.MethodName) ({ cls := "java/lang/Object", name := "clone", desc := "()Ljava/lang/Object;" } : Jvm.MethodName)).before a0 Z = true := hw _ (List.mem_of_getElem? (i := 82) rfl)
theorem w83 {Z : State} {a0 : Array Value} (hw : HW Z a0) : (Jvm.Cond.native ({ cls := "java/lang/Object", name := "clone", desc := "()Ljava/lang/Object;" } : Jvm.MethodName)).before a0 Z = true := hw _ (List.mem_of_getElem? (i := 83) rfl)
theorem w84 {Z : State} {a0 : Array Value} (hw : HW Z a0) : (Jvm.Cond.castable "[B" "java/lang/Cloneable").before a0 Z = true := hw _ (List.mem_of_getElem? (i := 84) rfl)
theorem w85 {Z : State} {a0 : Array Value} (hw : HW Z a0) : (Jvm.Cond.classLink "java/util/Arrays" (311 : Nat) "[B").before a0 Z = true := hw _ (List.mem_of_getElem? (i := 85) rfl)
theorem d1_0 : decode method_3_code 0 = .ok (.iconst 4, 1) := by decide +kernel
theorem d1_1 : decode method_3_code 1 = .ok (.newarray .byte, 2) := by decide +kernel
theorem d1_3 : decode method_3_code 3 = .ok (.astore_n 2, 1) := by decide +kernel
theorem d1_4 : decode method_3_code 4 = .ok (.aload_n 2, 1) := by decide +kernel
theorem d1_5 : decode method_3_code 5 = .ok (.iconst 0, 1) := by decide +kernel
theorem d1_6 : decode method_3_code 6 = .ok (.iload_n 0, 1) := by decide +kernel
theorem d1_7 : decode method_3_code 7 = .ok (.iload_n 1, 1) := by decide +kernel
theorem d1_8 : decode method_3_code 8 = .ok (.iconst 0, 1) := by decide +kernel
theorem d1_9 : decode method_3_code 9 = .ok (.invokestatic 37, 3) := by decide +kernel
theorem d1_12 : decode method_3_code 12 = .ok (.bastore, 1) := by decide +kernel
theorem d1_13 : decode method_3_code 13 = .ok (.aload_n 2, 1) := by decide +kernel
theorem d1_14 : decode method_3_code 14 = .ok (.iconst 1, 1) := by decide +kernel
theorem d1_15 : decode method_3_code 15 = .ok (.iload_n 0, 1) := by decide +kernel
theorem d1_16 : decode method_3_code 16 = .ok (.iload_n 1, 1) := by decide +kernel
theorem d1_17 : decode method_3_code 17 = .ok (.iconst 1, 1) := by decide +kernel
theorem d1_18 : decode method_3_code 18 = .ok (.invokestatic 37, 3) := by decide +kernel
theorem d1_21 : decode method_3_code 21 = .ok (.bastore, 1) := by decide +kernel
theorem d1_22 : decode method_3_code 22 = .ok (.aload_n 2, 1) := by decide +kernel
theorem d1_23 : decode method_3_code 23 = .ok (.iconst 2, 1) := by decide +kernel
theorem d1_24 : decode method_3_code 24 = .ok (.iload_n 0, 1) := by decide +kernel
theorem d1_25 : decode method_3_code 25 = .ok (.iload_n 1, 1) := by decide +kernel
theorem d1_26 : decode method_3_code 26 = .ok (.iconst 2, 1) := by decide +kernel
theorem d1_27 : decode method_3_code 27 = .ok (.invokestatic 37, 3) := by decide +kernel
theorem d1_30 : decode method_3_code 30 = .ok (.bastore, 1) := by decide +kernel
theorem d1_31 : decode method_3_code 31 = .ok (.aload_n 2, 1) := by decide +kernel
theorem d1_32 : decode method_3_code 32 = .ok (.iconst 3, 1) := by decide +kernel
theorem d1_33 : decode method_3_code 33 = .ok (.iload_n 0, 1) := by decide +kernel
theorem d1_34 : decode method_3_code 34 = .ok (.iload_n 1, 1) := by decide +kernel
theorem d1_35 : decode method_3_code 35 = .ok (.iconst 3, 1) := by decide +kernel
theorem d1_36 : decode method_3_code 36 = .ok (.invokestatic 37, 3) := by decide +kernel
theorem d1_39 : decode method_3_code 39 = .ok (.bastore, 1) := by decide +kernel
theorem d1_40 : decode method_3_code 40 = .ok (.aload_n 2, 1) := by decide +kernel
theorem d1_41 : decode method_3_code 41 = .ok (.areturn, 1) := by decide +kernel
theorem d2_0 : decode method_4_code 0 = .ok (.iload_n 0, 1) := by decide +kernel
theorem d2_1 : decode method_4_code 1 = .ok (.iload_n 2, 1) := by decide +kernel
theorem d2_2 : decode method_4_code 2 = .ok (.iushr, 1) := by decide +kernel
theorem d2_3 : decode method_4_code 3 = .ok (.iconst 1, 1) := by decide +kernel
theorem d2_4 : decode method_4_code 4 = .ok (.iand, 1) := by decide +kernel
theorem d2_5 : decode method_4_code 5 = .ok (.ifCond .eq 6, 3) := by decide +kernel
theorem d2_8 : decode method_4_code 8 = .ok (.bipush 32, 2) := by decide +kernel
theorem d2_10 : decode method_4_code 10 = .ok (.ireturn, 1) := by decide +kernel
theorem d2_11 : decode method_4_code 11 = .ok (.iload_n 1, 1) := by decide +kernel
theorem d2_12 : decode method_4_code 12 = .ok (.bipush 8, 2) := by decide +kernel
theorem d2_14 : decode method_4_code 14 = .ok (.iload_n 2, 1) := by decide +kernel
theorem d2_15 : decode method_4_code 15 = .ok (.imul, 1) := by decide +kernel
theorem d2_16 : decode method_4_code 16 = .ok (.iushr, 1) := by decide +kernel
theorem d2_17 : decode method_4_code 17 = .ok (.i2b, 1) := by decide +kernel
theorem d2_18 : decode method_4_code 18 = .ok (.ireturn, 1) := by decide +kernel
theorem d3_0 : decode prog_27_method_1_code 0 = .ok (.aload_n 0, 1) := by decide +kernel
theorem d3_1 : decode prog_27_method_1_code 1 = .ok (.invokespecial 1, 3) := by decide +kernel
theorem d3_4 : decode prog_27_method_1_code 4 = .ok (.aload_n 0, 1) := by decide +kernel
theorem d3_5 : decode prog_27_method_1_code 5 = .ok (.bipush 8, 2) := by decide +kernel
theorem d3_7 : decode prog_27_method_1_code 7 = .ok (.newarray .int, 2) := by decide +kernel
theorem d3_9 : decode prog_27_method_1_code 9 = .ok (.putfield 9, 3) := by decide +kernel
theorem d3_12 : decode prog_27_method_1_code 12 = .ok (.aload_n 0, 1) := by decide +kernel
theorem d3_13 : decode prog_27_method_1_code 13 = .ok (.bipush 8, 2) := by decide +kernel
theorem d3_15 : decode prog_27_method_1_code 15 = .ok (.newarray .int, 2) := by decide +kernel
theorem d3_17 : decode prog_27_method_1_code 17 = .ok (.putfield 13, 3) := by decide +kernel
theorem d3_20 : decode prog_27_method_1_code 20 = .ok (.return_, 1) := by decide +kernel
theorem d5_0 : decode prog_27_method_2_code 0 = .ok (.aload_n 0, 1) := by decide +kernel
theorem d5_1 : decode prog_27_method_2_code 1 = .ok (.aload_n 1, 1) := by decide +kernel
theorem d5_2 : decode prog_27_method_2_code 2 = .ok (.putfield 16, 3) := by decide +kernel
theorem d5_5 : decode prog_27_method_2_code 5 = .ok (.aload_n 0, 1) := by decide +kernel
theorem d5_6 : decode prog_27_method_2_code 6 = .ok (.iconst 0, 1) := by decide +kernel
theorem d5_7 : decode prog_27_method_2_code 7 = .ok (.putfield 20, 3) := by decide +kernel
theorem d5_10 : decode prog_27_method_2_code 10 = .ok (.aload_n 0, 1) := by decide +kernel
theorem d5_11 : decode prog_27_method_2_code 11 = .ok (.iconst 0, 1) := by decide +kernel
theorem d5_12 : decode prog_27_method_2_code 12 = .ok (.putfield 24, 3) := by decide +kernel
theorem d5_15 : decode prog_27_method_2_code 15 = .ok (.iload_n 2, 1) := by decide +kernel
theorem d5_16 : decode prog_27_method_2_code 16 = .ok (.istore 4, 2) := by decide +kernel
theorem d5_18 : decode prog_27_method_2_code 18 = .ok (.iload 4, 2) := by decide +kernel
theorem d5_20 : decode prog_27_method_2_code 20 = .ok (.iload_n 3, 1) := by decide +kernel
theorem d5_21 : decode prog_27_method_2_code 21 = .ok (.if_icmp .ge 54, 3) := by decide +kernel
theorem d5_24 : decode prog_27_method_2_code 24 = .ok (.aload_n 1, 1) := by decide +kernel
theorem d5_25 : decode prog_27_method_2_code 25 = .ok (.iload 4, 2) := by decide +kernel
theorem d5_27 : decode prog_27_method_2_code 27 = .ok (.baload, 1) := by decide +kernel
theorem d5_28 : decode prog_27_method_2_code 28 = .ok (.bipush 32, 2) := by decide +kernel
theorem d5_30 : decode prog_27_method_2_code 30 = .ok (.if_icmp .ne 9, 3) := by decide +kernel
theorem d5_33 : decode prog_27_method_2_code 33 = .ok (.iinc 4 1, 3) := by decide +kernel
theorem d5_36 : decode prog_27_method_2_code 36 = .ok (.goto (-18), 3) := by decide +kernel
theorem d5_39 : decode prog_27_method_2_code 39 = .ok (.iload 4, 2) := by decide +kernel
theorem d5_41 : decode prog_27_method_2_code 41 = .ok (.istore 5, 2) := by decide +kernel
theorem d5_43 : decode prog_27_method_2_code 43 = .ok (.iload 4, 2) := by decide +kernel
theorem d5_45 : decode prog_27_method_2_code 45 = .ok (.iload_n 3, 1) := by decide +kernel
theorem d5_46 : decode prog_27_method_2_code 46 = .ok (.if_icmp .ge 18, 3) := by decide +kernel
theorem d5_49 : decode prog_27_method_2_code 49 = .ok (.aload_n 1, 1) := by decide +kernel
theorem d5_50 : decode prog_27_method_2_code 50 = .ok (.iload 4, 2) := by decide +kernel
theorem d5_52 : decode prog_27_method_2_code 52 = .ok (.baload, 1) := by decide +kernel
theorem d5_53 : decode prog_27_method_2_code 53 = .ok (.bipush 32, 2) := by decide +kernel
theorem d5_55 : decode prog_27_method_2_code 55 = .ok (.if_icmp .eq 9, 3) := by decide +kernel
theorem d5_58 : decode prog_27_method_2_code 58 = .ok (.iinc 4 1, 3) := by decide +kernel
theorem d5_61 : decode prog_27_method_2_code 61 = .ok (.goto (-18), 3) := by decide +kernel
theorem d5_64 : decode prog_27_method_2_code 64 = .ok (.aload_n 0, 1) := by decide +kernel
theorem d5_65 : decode prog_27_method_2_code 65 = .ok (.iload 5, 2) := by decide +kernel
theorem d5_67 : decode prog_27_method_2_code 67 = .ok (.iload 4, 2) := by decide +kernel
theorem d5_69 : decode prog_27_method_2_code 69 = .ok (.invokevirtual 28, 3) := by decide +kernel
theorem d5_72 : decode prog_27_method_2_code 72 = .ok (.goto (-54), 3) := by decide +kernel
theorem d5_75 : decode prog_27_method_2_code 75 = .ok (.return_, 1) := by decide +kernel
theorem d6_0 : decode prog_27_method_3_code 0 = .ok (.aload_n 0, 1) := by decide +kernel
theorem d6_1 : decode prog_27_method_3_code 1 = .ok (.getfield 24, 3) := by decide +kernel
theorem d6_4 : decode prog_27_method_3_code 4 = .ok (.aload_n 0, 1) := by decide +kernel
theorem d6_5 : decode prog_27_method_3_code 5 = .ok (.getfield 9, 3) := by decide +kernel
theorem d6_8 : decode prog_27_method_3_code 8 = .ok (.arraylength, 1) := by decide +kernel
theorem d6_9 : decode prog_27_method_3_code 9 = .ok (.if_icmp .ne 37, 3) := by decide +kernel
theorem d6_46 : decode prog_27_method_3_code 46 = .ok (.aload_n 0, 1) := by decide +kernel
theorem d6_47 : decode prog_27_method_3_code 47 = .ok (.getfield 9, 3) := by decide +kernel
theorem d6_50 : decode prog_27_method_3_code 50 = .ok (.aload_n 0, 1) := by decide +kernel
theorem d6_51 : decode prog_27_method_3_code 51 = .ok (.getfield 24, 3) := by decide +kernel
theorem d6_54 : decode prog_27_method_3_code 54 = .ok (.iload_n 1, 1) := by decide +kernel
theorem d6_55 : decode prog_27_method_3_code 55 = .ok (.iastore, 1) := by decide +kernel
theorem d6_56 : decode prog_27_method_3_code 56 = .ok (.aload_n 0, 1) := by decide +kernel
theorem d6_57 : decode prog_27_method_3_code 57 = .ok (.getfield 13, 3) := by decide +kernel
theorem d6_60 : decode prog_27_method_3_code 60 = .ok (.aload_n 0, 1) := by decide +kernel
theorem d6_61 : decode prog_27_method_3_code 61 = .ok (.getfield 24, 3) := by decide +kernel
theorem d6_64 : decode prog_27_method_3_code 64 = .ok (.iload_n 2, 1) := by decide +kernel
theorem d6_65 : decode prog_27_method_3_code 65 = .ok (.iastore, 1) := by decide +kernel
theorem d6_66 : decode prog_27_method_3_code 66 = .ok (.aload_n 0, 1) := by decide +kernel
theorem d6_67 : decode prog_27_method_3_code 67 = .ok (.dup, 1) := by decide +kernel
theorem d6_68 : decode prog_27_method_3_code 68 = .ok (.getfield 24, 3) := by decide +kernel
theorem d6_71 : decode prog_27_method_3_code 71 = .ok (.iconst 1, 1) := by decide +kernel
theorem d6_72 : decode prog_27_method_3_code 72 = .ok (.iadd, 1) := by decide +kernel
theorem d6_73 : decode prog_27_method_3_code 73 = .ok (.putfield 24, 3) := by decide +kernel
theorem d6_76 : decode prog_27_method_3_code 76 = .ok (.return_, 1) := by decide +kernel
theorem d7_0 : decode prog_27_method_5_code 0 = .ok (.aload_n 0, 1) := by decide +kernel
theorem d7_1 : decode prog_27_method_5_code 1 = .ok (.aconst_null, 1) := by decide +kernel
theorem d7_2 : decode prog_27_method_5_code 2 = .ok (.putfield 16, 3) := by decide +kernel
theorem d7_5 : decode prog_27_method_5_code 5 = .ok (.aload_n 0, 1) := by decide +kernel
theorem d7_6 : decode prog_27_method_5_code 6 = .ok (.iconst 0, 1) := by decide +kernel
theorem d7_7 : decode prog_27_method_5_code 7 = .ok (.putfield 20, 3) := by decide +kernel
theorem d7_10 : decode prog_27_method_5_code 10 = .ok (.aload_n 0, 1) := by decide +kernel
theorem d7_11 : decode prog_27_method_5_code 11 = .ok (.iconst 0, 1) := by decide +kernel
theorem d7_12 : decode prog_27_method_5_code 12 = .ok (.putfield 24, 3) := by decide +kernel
theorem d7_15 : decode prog_27_method_5_code 15 = .ok (.aload_n 0, 1) := by decide +kernel
theorem d7_16 : decode prog_27_method_5_code 16 = .ok (.getfield 9, 3) := by decide +kernel
theorem d7_19 : decode prog_27_method_5_code 19 = .ok (.arraylength, 1) := by decide +kernel
theorem d7_20 : decode prog_27_method_5_code 20 = .ok (.sipush 1024, 3) := by decide +kernel
theorem d7_23 : decode prog_27_method_5_code 23 = .ok (.if_icmp .le 19, 3) := by decide +kernel
theorem d7_42 : decode prog_27_method_5_code 42 = .ok (.return_, 1) := by decide +kernel
theorem d8_0 : decode prog_27_method_7_code 0 = .ok (.aload_n 0, 1) := by decide +kernel
theorem d8_1 : decode prog_27_method_7_code 1 = .ok (.getfield 24, 3) := by decide +kernel
theorem d8_4 : decode prog_27_method_7_code 4 = .ok (.ireturn, 1) := by decide +kernel
theorem d9_0 : decode prog_27_method_6_code 0 = .ok (.aload_n 0, 1) := by decide +kernel
theorem d9_1 : decode prog_27_method_6_code 1 = .ok (.getfield 20, 3) := by decide +kernel
theorem d9_4 : decode prog_27_method_6_code 4 = .ok (.ifCond .eq 11, 3) := by decide +kernel
theorem d9_15 : decode prog_27_method_6_code 15 = .ok (.iconst 0, 1) := by decide +kernel
theorem d9_16 : decode prog_27_method_6_code 16 = .ok (.ireturn, 1) := by decide +kernel
theorem d10_0 : decode method_5_code 0 = .ok (.iconst 0, 1) := by decide +kernel
theorem d10_1 : decode method_5_code 1 = .ok (.istore_n 1, 1) := by decide +kernel
theorem d10_2 : decode method_5_code 2 = .ok (.aload_n 0, 1) := by decide +kernel
theorem d10_3 : decode method_5_code 3 = .ok (.iconst 0, 1) := by decide +kernel
theorem d10_4 : decode method_5_code 4 = .ok (.baload, 1) := by decide +kernel
theorem d10_5 : decode method_5_code 5 = .ok (.bipush 32, 2) := by decide +kernel
theorem d10_7 : decode method_5_code 7 = .ok (.if_icmp .eq 6, 3) := by decide +kernel
theorem d10_10 : decode method_5_code 10 = .ok (.iinc 1 1, 3) := by decide +kernel
theorem d10_13 : decode method_5_code 13 = .ok (.aload_n 0, 1) := by decide +kernel
theorem d10_14 : decode method_5_code 14 = .ok (.iconst 1, 1) := by decide +kernel
theorem d10_15 : decode method_5_code 15 = .ok (.baload, 1) := by decide +kernel
theorem d10_16 : decode method_5_code 16 = .ok (.bipush 32, 2) := by decide +kernel
theorem d10_18 : decode method_5_code 18 = .ok (.if_icmp .eq 14, 3) := by decide +kernel
theorem d10_21 : decode method_5_code 21 = .ok (.aload_n 0, 1) := by decide +kernel
theorem d10_22 : decode method_5_code 22 = .ok (.iconst 0, 1) := by decide +kernel
theorem d10_23 : decode method_5_code 23 = .ok (.baload, 1) := by decide +kernel
theorem d10_24 : decode method_5_code 24 = .ok (.bipush 32, 2) := by decide +kernel
theorem d10_26 : decode method_5_code 26 = .ok (.if_icmp .ne 6, 3) := by decide +kernel
theorem d10_29 : decode method_5_code 29 = .ok (.iinc 1 1, 3) := by decide +kernel
theorem d10_32 : decode method_5_code 32 = .ok (.aload_n 0, 1) := by decide +kernel
theorem d10_33 : decode method_5_code 33 = .ok (.iconst 2, 1) := by decide +kernel
theorem d10_34 : decode method_5_code 34 = .ok (.baload, 1) := by decide +kernel
theorem d10_35 : decode method_5_code 35 = .ok (.bipush 32, 2) := by decide +kernel
theorem d10_37 : decode method_5_code 37 = .ok (.if_icmp .eq 14, 3) := by decide +kernel
theorem d10_40 : decode method_5_code 40 = .ok (.aload_n 0, 1) := by decide +kernel
theorem d10_41 : decode method_5_code 41 = .ok (.iconst 1, 1) := by decide +kernel
theorem d10_42 : decode method_5_code 42 = .ok (.baload, 1) := by decide +kernel
theorem d10_43 : decode method_5_code 43 = .ok (.bipush 32, 2) := by decide +kernel
theorem d10_45 : decode method_5_code 45 = .ok (.if_icmp .ne 6, 3) := by decide +kernel
theorem d10_48 : decode method_5_code 48 = .ok (.iinc 1 1, 3) := by decide +kernel
theorem d10_51 : decode method_5_code 51 = .ok (.aload_n 0, 1) := by decide +kernel
theorem d10_52 : decode method_5_code 52 = .ok (.iconst 3, 1) := by decide +kernel
theorem d10_53 : decode method_5_code 53 = .ok (.baload, 1) := by decide +kernel
theorem d10_54 : decode method_5_code 54 = .ok (.bipush 32, 2) := by decide +kernel
theorem d10_56 : decode method_5_code 56 = .ok (.if_icmp .eq 14, 3) := by decide +kernel
theorem d10_59 : decode method_5_code 59 = .ok (.aload_n 0, 1) := by decide +kernel
theorem d10_60 : decode method_5_code 60 = .ok (.iconst 2, 1) := by decide +kernel
theorem d10_61 : decode method_5_code 61 = .ok (.baload, 1) := by decide +kernel
theorem d10_62 : decode method_5_code 62 = .ok (.bipush 32, 2) := by decide +kernel
theorem d10_64 : decode method_5_code 64 = .ok (.if_icmp .ne 6, 3) := by decide +kernel
theorem d10_67 : decode method_5_code 67 = .ok (.iinc 1 1, 3) := by decide +kernel
theorem d10_70 : decode method_5_code 70 = .ok (.iload_n 1, 1) := by decide +kernel
theorem d10_71 : decode method_5_code 71 = .ok (.ireturn, 1) := by decide +kernel
theorem d11_0 : decode prog_27_method_4_code 0 = .ok (.aload_n 0, 1) := by decide +kernel
theorem d11_1 : decode prog_27_method_4_code 1 = .ok (.getfield 9, 3) := by decide +kernel
theorem d11_4 : decode prog_27_method_4_code 4 = .ok (.iconst 0, 1) := by decide +kernel
theorem d11_5 : decode prog_27_method_4_code 5 = .ok (.iaload, 1) := by decide +kernel
theorem d11_6 : decode prog_27_method_4_code 6 = .ok (.istore_n 1, 1) := by decide +kernel
theorem d11_7 : decode prog_27_method_4_code 7 = .ok (.aload_n 0, 1) := by decide +kernel
theorem d11_8 : decode prog_27_method_4_code 8 = .ok (.aload_n 0, 1) := by decide +kernel
theorem d11_9 : decode prog_27_method_4_code 9 = .ok (.getfield 16, 3) := by decide +kernel
theorem d11_12 : decode prog_27_method_4_code 12 = .ok (.iload_n 1, 1) := by decide +kernel
theorem d11_13 : decode prog_27_method_4_code 13 = .ok (.aload_n 0, 1) := by decide +kernel
theorem d11_14 : decode prog_27_method_4_code 14 = .ok (.getfield 13, 3) := by decide +kernel
theorem d11_17 : decode prog_27_method_4_code 17 = .ok (.aload_n 0, 1) := by decide +kernel
theorem d11_18 : decode prog_27_method_4_code 18 = .ok (.getfield 24, 3) := by decide +kernel
theorem d11_21 : decode prog_27_method_4_code 21 = .ok (.iconst 1, 1) := by decide +kernel
theorem d11_22 : decode prog_27_method_4_code 22 = .ok (.isub, 1) := by decide +kernel
theorem d11_23 : decode prog_27_method_4_code 23 = .ok (.iaload, 1) := by decide +kernel
theorem d11_24 : decode prog_27_method_4_code 24 = .ok (.invokestatic 38, 3) := by decide +kernel
theorem d11_27 : decode prog_27_method_4_code 27 = .ok (.putfield 16, 3) := by decide +kernel
theorem d11_30 : decode prog_27_method_4_code 30 = .ok (.aload_n 0, 1) := by decide +kernel
theorem d11_31 : decode prog_27_method_4_code 31 = .ok (.iconst 1, 1) := by decide +kernel
theorem d11_32 : decode prog_27_method_4_code 32 = .ok (.putfield 20, 3) := by decide +kernel
theorem d11_35 : decode prog_27_method_4_code 35 = .ok (.iconst 0, 1) := by decide +kernel
theorem d11_36 : decode prog_27_method_4_code 36 = .ok (.istore_n 2, 1) := by decide +kernel
theorem d11_37 : decode prog_27_method_4_code 37 = .ok (.iload_n 2, 1) := by decide +kernel
theorem d11_38 : decode prog_27_method_4_code 38 = .ok (.aload_n 0, 1) := by decide +kernel
theorem d11_39 : decode prog_27_method_4_code 39 = .ok (.getfield 24, 3) := by decide +kernel
theorem d11_42 : decode prog_27_method_4_code 42 = .ok (.if_icmp .ge 29, 3) := by decide +kernel
theorem d11_45 : decode prog_27_method_4_code 45 = .ok (.aload_n 0, 1) := by decide +kernel
theorem d11_46 : decode prog_27_method_4_code 46 = .ok (.getfield 9, 3) := by decide +kernel
theorem d11_49 : decode prog_27_method_4_code 49 = .ok (.iload_n 2, 1) := by decide +kernel
theorem d11_50 : decode prog_27_method_4_code 50 = .ok (.dup2, 1) := by decide +kernel
theorem d11_51 : decode prog_27_method_4_code 51 = .ok (.iaload, 1) := by decide +kernel
theorem d11_52 : decode prog_27_method_4_code 52 = .ok (.iload_n 1, 1) := by decide +kernel
theorem d11_53 : decode prog_27_method_4_code 53 = .ok (.isub, 1) := by decide +kernel
theorem d11_54 : decode prog_27_method_4_code 54 = .ok (.iastore, 1) := by decide +kernel
theorem d11_55 : decode prog_27_method_4_code 55 = .ok (.aload_n 0, 1) := by decide +kernel
theorem d11_56 : decode prog_27_method_4_code 56 = .ok (.getfield 13, 3) := by decide +kernel
theorem d11_59 : decode prog_27_method_4_code 59 = .ok (.iload_n 2, 1) := by decide +kernel
theorem d11_60 : decode prog_27_method_4_code 60 = .ok (.dup2, 1) := by decide +kernel
theorem d11_61 : decode prog_27_method_4_code 61 = .ok (.iaload, 1) := by decide +kernel
theorem d11_62 : decode prog_27_method_4_code 62 = .ok (.iload_n 1, 1) := by decide +kernel
theorem d11_63 : decode prog_27_method_4_code 63 = .ok (.isub, 1) := by decide +kernel
theorem d11_64 : decode prog_27_method_4_code 64 = .ok (.iastore, 1) := by decide +kernel
theorem d11_65 : decode prog_27_method_4_code 65 = .ok (.iinc 2 1, 3) := by decide +kernel
theorem d11_68 : decode prog_27_method_4_code 68 = .ok (.goto (-31), 3) := by decide +kernel
theorem d11_71 : decode prog_27_method_4_code 71 = .ok (.return_, 1) := by decide +kernel
theorem d12_0 : decode jdk_65_method_132_code 0 = .ok (.iload_n 1, 1) := by decide +kernel
theorem d12_1 : decode jdk_65_method_132_code 1 = .ok (.ifCond .ne 9, 3) := by decide +kernel
theorem d12_4 : decode jdk_65_method_132_code 4 = .ok (.iload_n 2, 1) := by decide +kernel
theorem d12_5 : decode jdk_65_method_132_code 5 = .ok (.aload_n 0, 1) := by decide +kernel
theorem d12_6 : decode jdk_65_method_132_code 6 = .ok (.arraylength, 1) := by decide +kernel
theorem d12_7 : decode jdk_65_method_132_code 7 = .ok (.if_icmp .eq 10, 3) := by decide +kernel
theorem d12_10 : decode jdk_65_method_132_code 10 = .ok (.aload_n 0, 1) := by decide +kernel
theorem d12_11 : decode jdk_65_method_132_code 11 = .ok (.iload_n 1, 1) := by decide +kernel
theorem d12_12 : decode jdk_65_method_132_code 12 = .ok (.iload_n 2, 1) := by decide +kernel
theorem d12_13 : decode jdk_65_method_132_code 13 = .ok (.invokestatic 339, 3) := by decide +kernel
theorem d12_16 : decode jdk_65_method_132_code 16 = .ok (.areturn, 1) := by decide +kernel
theorem d12_17 : decode jdk_65_method_132_code 17 = .ok (.aload_n 0, 1) := by decide +kernel
theorem d12_18 : decode jdk_65_method_132_code 18 = .ok (.invokevirtual 310, 3) := by decide +kernel
theorem d12_21 : decode jdk_65_method_132_code 21 = .ok (.checkcast 311, 3) := by decide +kernel
theorem d12_24 : decode jdk_65_method_132_code 24 = .ok (.areturn, 1) := by decide +kernel
theorem d13_0 : decode jdk_65_method_133_code 0 = .ok (.iload_n 1, 1) := by decide +kernel
theorem d13_1 : decode jdk_65_method_133_code 1 = .ok (.iload_n 2, 1) := by decide +kernel
theorem d13_2 : decode jdk_65_method_133_code 2 = .ok (.invokestatic 343, 3) := by decide +kernel
theorem d13_5 : decode jdk_65_method_133_code 5 = .ok (.iload_n 2, 1) := by decide +kernel
theorem d13_6 : decode jdk_65_method_133_code 6 = .ok (.iload_n 1, 1) := by decide +kernel
theorem d13_7 : decode jdk_65_method_133_code 7 = .ok (.isub, 1) := by decide +kernel
theorem d13_8 : decode jdk_65_method_133_code 8 = .ok (.istore_n 3, 1) := by decide +kernel
theorem d13_9 : decode jdk_65_method_133_code 9 = .ok (.iload_n 3, 1) := by decide +kernel
theorem d13_10 : decode jdk_65_method_133_code 10 = .ok (.newarray .byte, 2) := by decide +kernel
theorem d13_12 : decode jdk_65_method_133_code 12 = .ok (.astore 4, 2) := by decide +kernel
theorem d13_14 : decode jdk_65_method_133_code 14 = .ok (.aload_n 0, 1) := by decide +kernel
theorem d13_15 : decode jdk_65_method_133_code 15 = .ok (.iload_n 1, 1) := by decide +kernel
theorem d13_16 : decode jdk_65_method_133_code 16 = .ok (.aload 4, 2) := by decide +kernel
theorem d13_18 : decode jdk_65_method_133_code 18 = .ok (.iconst 0, 1) := by decide +kernel
theorem d13_19 : decode jdk_65_method_133_code 19 = .ok (.aload_n 0, 1) := by decide +kernel
theorem d13_20 : decode jdk_65_method_133_code 20 = .ok (.arraylength, 1) := by decide +kernel
theorem d13_21 : decode jdk_65_method_133_code 21 = .ok (.iload_n 1, 1) := by decide +kernel
theorem d13_22 : decode jdk_65_method_133_code 22 = .ok (.isub, 1) := by decide +kernel
theorem d13_23 : decode jdk_65_method_133_code 23 = .ok (.iload_n 3, 1) := by decide +kernel
theorem d13_24 : decode jdk_65_method_133_code 24 = .ok (.invokestatic 304, 3) := by decide +kernel
theorem d13_27 : decode jdk_65_method_133_code 27 = .ok (.invokestatic 150, 3) := by decide +kernel
theorem d13_30 : decode jdk_65_method_133_code 30 = .ok (.aload 4, 2) := by decide +kernel
theorem d13_32 : decode jdk_65_method_133_code 32 = .ok (.areturn, 1) := by decide +kernel
theorem d14_0 : decode jdk_65_method_131_code 0 = .ok (.iload_n 1, 1) := by decide +kernel
theorem d14_1 : decode jdk_65_method_131_code 1 = .ok (.iload_n 0, 1) := by decide +kernel
theorem d14_2 : decode jdk_65_method_131_code 2 = .ok (.if_icmp .ge 35, 3) := by decide +kernel
theorem d14_37 : decode jdk_65_method_131_code 37 = .ok (.return_, 1) := by decide +kernel
theorem d15_0 : decode jdk_29_method_69_code 0 = .ok (.iload_n 0, 1) := by decide +kernel
theorem d15_1 : decode jdk_29_method_69_code 1 = .ok (.iload_n 1, 1) := by decide +kernel
theorem d15_2 : decode jdk_29_method_69_code 2 = .ok (.if_icmp .gt 7, 3) := by decide +kernel
theorem d15_5 : decode jdk_29_method_69_code 5 = .ok (.iload_n 0, 1) := by decide +kernel
theorem d15_6 : decode jdk_29_method_69_code 6 = .ok (.goto 4, 3) := by decide +kernel
theorem d15_9 : decode jdk_29_method_69_code 9 = .ok (.iload_n 1, 1) := by decide +kernel
theorem d15_10 : decode jdk_29_method_69_code 10 = .ok (.ireturn, 1) := by decide +kernel
theorem pd_0 : parseMethodDescriptor "(III)B" = some ⟨[.int, .int, .int], some .byte⟩ := by decide +kernel
theorem pd_1 : parseMethodDescriptor "(II)V" = some ⟨[.int, .int], none⟩ := by decide +kernel
theorem pd_2 : parseMethodDescriptor "(II)I" = some ⟨[.int, .int], some .int⟩ := by decide +kernel
theorem pd_3 : parseMethodDescriptor "([BII)[B" = some ⟨[(.array .byte), .int, .int], some (.array .byte)⟩ := by decide +kernel
theorem pd_4 : parseMethodDescriptor "(II)[B" = some ⟨[.int, .int], some (.array .byte)⟩ := by decide +kernel
theorem pd_5 : parseMethodDescriptor "()V" = some ⟨[], none⟩ := by decide +kernel
theorem pd_6 : parseMethodDescriptor "([BII)V" = some ⟨[(.array .byte), .int, .int], none⟩ := by decide +kernel
theorem pd_7 : parseMethodDescriptor "()I" = some ⟨[], some .int⟩ := by decide +kernel
theorem pd_8 : parseMethodDescriptor "([B)I" = some ⟨[(.array .byte)], some .int⟩ := by decide +kernel
theorem pn_0 : plainName "com/example/vole/vole/textprotocol/RequestLineReleasePinLaw" = true := by first | (simp [plainName, overriddenIn]; done) | decide +kernel
theorem pn_1 : plainName "com/example/vole/vole/textprotocol/RequestLine" = true := by first | (simp [plainName, overriddenIn]; done) | decide +kernel
theorem pn_2 : plainName "java/util/Arrays" = true := by first | (simp [plainName, overriddenIn]; done) | decide +kernel
theorem pf_0 : plainFor (⟨"java/lang/Math", "min", "(II)I"⟩ : MethodName) = true := by decide +kernel
def ks_0 : List (String × String × String × FieldType) := [("com/example/vole/vole/textprotocol/RequestLine", "starts", "[I", (.array .int)), ("com/example/vole/vole/textprotocol/RequestLine", "ends", "[I", (.array .int)), ("com/example/vole/vole/textprotocol/RequestLine", "line", "[B", (.array .byte)), ("com/example/vole/vole/textprotocol/RequestLine", "detached", "Z", .boolean), ("com/example/vole/vole/textprotocol/RequestLine", "count", "I", .int)]
theorem lays_ks_0 {Z : State} {a0 : Array Value} (hw : HW Z a0) : Lays Z a0 "com/example/vole/vole/textprotocol/RequestLine" ks_0 := by
  refine ⟨fun kk hk => ?_, by decide⟩
  simp only [ks_0, List.mem_cons, List.not_mem_nil, or_false] at hk
  rcases hk with rfl | rfl | rfl | rfl | rfl
  · exact ⟨Or.inl (w19 hw), by decide⟩
  · exact ⟨Or.inl (w21 hw), by decide⟩
  · exact ⟨Or.inl (w28 hw), by decide⟩
  · exact ⟨Or.inl (w30 hw), by decide⟩
  · exact ⟨Or.inl (w32 hw), by decide⟩
def F2 (x0 : Int32) (x1 : Int32) (x2 : Int32) : Int32 := (if (((x0.toUInt32 >>> (x2 &&& 31).toUInt32).toInt32) &&& (1 : Int32)) = 0 then (((x1.toUInt32 >>> (((8 : Int32) * x2) &&& 31).toUInt32).toInt32).toInt8.toInt32) else (32 : Int32))
theorem ef_rm2 (m : MethodId) (x0 : Int32) (x1 : Int32) (x2 : Int32) : entryFrame m #[.int x0, .int x1, .int x2] 3 = mkF m 0 #[.val (.int x0), .val (.int x1), .val (.int x2)] [] := by first | (simp [entryFrame, mkF, argsToLocals, Value.category]; done) | rfl
set_option maxRecDepth 65536 in
set_option maxHeartbeats 40000000 in
theorem rm2 (l : Launch) (Z : State) (a0 : Array Value) (hw : HW Z a0) (x0 : Int32) (x1 : Int32) (x2 : Int32) (L : List (Addr × (Cell → Prop))) (h : Heap) (n0 : Nat) (O : Own n0 h L) :
    Meth l Z (⟨"com/example/vole/vole/textprotocol/RequestLineReleasePinLaw", "pick", "(III)B"⟩ : MethodName) method_4_code 3 (some .byte) [] ({ frames := 0, cells := 0, slots := 0, locals := 0 } : Room) #[.int x0, .int x1, .int x2] h n0 (fun v h' => v = some (.int (nar .byte (F2 x0 x1 x2))) ∧ Own n0 h' L) := by
  refine Meth.of (plainFor_of_name pn_0) (fun m => ef_rm2 m x0 x1 x2) O ?_
  intro p e m below meth c M FE C J
  change Cx Z "com/example/vole/vole/textprotocol/RequestLineReleasePinLaw" "pick" method_4_code 3 (some .byte) p m meth c M at C
  clear O
  refine Wk.iloadN (pc' := 1) C d2_0 rfl rfl ?_
  refine Wk.iloadN (pc' := 2) C d2_1 rfl rfl ?_
  refine Wk.iushr (pc' := 3) C d2_2 rfl ?_
  refine Wk.iconst (z := (1 : Int32)) (pc' := 4) C d2_3 rfl rfl ?_
  refine Wk.iand (pc' := 5) C d2_4 rfl ?_
  refine Wk.if_eq (pcT := 11) (pcF := 8) C d2_5 (by decide) (by decide) rfl (fun c1 => ?_) (fun c1 => ?_)
  · skip
    refine Wk.iloadN (pc' := 12) C d2_11 rfl rfl ?_
    refine Wk.bipush (z := (8 : Int32)) (pc' := 14) C d2_12 rfl rfl ?_
    refine Wk.iloadN (pc' := 15) C d2_14 rfl rfl ?_
    refine Wk.imul (pc' := 16) C d2_15 rfl ?_
    refine Wk.iushr (pc' := 17) C d2_16 rfl ?_
    refine Wk.i2b (pc' := 18) C d2_17 rfl ?_
    exact Wk.retN C J d2_18 (by decide) (by decide) (by simp) rfl (fun h O => ⟨by rw [F2, if_pos c1], O⟩)
  · skip
    refine Wk.bipush (z := (32 : Int32)) (pc' := 10) C d2_8 rfl rfl ?_
    exact Wk.retN C J d2_10 (by decide) (by decide) (by simp) rfl (fun h O => ⟨by rw [F2, if_neg c1], O⟩)
def tokF (f : Nat → Int32) : Int32 := (((if f 0 = (32 : Int32) then (0 : Int32) else (1 : Int32)) + (if f 1 = (32 : Int32) then (0 : Int32) else if f 0 = (32 : Int32) then (1 : Int32) else (0 : Int32))) + (if f 2 = (32 : Int32) then (0 : Int32) else if f 1 = (32 : Int32) then (1 : Int32) else (0 : Int32))) + (if f 3 = (32 : Int32) then (0 : Int32) else if f 2 = (32 : Int32) then (1 : Int32) else (0 : Int32))
def bnd (fs fe : Nat → Int32) (j : Nat) : Prop := 0 ≤ (fs 0).toInt ∧ (fs 0).toInt ≤ (fe j).toInt ∧ (fe j).toInt ≤ 4
theorem own_ne8 {z : Int32} {i : Nat} (h : z.toInt = (i : Int)) (hi : i < 8) (q : z = (8 : Int32)) : False := by
  have e : (8 : Int32).toInt = 8 := rfl
  subst q; omega
theorem own_sub {x y : Int32} {i j : Nat} (hx : x.toInt = (i : Int)) (hy : y.toInt = (j : Int)) (h : i ≤ j) (hj : j ≤ 4) : (y - x).toInt = ((j - i : Nat) : Int) := by
  have e := c_isub y x
  have r := rng32 (y - x)
  omega
theorem ef_rm1 (m : MethodId) (x0 : Int32) (x1 : Int32) : entryFrame m #[.int x0, .int x1] 3 = mkF m 0 #[.val (.int x0), .val (.int x1), .unset] [] := by first | (simp [entryFrame, mkF, argsToLocals, Value.category]; done) | rfl
set_option maxRecDepth 65536 in
set_option maxHeartbeats 40000000 in
theorem rm1 (l : Launch) (Z : State) (a0 : Array Value) (hw : HW Z a0) (x0 : Int32) (x1 : Int32) (L : List (Addr × (Cell → Prop))) (h : Heap) (n0 : Nat) (O : Own n0 h L) :
    Meth l Z (⟨"com/example/vole/vole/textprotocol/RequestLineReleasePinLaw", "line", "(II)[B"⟩ : MethodName) method_3_code 3 (some (.array .byte)) [] ({ frames := 1, cells := 1, slots := 4, locals := 20 } : Room) #[.int x0, .int x1] h n0 (fun v h' => ∃ (a : Addr) (f : Nat → Int32), v = some (.ref a) ∧ Own n0 h' ((a, ArrC Z .byte 4 f) :: L)) := by
  refine Meth.of (plainFor_of_name pn_0) (fun m => ef_rm1 m x0 x1) O ?_
  intro p e m below meth c M FE C J
  change Cx Z "com/example/vole/vole/textprotocol/RequestLineReleasePinLaw" "line" method_3_code 3 (some (.array .byte)) p m meth c M at C
  clear O
  refine Wk.iconst (z := (4 : Int32)) (pc' := 1) C d1_0 rfl rfl ?_
  refine Wk.newarray (pc' := 3) (aty := .byte) (nn := 4) (cap := 4) (d := 0) C (w4 hw) d1_1 rfl rfl (by decide) (by decide) (by decide) (by decide) (by decide) rfl ?_
  intro a2
  change Wk p l e _ m _ below meth c _ _ n0 ((a2, ArrC Z .byte 4 (fun _ => 0)) :: L) 1 4 3 #[.val (.int x0), .val (.int x1), .unset] [.ref a2]
  refine Wk.astoreN (Ls' := #[.val (.int x0), .val (.int x1), .val (.ref a2)]) (pc' := 4) C d1_3 rfl rfl rfl ?_
  refine Wk.aloadN (pc' := 5) C d1_4 rfl rfl rfl ?_
  refine Wk.iconst (z := (0 : Int32)) (pc' := 6) C d1_5 rfl rfl ?_
  refine Wk.iloadN (pc' := 7) C d1_6 rfl rfl ?_
  refine Wk.iloadN (pc' := 8) C d1_7 rfl rfl ?_
  refine Wk.iconst (z := (0 : Int32)) (pc' := 9) C d1_8 rfl rfl ?_
  refine Wk.callS (pc' := 12) (rm := { frames := 0, cells := 0, slots := 0, locals := 0 }) (W0 := 2) (argsL := [.int x0, .int x1, .int (0 : Int32)]) (st := [.int (0 : Int32), .ref a2]) C (w5 hw) (w6 hw) (w2 hw) (w7 hw) (by decide) (fun h O => rm2 l Z a0 hw x0 x1 (0 : Int32) ((a2, ArrC Z .byte 4 (fun _ => 0)) :: L) h n0 O) (by decide) (by decide) (by decide) (by decide) d1_9 rfl pd_0 rfl rfl rfl rfl ?_
  rintro _ h' ⟨rfl, O'⟩
  refine ⟨_, O', ?_⟩
  change Wk p l e _ m _ below meth c _ _ n0 ((a2, ArrC Z .byte 4 (fun _ => 0)) :: L) 1 4 12 #[.val (.int x0), .val (.int x1), .val (.ref a2)] [.int (nar .byte (F2 x0 x1 (0 : Int32))), .int (0 : Int32), .ref a2]
  refine Wk.bastore (pc' := 13) (q := 0) (i := 0) C d1_12 rfl (by decide) (by decide) rfl ?_
  change Wk p l e _ m _ below meth c _ _ n0 ((a2, ArrC Z .byte 4 (upd (fun _ => 0) 0 ((nar .byte (F2 x0 x1 (0 : Int32))).toInt8.toInt32))) :: L) 1 4 13 #[.val (.int x0), .val (.int x1), .val (.ref a2)] []
  refine Wk.aloadN (pc' := 14) C d1_13 rfl rfl rfl ?_
  refine Wk.iconst (z := (1 : Int32)) (pc' := 15) C d1_14 rfl rfl ?_
  refine Wk.iloadN (pc' := 16) C d1_15 rfl rfl ?_
  refine Wk.iloadN (pc' := 17) C d1_16 rfl rfl ?_
  refine Wk.iconst (z := (1 : Int32)) (pc' := 18) C d1_17 rfl rfl ?_
  refine Wk.callS (pc' := 21) (rm := { frames := 0, cells := 0, slots := 0, locals := 0 }) (W0 := 2) (argsL := [.int x0, .int x1, .int (1 : Int32)]) (st := [.int (1 : Int32), .ref a2]) C (w5 hw) (w6 hw) (w2 hw) (w7 hw) (by decide) (fun h O => rm2 l Z a0 hw x0 x1 (1 : Int32) ((a2, ArrC Z .byte 4 (upd (fun _ => 0) 0 ((nar .byte (F2 x0 x1 (0 : Int32))).toInt8.toInt32))) :: L) h n0 O) (by decide) (by decide) (by decide) (by decide) d1_18 rfl pd_0 rfl rfl rfl rfl ?_
  rintro _ h' ⟨rfl, O'⟩
  refine ⟨_, O', ?_⟩
  change Wk p l e _ m _ below meth c _ _ n0 ((a2, ArrC Z .byte 4 (upd (fun _ => 0) 0 ((nar .byte (F2 x0 x1 (0 : Int32))).toInt8.toInt32))) :: L) 1 4 21 #[.val (.int x0), .val (.int x1), .val (.ref a2)] [.int (nar .byte (F2 x0 x1 (1 : Int32))), .int (1 : Int32), .ref a2]
  refine Wk.bastore (pc' := 22) (q := 0) (i := 1) C d1_21 rfl (by decide) (by decide) rfl ?_
  change Wk p l e _ m _ below meth c _ _ n0 ((a2, ArrC Z .byte 4 (upd (upd (fun _ => 0) 0 ((nar .byte (F2 x0 x1 (0 : Int32))).toInt8.toInt32)) 1 ((nar .byte (F2 x0 x1 (1 : Int32))).toInt8.toInt32))) :: L) 1 4 22 #[.val (.int x0), .val (.int x1), .val (.ref a2)] []
  refine Wk.aloadN (pc' := 23) C d1_22 rfl rfl rfl ?_
  refine Wk.iconst (z := (2 : Int32)) (pc' := 24) C d1_23 rfl rfl ?_
  refine Wk.iloadN (pc' := 25) C d1_24 rfl rfl ?_
  refine Wk.iloadN (pc' := 26) C d1_25 rfl rfl ?_
  refine Wk.iconst (z := (2 : Int32)) (pc' := 27) C d1_26 rfl rfl ?_
  refine Wk.callS (pc' := 30) (rm := { frames := 0, cells := 0, slots := 0, locals := 0 }) (W0 := 2) (argsL := [.int x0, .int x1, .int (2 : Int32)]) (st := [.int (2 : Int32), .ref a2]) C (w5 hw) (w6 hw) (w2 hw) (w7 hw) (by decide) (fun h O => rm2 l Z a0 hw x0 x1 (2 : Int32) ((a2, ArrC Z .byte 4 (upd (upd (fun _ => 0) 0 ((nar .byte (F2 x0 x1 (0 : Int32))).toInt8.toInt32)) 1 ((nar .byte (F2 x0 x1 (1 : Int32))).toInt8.toInt32))) :: L) h n0 O) (by decide) (by decide) (by decide) (by decide) d1_27 rfl pd_0 rfl rfl rfl rfl ?_
  rintro _ h' ⟨rfl, O'⟩
  refine ⟨_, O', ?_⟩
  change Wk p l e _ m _ below meth c _ _ n0 ((a2, ArrC Z .byte 4 (upd (upd (fun _ => 0) 0 ((nar .byte (F2 x0 x1 (0 : Int32))).toInt8.toInt32)) 1 ((nar .byte (F2 x0 x1 (1 : Int32))).toInt8.toInt32))) :: L) 1 4 30 #[.val (.int x0), .val (.int x1), .val (.ref a2)] [.int (nar .byte (F2 x0 x1 (2 : Int32))), .int (2 : Int32), .ref a2]
  refine Wk.bastore (pc' := 31) (q := 0) (i := 2) C d1_30 rfl (by decide) (by decide) rfl ?_
  change Wk p l e _ m _ below meth c _ _ n0 ((a2, ArrC Z .byte 4 (upd (upd (upd (fun _ => 0) 0 ((nar .byte (F2 x0 x1 (0 : Int32))).toInt8.toInt32)) 1 ((nar .byte (F2 x0 x1 (1 : Int32))).toInt8.toInt32)) 2 ((nar .byte (F2 x0 x1 (2 : Int32))).toInt8.toInt32))) :: L) 1 4 31 #[.val (.int x0), .val (.int x1), .val (.ref a2)] []
  refine Wk.aloadN (pc' := 32) C d1_31 rfl rfl rfl ?_
  refine Wk.iconst (z := (3 : Int32)) (pc' := 33) C d1_32 rfl rfl ?_
  refine Wk.iloadN (pc' := 34) C d1_33 rfl rfl ?_
  refine Wk.iloadN (pc' := 35) C d1_34 rfl rfl ?_
  refine Wk.iconst (z := (3 : Int32)) (pc' := 36) C d1_35 rfl rfl ?_
  refine Wk.callS (pc' := 39) (rm := { frames := 0, cells := 0, slots := 0, locals := 0 }) (W0 := 2) (argsL := [.int x0, .int x1, .int (3 : Int32)]) (st := [.int (3 : Int32), .ref a2]) C (w5 hw) (w6 hw) (w2 hw) (w7 hw) (by decide) (fun h O => rm2 l Z a0 hw x0 x1 (3 : Int32) ((a2, ArrC Z .byte 4 (upd (upd (upd (fun _ => 0) 0 ((nar .byte (F2 x0 x1 (0 : Int32))).toInt8.toInt32)) 1 ((nar .byte (F2 x0 x1 (1 : Int32))).toInt8.toInt32)) 2 ((nar .byte (F2 x0 x1 (2 : Int32))).toInt8.toInt32))) :: L) h n0 O) (by decide) (by decide) (by decide) (by decide) d1_36 rfl pd_0 rfl rfl rfl rfl ?_
  rintro _ h' ⟨rfl, O'⟩
  refine ⟨_, O', ?_⟩
  change Wk p l e _ m _ below meth c _ _ n0 ((a2, ArrC Z .byte 4 (upd (upd (upd (fun _ => 0) 0 ((nar .byte (F2 x0 x1 (0 : Int32))).toInt8.toInt32)) 1 ((nar .byte (F2 x0 x1 (1 : Int32))).toInt8.toInt32)) 2 ((nar .byte (F2 x0 x1 (2 : Int32))).toInt8.toInt32))) :: L) 1 4 39 #[.val (.int x0), .val (.int x1), .val (.ref a2)] [.int (nar .byte (F2 x0 x1 (3 : Int32))), .int (3 : Int32), .ref a2]
  refine Wk.bastore (pc' := 40) (q := 0) (i := 3) C d1_39 rfl (by decide) (by decide) rfl ?_
  change Wk p l e _ m _ below meth c _ _ n0 ((a2, ArrC Z .byte 4 (upd (upd (upd (upd (fun _ => 0) 0 ((nar .byte (F2 x0 x1 (0 : Int32))).toInt8.toInt32)) 1 ((nar .byte (F2 x0 x1 (1 : Int32))).toInt8.toInt32)) 2 ((nar .byte (F2 x0 x1 (2 : Int32))).toInt8.toInt32)) 3 ((nar .byte (F2 x0 x1 (3 : Int32))).toInt8.toInt32))) :: L) 1 4 40 #[.val (.int x0), .val (.int x1), .val (.ref a2)] []
  refine Wk.aloadN (pc' := 41) C d1_40 rfl rfl rfl ?_
  exact Wk.retA C J d1_41 (by decide) (by decide) rfl rfl (fun h O => ⟨_, _, rfl, O⟩)
theorem ef_rm3 (m : MethodId) (r0 : Addr) : entryFrame m #[.ref r0] 1 = mkF m 0 #[.val (.ref r0)] [] := by first | (simp [entryFrame, mkF, argsToLocals, Value.category]; done) | rfl
set_option maxRecDepth 65536 in
set_option maxHeartbeats 40000000 in
theorem rm3 (l : Launch) (Z : State) (a0 : Array Value) (hw : HW Z a0) (r0 : Addr) (L : List (Addr × (Cell → Prop))) (h : Heap) (n0 : Nat) (O : Own n0 h ((r0, ObjC Z "com/example/vole/vole/textprotocol/RequestLine" ks_0 [.null, .null, .null, .int (0 : Int32), .int (0 : Int32)]) :: L)) :
    Meth l Z (⟨"com/example/vole/vole/textprotocol/RequestLine", "<init>", "()V"⟩ : MethodName) prog_27_method_1_code 1 none [] ({ frames := 1, cells := 2, slots := 16, locals := 12 } : Room) #[.ref r0] h n0 (fun v h' => ∃ b1 b2 : Addr, v = none ∧ Own n0 h' ((b2, ArrC Z .int 8 (fun _ => 0)) :: (b1, ArrC Z .int 8 (fun _ => 0)) :: (r0, ObjC Z "com/example/vole/vole/textprotocol/RequestLine" ks_0 [.ref b1, .ref b2, .null, .int (0 : Int32), .int (0 : Int32)]) :: L)) := by
  refine Meth.of (plainFor_of_name pn_1) (fun m => ef_rm3 m r0) O ?_
  intro p e m below meth c M FE C J
  change Cx Z "com/example/vole/vole/textprotocol/RequestLine" "<init>" prog_27_method_1_code 1 none p m meth c M at C
  clear O
  refine Wk.aloadN (pc' := 1) C d3_0 rfl rfl rfl ?_
  refine Wk.objInit (pc' := 4) (W0 := 0) C (w14 hw) (w15 hw) (w16 hw) d3_1 rfl (by decide) rfl (by decide) rfl ?_
  refine Wk.aloadN (pc' := 5) C d3_4 rfl rfl rfl ?_
  refine Wk.bipush (z := (8 : Int32)) (pc' := 7) C d3_5 rfl rfl ?_
  refine Wk.newarray (pc' := 9) (aty := .int) (nn := 8) (cap := 8) (d := 0) C (w17 hw) d3_7 rfl rfl (by decide) (by decide) (by decide) (by decide) (by decide) rfl ?_
  intro a3
  change Wk p l e _ m _ below meth c _ _ n0 ((a3, ArrC Z .int 8 (fun _ => 0)) :: (r0, ObjC Z "com/example/vole/vole/textprotocol/RequestLine" ks_0 [.null, .null, .null, .int (0 : Int32), .int (0 : Int32)]) :: L) 1 8 9 #[.val (.ref r0)] [.ref a3, .ref r0]
  refine Wk.putfield (pc' := 12) (host := "") (q := 1) (i := 0) C (Or.inl (w18 hw)) (lays_ks_0 hw) (Or.inl (w19 hw)) (w9 hw) d3_9 rfl rfl (Nat.le_of_ble_eq_true rfl) rfl rfl rfl ?_
  change Wk p l e _ m _ below meth c _ _ n0 ((a3, ArrC Z .int 8 (fun _ => 0)) :: (r0, ObjC Z "com/example/vole/vole/textprotocol/RequestLine" ks_0 [.ref a3, .null, .null, .int (0 : Int32), .int (0 : Int32)]) :: L) 1 8 12 #[.val (.ref r0)] []
  refine Wk.aloadN (pc' := 13) C d3_12 rfl rfl rfl ?_
  refine Wk.bipush (z := (8 : Int32)) (pc' := 15) C d3_13 rfl rfl ?_
  refine Wk.newarray (pc' := 17) (aty := .int) (nn := 8) (cap := 8) (d := 0) C (w17 hw) d3_15 rfl rfl (by decide) (by decide) (by decide) (by decide) (by decide) rfl ?_
  intro a4
  change Wk p l e _ m _ below meth c _ _ n0 ((a4, ArrC Z .int 8 (fun _ => 0)) :: (a3, ArrC Z .int 8 (fun _ => 0)) :: (r0, ObjC Z "com/example/vole/vole/textprotocol/RequestLine" ks_0 [.ref a3, .null, .null, .int (0 : Int32), .int (0 : Int32)]) :: L) 2 16 17 #[.val (.ref r0)] [.ref a4, .ref r0]
  refine Wk.putfield (pc' := 20) (host := "") (q := 2) (i := 1) C (Or.inl (w20 hw)) (lays_ks_0 hw) (Or.inl (w21 hw)) (w9 hw) d3_17 rfl rfl (Nat.le_of_ble_eq_true rfl) rfl rfl rfl ?_
  change Wk p l e _ m _ below meth c _ _ n0 ((a4, ArrC Z .int 8 (fun _ => 0)) :: (a3, ArrC Z .int 8 (fun _ => 0)) :: (r0, ObjC Z "com/example/vole/vole/textprotocol/RequestLine" ks_0 [.ref a3, .ref a4, .null, .int (0 : Int32), .int (0 : Int32)]) :: L) 2 16 20 #[.val (.ref r0)] []
  exact Wk.retV C J d3_20 (by decide) (by decide) (fun h O => ⟨_, _, rfl, O⟩)
theorem ef_rm6 (m : MethodId) (r0 : Addr) (x1 : Int32) (x2 : Int32) : entryFrame m #[.ref r0, .int x1, .int x2] 3 = mkF m 0 #[.val (.ref r0), .val (.int x1), .val (.int x2)] [] := by first | (simp [entryFrame, mkF, argsToLocals, Value.category]; done) | rfl
set_option maxRecDepth 65536 in
set_option maxHeartbeats 40000000 in
theorem rm6 (l : Launch) (Z : State) (a0 : Array Value) (hw : HW Z a0) (r0 : Addr) (x1 : Int32) (x2 : Int32) (L : List (Addr × (Cell → Prop))) (sa ea : Addr) (ln : Value) (dt cnt : Int32) (fs fe : Nat → Int32) (i : Nat) (h : Heap) (n0 : Nat) (O : Own n0 h ((r0, ObjC Z "com/example/vole/vole/textprotocol/RequestLine" ks_0 [.ref sa, .ref ea, ln, .int dt, .int cnt]) :: (sa, ArrC Z .int 8 fs) :: (ea, ArrC Z .int 8 fe) :: L)) (hc : cnt.toInt = (i : Int)) (hi : i < 8) :
    Meth l Z (⟨"com/example/vole/vole/textprotocol/RequestLine", "add", "(II)V"⟩ : MethodName) prog_27_method_3_code 3 none [] ({ frames := 0, cells := 0, slots := 0, locals := 0 } : Room) #[.ref r0, .int x1, .int x2] h n0 (fun v h' => v = none ∧ Own n0 h' ((r0, ObjC Z "com/example/vole/vole/textprotocol/RequestLine" ks_0 [.ref sa, .ref ea, ln, .int dt, .int (cnt + (1 : Int32))]) :: (sa, ArrC Z .int 8 (upd fs i x1)) :: (ea, ArrC Z .int 8 (upd fe i x2)) :: L)) := by
  refine Meth.of (plainFor_of_name pn_1) (fun m => ef_rm6 m r0 x1 x2) O ?_
  intro p e m below meth c M FE C J
  change Cx Z "com/example/vole/vole/textprotocol/RequestLine" "add" prog_27_method_3_code 3 none p m meth c M at C
  clear O
  refine Wk.aloadN (pc' := 1) C d6_0 rfl rfl rfl ?_
  refine Wk.getfield (pc' := 4) (host := "") (q := 0) (i := 4) C (Or.inl (w31 hw)) d6_1 rfl rfl rfl rfl ?_
  refine Wk.aloadN (pc' := 5) C d6_4 rfl rfl rfl ?_
  refine Wk.getfield (pc' := 8) (host := "") (q := 0) (i := 0) C (Or.inl (w18 hw)) d6_5 rfl rfl rfl rfl ?_
  refine Wk.arraylength (pc' := 9) (q := 1) (z := (8 : Int32)) C d6_8 rfl (fun _ A => ⟨A.1, A.2.2.1⟩) rfl rfl ?_
  refine Wk.icmp_ne (pcT := 46) (pcF := 12) C d6_9 (by decide) (by decide) rfl (fun c5 => ?_) (fun c5 => (show False from own_ne8 hc hi c5).elim)
  refine Wk.aloadN (pc' := 47) C d6_46 rfl rfl rfl ?_
  refine Wk.getfield (pc' := 50) (host := "") (q := 0) (i := 0) C (Or.inl (w18 hw)) d6_47 rfl rfl rfl rfl ?_
  refine Wk.aloadN (pc' := 51) C d6_50 rfl rfl rfl ?_
  refine Wk.getfield (pc' := 54) (host := "") (q := 0) (i := 4) C (Or.inl (w31 hw)) d6_51 rfl rfl rfl rfl ?_
  refine Wk.iloadN (pc' := 55) C d6_54 rfl rfl ?_
  refine Wk.iastore (pc' := 56) (q := 1) (i := i) C d6_55 rfl hc hi rfl ?_
  change Wk p l e _ m _ below meth c _ _ n0 ((r0, ObjC Z "com/example/vole/vole/textprotocol/RequestLine" ks_0 [.ref sa, .ref ea, ln, .int dt, .int cnt]) :: (sa, ArrC Z .int 8 (upd fs i x1)) :: (ea, ArrC Z .int 8 fe) :: L) 0 0 56 #[.val (.ref r0), .val (.int x1), .val (.int x2)] []
  refine Wk.aloadN (pc' := 57) C d6_56 rfl rfl rfl ?_
  refine Wk.getfield (pc' := 60) (host := "") (q := 0) (i := 1) C (Or.inl (w20 hw)) d6_57 rfl rfl rfl rfl ?_
  refine Wk.aloadN (pc' := 61) C d6_60 rfl rfl rfl ?_
  refine Wk.getfield (pc' := 64) (host := "") (q := 0) (i := 4) C (Or.inl (w31 hw)) d6_61 rfl rfl rfl rfl ?_
  refine Wk.iloadN (pc' := 65) C d6_64 rfl rfl ?_
  refine Wk.iastore (pc' := 66) (q := 2) (i := i) C d6_65 rfl hc hi rfl ?_
  change Wk p l e _ m _ below meth c _ _ n0 ((r0, ObjC Z "com/example/vole/vole/textprotocol/RequestLine" ks_0 [.ref sa, .ref ea, ln, .int dt, .int cnt]) :: (sa, ArrC Z .int 8 (upd fs i x1)) :: (ea, ArrC Z .int 8 (upd fe i x2)) :: L) 0 0 66 #[.val (.ref r0), .val (.int x1), .val (.int x2)] []
  refine Wk.aloadN (pc' := 67) C d6_66 rfl rfl rfl ?_
  refine Wk.dup (pc' := 68) C d6_67 rfl rfl ?_
  refine Wk.getfield (pc' := 71) (host := "") (q := 0) (i := 4) C (Or.inl (w31 hw)) d6_68 rfl rfl rfl rfl ?_
  refine Wk.iconst (z := (1 : Int32)) (pc' := 72) C d6_71 rfl rfl ?_
  refine Wk.iadd (pc' := 73) C d6_72 rfl ?_
  refine Wk.putfield (pc' := 76) (host := "") (q := 0) (i := 4) C (Or.inl (w31 hw)) (lays_ks_0 hw) (Or.inl (w32 hw)) (w9 hw) d6_73 rfl rfl (Nat.le_of_ble_eq_true rfl) rfl rfl rfl ?_
  change Wk p l e _ m _ below meth c _ _ n0 ((r0, ObjC Z "com/example/vole/vole/textprotocol/RequestLine" ks_0 [.ref sa, .ref ea, ln, .int dt, .int (cnt + (1 : Int32))]) :: (sa, ArrC Z .int 8 (upd fs i x1)) :: (ea, ArrC Z .int 8 (upd fe i x2)) :: L) 0 0 76 #[.val (.ref r0), .val (.int x1), .val (.int x2)] []
  exact Wk.retV C J d6_76 (by decide) (by decide) (fun h O => ⟨rfl, O⟩)
theorem ef_rm5 (m : MethodId) (r0 : Addr) (r1 : Addr) : entryFrame m #[.ref r0, .ref r1, .int (0 : Int32), .int (4 : Int32)] 6 = mkF m 0 #[.val (.ref r0), .val (.ref r1), .val (.int (0 : Int32)), .val (.int (4 : Int32)), .unset, .unset] [] := by first | (simp [entryFrame, mkF, argsToLocals, Value.category]; done) | rfl
set_option maxRecDepth 65536 in
set_option maxHeartbeats 40000000 in
theorem rm5 (l : Launch) (Z : State) (a0 : Array Value) (hw : HW Z a0) (r0 : Addr) (r1 : Addr) (L : List (Addr × (Cell → Prop))) (sa ea : Addr) (ln : Value) (dt cnt : Int32) (fs fe : Nat → Int32) (f : Nat → Int32) (h : Heap) (n0 : Nat) (O : Own n0 h ((r0, ObjC Z "com/example/vole/vole/textprotocol/RequestLine" ks_0 [.ref sa, .ref ea, ln, .int dt, .int cnt]) :: (sa, ArrC Z .int 8 fs) :: (ea, ArrC Z .int 8 fe) :: (r1, ArrC Z .byte 4 f) :: L)) :
    Meth l Z (⟨"com/example/vole/vole/textprotocol/RequestLine", "split", "([BII)V"⟩ : MethodName) prog_27_method_2_code 6 none [] ({ frames := 1, cells := 0, slots := 0, locals := 20 } : Room) #[.ref r0, .ref r1, .int (0 : Int32), .int (4 : Int32)] h n0 (fun v h' => ∃ (c' : Int32) (fs' fe' : Nat → Int32), v = none ∧ c' = tokF f ∧ (c' = (0 : Int32) ∨ (c' = (1 : Int32) ∧ bnd fs' fe' 0) ∨ (c' = (2 : Int32) ∧ bnd fs' fe' 1)) ∧ Own n0 h' ((r0, ObjC Z "com/example/vole/vole/textprotocol/RequestLine" ks_0 [.ref sa, .ref ea, .ref r1, .int (0 : Int32), .int c']) :: (sa, ArrC Z .int 8 fs') :: (ea, ArrC Z .int 8 fe') :: (r1, ArrC Z .byte 4 f) :: L)) := by
  refine Meth.of (plainFor_of_name pn_1) (fun m => ef_rm5 m r0 r1) O ?_
  intro p e m below meth c M FE C J
  change Cx Z "com/example/vole/vole/textprotocol/RequestLine" "split" prog_27_method_2_code 6 none p m meth c M at C
  clear O
  refine Wk.aloadN (pc' := 1) C d5_0 rfl rfl rfl ?_
  refine Wk.aloadN (pc' := 2) C d5_1 rfl rfl rfl ?_
  refine Wk.putfield (pc' := 5) (host := "") (q := 0) (i := 2) C (Or.inl (w27 hw)) (lays_ks_0 hw) (Or.inl (w28 hw)) (w9 hw) d5_2 rfl rfl (Nat.le_of_ble_eq_true rfl) rfl rfl rfl ?_
  change Wk p l e _ m _ below meth c _ _ n0 ((r0, ObjC Z "com/example/vole/vole/textprotocol/RequestLine" ks_0 [.ref sa, .ref ea, .ref r1, .int dt, .int cnt]) :: (sa, ArrC Z .int 8 fs) :: (ea, ArrC Z .int 8 fe) :: (r1, ArrC Z .byte 4 f) :: L) 0 0 5 #[.val (.ref r0), .val (.ref r1), .val (.int (0 : Int32)), .val (.int (4 : Int32)), .unset, .unset] []
  refine Wk.aloadN (pc' := 6) C d5_5 rfl rfl rfl ?_
  refine Wk.iconst (z := (0 : Int32)) (pc' := 7) C d5_6 rfl rfl ?_
  refine Wk.putfield (pc' := 10) (host := "") (q := 0) (i := 3) C (Or.inl (w29 hw)) (lays_ks_0 hw) (Or.inl (w30 hw)) (w9 hw) d5_7 rfl rfl (Nat.le_of_ble_eq_true rfl) rfl rfl rfl ?_
  change Wk p l e _ m _ below meth c _ _ n0 ((r0, ObjC Z "com/example/vole/vole/textprotocol/RequestLine" ks_0 [.ref sa, .ref ea, .ref r1, .int (0 : Int32), .int cnt]) :: (sa, ArrC Z .int 8 fs) :: (ea, ArrC Z .int 8 fe) :: (r1, ArrC Z .byte 4 f) :: L) 0 0 10 #[.val (.ref r0), .val (.ref r1), .val (.int (0 : Int32)), .val (.int (4 : Int32)), .unset, .unset] []
  refine Wk.aloadN (pc' := 11) C d5_10 rfl rfl rfl ?_
  refine Wk.iconst (z := (0 : Int32)) (pc' := 12) C d5_11 rfl rfl ?_
  refine Wk.putfield (pc' := 15) (host := "") (q := 0) (i := 4) C (Or.inl (w31 hw)) (lays_ks_0 hw) (Or.inl (w32 hw)) (w9 hw) d5_12 rfl rfl (Nat.le_of_ble_eq_true rfl) rfl rfl rfl ?_
  change Wk p l e _ m _ below meth c _ _ n0 ((r0, ObjC Z "com/example/vole/vole/textprotocol/RequestLine" ks_0 [.ref sa, .ref ea, .ref r1, .int (0 : Int32), .int (0 : Int32)]) :: (sa, ArrC Z .int 8 fs) :: (ea, ArrC Z .int 8 fe) :: (r1, ArrC Z .byte 4 f) :: L) 0 0 15 #[.val (.ref r0), .val (.ref r1), .val (.int (0 : Int32)), .val (.int (4 : Int32)), .unset, .unset] []
  refine Wk.iloadN (pc' := 16) C d5_15 rfl rfl ?_
  refine Wk.istore (Ls' := #[.val (.ref r0), .val (.ref r1), .val (.int (0 : Int32)), .val (.int (4 : Int32)), .val (.int (0 : Int32)), .unset]) (pc' := 18) C d5_16 rfl rfl ?_
  refine Wk.iload (pc' := 20) C d5_18 rfl rfl ?_
  refine Wk.iloadN (pc' := 21) C d5_20 rfl rfl ?_
  refine Wk.icmp_ge (pcT := 75) (pcF := 24) C d5_21 (by decide) (by decide) rfl (fun q => absurd q (by decide)) (fun _ => ?_)
  refine Wk.aloadN (pc' := 25) C d5_24 rfl rfl rfl ?_
  refine Wk.iload (pc' := 27) C d5_25 rfl rfl ?_
  refine Wk.baload (pc' := 28) (q := 3) (i := 0) C d5_27 rfl (by decide) (by decide) rfl ?_
  refine Wk.bipush (z := (32 : Int32)) (pc' := 30) C d5_28 rfl rfl ?_
  refine Wk.icmp_ne (pcT := 39) (pcF := 33) C d5_30 (by decide) (by decide) rfl (fun c6 => ?_) (fun c6 => ?_)
  · skip
    refine Wk.iload (pc' := 41) C d5_39 rfl rfl ?_
    refine Wk.istore (Ls' := #[.val (.ref r0), .val (.ref r1), .val (.int (0 : Int32)), .val (.int (4 : Int32)), .val (.int (0 : Int32)), .val (.int (0 : Int32))]) (pc' := 43) C d5_41 rfl rfl ?_
    refine Wk.iload (pc' := 45) C d5_43 rfl rfl ?_
    refine Wk.iloadN (pc' := 46) C d5_45 rfl rfl ?_
    refine Wk.icmp_ge (pcT := 64) (pcF := 49) C d5_46 (by decide) (by decide) rfl (fun q => absurd q (by decide)) (fun _ => ?_)
    refine Wk.aloadN (pc' := 50) C d5_49 rfl rfl rfl ?_
    refine Wk.iload (pc' := 52) C d5_50 rfl rfl ?_
    refine Wk.baload (pc' := 53) (q := 3) (i := 0) C d5_52 rfl (by decide) (by decide) rfl ?_
    refine Wk.bipush (z := (32 : Int32)) (pc' := 55) C d5_53 rfl rfl ?_
    refine Wk.icmp_eq (pcT := 64) (pcF := 58) C d5_55 (by decide) (by decide) rfl (fun c7 => (show False from c6 c7).elim) (fun c7 => ?_)
    refine Wk.iinc (z := (1 : Int32)) (Ls' := #[.val (.ref r0), .val (.ref r1), .val (.int (0 : Int32)), .val (.int (4 : Int32)), .val (.int (1 : Int32)), .val (.int (0 : Int32))]) (pc' := 61) C d5_58 rfl (by decide) rfl rfl ?_
    refine Wk.goto (pc' := 43) C d5_61 (by decide) (by decide) ?_
    refine Wk.iload (pc' := 45) C d5_43 rfl rfl ?_
    refine Wk.iloadN (pc' := 46) C d5_45 rfl rfl ?_
    refine Wk.icmp_ge (pcT := 64) (pcF := 49) C d5_46 (by decide) (by decide) rfl (fun q => absurd q (by decide)) (fun _ => ?_)
    refine Wk.aloadN (pc' := 50) C d5_49 rfl rfl rfl ?_
    refine Wk.iload (pc' := 52) C d5_50 rfl rfl ?_
    refine Wk.baload (pc' := 53) (q := 3) (i := 1) C d5_52 rfl (by decide) (by decide) rfl ?_
    refine Wk.bipush (z := (32 : Int32)) (pc' := 55) C d5_53 rfl rfl ?_
    refine Wk.icmp_eq (pcT := 64) (pcF := 58) C d5_55 (by decide) (by decide) rfl (fun c8 => ?_) (fun c8 => ?_)
    · skip
      refine Wk.aloadN (pc' := 65) C d5_64 rfl rfl rfl ?_
      refine Wk.iload (pc' := 67) C d5_65 rfl rfl ?_
      refine Wk.iload (pc' := 69) C d5_67 rfl rfl ?_
      refine Wk.callP (pc' := 72) (rm := { frames := 0, cells := 0, slots := 0, locals := 0 }) (W0 := 0) (q := 0) (argsL := [.int (0 : Int32), .int (1 : Int32)]) (st := []) C rfl (w33 hw) (w34 hw) (w35 hw) (notFace_same (w25 hw) rfl) (w10 hw) (w36 hw) (by decide) (fun h O => rm6 l Z a0 hw r0 (0 : Int32) (1 : Int32) ((r1, ArrC Z .byte 4 f) :: L) sa ea (.ref r1) (0 : Int32) (0 : Int32) (fs) (fe) 0 h n0 O (by decide) (by decide)) (by decide) (by decide) (by decide) (by decide) d5_69 rfl pd_1 rfl rfl rfl rfl ?_
      rintro _ h' ⟨rfl, O'⟩
      refine ⟨_, O', ?_⟩
      change Wk p l e _ m _ below meth c _ _ n0 ((r0, ObjC Z "com/example/vole/vole/textprotocol/RequestLine" ks_0 [.ref sa, .ref ea, .ref r1, .int (0 : Int32), .int ((0 : Int32) + (1 : Int32))]) :: (sa, ArrC Z .int 8 (upd fs 0 (0 : Int32))) :: (ea, ArrC Z .int 8 (upd fe 0 (1 : Int32))) :: (r1, ArrC Z .byte 4 f) :: L) 0 0 72 #[.val (.ref r0), .val (.ref r1), .val (.int (0 : Int32)), .val (.int (4 : Int32)), .val (.int (1 : Int32)), .val (.int (0 : Int32))] []
      refine Wk.goto (pc' := 18) C d5_72 (by decide) (by decide) ?_
      refine Wk.iload (pc' := 20) C d5_18 rfl rfl ?_
      refine Wk.iloadN (pc' := 21) C d5_20 rfl rfl ?_
      refine Wk.icmp_ge (pcT := 75) (pcF := 24) C d5_21 (by decide) (by decide) rfl (fun q => absurd q (by decide)) (fun _ => ?_)
      refine Wk.aloadN (pc' := 25) C d5_24 rfl rfl rfl ?_
      refine Wk.iload (pc' := 27) C d5_25 rfl rfl ?_
      refine Wk.baload (pc' := 28) (q := 3) (i := 1) C d5_27 rfl (by decide) (by decide) rfl ?_
      refine Wk.bipush (z := (32 : Int32)) (pc' := 30) C d5_28 rfl rfl ?_
      refine Wk.icmp_ne (pcT := 39) (pcF := 33) C d5_30 (by decide) (by decide) rfl (fun c9 => (show False from c9 c8).elim) (fun c9 => ?_)
      refine Wk.iinc (z := (2 : Int32)) (Ls' := #[.val (.ref r0), .val (.ref r1), .val (.int (0 : Int32)), .val (.int (4 : Int32)), .val (.int (2 : Int32)), .val (.int (0 : Int32))]) (pc' := 36) C d5_33 rfl (by decide) rfl rfl ?_
      refine Wk.goto (pc' := 18) C d5_36 (by decide) (by decide) ?_
      refine Wk.iload (pc' := 20) C d5_18 rfl rfl ?_
      refine Wk.iloadN (pc' := 21) C d5_20 rfl rfl ?_
      refine Wk.icmp_ge (pcT := 75) (pcF := 24) C d5_21 (by decide) (by decide) rfl (fun q => absurd q (by decide)) (fun _ => ?_)
      refine Wk.aloadN (pc' := 25) C d5_24 rfl rfl rfl ?_
      refine Wk.iload (pc' := 27) C d5_25 rfl rfl ?_
      refine Wk.baload (pc' := 28) (q := 3) (i := 2) C d5_27 rfl (by decide) (by decide) rfl ?_
      refine Wk.bipush (z := (32 : Int32)) (pc' := 30) C d5_28 rfl rfl ?_
      refine Wk.icmp_ne (pcT := 39) (pcF := 33) C d5_30 (by decide) (by decide) rfl (fun c10 => ?_) (fun c10 => ?_)
      · skip
        refine Wk.iload (pc' := 41) C d5_39 rfl rfl ?_
        refine Wk.istore (Ls' := #[.val (.ref r0), .val (.ref r1), .val (.int (0 : Int32)), .val (.int (4 : Int32)), .val (.int (2 : Int32)), .val (.int (2 : Int32))]) (pc' := 43) C d5_41 rfl rfl ?_
        refine Wk.iload (pc' := 45) C d5_43 rfl rfl ?_
        refine Wk.iloadN (pc' := 46) C d5_45 rfl rfl ?_
        refine Wk.icmp_ge (pcT := 64) (pcF := 49) C d5_46 (by decide) (by decide) rfl (fun q => absurd q (by decide)) (fun _ => ?_)
        refine Wk.aloadN (pc' := 50) C d5_49 rfl rfl rfl ?_
        refine Wk.iload (pc' := 52) C d5_50 rfl rfl ?_
        refine Wk.baload (pc' := 53) (q := 3) (i := 2) C d5_52 rfl (by decide) (by decide) rfl ?_
        refine Wk.bipush (z := (32 : Int32)) (pc' := 55) C d5_53 rfl rfl ?_
        refine Wk.icmp_eq (pcT := 64) (pcF := 58) C d5_55 (by decide) (by decide) rfl (fun c11 => (show False from c10 c11).elim) (fun c11 => ?_)
        refine Wk.iinc (z := (3 : Int32)) (Ls' := #[.val (.ref r0), .val (.ref r1), .val (.int (0 : Int32)), .val (.int (4 : Int32)), .val (.int (3 : Int32)), .val (.int (2 : Int32))]) (pc' := 61) C d5_58 rfl (by decide) rfl rfl ?_
        refine Wk.goto (pc' := 43) C d5_61 (by decide) (by decide) ?_
        refine Wk.iload (pc' := 45) C d5_43 rfl rfl ?_
        refine Wk.iloadN (pc' := 46) C d5_45 rfl rfl ?_
        refine Wk.icmp_ge (pcT := 64) (pcF := 49) C d5_46 (by decide) (by decide) rfl (fun q => absurd q (by decide)) (fun _ => ?_)
        refine Wk.aloadN (pc' := 50) C d5_49 rfl rfl rfl ?_
        refine Wk.iload (pc' := 52) C d5_50 rfl rfl ?_
        refine Wk.baload (pc' := 53) (q := 3) (i := 3) C d5_52 rfl (by decide) (by decide) rfl ?_
        refine Wk.bipush (z := (32 : Int32)) (pc' := 55) C d5_53 rfl rfl ?_
        refine Wk.icmp_eq (pcT := 64) (pcF := 58) C d5_55 (by decide) (by decide) rfl (fun c12 => ?_) (fun c12 => ?_)
        · skip
          refine Wk.aloadN (pc' := 65) C d5_64 rfl rfl rfl ?_
          refine Wk.iload (pc' := 67) C d5_65 rfl rfl ?_
          refine Wk.iload (pc' := 69) C d5_67 rfl rfl ?_
          refine Wk.callP (pc' := 72) (rm := { frames := 0, cells := 0, slots := 0, locals := 0 }) (W0 := 0) (q := 0) (argsL := [.int (2 : Int32), .int (3 : Int32)]) (st := []) C rfl (w33 hw) (w34 hw) (w35 hw) (notFace_same (w25 hw) rfl) (w10 hw) (w36 hw) (by decide) (fun h O => rm6 l Z a0 hw r0 (2 : Int32) (3 : Int32) ((r1, ArrC Z .byte 4 f) :: L) sa ea (.ref r1) (0 : Int32) ((0 : Int32) + (1 : Int32)) (upd fs 0 (0 : Int32)) (upd fe 0 (1 : Int32)) 1 h n0 O (by decide) (by decide)) (by decide) (by decide) (by decide) (by decide) d5_69 rfl pd_1 rfl rfl rfl rfl ?_
          rintro _ h' ⟨rfl, O'⟩
          refine ⟨_, O', ?_⟩
          change Wk p l e _ m _ below meth c _ _ n0 ((r0, ObjC Z "com/example/vole/vole/textprotocol/RequestLine" ks_0 [.ref sa, .ref ea, .ref r1, .int (0 : Int32), .int (((0 : Int32) + (1 : Int32)) + (1 : Int32))]) :: (sa, ArrC Z .int 8 (upd (upd fs 0 (0 : Int32)) 1 (2 : Int32))) :: (ea, ArrC Z .int 8 (upd (upd fe 0 (1 : Int32)) 1 (3 : Int32))) :: (r1, ArrC Z .byte 4 f) :: L) 0 0 72 #[.val (.ref r0), .val (.ref r1), .val (.int (0 : Int32)), .val (.int (4 : Int32)), .val (.int (3 : Int32)), .val (.int (2 : Int32))] []
          refine Wk.goto (pc' := 18) C d5_72 (by decide) (by decide) ?_
          refine Wk.iload (pc' := 20) C d5_18 rfl rfl ?_
          refine Wk.iloadN (pc' := 21) C d5_20 rfl rfl ?_
          refine Wk.icmp_ge (pcT := 75) (pcF := 24) C d5_21 (by decide) (by decide) rfl (fun q => absurd q (by decide)) (fun _ => ?_)
          refine Wk.aloadN (pc' := 25) C d5_24 rfl rfl rfl ?_
          refine Wk.iload (pc' := 27) C d5_25 rfl rfl ?_
          refine Wk.baload (pc' := 28) (q := 3) (i := 3) C d5_27 rfl (by decide) (by decide) rfl ?_
          refine Wk.bipush (z := (32 : Int32)) (pc' := 30) C d5_28 rfl rfl ?_
          refine Wk.icmp_ne (pcT := 39) (pcF := 33) C d5_30 (by decide) (by decide) rfl (fun c13 => (show False from c13 c12).elim) (fun c13 => ?_)
          refine Wk.iinc (z := (4 : Int32)) (Ls' := #[.val (.ref r0), .val (.ref r1), .val (.int (0 : Int32)), .val (.int (4 : Int32)), .val (.int (4 : Int32)), .val (.int (2 : Int32))]) (pc' := 36) C d5_33 rfl (by decide) rfl rfl ?_
          refine Wk.goto (pc' := 18) C d5_36 (by decide) (by decide) ?_
          refine Wk.iload (pc' := 20) C d5_18 rfl rfl ?_
          refine Wk.iloadN (pc' := 21) C d5_20 rfl rfl ?_
          refine Wk.icmp_ge (pcT := 75) (pcF := 24) C d5_21 (by decide) (by decide) rfl (fun _ => ?_) (fun q => absurd q (by decide))
          have htk : (((0 : Int32) + (1 : Int32)) + (1 : Int32)) = tokF f := by
            simp only [tokF, if_neg c6, if_neg c7, if_pos c8, if_pos c9, if_neg c10, if_neg c11, if_pos c12, if_pos c13] <;> decide
          exact Wk.retV C J d5_75 (by decide) (by decide) (fun h O => ⟨(((0 : Int32) + (1 : Int32)) + (1 : Int32)), upd (upd fs 0 (0 : Int32)) 1 (2 : Int32), upd (upd fe 0 (1 : Int32)) 1 (3 : Int32), rfl, htk, Or.inr (Or.inr ⟨by decide, (show 0 ≤ ((0 : Int32)).toInt ∧ ((0 : Int32)).toInt ≤ ((3 : Int32)).toInt ∧ ((3 : Int32)).toInt ≤ 4 from by decide)⟩), O⟩)
        · skip
          refine Wk.iinc (z := (4 : Int32)) (Ls' := #[.val (.ref r0), .val (.ref r1), .val (.int (0 : Int32)), .val (.int (4 : Int32)), .val (.int (4 : Int32)), .val (.int (2 : Int32))]) (pc' := 61) C d5_58 rfl (by decide) rfl rfl ?_
          refine Wk.goto (pc' := 43) C d5_61 (by decide) (by decide) ?_
          refine Wk.iload (pc' := 45) C d5_43 rfl rfl ?_
          refine Wk.iloadN (pc' := 46) C d5_45 rfl rfl ?_
          refine Wk.icmp_ge (pcT := 64) (pcF := 49) C d5_46 (by decide) (by decide) rfl (fun _ => ?_) (fun q => absurd q (by decide))
          refine Wk.aloadN (pc' := 65) C d5_64 rfl rfl rfl ?_
          refine Wk.iload (pc' := 67) C d5_65 rfl rfl ?_
          refine Wk.iload (pc' := 69) C d5_67 rfl rfl ?_
          refine Wk.callP (pc' := 72) (rm := { frames := 0, cells := 0, slots := 0, locals := 0 }) (W0 := 0) (q := 0) (argsL := [.int (2 : Int32), .int (4 : Int32)]) (st := []) C rfl (w33 hw) (w34 hw) (w35 hw) (notFace_same (w25 hw) rfl) (w10 hw) (w36 hw) (by decide) (fun h O => rm6 l Z a0 hw r0 (2 : Int32) (4 : Int32) ((r1, ArrC Z .byte 4 f) :: L) sa ea (.ref r1) (0 : Int32) ((0 : Int32) + (1 : Int32)) (upd fs 0 (0 : Int32)) (upd fe 0 (1 : Int32)) 1 h n0 O (by decide) (by decide)) (by decide) (by decide) (by decide) (by decide) d5_69 rfl pd_1 rfl rfl rfl rfl ?_
          rintro _ h' ⟨rfl, O'⟩
          refine ⟨_, O', ?_⟩
          change Wk p l e _ m _ below meth c _ _ n0 ((r0, ObjC Z "com/example/vole/vole/textprotocol/RequestLine" ks_0 [.ref sa, .ref ea, .ref r1, .int (0 : Int32), .int (((0 : Int32) + (1 : Int32)) + (1 : Int32))]) :: (sa, ArrC Z .int 8 (upd (upd fs 0 (0 : Int32)) 1 (2 : Int32))) :: (ea, ArrC Z .int 8 (upd (upd fe 0 (1 : Int32)) 1 (4 : Int32))) :: (r1, ArrC Z .byte 4 f) :: L) 0 0 72 #[.val (.ref r0), .val (.ref r1), .val (.int (0 : Int32)), .val (.int (4 : Int32)), .val (.int (4 : Int32)), .val (.int (2 : Int32))] []
          refine Wk.goto (pc' := 18) C d5_72 (by decide) (by decide) ?_
          refine Wk.iload (pc' := 20) C d5_18 rfl rfl ?_
          refine Wk.iloadN (pc' := 21) C d5_20 rfl rfl ?_
          refine Wk.icmp_ge (pcT := 75) (pcF := 24) C d5_21 (by decide) (by decide) rfl (fun _ => ?_) (fun q => absurd q (by decide))
          have htk : (((0 : Int32) + (1 : Int32)) + (1 : Int32)) = tokF f := by
            simp only [tokF, if_neg c6, if_neg c7, if_pos c8, if_pos c9, if_neg c10, if_neg c11, if_neg c12] <;> decide
          exact Wk.retV C J d5_75 (by decide) (by decide) (fun h O => ⟨(((0 : Int32) + (1 : Int32)) + (1 : Int32)), upd (upd fs 0 (0 : Int32)) 1 (2 : Int32), upd (upd fe 0 (1 : Int32)) 1 (4 : Int32), rfl, htk, Or.inr (Or.inr ⟨by decide, (show 0 ≤ ((0 : Int32)).toInt ∧ ((0 : Int32)).toInt ≤ ((4 : Int32)).toInt ∧ ((4 : Int32)).toInt ≤ 4 from by decide)⟩), O⟩)
      · skip
        refine Wk.iinc (z := (3 : Int32)) (Ls' := #[.val (.ref r0), .val (.ref r1), .val (.int (0 : Int32)), .val (.int (4 : Int32)), .val (.int (3 : Int32)), .val (.int (0 : Int32))]) (pc' := 36) C d5_33 rfl (by decide) rfl rfl ?_
        refine Wk.goto (pc' := 18) C d5_36 (by decide) (by decide) ?_
        refine Wk.iload (pc' := 20) C d5_18 rfl rfl ?_
        refine Wk.iloadN (pc' := 21) C d5_20 rfl rfl ?_
        refine Wk.icmp_ge (pcT := 75) (pcF := 24) C d5_21 (by decide) (by decide) rfl (fun q => absurd q (by decide)) (fun _ => ?_)
        refine Wk.aloadN (pc' := 25) C d5_24 rfl rfl rfl ?_
        refine Wk.iload (pc' := 27) C d5_25 rfl rfl ?_
        refine Wk.baload (pc' := 28) (q := 3) (i := 3) C d5_27 rfl (by decide) (by decide) rfl ?_
        refine Wk.bipush (z := (32 : Int32)) (pc' := 30) C d5_28 rfl rfl ?_
        refine Wk.icmp_ne (pcT := 39) (pcF := 33) C d5_30 (by decide) (by decide) rfl (fun c14 => ?_) (fun c14 => ?_)
        · skip
          refine Wk.iload (pc' := 41) C d5_39 rfl rfl ?_
          refine Wk.istore (Ls' := #[.val (.ref r0), .val (.ref r1), .val (.int (0 : Int32)), .val (.int (4 : Int32)), .val (.int (3 : Int32)), .val (.int (3 : Int32))]) (pc' := 43) C d5_41 rfl rfl ?_
          refine Wk.iload (pc' := 45) C d5_43 rfl rfl ?_
          refine Wk.iloadN (pc' := 46) C d5_45 rfl rfl ?_
          refine Wk.icmp_ge (pcT := 64) (pcF := 49) C d5_46 (by decide) (by decide) rfl (fun q => absurd q (by decide)) (fun _ => ?_)
          refine Wk.aloadN (pc' := 50) C d5_49 rfl rfl rfl ?_
          refine Wk.iload (pc' := 52) C d5_50 rfl rfl ?_
          refine Wk.baload (pc' := 53) (q := 3) (i := 3) C d5_52 rfl (by decide) (by decide) rfl ?_
          refine Wk.bipush (z := (32 : Int32)) (pc' := 55) C d5_53 rfl rfl ?_
          refine Wk.icmp_eq (pcT := 64) (pcF := 58) C d5_55 (by decide) (by decide) rfl (fun c15 => (show False from c14 c15).elim) (fun c15 => ?_)
          refine Wk.iinc (z := (4 : Int32)) (Ls' := #[.val (.ref r0), .val (.ref r1), .val (.int (0 : Int32)), .val (.int (4 : Int32)), .val (.int (4 : Int32)), .val (.int (3 : Int32))]) (pc' := 61) C d5_58 rfl (by decide) rfl rfl ?_
          refine Wk.goto (pc' := 43) C d5_61 (by decide) (by decide) ?_
          refine Wk.iload (pc' := 45) C d5_43 rfl rfl ?_
          refine Wk.iloadN (pc' := 46) C d5_45 rfl rfl ?_
          refine Wk.icmp_ge (pcT := 64) (pcF := 49) C d5_46 (by decide) (by decide) rfl (fun _ => ?_) (fun q => absurd q (by decide))
          refine Wk.aloadN (pc' := 65) C d5_64 rfl rfl rfl ?_
          refine Wk.iload (pc' := 67) C d5_65 rfl rfl ?_
          refine Wk.iload (pc' := 69) C d5_67 rfl rfl ?_
          refine Wk.callP (pc' := 72) (rm := { frames := 0, cells := 0, slots := 0, locals := 0 }) (W0 := 0) (q := 0) (argsL := [.int (3 : Int32), .int (4 : Int32)]) (st := []) C rfl (w33 hw) (w34 hw) (w35 hw) (notFace_same (w25 hw) rfl) (w10 hw) (w36 hw) (by decide) (fun h O => rm6 l Z a0 hw r0 (3 : Int32) (4 : Int32) ((r1, ArrC Z .byte 4 f) :: L) sa ea (.ref r1) (0 : Int32) ((0 : Int32) + (1 : Int32)) (upd fs 0 (0 : Int32)) (upd fe 0 (1 : Int32)) 1 h n0 O (by decide) (by decide)) (by decide) (by decide) (by decide) (by decide) d5_69 rfl pd_1 rfl rfl rfl rfl ?_
          rintro _ h' ⟨rfl, O'⟩
          refine ⟨_, O', ?_⟩
          change Wk p l e _ m _ below meth c _ _ n0 ((r0, ObjC Z "com/example/vole/vole/textprotocol/RequestLine" ks_0 [.ref sa, .ref ea, .ref r1, .int (0 : Int32), .int (((0 : Int32) + (1 : Int32)) + (1 : Int32))]) :: (sa, ArrC Z .int 8 (upd (upd fs 0 (0 : Int32)) 1 (3 : Int32))) :: (ea, ArrC Z .int 8 (upd (upd fe 0 (1 : Int32)) 1 (4 : Int32))) :: (r1, ArrC Z .byte 4 f) :: L) 0 0 72 #[.val (.ref r0), .val (.ref r1), .val (.int (0 : Int32)), .val (.int (4 : Int32)), .val (.int (4 : Int32)), .val (.int (3 : Int32))] []
          refine Wk.goto (pc' := 18) C d5_72 (by decide) (by decide) ?_
          refine Wk.iload (pc' := 20) C d5_18 rfl rfl ?_
          refine Wk.iloadN (pc' := 21) C d5_20 rfl rfl ?_
          refine Wk.icmp_ge (pcT := 75) (pcF := 24) C d5_21 (by decide) (by decide) rfl (fun _ => ?_) (fun q => absurd q (by decide))
          have htk : (((0 : Int32) + (1 : Int32)) + (1 : Int32)) = tokF f := by
            simp only [tokF, if_neg c6, if_neg c7, if_pos c8, if_pos c9, if_pos c10, if_neg c14, if_neg c15] <;> decide
          exact Wk.retV C J d5_75 (by decide) (by decide) (fun h O => ⟨(((0 : Int32) + (1 : Int32)) + (1 : Int32)), upd (upd fs 0 (0 : Int32)) 1 (3 : Int32), upd (upd fe 0 (1 : Int32)) 1 (4 : Int32), rfl, htk, Or.inr (Or.inr ⟨by decide, (show 0 ≤ ((0 : Int32)).toInt ∧ ((0 : Int32)).toInt ≤ ((4 : Int32)).toInt ∧ ((4 : Int32)).toInt ≤ 4 from by decide)⟩), O⟩)
        · skip
          refine Wk.iinc (z := (4 : Int32)) (Ls' := #[.val (.ref r0), .val (.ref r1), .val (.int (0 : Int32)), .val (.int (4 : Int32)), .val (.int (4 : Int32)), .val (.int (0 : Int32))]) (pc' := 36) C d5_33 rfl (by decide) rfl rfl ?_
          refine Wk.goto (pc' := 18) C d5_36 (by decide) (by decide) ?_
          refine Wk.iload (pc' := 20) C d5_18 rfl rfl ?_
          refine Wk.iloadN (pc' := 21) C d5_20 rfl rfl ?_
          refine Wk.icmp_ge (pcT := 75) (pcF := 24) C d5_21 (by decide) (by decide) rfl (fun _ => ?_) (fun q => absurd q (by decide))
          have htk : ((0 : Int32) + (1 : Int32)) = tokF f := by
            simp only [tokF, if_neg c6, if_neg c7, if_pos c8, if_pos c9, if_pos c10, if_pos c14] <;> decide
          exact Wk.retV C J d5_75 (by decide) (by decide) (fun h O => ⟨((0 : Int32) + (1 : Int32)), upd fs 0 (0 : Int32), upd fe 0 (1 : Int32), rfl, htk, Or.inr (Or.inl ⟨by decide, (show 0 ≤ ((0 : Int32)).toInt ∧ ((0 : Int32)).toInt ≤ ((1 : Int32)).toInt ∧ ((1 : Int32)).toInt ≤ 4 from by decide)⟩), O⟩)
    · skip
      refine Wk.iinc (z := (2 : Int32)) (Ls' := #[.val (.ref r0), .val (.ref r1), .val (.int (0 : Int32)), .val (.int (4 : Int32)), .val (.int (2 : Int32)), .val (.int (0 : Int32))]) (pc' := 61) C d5_58 rfl (by decide) rfl rfl ?_
      refine Wk.goto (pc' := 43) C d5_61 (by decide) (by decide) ?_
      refine Wk.iload (pc' := 45) C d5_43 rfl rfl ?_
      refine Wk.iloadN (pc' := 46) C d5_45 rfl rfl ?_
      refine Wk.icmp_ge (pcT := 64) (pcF := 49) C d5_46 (by decide) (by decide) rfl (fun q => absurd q (by decide)) (fun _ => ?_)
      refine Wk.aloadN (pc' := 50) C d5_49 rfl rfl rfl ?_
      refine Wk.iload (pc' := 52) C d5_50 rfl rfl ?_
      refine Wk.baload (pc' := 53) (q := 3) (i := 2) C d5_52 rfl (by decide) (by decide) rfl ?_
      refine Wk.bipush (z := (32 : Int32)) (pc' := 55) C d5_53 rfl rfl ?_
      refine Wk.icmp_eq (pcT := 64) (pcF := 58) C d5_55 (by decide) (by decide) rfl (fun c16 => ?_) (fun c16 => ?_)
      · skip
        refine Wk.aloadN (pc' := 65) C d5_64 rfl rfl rfl ?_
        refine Wk.iload (pc' := 67) C d5_65 rfl rfl ?_
        refine Wk.iload (pc' := 69) C d5_67 rfl rfl ?_
        refine Wk.callP (pc' := 72) (rm := { frames := 0, cells := 0, slots := 0, locals := 0 }) (W0 := 0) (q := 0) (argsL := [.int (0 : Int32), .int (2 : Int32)]) (st := []) C rfl (w33 hw) (w34 hw) (w35 hw) (notFace_same (w25 hw) rfl) (w10 hw) (w36 hw) (by decide) (fun h O => rm6 l Z a0 hw r0 (0 : Int32) (2 : Int32) ((r1, ArrC Z .byte 4 f) :: L) sa ea (.ref r1) (0 : Int32) (0 : Int32) (fs) (fe) 0 h n0 O (by decide) (by decide)) (by decide) (by decide) (by decide) (by decide) d5_69 rfl pd_1 rfl rfl rfl rfl ?_
        rintro _ h' ⟨rfl, O'⟩
        refine ⟨_, O', ?_⟩
        change Wk p l e _ m _ below meth c _ _ n0 ((r0, ObjC Z "com/example/vole/vole/textprotocol/RequestLine" ks_0 [.ref sa, .ref ea, .ref r1, .int (0 : Int32), .int ((0 : Int32) + (1 : Int32))]) :: (sa, ArrC Z .int 8 (upd fs 0 (0 : Int32))) :: (ea, ArrC Z .int 8 (upd fe 0 (2 : Int32))) :: (r1, ArrC Z .byte 4 f) :: L) 0 0 72 #[.val (.ref r0), .val (.ref r1), .val (.int (0 : Int32)), .val (.int (4 : Int32)), .val (.int (2 : Int32)), .val (.int (0 : Int32))] []
        refine Wk.goto (pc' := 18) C d5_72 (by decide) (by decide) ?_
        refine Wk.iload (pc' := 20) C d5_18 rfl rfl ?_
        refine Wk.iloadN (pc' := 21) C d5_20 rfl rfl ?_
        refine Wk.icmp_ge (pcT := 75) (pcF := 24) C d5_21 (by decide) (by decide) rfl (fun q => absurd q (by decide)) (fun _ => ?_)
        refine Wk.aloadN (pc' := 25) C d5_24 rfl rfl rfl ?_
        refine Wk.iload (pc' := 27) C d5_25 rfl rfl ?_
        refine Wk.baload (pc' := 28) (q := 3) (i := 2) C d5_27 rfl (by decide) (by decide) rfl ?_
        refine Wk.bipush (z := (32 : Int32)) (pc' := 30) C d5_28 rfl rfl ?_
        refine Wk.icmp_ne (pcT := 39) (pcF := 33) C d5_30 (by decide) (by decide) rfl (fun c17 => (show False from c17 c16).elim) (fun c17 => ?_)
        refine Wk.iinc (z := (3 : Int32)) (Ls' := #[.val (.ref r0), .val (.ref r1), .val (.int (0 : Int32)), .val (.int (4 : Int32)), .val (.int (3 : Int32)), .val (.int (0 : Int32))]) (pc' := 36) C d5_33 rfl (by decide) rfl rfl ?_
        refine Wk.goto (pc' := 18) C d5_36 (by decide) (by decide) ?_
        refine Wk.iload (pc' := 20) C d5_18 rfl rfl ?_
        refine Wk.iloadN (pc' := 21) C d5_20 rfl rfl ?_
        refine Wk.icmp_ge (pcT := 75) (pcF := 24) C d5_21 (by decide) (by decide) rfl (fun q => absurd q (by decide)) (fun _ => ?_)
        refine Wk.aloadN (pc' := 25) C d5_24 rfl rfl rfl ?_
        refine Wk.iload (pc' := 27) C d5_25 rfl rfl ?_
        refine Wk.baload (pc' := 28) (q := 3) (i := 3) C d5_27 rfl (by decide) (by decide) rfl ?_
        refine Wk.bipush (z := (32 : Int32)) (pc' := 30) C d5_28 rfl rfl ?_
        refine Wk.icmp_ne (pcT := 39) (pcF := 33) C d5_30 (by decide) (by decide) rfl (fun c18 => ?_) (fun c18 => ?_)
        · skip
          refine Wk.iload (pc' := 41) C d5_39 rfl rfl ?_
          refine Wk.istore (Ls' := #[.val (.ref r0), .val (.ref r1), .val (.int (0 : Int32)), .val (.int (4 : Int32)), .val (.int (3 : Int32)), .val (.int (3 : Int32))]) (pc' := 43) C d5_41 rfl rfl ?_
          refine Wk.iload (pc' := 45) C d5_43 rfl rfl ?_
          refine Wk.iloadN (pc' := 46) C d5_45 rfl rfl ?_
          refine Wk.icmp_ge (pcT := 64) (pcF := 49) C d5_46 (by decide) (by decide) rfl (fun q => absurd q (by decide)) (fun _ => ?_)
          refine Wk.aloadN (pc' := 50) C d5_49 rfl rfl rfl ?_
          refine Wk.iload (pc' := 52) C d5_50 rfl rfl ?_
          refine Wk.baload (pc' := 53) (q := 3) (i := 3) C d5_52 rfl (by decide) (by decide) rfl ?_
          refine Wk.bipush (z := (32 : Int32)) (pc' := 55) C d5_53 rfl rfl ?_
          refine Wk.icmp_eq (pcT := 64) (pcF := 58) C d5_55 (by decide) (by decide) rfl (fun c19 => (show False from c18 c19).elim) (fun c19 => ?_)
          refine Wk.iinc (z := (4 : Int32)) (Ls' := #[.val (.ref r0), .val (.ref r1), .val (.int (0 : Int32)), .val (.int (4 : Int32)), .val (.int (4 : Int32)), .val (.int (3 : Int32))]) (pc' := 61) C d5_58 rfl (by decide) rfl rfl ?_
          refine Wk.goto (pc' := 43) C d5_61 (by decide) (by decide) ?_
          refine Wk.iload (pc' := 45) C d5_43 rfl rfl ?_
          refine Wk.iloadN (pc' := 46) C d5_45 rfl rfl ?_
          refine Wk.icmp_ge (pcT := 64) (pcF := 49) C d5_46 (by decide) (by decide) rfl (fun _ => ?_) (fun q => absurd q (by decide))
          refine Wk.aloadN (pc' := 65) C d5_64 rfl rfl rfl ?_
          refine Wk.iload (pc' := 67) C d5_65 rfl rfl ?_
          refine Wk.iload (pc' := 69) C d5_67 rfl rfl ?_
          refine Wk.callP (pc' := 72) (rm := { frames := 0, cells := 0, slots := 0, locals := 0 }) (W0 := 0) (q := 0) (argsL := [.int (3 : Int32), .int (4 : Int32)]) (st := []) C rfl (w33 hw) (w34 hw) (w35 hw) (notFace_same (w25 hw) rfl) (w10 hw) (w36 hw) (by decide) (fun h O => rm6 l Z a0 hw r0 (3 : Int32) (4 : Int32) ((r1, ArrC Z .byte 4 f) :: L) sa ea (.ref r1) (0 : Int32) ((0 : Int32) + (1 : Int32)) (upd fs 0 (0 : Int32)) (upd fe 0 (2 : Int32)) 1 h n0 O (by decide) (by decide)) (by decide) (by decide) (by decide) (by decide) d5_69 rfl pd_1 rfl rfl rfl rfl ?_
          rintro _ h' ⟨rfl, O'⟩
          refine ⟨_, O', ?_⟩
          change Wk p l e _ m _ below meth c _ _ n0 ((r0, ObjC Z "com/example/vole/vole/textprotocol/RequestLine" ks_0 [.ref sa, .ref ea, .ref r1, .int (0 : Int32), .int (((0 : Int32) + (1 : Int32)) + (1 : Int32))]) :: (sa, ArrC Z .int 8 (upd (upd fs 0 (0 : Int32)) 1 (3 : Int32))) :: (ea, ArrC Z .int 8 (upd (upd fe 0 (2 : Int32)) 1 (4 : Int32))) :: (r1, ArrC Z .byte 4 f) :: L) 0 0 72 #[.val (.ref r0), .val (.ref r1), .val (.int (0 : Int32)), .val (.int (4 : Int32)), .val (.int (4 : Int32)), .val (.int (3 : Int32))] []
          refine Wk.goto (pc' := 18) C d5_72 (by decide) (by decide) ?_
          refine Wk.iload (pc' := 20) C d5_18 rfl rfl ?_
          refine Wk.iloadN (pc' := 21) C d5_20 rfl rfl ?_
          refine Wk.icmp_ge (pcT := 75) (pcF := 24) C d5_21 (by decide) (by decide) rfl (fun _ => ?_) (fun q => absurd q (by decide))
          have htk : (((0 : Int32) + (1 : Int32)) + (1 : Int32)) = tokF f := by
            simp only [tokF, if_neg c6, if_neg c7, if_neg c8, if_pos c16, if_pos c17, if_neg c18, if_neg c19] <;> decide
          exact Wk.retV C J d5_75 (by decide) (by decide) (fun h O => ⟨(((0 : Int32) + (1 : Int32)) + (1 : Int32)), upd (upd fs 0 (0 : Int32)) 1 (3 : Int32), upd (upd fe 0 (2 : Int32)) 1 (4 : Int32), rfl, htk, Or.inr (Or.inr ⟨by decide, (show 0 ≤ ((0 : Int32)).toInt ∧ ((0 : Int32)).toInt ≤ ((4 : Int32)).toInt ∧ ((4 : Int32)).toInt ≤ 4 from by decide)⟩), O⟩)
        · skip
          refine Wk.iinc (z := (4 : Int32)) (Ls' := #[.val (.ref r0), .val (.ref r1), .val (.int (0 : Int32)), .val (.int (4 : Int32)), .val (.int (4 : Int32)), .val (.int (0 : Int32))]) (pc' := 36) C d5_33 rfl (by decide) rfl rfl ?_
          refine Wk.goto (pc' := 18) C d5_36 (by decide) (by decide) ?_
          refine Wk.iload (pc' := 20) C d5_18 rfl rfl ?_
          refine Wk.iloadN (pc' := 21) C d5_20 rfl rfl ?_
          refine Wk.icmp_ge (pcT := 75) (pcF := 24) C d5_21 (by decide) (by decide) rfl (fun _ => ?_) (fun q => absurd q (by decide))
          have htk : ((0 : Int32) + (1 : Int32)) = tokF f := by
            simp only [tokF, if_neg c6, if_neg c7, if_neg c8, if_pos c16, if_pos c17, if_pos c18] <;> decide
          exact Wk.retV C J d5_75 (by decide) (by decide) (fun h O => ⟨((0 : Int32) + (1 : Int32)), upd fs 0 (0 : Int32), upd fe 0 (2 : Int32), rfl, htk, Or.inr (Or.inl ⟨by decide, (show 0 ≤ ((0 : Int32)).toInt ∧ ((0 : Int32)).toInt ≤ ((2 : Int32)).toInt ∧ ((2 : Int32)).toInt ≤ 4 from by decide)⟩), O⟩)
      · skip
        refine Wk.iinc (z := (3 : Int32)) (Ls' := #[.val (.ref r0), .val (.ref r1), .val (.int (0 : Int32)), .val (.int (4 : Int32)), .val (.int (3 : Int32)), .val (.int (0 : Int32))]) (pc' := 61) C d5_58 rfl (by decide) rfl rfl ?_
        refine Wk.goto (pc' := 43) C d5_61 (by decide) (by decide) ?_
        refine Wk.iload (pc' := 45) C d5_43 rfl rfl ?_
        refine Wk.iloadN (pc' := 46) C d5_45 rfl rfl ?_
        refine Wk.icmp_ge (pcT := 64) (pcF := 49) C d5_46 (by decide) (by decide) rfl (fun q => absurd q (by decide)) (fun _ => ?_)
        refine Wk.aloadN (pc' := 50) C d5_49 rfl rfl rfl ?_
        refine Wk.iload (pc' := 52) C d5_50 rfl rfl ?_
        refine Wk.baload (pc' := 53) (q := 3) (i := 3) C d5_52 rfl (by decide) (by decide) rfl ?_
        refine Wk.bipush (z := (32 : Int32)) (pc' := 55) C d5_53 rfl rfl ?_
        refine Wk.icmp_eq (pcT := 64) (pcF := 58) C d5_55 (by decide) (by decide) rfl (fun c20 => ?_) (fun c20 => ?_)
        · skip
          refine Wk.aloadN (pc' := 65) C d5_64 rfl rfl rfl ?_
          refine Wk.iload (pc' := 67) C d5_65 rfl rfl ?_
          refine Wk.iload (pc' := 69) C d5_67 rfl rfl ?_
          refine Wk.callP (pc' := 72) (rm := { frames := 0, cells := 0, slots := 0, locals := 0 }) (W0 := 0) (q := 0) (argsL := [.int (0 : Int32), .int (3 : Int32)]) (st := []) C rfl (w33 hw) (w34 hw) (w35 hw) (notFace_same (w25 hw) rfl) (w10 hw) (w36 hw) (by decide) (fun h O => rm6 l Z a0 hw r0 (0 : Int32) (3 : Int32) ((r1, ArrC Z .byte 4 f) :: L) sa ea (.ref r1) (0 : Int32) (0 : Int32) (fs) (fe) 0 h n0 O (by decide) (by decide)) (by decide) (by decide) (by decide) (by decide) d5_69 rfl pd_1 rfl rfl rfl rfl ?_
          rintro _ h' ⟨rfl, O'⟩
          refine ⟨_, O', ?_⟩
          change Wk p l e _ m _ below meth c _ _ n0 ((r0, ObjC Z "com/example/vole/vole/textprotocol/RequestLine" ks_0 [.ref sa, .ref ea, .ref r1, .int (0 : Int32), .int ((0 : Int32) + (1 : Int32))]) :: (sa, ArrC Z .int 8 (upd fs 0 (0 : Int32))) :: (ea, ArrC Z .int 8 (upd fe 0 (3 : Int32))) :: (r1, ArrC Z .byte 4 f) :: L) 0 0 72 #[.val (.ref r0), .val (.ref r1), .val (.int (0 : Int32)), .val (.int (4 : Int32)), .val (.int (3 : Int32)), .val (.int (0 : Int32))] []
          refine Wk.goto (pc' := 18) C d5_72 (by decide) (by decide) ?_
          refine Wk.iload (pc' := 20) C d5_18 rfl rfl ?_
          refine Wk.iloadN (pc' := 21) C d5_20 rfl rfl ?_
          refine Wk.icmp_ge (pcT := 75) (pcF := 24) C d5_21 (by decide) (by decide) rfl (fun q => absurd q (by decide)) (fun _ => ?_)
          refine Wk.aloadN (pc' := 25) C d5_24 rfl rfl rfl ?_
          refine Wk.iload (pc' := 27) C d5_25 rfl rfl ?_
          refine Wk.baload (pc' := 28) (q := 3) (i := 3) C d5_27 rfl (by decide) (by decide) rfl ?_
          refine Wk.bipush (z := (32 : Int32)) (pc' := 30) C d5_28 rfl rfl ?_
          refine Wk.icmp_ne (pcT := 39) (pcF := 33) C d5_30 (by decide) (by decide) rfl (fun c21 => (show False from c21 c20).elim) (fun c21 => ?_)
          refine Wk.iinc (z := (4 : Int32)) (Ls' := #[.val (.ref r0), .val (.ref r1), .val (.int (0 : Int32)), .val (.int (4 : Int32)), .val (.int (4 : Int32)), .val (.int (0 : Int32))]) (pc' := 36) C d5_33 rfl (by decide) rfl rfl ?_
          refine Wk.goto (pc' := 18) C d5_36 (by decide) (by decide) ?_
          refine Wk.iload (pc' := 20) C d5_18 rfl rfl ?_
          refine Wk.iloadN (pc' := 21) C d5_20 rfl rfl ?_
          refine Wk.icmp_ge (pcT := 75) (pcF := 24) C d5_21 (by decide) (by decide) rfl (fun _ => ?_) (fun q => absurd q (by decide))
          have htk : ((0 : Int32) + (1 : Int32)) = tokF f := by
            simp only [tokF, if_neg c6, if_neg c7, if_neg c8, if_neg c16, if_pos c20, if_pos c21] <;> decide
          exact Wk.retV C J d5_75 (by decide) (by decide) (fun h O => ⟨((0 : Int32) + (1 : Int32)), upd fs 0 (0 : Int32), upd fe 0 (3 : Int32), rfl, htk, Or.inr (Or.inl ⟨by decide, (show 0 ≤ ((0 : Int32)).toInt ∧ ((0 : Int32)).toInt ≤ ((3 : Int32)).toInt ∧ ((3 : Int32)).toInt ≤ 4 from by decide)⟩), O⟩)
        · skip
          refine Wk.iinc (z := (4 : Int32)) (Ls' := #[.val (.ref r0), .val (.ref r1), .val (.int (0 : Int32)), .val (.int (4 : Int32)), .val (.int (4 : Int32)), .val (.int (0 : Int32))]) (pc' := 61) C d5_58 rfl (by decide) rfl rfl ?_
          refine Wk.goto (pc' := 43) C d5_61 (by decide) (by decide) ?_
          refine Wk.iload (pc' := 45) C d5_43 rfl rfl ?_
          refine Wk.iloadN (pc' := 46) C d5_45 rfl rfl ?_
          refine Wk.icmp_ge (pcT := 64) (pcF := 49) C d5_46 (by decide) (by decide) rfl (fun _ => ?_) (fun q => absurd q (by decide))
          refine Wk.aloadN (pc' := 65) C d5_64 rfl rfl rfl ?_
          refine Wk.iload (pc' := 67) C d5_65 rfl rfl ?_
          refine Wk.iload (pc' := 69) C d5_67 rfl rfl ?_
          refine Wk.callP (pc' := 72) (rm := { frames := 0, cells := 0, slots := 0, locals := 0 }) (W0 := 0) (q := 0) (argsL := [.int (0 : Int32), .int (4 : Int32)]) (st := []) C rfl (w33 hw) (w34 hw) (w35 hw) (notFace_same (w25 hw) rfl) (w10 hw) (w36 hw) (by decide) (fun h O => rm6 l Z a0 hw r0 (0 : Int32) (4 : Int32) ((r1, ArrC Z .byte 4 f) :: L) sa ea (.ref r1) (0 : Int32) (0 : Int32) (fs) (fe) 0 h n0 O (by decide) (by decide)) (by decide) (by decide) (by decide) (by decide) d5_69 rfl pd_1 rfl rfl rfl rfl ?_
          rintro _ h' ⟨rfl, O'⟩
          refine ⟨_, O', ?_⟩
          change Wk p l e _ m _ below meth c _ _ n0 ((r0, ObjC Z "com/example/vole/vole/textprotocol/RequestLine" ks_0 [.ref sa, .ref ea, .ref r1, .int (0 : Int32), .int ((0 : Int32) + (1 : Int32))]) :: (sa, ArrC Z .int 8 (upd fs 0 (0 : Int32))) :: (ea, ArrC Z .int 8 (upd fe 0 (4 : Int32))) :: (r1, ArrC Z .byte 4 f) :: L) 0 0 72 #[.val (.ref r0), .val (.ref r1), .val (.int (0 : Int32)), .val (.int (4 : Int32)), .val (.int (4 : Int32)), .val (.int (0 : Int32))] []
          refine Wk.goto (pc' := 18) C d5_72 (by decide) (by decide) ?_
          refine Wk.iload (pc' := 20) C d5_18 rfl rfl ?_
          refine Wk.iloadN (pc' := 21) C d5_20 rfl rfl ?_
          refine Wk.icmp_ge (pcT := 75) (pcF := 24) C d5_21 (by decide) (by decide) rfl (fun _ => ?_) (fun q => absurd q (by decide))
          have htk : ((0 : Int32) + (1 : Int32)) = tokF f := by
            simp only [tokF, if_neg c6, if_neg c7, if_neg c8, if_neg c16, if_neg c20] <;> decide
          exact Wk.retV C J d5_75 (by decide) (by decide) (fun h O => ⟨((0 : Int32) + (1 : Int32)), upd fs 0 (0 : Int32), upd fe 0 (4 : Int32), rfl, htk, Or.inr (Or.inl ⟨by decide, (show 0 ≤ ((0 : Int32)).toInt ∧ ((0 : Int32)).toInt ≤ ((4 : Int32)).toInt ∧ ((4 : Int32)).toInt ≤ 4 from by decide)⟩), O⟩)
  · skip
    refine Wk.iinc (z := (1 : Int32)) (Ls' := #[.val (.ref r0), .val (.ref r1), .val (.int (0 : Int32)), .val (.int (4 : Int32)), .val (.int (1 : Int32)), .unset]) (pc' := 36) C d5_33 rfl (by decide) rfl rfl ?_
    refine Wk.goto (pc' := 18) C d5_36 (by decide) (by decide) ?_
    refine Wk.iload (pc' := 20) C d5_18 rfl rfl ?_
    refine Wk.iloadN (pc' := 21) C d5_20 rfl rfl ?_
    refine Wk.icmp_ge (pcT := 75) (pcF := 24) C d5_21 (by decide) (by decide) rfl (fun q => absurd q (by decide)) (fun _ => ?_)
    refine Wk.aloadN (pc' := 25) C d5_24 rfl rfl rfl ?_
    refine Wk.iload (pc' := 27) C d5_25 rfl rfl ?_
    refine Wk.baload (pc' := 28) (q := 3) (i := 1) C d5_27 rfl (by decide) (by decide) rfl ?_
    refine Wk.bipush (z := (32 : Int32)) (pc' := 30) C d5_28 rfl rfl ?_
    refine Wk.icmp_ne (pcT := 39) (pcF := 33) C d5_30 (by decide) (by decide) rfl (fun c22 => ?_) (fun c22 => ?_)
    · skip
      refine Wk.iload (pc' := 41) C d5_39 rfl rfl ?_
      refine Wk.istore (Ls' := #[.val (.ref r0), .val (.ref r1), .val (.int (0 : Int32)), .val (.int (4 : Int32)), .val (.int (1 : Int32)), .val (.int (1 : Int32))]) (pc' := 43) C d5_41 rfl rfl ?_
      refine Wk.iload (pc' := 45) C d5_43 rfl rfl ?_
      refine Wk.iloadN (pc' := 46) C d5_45 rfl rfl ?_
      refine Wk.icmp_ge (pcT := 64) (pcF := 49) C d5_46 (by decide) (by decide) rfl (fun q => absurd q (by decide)) (fun _ => ?_)
      refine Wk.aloadN (pc' := 50) C d5_49 rfl rfl rfl ?_
      refine Wk.iload (pc' := 52) C d5_50 rfl rfl ?_
      refine Wk.baload (pc' := 53) (q := 3) (i := 1) C d5_52 rfl (by decide) (by decide) rfl ?_
      refine Wk.bipush (z := (32 : Int32)) (pc' := 55) C d5_53 rfl rfl ?_
      refine Wk.icmp_eq (pcT := 64) (pcF := 58) C d5_55 (by decide) (by decide) rfl (fun c23 => (show False from c22 c23).elim) (fun c23 => ?_)
      refine Wk.iinc (z := (2 : Int32)) (Ls' := #[.val (.ref r0), .val (.ref r1), .val (.int (0 : Int32)), .val (.int (4 : Int32)), .val (.int (2 : Int32)), .val (.int (1 : Int32))]) (pc' := 61) C d5_58 rfl (by decide) rfl rfl ?_
      refine Wk.goto (pc' := 43) C d5_61 (by decide) (by decide) ?_
      refine Wk.iload (pc' := 45) C d5_43 rfl rfl ?_
      refine Wk.iloadN (pc' := 46) C d5_45 rfl rfl ?_
      refine Wk.icmp_ge (pcT := 64) (pcF := 49) C d5_46 (by decide) (by decide) rfl (fun q => absurd q (by decide)) (fun _ => ?_)
      refine Wk.aloadN (pc' := 50) C d5_49 rfl rfl rfl ?_
      refine Wk.iload (pc' := 52) C d5_50 rfl rfl ?_
      refine Wk.baload (pc' := 53) (q := 3) (i := 2) C d5_52 rfl (by decide) (by decide) rfl ?_
      refine Wk.bipush (z := (32 : Int32)) (pc' := 55) C d5_53 rfl rfl ?_
      refine Wk.icmp_eq (pcT := 64) (pcF := 58) C d5_55 (by decide) (by decide) rfl (fun c24 => ?_) (fun c24 => ?_)
      · skip
        refine Wk.aloadN (pc' := 65) C d5_64 rfl rfl rfl ?_
        refine Wk.iload (pc' := 67) C d5_65 rfl rfl ?_
        refine Wk.iload (pc' := 69) C d5_67 rfl rfl ?_
        refine Wk.callP (pc' := 72) (rm := { frames := 0, cells := 0, slots := 0, locals := 0 }) (W0 := 0) (q := 0) (argsL := [.int (1 : Int32), .int (2 : Int32)]) (st := []) C rfl (w33 hw) (w34 hw) (w35 hw) (notFace_same (w25 hw) rfl) (w10 hw) (w36 hw) (by decide) (fun h O => rm6 l Z a0 hw r0 (1 : Int32) (2 : Int32) ((r1, ArrC Z .byte 4 f) :: L) sa ea (.ref r1) (0 : Int32) (0 : Int32) (fs) (fe) 0 h n0 O (by decide) (by decide)) (by decide) (by decide) (by decide) (by decide) d5_69 rfl pd_1 rfl rfl rfl rfl ?_
        rintro _ h' ⟨rfl, O'⟩
        refine ⟨_, O', ?_⟩
        change Wk p l e _ m _ below meth c _ _ n0 ((r0, ObjC Z "com/example/vole/vole/textprotocol/RequestLine" ks_0 [.ref sa, .ref ea, .ref r1, .int (0 : Int32), .int ((0 : Int32) + (1 : Int32))]) :: (sa, ArrC Z .int 8 (upd fs 0 (1 : Int32))) :: (ea, ArrC Z .int 8 (upd fe 0 (2 : Int32))) :: (r1, ArrC Z .byte 4 f) :: L) 0 0 72 #[.val (.ref r0), .val (.ref r1), .val (.int (0 : Int32)), .val (.int (4 : Int32)), .val (.int (2 : Int32)), .val (.int (1 : Int32))] []
        refine Wk.goto (pc' := 18) C d5_72 (by decide) (by decide) ?_
        refine Wk.iload (pc' := 20) C d5_18 rfl rfl ?_
        refine Wk.iloadN (pc' := 21) C d5_20 rfl rfl ?_
        refine Wk.icmp_ge (pcT := 75) (pcF := 24) C d5_21 (by decide) (by decide) rfl (fun q => absurd q (by decide)) (fun _ => ?_)
        refine Wk.aloadN (pc' := 25) C d5_24 rfl rfl rfl ?_
        refine Wk.iload (pc' := 27) C d5_25 rfl rfl ?_
        refine Wk.baload (pc' := 28) (q := 3) (i := 2) C d5_27 rfl (by decide) (by decide) rfl ?_
        refine Wk.bipush (z := (32 : Int32)) (pc' := 30) C d5_28 rfl rfl ?_
        refine Wk.icmp_ne (pcT := 39) (pcF := 33) C d5_30 (by decide) (by decide) rfl (fun c25 => (show False from c25 c24).elim) (fun c25 => ?_)
        refine Wk.iinc (z := (3 : Int32)) (Ls' := #[.val (.ref r0), .val (.ref r1), .val (.int (0 : Int32)), .val (.int (4 : Int32)), .val (.int (3 : Int32)), .val (.int (1 : Int32))]) (pc' := 36) C d5_33 rfl (by decide) rfl rfl ?_
        refine Wk.goto (pc' := 18) C d5_36 (by decide) (by decide) ?_
        refine Wk.iload (pc' := 20) C d5_18 rfl rfl ?_
        refine Wk.iloadN (pc' := 21) C d5_20 rfl rfl ?_
        refine Wk.icmp_ge (pcT := 75) (pcF := 24) C d5_21 (by decide) (by decide) rfl (fun q => absurd q (by decide)) (fun _ => ?_)
        refine Wk.aloadN (pc' := 25) C d5_24 rfl rfl rfl ?_
        refine Wk.iload (pc' := 27) C d5_25 rfl rfl ?_
        refine Wk.baload (pc' := 28) (q := 3) (i := 3) C d5_27 rfl (by decide) (by decide) rfl ?_
        refine Wk.bipush (z := (32 : Int32)) (pc' := 30) C d5_28 rfl rfl ?_
        refine Wk.icmp_ne (pcT := 39) (pcF := 33) C d5_30 (by decide) (by decide) rfl (fun c26 => ?_) (fun c26 => ?_)
        · skip
          refine Wk.iload (pc' := 41) C d5_39 rfl rfl ?_
          refine Wk.istore (Ls' := #[.val (.ref r0), .val (.ref r1), .val (.int (0 : Int32)), .val (.int (4 : Int32)), .val (.int (3 : Int32)), .val (.int (3 : Int32))]) (pc' := 43) C d5_41 rfl rfl ?_
          refine Wk.iload (pc' := 45) C d5_43 rfl rfl ?_
          refine Wk.iloadN (pc' := 46) C d5_45 rfl rfl ?_
          refine Wk.icmp_ge (pcT := 64) (pcF := 49) C d5_46 (by decide) (by decide) rfl (fun q => absurd q (by decide)) (fun _ => ?_)
          refine Wk.aloadN (pc' := 50) C d5_49 rfl rfl rfl ?_
          refine Wk.iload (pc' := 52) C d5_50 rfl rfl ?_
          refine Wk.baload (pc' := 53) (q := 3) (i := 3) C d5_52 rfl (by decide) (by decide) rfl ?_
          refine Wk.bipush (z := (32 : Int32)) (pc' := 55) C d5_53 rfl rfl ?_
          refine Wk.icmp_eq (pcT := 64) (pcF := 58) C d5_55 (by decide) (by decide) rfl (fun c27 => (show False from c26 c27).elim) (fun c27 => ?_)
          refine Wk.iinc (z := (4 : Int32)) (Ls' := #[.val (.ref r0), .val (.ref r1), .val (.int (0 : Int32)), .val (.int (4 : Int32)), .val (.int (4 : Int32)), .val (.int (3 : Int32))]) (pc' := 61) C d5_58 rfl (by decide) rfl rfl ?_
          refine Wk.goto (pc' := 43) C d5_61 (by decide) (by decide) ?_
          refine Wk.iload (pc' := 45) C d5_43 rfl rfl ?_
          refine Wk.iloadN (pc' := 46) C d5_45 rfl rfl ?_
          refine Wk.icmp_ge (pcT := 64) (pcF := 49) C d5_46 (by decide) (by decide) rfl (fun _ => ?_) (fun q => absurd q (by decide))
          refine Wk.aloadN (pc' := 65) C d5_64 rfl rfl rfl ?_
          refine Wk.iload (pc' := 67) C d5_65 rfl rfl ?_
          refine Wk.iload (pc' := 69) C d5_67 rfl rfl ?_
          refine Wk.callP (pc' := 72) (rm := { frames := 0, cells := 0, slots := 0, locals := 0 }) (W0 := 0) (q := 0) (argsL := [.int (3 : Int32), .int (4 : Int32)]) (st := []) C rfl (w33 hw) (w34 hw) (w35 hw) (notFace_same (w25 hw) rfl) (w10 hw) (w36 hw) (by decide) (fun h O => rm6 l Z a0 hw r0 (3 : Int32) (4 : Int32) ((r1, ArrC Z .byte 4 f) :: L) sa ea (.ref r1) (0 : Int32) ((0 : Int32) + (1 : Int32)) (upd fs 0 (1 : Int32)) (upd fe 0 (2 : Int32)) 1 h n0 O (by decide) (by decide)) (by decide) (by decide) (by decide) (by decide) d5_69 rfl pd_1 rfl rfl rfl rfl ?_
          rintro _ h' ⟨rfl, O'⟩
          refine ⟨_, O', ?_⟩
          change Wk p l e _ m _ below meth c _ _ n0 ((r0, ObjC Z "com/example/vole/vole/textprotocol/RequestLine" ks_0 [.ref sa, .ref ea, .ref r1, .int (0 : Int32), .int (((0 : Int32) + (1 : Int32)) + (1 : Int32))]) :: (sa, ArrC Z .int 8 (upd (upd fs 0 (1 : Int32)) 1 (3 : Int32))) :: (ea, ArrC Z .int 8 (upd (upd fe 0 (2 : Int32)) 1 (4 : Int32))) :: (r1, ArrC Z .byte 4 f) :: L) 0 0 72 #[.val (.ref r0), .val (.ref r1), .val (.int (0 : Int32)), .val (.int (4 : Int32)), .val (.int (4 : Int32)), .val (.int (3 : Int32))] []
          refine Wk.goto (pc' := 18) C d5_72 (by decide) (by decide) ?_
          refine Wk.iload (pc' := 20) C d5_18 rfl rfl ?_
          refine Wk.iloadN (pc' := 21) C d5_20 rfl rfl ?_
          refine Wk.icmp_ge (pcT := 75) (pcF := 24) C d5_21 (by decide) (by decide) rfl (fun _ => ?_) (fun q => absurd q (by decide))
          have htk : (((0 : Int32) + (1 : Int32)) + (1 : Int32)) = tokF f := by
            simp only [tokF, if_pos c6, if_neg c22, if_neg c23, if_pos c24, if_pos c25, if_neg c26, if_neg c27] <;> decide
          exact Wk.retV C J d5_75 (by decide) (by decide) (fun h O => ⟨(((0 : Int32) + (1 : Int32)) + (1 : Int32)), upd (upd fs 0 (1 : Int32)) 1 (3 : Int32), upd (upd fe 0 (2 : Int32)) 1 (4 : Int32), rfl, htk, Or.inr (Or.inr ⟨by decide, (show 0 ≤ ((1 : Int32)).toInt ∧ ((1 : Int32)).toInt ≤ ((4 : Int32)).toInt ∧ ((4 : Int32)).toInt ≤ 4 from by decide)⟩), O⟩)
        · skip
          refine Wk.iinc (z := (4 : Int32)) (Ls' := #[.val (.ref r0), .val (.ref r1), .val (.int (0 : Int32)), .val (.int (4 : Int32)), .val (.int (4 : Int32)), .val (.int (1 : Int32))]) (pc' := 36) C d5_33 rfl (by decide) rfl rfl ?_
          refine Wk.goto (pc' := 18) C d5_36 (by decide) (by decide) ?_
          refine Wk.iload (pc' := 20) C d5_18 rfl rfl ?_
          refine Wk.iloadN (pc' := 21) C d5_20 rfl rfl ?_
          refine Wk.icmp_ge (pcT := 75) (pcF := 24) C d5_21 (by decide) (by decide) rfl (fun _ => ?_) (fun q => absurd q (by decide))
          have htk : ((0 : Int32) + (1 : Int32)) = tokF f := by
            simp only [tokF, if_pos c6, if_neg c22, if_neg c23, if_pos c24, if_pos c25, if_pos c26] <;> decide
          exact Wk.retV C J d5_75 (by decide) (by decide) (fun h O => ⟨((0 : Int32) + (1 : Int32)), upd fs 0 (1 : Int32), upd fe 0 (2 : Int32), rfl, htk, Or.inr (Or.inl ⟨by decide, (show 0 ≤ ((1 : Int32)).toInt ∧ ((1 : Int32)).toInt ≤ ((2 : Int32)).toInt ∧ ((2 : Int32)).toInt ≤ 4 from by decide)⟩), O⟩)
      · skip
        refine Wk.iinc (z := (3 : Int32)) (Ls' := #[.val (.ref r0), .val (.ref r1), .val (.int (0 : Int32)), .val (.int (4 : Int32)), .val (.int (3 : Int32)), .val (.int (1 : Int32))]) (pc' := 61) C d5_58 rfl (by decide) rfl rfl ?_
        refine Wk.goto (pc' := 43) C d5_61 (by decide) (by decide) ?_
        refine Wk.iload (pc' := 45) C d5_43 rfl rfl ?_
        refine Wk.iloadN (pc' := 46) C d5_45 rfl rfl ?_
        refine Wk.icmp_ge (pcT := 64) (pcF := 49) C d5_46 (by decide) (by decide) rfl (fun q => absurd q (by decide)) (fun _ => ?_)
        refine Wk.aloadN (pc' := 50) C d5_49 rfl rfl rfl ?_
        refine Wk.iload (pc' := 52) C d5_50 rfl rfl ?_
        refine Wk.baload (pc' := 53) (q := 3) (i := 3) C d5_52 rfl (by decide) (by decide) rfl ?_
        refine Wk.bipush (z := (32 : Int32)) (pc' := 55) C d5_53 rfl rfl ?_
        refine Wk.icmp_eq (pcT := 64) (pcF := 58) C d5_55 (by decide) (by decide) rfl (fun c28 => ?_) (fun c28 => ?_)
        · skip
          refine Wk.aloadN (pc' := 65) C d5_64 rfl rfl rfl ?_
          refine Wk.iload (pc' := 67) C d5_65 rfl rfl ?_
          refine Wk.iload (pc' := 69) C d5_67 rfl rfl ?_
          refine Wk.callP (pc' := 72) (rm := { frames := 0, cells := 0, slots := 0, locals := 0 }) (W0 := 0) (q := 0) (argsL := [.int (1 : Int32), .int (3 : Int32)]) (st := []) C rfl (w33 hw) (w34 hw) (w35 hw) (notFace_same (w25 hw) rfl) (w10 hw) (w36 hw) (by decide) (fun h O => rm6 l Z a0 hw r0 (1 : Int32) (3 : Int32) ((r1, ArrC Z .byte 4 f) :: L) sa ea (.ref r1) (0 : Int32) (0 : Int32) (fs) (fe) 0 h n0 O (by decide) (by decide)) (by decide) (by decide) (by decide) (by decide) d5_69 rfl pd_1 rfl rfl rfl rfl ?_
          rintro _ h' ⟨rfl, O'⟩
          refine ⟨_, O', ?_⟩
          change Wk p l e _ m _ below meth c _ _ n0 ((r0, ObjC Z "com/example/vole/vole/textprotocol/RequestLine" ks_0 [.ref sa, .ref ea, .ref r1, .int (0 : Int32), .int ((0 : Int32) + (1 : Int32))]) :: (sa, ArrC Z .int 8 (upd fs 0 (1 : Int32))) :: (ea, ArrC Z .int 8 (upd fe 0 (3 : Int32))) :: (r1, ArrC Z .byte 4 f) :: L) 0 0 72 #[.val (.ref r0), .val (.ref r1), .val (.int (0 : Int32)), .val (.int (4 : Int32)), .val (.int (3 : Int32)), .val (.int (1 : Int32))] []
          refine Wk.goto (pc' := 18) C d5_72 (by decide) (by decide) ?_
          refine Wk.iload (pc' := 20) C d5_18 rfl rfl ?_
          refine Wk.iloadN (pc' := 21) C d5_20 rfl rfl ?_
          refine Wk.icmp_ge (pcT := 75) (pcF := 24) C d5_21 (by decide) (by decide) rfl (fun q => absurd q (by decide)) (fun _ => ?_)
          refine Wk.aloadN (pc' := 25) C d5_24 rfl rfl rfl ?_
          refine Wk.iload (pc' := 27) C d5_25 rfl rfl ?_
          refine Wk.baload (pc' := 28) (q := 3) (i := 3) C d5_27 rfl (by decide) (by decide) rfl ?_
          refine Wk.bipush (z := (32 : Int32)) (pc' := 30) C d5_28 rfl rfl ?_
          refine Wk.icmp_ne (pcT := 39) (pcF := 33) C d5_30 (by decide) (by decide) rfl (fun c29 => (show False from c29 c28).elim) (fun c29 => ?_)
          refine Wk.iinc (z := (4 : Int32)) (Ls' := #[.val (.ref r0), .val (.ref r1), .val (.int (0 : Int32)), .val (.int (4 : Int32)), .val (.int (4 : Int32)), .val (.int (1 : Int32))]) (pc' := 36) C d5_33 rfl (by decide) rfl rfl ?_
          refine Wk.goto (pc' := 18) C d5_36 (by decide) (by decide) ?_
          refine Wk.iload (pc' := 20) C d5_18 rfl rfl ?_
          refine Wk.iloadN (pc' := 21) C d5_20 rfl rfl ?_
          refine Wk.icmp_ge (pcT := 75) (pcF := 24) C d5_21 (by decide) (by decide) rfl (fun _ => ?_) (fun q => absurd q (by decide))
          have htk : ((0 : Int32) + (1 : Int32)) = tokF f := by
            simp only [tokF, if_pos c6, if_neg c22, if_neg c23, if_neg c24, if_pos c28, if_pos c29] <;> decide
          exact Wk.retV C J d5_75 (by decide) (by decide) (fun h O => ⟨((0 : Int32) + (1 : Int32)), upd fs 0 (1 : Int32), upd fe 0 (3 : Int32), rfl, htk, Or.inr (Or.inl ⟨by decide, (show 0 ≤ ((1 : Int32)).toInt ∧ ((1 : Int32)).toInt ≤ ((3 : Int32)).toInt ∧ ((3 : Int32)).toInt ≤ 4 from by decide)⟩), O⟩)
        · skip
          refine Wk.iinc (z := (4 : Int32)) (Ls' := #[.val (.ref r0), .val (.ref r1), .val (.int (0 : Int32)), .val (.int (4 : Int32)), .val (.int (4 : Int32)), .val (.int (1 : Int32))]) (pc' := 61) C d5_58 rfl (by decide) rfl rfl ?_
          refine Wk.goto (pc' := 43) C d5_61 (by decide) (by decide) ?_
          refine Wk.iload (pc' := 45) C d5_43 rfl rfl ?_
          refine Wk.iloadN (pc' := 46) C d5_45 rfl rfl ?_
          refine Wk.icmp_ge (pcT := 64) (pcF := 49) C d5_46 (by decide) (by decide) rfl (fun _ => ?_) (fun q => absurd q (by decide))
          refine Wk.aloadN (pc' := 65) C d5_64 rfl rfl rfl ?_
          refine Wk.iload (pc' := 67) C d5_65 rfl rfl ?_
          refine Wk.iload (pc' := 69) C d5_67 rfl rfl ?_
          refine Wk.callP (pc' := 72) (rm := { frames := 0, cells := 0, slots := 0, locals := 0 }) (W0 := 0) (q := 0) (argsL := [.int (1 : Int32), .int (4 : Int32)]) (st := []) C rfl (w33 hw) (w34 hw) (w35 hw) (notFace_same (w25 hw) rfl) (w10 hw) (w36 hw) (by decide) (fun h O => rm6 l Z a0 hw r0 (1 : Int32) (4 : Int32) ((r1, ArrC Z .byte 4 f) :: L) sa ea (.ref r1) (0 : Int32) (0 : Int32) (fs) (fe) 0 h n0 O (by decide) (by decide)) (by decide) (by decide) (by decide) (by decide) d5_69 rfl pd_1 rfl rfl rfl rfl ?_
          rintro _ h' ⟨rfl, O'⟩
          refine ⟨_, O', ?_⟩
          change Wk p l e _ m _ below meth c _ _ n0 ((r0, ObjC Z "com/example/vole/vole/textprotocol/RequestLine" ks_0 [.ref sa, .ref ea, .ref r1, .int (0 : Int32), .int ((0 : Int32) + (1 : Int32))]) :: (sa, ArrC Z .int 8 (upd fs 0 (1 : Int32))) :: (ea, ArrC Z .int 8 (upd fe 0 (4 : Int32))) :: (r1, ArrC Z .byte 4 f) :: L) 0 0 72 #[.val (.ref r0), .val (.ref r1), .val (.int (0 : Int32)), .val (.int (4 : Int32)), .val (.int (4 : Int32)), .val (.int (1 : Int32))] []
          refine Wk.goto (pc' := 18) C d5_72 (by decide) (by decide) ?_
          refine Wk.iload (pc' := 20) C d5_18 rfl rfl ?_
          refine Wk.iloadN (pc' := 21) C d5_20 rfl rfl ?_
          refine Wk.icmp_ge (pcT := 75) (pcF := 24) C d5_21 (by decide) (by decide) rfl (fun _ => ?_) (fun q => absurd q (by decide))
          have htk : ((0 : Int32) + (1 : Int32)) = tokF f := by
            simp only [tokF, if_pos c6, if_neg c22, if_neg c23, if_neg c24, if_neg c28] <;> decide
          exact Wk.retV C J d5_75 (by decide) (by decide) (fun h O => ⟨((0 : Int32) + (1 : Int32)), upd fs 0 (1 : Int32), upd fe 0 (4 : Int32), rfl, htk, Or.inr (Or.inl ⟨by decide, (show 0 ≤ ((1 : Int32)).toInt ∧ ((1 : Int32)).toInt ≤ ((4 : Int32)).toInt ∧ ((4 : Int32)).toInt ≤ 4 from by decide)⟩), O⟩)
    · skip
      refine Wk.iinc (z := (2 : Int32)) (Ls' := #[.val (.ref r0), .val (.ref r1), .val (.int (0 : Int32)), .val (.int (4 : Int32)), .val (.int (2 : Int32)), .unset]) (pc' := 36) C d5_33 rfl (by decide) rfl rfl ?_
      refine Wk.goto (pc' := 18) C d5_36 (by decide) (by decide) ?_
      refine Wk.iload (pc' := 20) C d5_18 rfl rfl ?_
      refine Wk.iloadN (pc' := 21) C d5_20 rfl rfl ?_
      refine Wk.icmp_ge (pcT := 75) (pcF := 24) C d5_21 (by decide) (by decide) rfl (fun q => absurd q (by decide)) (fun _ => ?_)
      refine Wk.aloadN (pc' := 25) C d5_24 rfl rfl rfl ?_
      refine Wk.iload (pc' := 27) C d5_25 rfl rfl ?_
      refine Wk.baload (pc' := 28) (q := 3) (i := 2) C d5_27 rfl (by decide) (by decide) rfl ?_
      refine Wk.bipush (z := (32 : Int32)) (pc' := 30) C d5_28 rfl rfl ?_
      refine Wk.icmp_ne (pcT := 39) (pcF := 33) C d5_30 (by decide) (by decide) rfl (fun c30 => ?_) (fun c30 => ?_)
      · skip
        refine Wk.iload (pc' := 41) C d5_39 rfl rfl ?_
        refine Wk.istore (Ls' := #[.val (.ref r0), .val (.ref r1), .val (.int (0 : Int32)), .val (.int (4 : Int32)), .val (.int (2 : Int32)), .val (.int (2 : Int32))]) (pc' := 43) C d5_41 rfl rfl ?_
        refine Wk.iload (pc' := 45) C d5_43 rfl rfl ?_
        refine Wk.iloadN (pc' := 46) C d5_45 rfl rfl ?_
        refine Wk.icmp_ge (pcT := 64) (pcF := 49) C d5_46 (by decide) (by decide) rfl (fun q => absurd q (by decide)) (fun _ => ?_)
        refine Wk.aloadN (pc' := 50) C d5_49 rfl rfl rfl ?_
        refine Wk.iload (pc' := 52) C d5_50 rfl rfl ?_
        refine Wk.baload (pc' := 53) (q := 3) (i := 2) C d5_52 rfl (by decide) (by decide) rfl ?_
        refine Wk.bipush (z := (32 : Int32)) (pc' := 55) C d5_53 rfl rfl ?_
        refine Wk.icmp_eq (pcT := 64) (pcF := 58) C d5_55 (by decide) (by decide) rfl (fun c31 => (show False from c30 c31).elim) (fun c31 => ?_)
        refine Wk.iinc (z := (3 : Int32)) (Ls' := #[.val (.ref r0), .val (.ref r1), .val (.int (0 : Int32)), .val (.int (4 : Int32)), .val (.int (3 : Int32)), .val (.int (2 : Int32))]) (pc' := 61) C d5_58 rfl (by decide) rfl rfl ?_
        refine Wk.goto (pc' := 43) C d5_61 (by decide) (by decide) ?_
        refine Wk.iload (pc' := 45) C d5_43 rfl rfl ?_
        refine Wk.iloadN (pc' := 46) C d5_45 rfl rfl ?_
        refine Wk.icmp_ge (pcT := 64) (pcF := 49) C d5_46 (by decide) (by decide) rfl (fun q => absurd q (by decide)) (fun _ => ?_)
        refine Wk.aloadN (pc' := 50) C d5_49 rfl rfl rfl ?_
        refine Wk.iload (pc' := 52) C d5_50 rfl rfl ?_
        refine Wk.baload (pc' := 53) (q := 3) (i := 3) C d5_52 rfl (by decide) (by decide) rfl ?_
        refine Wk.bipush (z := (32 : Int32)) (pc' := 55) C d5_53 rfl rfl ?_
        refine Wk.icmp_eq (pcT := 64) (pcF := 58) C d5_55 (by decide) (by decide) rfl (fun c32 => ?_) (fun c32 => ?_)
        · skip
          refine Wk.aloadN (pc' := 65) C d5_64 rfl rfl rfl ?_
          refine Wk.iload (pc' := 67) C d5_65 rfl rfl ?_
          refine Wk.iload (pc' := 69) C d5_67 rfl rfl ?_
          refine Wk.callP (pc' := 72) (rm := { frames := 0, cells := 0, slots := 0, locals := 0 }) (W0 := 0) (q := 0) (argsL := [.int (2 : Int32), .int (3 : Int32)]) (st := []) C rfl (w33 hw) (w34 hw) (w35 hw) (notFace_same (w25 hw) rfl) (w10 hw) (w36 hw) (by decide) (fun h O => rm6 l Z a0 hw r0 (2 : Int32) (3 : Int32) ((r1, ArrC Z .byte 4 f) :: L) sa ea (.ref r1) (0 : Int32) (0 : Int32) (fs) (fe) 0 h n0 O (by decide) (by decide)) (by decide) (by decide) (by decide) (by decide) d5_69 rfl pd_1 rfl rfl rfl rfl ?_
          rintro _ h' ⟨rfl, O'⟩
          refine ⟨_, O', ?_⟩
          change Wk p l e _ m _ below meth c _ _ n0 ((r0, ObjC Z "com/example/vole/vole/textprotocol/RequestLine" ks_0 [.ref sa, .ref ea, .ref r1, .int (0 : Int32), .int ((0 : Int32) + (1 : Int32))]) :: (sa, ArrC Z .int 8 (upd fs 0 (2 : Int32))) :: (ea, ArrC Z .int 8 (upd fe 0 (3 : Int32))) :: (r1, ArrC Z .byte 4 f) :: L) 0 0 72 #[.val (.ref r0), .val (.ref r1), .val (.int (0 : Int32)), .val (.int (4 : Int32)), .val (.int (3 : Int32)), .val (.int (2 : Int32))] []
          refine Wk.goto (pc' := 18) C d5_72 (by decide) (by decide) ?_
          refine Wk.iload (pc' := 20) C d5_18 rfl rfl ?_
          refine Wk.iloadN (pc' := 21) C d5_20 rfl rfl ?_
          refine Wk.icmp_ge (pcT := 75) (pcF := 24) C d5_21 (by decide) (by decide) rfl (fun q => absurd q (by decide)) (fun _ => ?_)
          refine Wk.aloadN (pc' := 25) C d5_24 rfl rfl rfl ?_
          refine Wk.iload (pc' := 27) C d5_25 rfl rfl ?_
          refine Wk.baload (pc' := 28) (q := 3) (i := 3) C d5_27 rfl (by decide) (by decide) rfl ?_
          refine Wk.bipush (z := (32 : Int32)) (pc' := 30) C d5_28 rfl rfl ?_
          refine Wk.icmp_ne (pcT := 39) (pcF := 33) C d5_30 (by decide) (by decide) rfl (fun c33 => (show False from c33 c32).elim) (fun c33 => ?_)
          refine Wk.iinc (z := (4 : Int32)) (Ls' := #[.val (.ref r0), .val (.ref r1), .val (.int (0 : Int32)), .val (.int (4 : Int32)), .val (.int (4 : Int32)), .val (.int (2 : Int32))]) (pc' := 36) C d5_33 rfl (by decide) rfl rfl ?_
          refine Wk.goto (pc' := 18) C d5_36 (by decide) (by decide) ?_
          refine Wk.iload (pc' := 20) C d5_18 rfl rfl ?_
          refine Wk.iloadN (pc' := 21) C d5_20 rfl rfl ?_
          refine Wk.icmp_ge (pcT := 75) (pcF := 24) C d5_21 (by decide) (by decide) rfl (fun _ => ?_) (fun q => absurd q (by decide))
          have htk : ((0 : Int32) + (1 : Int32)) = tokF f := by
            simp only [tokF, if_pos c6, if_pos c22, if_neg c30, if_neg c31, if_pos c32, if_pos c33] <;> decide
          exact Wk.retV C J d5_75 (by decide) (by decide) (fun h O => ⟨((0 : Int32) + (1 : Int32)), upd fs 0 (2 : Int32), upd fe 0 (3 : Int32), rfl, htk, Or.inr (Or.inl ⟨by decide, (show 0 ≤ ((2 : Int32)).toInt ∧ ((2 : Int32)).toInt ≤ ((3 : Int32)).toInt ∧ ((3 : Int32)).toInt ≤ 4 from by decide)⟩), O⟩)
        · skip
          refine Wk.iinc (z := (4 : Int32)) (Ls' := #[.val (.ref r0), .val (.ref r1), .val (.int (0 : Int32)), .val (.int (4 : Int32)), .val (.int (4 : Int32)), .val (.int (2 : Int32))]) (pc' := 61) C d5_58 rfl (by decide) rfl rfl ?_
          refine Wk.goto (pc' := 43) C d5_61 (by decide) (by decide) ?_
          refine Wk.iload (pc' := 45) C d5_43 rfl rfl ?_
          refine Wk.iloadN (pc' := 46) C d5_45 rfl rfl ?_
          refine Wk.icmp_ge (pcT := 64) (pcF := 49) C d5_46 (by decide) (by decide) rfl (fun _ => ?_) (fun q => absurd q (by decide))
          refine Wk.aloadN (pc' := 65) C d5_64 rfl rfl rfl ?_
          refine Wk.iload (pc' := 67) C d5_65 rfl rfl ?_
          refine Wk.iload (pc' := 69) C d5_67 rfl rfl ?_
          refine Wk.callP (pc' := 72) (rm := { frames := 0, cells := 0, slots := 0, locals := 0 }) (W0 := 0) (q := 0) (argsL := [.int (2 : Int32), .int (4 : Int32)]) (st := []) C rfl (w33 hw) (w34 hw) (w35 hw) (notFace_same (w25 hw) rfl) (w10 hw) (w36 hw) (by decide) (fun h O => rm6 l Z a0 hw r0 (2 : Int32) (4 : Int32) ((r1, ArrC Z .byte 4 f) :: L) sa ea (.ref r1) (0 : Int32) (0 : Int32) (fs) (fe) 0 h n0 O (by decide) (by decide)) (by decide) (by decide) (by decide) (by decide) d5_69 rfl pd_1 rfl rfl rfl rfl ?_
          rintro _ h' ⟨rfl, O'⟩
          refine ⟨_, O', ?_⟩
          change Wk p l e _ m _ below meth c _ _ n0 ((r0, ObjC Z "com/example/vole/vole/textprotocol/RequestLine" ks_0 [.ref sa, .ref ea, .ref r1, .int (0 : Int32), .int ((0 : Int32) + (1 : Int32))]) :: (sa, ArrC Z .int 8 (upd fs 0 (2 : Int32))) :: (ea, ArrC Z .int 8 (upd fe 0 (4 : Int32))) :: (r1, ArrC Z .byte 4 f) :: L) 0 0 72 #[.val (.ref r0), .val (.ref r1), .val (.int (0 : Int32)), .val (.int (4 : Int32)), .val (.int (4 : Int32)), .val (.int (2 : Int32))] []
          refine Wk.goto (pc' := 18) C d5_72 (by decide) (by decide) ?_
          refine Wk.iload (pc' := 20) C d5_18 rfl rfl ?_
          refine Wk.iloadN (pc' := 21) C d5_20 rfl rfl ?_
          refine Wk.icmp_ge (pcT := 75) (pcF := 24) C d5_21 (by decide) (by decide) rfl (fun _ => ?_) (fun q => absurd q (by decide))
          have htk : ((0 : Int32) + (1 : Int32)) = tokF f := by
            simp only [tokF, if_pos c6, if_pos c22, if_neg c30, if_neg c31, if_neg c32] <;> decide
          exact Wk.retV C J d5_75 (by decide) (by decide) (fun h O => ⟨((0 : Int32) + (1 : Int32)), upd fs 0 (2 : Int32), upd fe 0 (4 : Int32), rfl, htk, Or.inr (Or.inl ⟨by decide, (show 0 ≤ ((2 : Int32)).toInt ∧ ((2 : Int32)).toInt ≤ ((4 : Int32)).toInt ∧ ((4 : Int32)).toInt ≤ 4 from by decide)⟩), O⟩)
      · skip
        refine Wk.iinc (z := (3 : Int32)) (Ls' := #[.val (.ref r0), .val (.ref r1), .val (.int (0 : Int32)), .val (.int (4 : Int32)), .val (.int (3 : Int32)), .unset]) (pc' := 36) C d5_33 rfl (by decide) rfl rfl ?_
        refine Wk.goto (pc' := 18) C d5_36 (by decide) (by decide) ?_
        refine Wk.iload (pc' := 20) C d5_18 rfl rfl ?_
        refine Wk.iloadN (pc' := 21) C d5_20 rfl rfl ?_
        refine Wk.icmp_ge (pcT := 75) (pcF := 24) C d5_21 (by decide) (by decide) rfl (fun q => absurd q (by decide)) (fun _ => ?_)
        refine Wk.aloadN (pc' := 25) C d5_24 rfl rfl rfl ?_
        refine Wk.iload (pc' := 27) C d5_25 rfl rfl ?_
        refine Wk.baload (pc' := 28) (q := 3) (i := 3) C d5_27 rfl (by decide) (by decide) rfl ?_
        refine Wk.bipush (z := (32 : Int32)) (pc' := 30) C d5_28 rfl rfl ?_
        refine Wk.icmp_ne (pcT := 39) (pcF := 33) C d5_30 (by decide) (by decide) rfl (fun c34 => ?_) (fun c34 => ?_)
        · skip
          refine Wk.iload (pc' := 41) C d5_39 rfl rfl ?_
          refine Wk.istore (Ls' := #[.val (.ref r0), .val (.ref r1), .val (.int (0 : Int32)), .val (.int (4 : Int32)), .val (.int (3 : Int32)), .val (.int (3 : Int32))]) (pc' := 43) C d5_41 rfl rfl ?_
          refine Wk.iload (pc' := 45) C d5_43 rfl rfl ?_
          refine Wk.iloadN (pc' := 46) C d5_45 rfl rfl ?_
          refine Wk.icmp_ge (pcT := 64) (pcF := 49) C d5_46 (by decide) (by decide) rfl (fun q => absurd q (by decide)) (fun _ => ?_)
          refine Wk.aloadN (pc' := 50) C d5_49 rfl rfl rfl ?_
          refine Wk.iload (pc' := 52) C d5_50 rfl rfl ?_
          refine Wk.baload (pc' := 53) (q := 3) (i := 3) C d5_52 rfl (by decide) (by decide) rfl ?_
          refine Wk.bipush (z := (32 : Int32)) (pc' := 55) C d5_53 rfl rfl ?_
          refine Wk.icmp_eq (pcT := 64) (pcF := 58) C d5_55 (by decide) (by decide) rfl (fun c35 => (show False from c34 c35).elim) (fun c35 => ?_)
          refine Wk.iinc (z := (4 : Int32)) (Ls' := #[.val (.ref r0), .val (.ref r1), .val (.int (0 : Int32)), .val (.int (4 : Int32)), .val (.int (4 : Int32)), .val (.int (3 : Int32))]) (pc' := 61) C d5_58 rfl (by decide) rfl rfl ?_
          refine Wk.goto (pc' := 43) C d5_61 (by decide) (by decide) ?_
          refine Wk.iload (pc' := 45) C d5_43 rfl rfl ?_
          refine Wk.iloadN (pc' := 46) C d5_45 rfl rfl ?_
          refine Wk.icmp_ge (pcT := 64) (pcF := 49) C d5_46 (by decide) (by decide) rfl (fun _ => ?_) (fun q => absurd q (by decide))
          refine Wk.aloadN (pc' := 65) C d5_64 rfl rfl rfl ?_
          refine Wk.iload (pc' := 67) C d5_65 rfl rfl ?_
          refine Wk.iload (pc' := 69) C d5_67 rfl rfl ?_
          refine Wk.callP (pc' := 72) (rm := { frames := 0, cells := 0, slots := 0, locals := 0 }) (W0 := 0) (q := 0) (argsL := [.int (3 : Int32), .int (4 : Int32)]) (st := []) C rfl (w33 hw) (w34 hw) (w35 hw) (notFace_same (w25 hw) rfl) (w10 hw) (w36 hw) (by decide) (fun h O => rm6 l Z a0 hw r0 (3 : Int32) (4 : Int32) ((r1, ArrC Z .byte 4 f) :: L) sa ea (.ref r1) (0 : Int32) (0 : Int32) (fs) (fe) 0 h n0 O (by decide) (by decide)) (by decide) (by decide) (by decide) (by decide) d5_69 rfl pd_1 rfl rfl rfl rfl ?_
          rintro _ h' ⟨rfl, O'⟩
          refine ⟨_, O', ?_⟩
          change Wk p l e _ m _ below meth c _ _ n0 ((r0, ObjC Z "com/example/vole/vole/textprotocol/RequestLine" ks_0 [.ref sa, .ref ea, .ref r1, .int (0 : Int32), .int ((0 : Int32) + (1 : Int32))]) :: (sa, ArrC Z .int 8 (upd fs 0 (3 : Int32))) :: (ea, ArrC Z .int 8 (upd fe 0 (4 : Int32))) :: (r1, ArrC Z .byte 4 f) :: L) 0 0 72 #[.val (.ref r0), .val (.ref r1), .val (.int (0 : Int32)), .val (.int (4 : Int32)), .val (.int (4 : Int32)), .val (.int (3 : Int32))] []
          refine Wk.goto (pc' := 18) C d5_72 (by decide) (by decide) ?_
          refine Wk.iload (pc' := 20) C d5_18 rfl rfl ?_
          refine Wk.iloadN (pc' := 21) C d5_20 rfl rfl ?_
          refine Wk.icmp_ge (pcT := 75) (pcF := 24) C d5_21 (by decide) (by decide) rfl (fun _ => ?_) (fun q => absurd q (by decide))
          have htk : ((0 : Int32) + (1 : Int32)) = tokF f := by
            simp only [tokF, if_pos c6, if_pos c22, if_pos c30, if_neg c34, if_neg c35] <;> decide
          exact Wk.retV C J d5_75 (by decide) (by decide) (fun h O => ⟨((0 : Int32) + (1 : Int32)), upd fs 0 (3 : Int32), upd fe 0 (4 : Int32), rfl, htk, Or.inr (Or.inl ⟨by decide, (show 0 ≤ ((3 : Int32)).toInt ∧ ((3 : Int32)).toInt ≤ ((4 : Int32)).toInt ∧ ((4 : Int32)).toInt ≤ 4 from by decide)⟩), O⟩)
        · skip
          refine Wk.iinc (z := (4 : Int32)) (Ls' := #[.val (.ref r0), .val (.ref r1), .val (.int (0 : Int32)), .val (.int (4 : Int32)), .val (.int (4 : Int32)), .unset]) (pc' := 36) C d5_33 rfl (by decide) rfl rfl ?_
          refine Wk.goto (pc' := 18) C d5_36 (by decide) (by decide) ?_
          refine Wk.iload (pc' := 20) C d5_18 rfl rfl ?_
          refine Wk.iloadN (pc' := 21) C d5_20 rfl rfl ?_
          refine Wk.icmp_ge (pcT := 75) (pcF := 24) C d5_21 (by decide) (by decide) rfl (fun _ => ?_) (fun q => absurd q (by decide))
          have htk : (0 : Int32) = tokF f := by
            simp only [tokF, if_pos c6, if_pos c22, if_pos c30, if_pos c34] <;> decide
          exact Wk.retV C J d5_75 (by decide) (by decide) (fun h O => ⟨(0 : Int32), fs, fe, rfl, htk, Or.inl (by decide), O⟩)
theorem ef_rm7 (m : MethodId) (r0 : Addr) : entryFrame m #[.ref r0] 1 = mkF m 0 #[.val (.ref r0)] [] := by first | (simp [entryFrame, mkF, argsToLocals, Value.category]; done) | rfl
set_option maxRecDepth 65536 in
set_option maxHeartbeats 40000000 in
theorem rm7 (l : Launch) (Z : State) (a0 : Array Value) (hw : HW Z a0) (r0 : Addr) (L : List (Addr × (Cell → Prop))) (sa ea : Addr) (ln : Value) (dt cnt : Int32) (fs fe : Nat → Int32) (h : Heap) (n0 : Nat) (O : Own n0 h ((r0, ObjC Z "com/example/vole/vole/textprotocol/RequestLine" ks_0 [.ref sa, .ref ea, ln, .int dt, .int cnt]) :: (sa, ArrC Z .int 8 fs) :: (ea, ArrC Z .int 8 fe) :: L)) :
    Meth l Z (⟨"com/example/vole/vole/textprotocol/RequestLine", "release", "()V"⟩ : MethodName) prog_27_method_5_code 1 none [] ({ frames := 0, cells := 0, slots := 0, locals := 0 } : Room) #[.ref r0] h n0 (fun v h' => v = none ∧ Own n0 h' ((r0, ObjC Z "com/example/vole/vole/textprotocol/RequestLine" ks_0 [.ref sa, .ref ea, .null, .int (0 : Int32), .int (0 : Int32)]) :: (sa, ArrC Z .int 8 fs) :: (ea, ArrC Z .int 8 fe) :: L)) := by
  refine Meth.of (plainFor_of_name pn_1) (fun m => ef_rm7 m r0) O ?_
  intro p e m below meth c M FE C J
  change Cx Z "com/example/vole/vole/textprotocol/RequestLine" "release" prog_27_method_5_code 1 none p m meth c M at C
  clear O
  refine Wk.aloadN (pc' := 1) C d7_0 rfl rfl rfl ?_
  refine Wk.aconstNull (pc' := 2) C d7_1 rfl ?_
  refine Wk.putfield (pc' := 5) (host := "") (q := 0) (i := 2) C (Or.inl (w27 hw)) (lays_ks_0 hw) (Or.inl (w28 hw)) (w9 hw) d7_2 rfl rfl (Nat.le_of_ble_eq_true rfl) rfl rfl rfl ?_
  change Wk p l e _ m _ below meth c _ _ n0 ((r0, ObjC Z "com/example/vole/vole/textprotocol/RequestLine" ks_0 [.ref sa, .ref ea, .null, .int dt, .int cnt]) :: (sa, ArrC Z .int 8 fs) :: (ea, ArrC Z .int 8 fe) :: L) 0 0 5 #[.val (.ref r0)] []
  refine Wk.aloadN (pc' := 6) C d7_5 rfl rfl rfl ?_
  refine Wk.iconst (z := (0 : Int32)) (pc' := 7) C d7_6 rfl rfl ?_
  refine Wk.putfield (pc' := 10) (host := "") (q := 0) (i := 3) C (Or.inl (w29 hw)) (lays_ks_0 hw) (Or.inl (w30 hw)) (w9 hw) d7_7 rfl rfl (Nat.le_of_ble_eq_true rfl) rfl rfl rfl ?_
  change Wk p l e _ m _ below meth c _ _ n0 ((r0, ObjC Z "com/example/vole/vole/textprotocol/RequestLine" ks_0 [.ref sa, .ref ea, .null, .int (0 : Int32), .int cnt]) :: (sa, ArrC Z .int 8 fs) :: (ea, ArrC Z .int 8 fe) :: L) 0 0 10 #[.val (.ref r0)] []
  refine Wk.aloadN (pc' := 11) C d7_10 rfl rfl rfl ?_
  refine Wk.iconst (z := (0 : Int32)) (pc' := 12) C d7_11 rfl rfl ?_
  refine Wk.putfield (pc' := 15) (host := "") (q := 0) (i := 4) C (Or.inl (w31 hw)) (lays_ks_0 hw) (Or.inl (w32 hw)) (w9 hw) d7_12 rfl rfl (Nat.le_of_ble_eq_true rfl) rfl rfl rfl ?_
  change Wk p l e _ m _ below meth c _ _ n0 ((r0, ObjC Z "com/example/vole/vole/textprotocol/RequestLine" ks_0 [.ref sa, .ref ea, .null, .int (0 : Int32), .int (0 : Int32)]) :: (sa, ArrC Z .int 8 fs) :: (ea, ArrC Z .int 8 fe) :: L) 0 0 15 #[.val (.ref r0)] []
  refine Wk.aloadN (pc' := 16) C d7_15 rfl rfl rfl ?_
  refine Wk.getfield (pc' := 19) (host := "") (q := 0) (i := 0) C (Or.inl (w18 hw)) d7_16 rfl rfl rfl rfl ?_
  refine Wk.arraylength (pc' := 20) (q := 1) (z := (8 : Int32)) C d7_19 rfl (fun _ A => ⟨A.1, A.2.2.1⟩) rfl rfl ?_
  refine Wk.sipush (z := (1024 : Int32)) (pc' := 23) C d7_20 rfl rfl ?_
  refine Wk.icmp_le (pcT := 42) (pcF := 26) C d7_23 (by decide) (by decide) rfl (fun _ => ?_) (fun q => absurd q (by decide))
  exact Wk.retV C J d7_42 (by decide) (by decide) (fun h O => ⟨rfl, O⟩)
theorem ef_rm8 (m : MethodId) (r0 : Addr) : entryFrame m #[.ref r0] 1 = mkF m 0 #[.val (.ref r0)] [] := by first | (simp [entryFrame, mkF, argsToLocals, Value.category]; done) | rfl
set_option maxRecDepth 65536 in
set_option maxHeartbeats 40000000 in
theorem rm8 (l : Launch) (Z : State) (a0 : Array Value) (hw : HW Z a0) (r0 : Addr) (L : List (Addr × (Cell → Prop))) (q : Nat) (sa ea : Addr) (ln : Value) (dt cnt : Int32) (h : Heap) (n0 : Nat) (O : Own n0 h L) (hq : L[q]? = some (r0, ObjC Z "com/example/vole/vole/textprotocol/RequestLine" ks_0 [.ref sa, .ref ea, ln, .int dt, .int cnt])) :
    Meth l Z (⟨"com/example/vole/vole/textprotocol/RequestLine", "count", "()I"⟩ : MethodName) prog_27_method_7_code 1 (some .int) [] ({ frames := 0, cells := 0, slots := 0, locals := 0 } : Room) #[.ref r0] h n0 (fun v h' => v = some (.int cnt) ∧ Own n0 h' L) := by
  refine Meth.of (plainFor_of_name pn_1) (fun m => ef_rm8 m r0) O ?_
  intro p e m below meth c M FE C J
  change Cx Z "com/example/vole/vole/textprotocol/RequestLine" "count" prog_27_method_7_code 1 (some .int) p m meth c M at C
  clear O
  refine Wk.aloadN (pc' := 1) C d8_0 rfl rfl rfl ?_
  refine Wk.getfield (pc' := 4) (host := "") (q := q) (i := 4) C (Or.inl (w31 hw)) d8_1 hq rfl rfl rfl ?_
  exact Wk.retI C J d8_4 (by decide) (by decide) (fun h O => ⟨rfl, O⟩)
theorem ef_rm9 (m : MethodId) (r0 : Addr) : entryFrame m #[.ref r0] 1 = mkF m 0 #[.val (.ref r0)] [] := by first | (simp [entryFrame, mkF, argsToLocals, Value.category]; done) | rfl
set_option maxRecDepth 65536 in
set_option maxHeartbeats 40000000 in
theorem rm9 (l : Launch) (Z : State) (a0 : Array Value) (hw : HW Z a0) (r0 : Addr) (L : List (Addr × (Cell → Prop))) (q : Nat) (sa ea : Addr) (ln : Value) (cnt : Int32) (h : Heap) (n0 : Nat) (O : Own n0 h L) (hq : L[q]? = some (r0, ObjC Z "com/example/vole/vole/textprotocol/RequestLine" ks_0 [.ref sa, .ref ea, ln, .int (0 : Int32), .int cnt])) :
    Meth l Z (⟨"com/example/vole/vole/textprotocol/RequestLine", "copiedLength", "()I"⟩ : MethodName) prog_27_method_6_code 1 (some .int) [] ({ frames := 0, cells := 0, slots := 0, locals := 0 } : Room) #[.ref r0] h n0 (fun v h' => v = some (.int (0 : Int32)) ∧ Own n0 h' L) := by
  refine Meth.of (plainFor_of_name pn_1) (fun m => ef_rm9 m r0) O ?_
  intro p e m below meth c M FE C J
  change Cx Z "com/example/vole/vole/textprotocol/RequestLine" "copiedLength" prog_27_method_6_code 1 (some .int) p m meth c M at C
  clear O
  refine Wk.aloadN (pc' := 1) C d9_0 rfl rfl rfl ?_
  refine Wk.getfield (pc' := 4) (host := "") (q := q) (i := 3) C (Or.inl (w29 hw)) d9_1 hq rfl rfl rfl ?_
  refine Wk.if_eq (pcT := 15) (pcF := 7) C d9_4 (by decide) (by decide) rfl (fun _ => ?_) (fun q => absurd q (by decide))
  refine Wk.iconst (z := (0 : Int32)) (pc' := 16) C d9_15 rfl rfl ?_
  exact Wk.retI C J d9_16 (by decide) (by decide) (fun h O => ⟨rfl, O⟩)
theorem ef_rm10 (m : MethodId) (r0 : Addr) : entryFrame m #[.ref r0] 2 = mkF m 0 #[.val (.ref r0), .unset] [] := by first | (simp [entryFrame, mkF, argsToLocals, Value.category]; done) | rfl
set_option maxRecDepth 65536 in
set_option maxHeartbeats 40000000 in
theorem rm10 (l : Launch) (Z : State) (a0 : Array Value) (hw : HW Z a0) (r0 : Addr) (L : List (Addr × (Cell → Prop))) (q : Nat) (f : Nat → Int32) (h : Heap) (n0 : Nat) (O : Own n0 h L) (hq : L[q]? = some (r0, ArrC Z .byte 4 f)) :
    Meth l Z (⟨"com/example/vole/vole/textprotocol/RequestLineReleasePinLaw", "tokens", "([B)I"⟩ : MethodName) method_5_code 2 (some .int) [] ({ frames := 0, cells := 0, slots := 0, locals := 0 } : Room) #[.ref r0] h n0 (fun v h' => v = some (.int (tokF f)) ∧ Own n0 h' L) := by
  refine Meth.of (plainFor_of_name pn_0) (fun m => ef_rm10 m r0) O ?_
  intro p e m below meth c M FE C J
  change Cx Z "com/example/vole/vole/textprotocol/RequestLineReleasePinLaw" "tokens" method_5_code 2 (some .int) p m meth c M at C
  clear O
  refine Wk.iconst (z := (0 : Int32)) (pc' := 1) C d10_0 rfl rfl ?_
  refine Wk.istoreN (Ls' := #[.val (.ref r0), .val (.int (0 : Int32))]) (pc' := 2) C d10_1 rfl rfl ?_
  refine Wk.aloadN (pc' := 3) C d10_2 rfl rfl rfl ?_
  refine Wk.iconst (z := (0 : Int32)) (pc' := 4) C d10_3 rfl rfl ?_
  refine Wk.baload (pc' := 5) (q := q) (i := 0) C d10_4 hq (by decide) (by decide) rfl ?_
  refine Wk.bipush (z := (32 : Int32)) (pc' := 7) C d10_5 rfl rfl ?_
  refine Wk.icmp_eq (pcT := 13) (pcF := 10) C d10_7 (by decide) (by decide) rfl (fun c36 => ?_) (fun c36 => ?_)
  · skip
    refine Wk.aloadN (pc' := 14) C d10_13 rfl rfl rfl ?_
    refine Wk.iconst (z := (1 : Int32)) (pc' := 15) C d10_14 rfl rfl ?_
    refine Wk.baload (pc' := 16) (q := q) (i := 1) C d10_15 hq (by decide) (by decide) rfl ?_
    refine Wk.bipush (z := (32 : Int32)) (pc' := 18) C d10_16 rfl rfl ?_
    refine Wk.icmp_eq (pcT := 32) (pcF := 21) C d10_18 (by decide) (by decide) rfl (fun c37 => ?_) (fun c37 => ?_)
    · skip
      refine Wk.aloadN (pc' := 33) C d10_32 rfl rfl rfl ?_
      refine Wk.iconst (z := (2 : Int32)) (pc' := 34) C d10_33 rfl rfl ?_
      refine Wk.baload (pc' := 35) (q := q) (i := 2) C d10_34 hq (by decide) (by decide) rfl ?_
      refine Wk.bipush (z := (32 : Int32)) (pc' := 37) C d10_35 rfl rfl ?_
      refine Wk.icmp_eq (pcT := 51) (pcF := 40) C d10_37 (by decide) (by decide) rfl (fun c38 => ?_) (fun c38 => ?_)
      · skip
        refine Wk.aloadN (pc' := 52) C d10_51 rfl rfl rfl ?_
        refine Wk.iconst (z := (3 : Int32)) (pc' := 53) C d10_52 rfl rfl ?_
        refine Wk.baload (pc' := 54) (q := q) (i := 3) C d10_53 hq (by decide) (by decide) rfl ?_
        refine Wk.bipush (z := (32 : Int32)) (pc' := 56) C d10_54 rfl rfl ?_
        refine Wk.icmp_eq (pcT := 70) (pcF := 59) C d10_56 (by decide) (by decide) rfl (fun c39 => ?_) (fun c39 => ?_)
        · skip
          refine Wk.iloadN (pc' := 71) C d10_70 rfl rfl ?_
          have htk : (0 : Int32) = tokF f := by
            simp only [tokF, if_pos c36, if_pos c37, if_pos c38, if_pos c39] <;> decide
          exact Wk.retI C J d10_71 (by decide) (by decide) (fun h O => ⟨by rw [htk], O⟩)
        · skip
          refine Wk.aloadN (pc' := 60) C d10_59 rfl rfl rfl ?_
          refine Wk.iconst (z := (2 : Int32)) (pc' := 61) C d10_60 rfl rfl ?_
          refine Wk.baload (pc' := 62) (q := q) (i := 2) C d10_61 hq (by decide) (by decide) rfl ?_
          refine Wk.bipush (z := (32 : Int32)) (pc' := 64) C d10_62 rfl rfl ?_
          refine Wk.icmp_ne (pcT := 70) (pcF := 67) C d10_64 (by decide) (by decide) rfl (fun c40 => (show False from c40 c38).elim) (fun c40 => ?_)
          refine Wk.iinc (z := (1 : Int32)) (Ls' := #[.val (.ref r0), .val (.int (1 : Int32))]) (pc' := 70) C d10_67 rfl (by decide) rfl rfl ?_
          refine Wk.iloadN (pc' := 71) C d10_70 rfl rfl ?_
          have htk : (1 : Int32) = tokF f := by
            simp only [tokF, if_pos c36, if_pos c37, if_pos c38, if_neg c39, if_pos c40] <;> decide
          exact Wk.retI C J d10_71 (by decide) (by decide) (fun h O => ⟨by rw [htk], O⟩)
      · skip
        refine Wk.aloadN (pc' := 41) C d10_40 rfl rfl rfl ?_
        refine Wk.iconst (z := (1 : Int32)) (pc' := 42) C d10_41 rfl rfl ?_
        refine Wk.baload (pc' := 43) (q := q) (i := 1) C d10_42 hq (by decide) (by decide) rfl ?_
        refine Wk.bipush (z := (32 : Int32)) (pc' := 45) C d10_43 rfl rfl ?_
        refine Wk.icmp_ne (pcT := 51) (pcF := 48) C d10_45 (by decide) (by decide) rfl (fun c41 => (show False from c41 c37).elim) (fun c41 => ?_)
        refine Wk.iinc (z := (1 : Int32)) (Ls' := #[.val (.ref r0), .val (.int (1 : Int32))]) (pc' := 51) C d10_48 rfl (by decide) rfl rfl ?_
        refine Wk.aloadN (pc' := 52) C d10_51 rfl rfl rfl ?_
        refine Wk.iconst (z := (3 : Int32)) (pc' := 53) C d10_52 rfl rfl ?_
        refine Wk.baload (pc' := 54) (q := q) (i := 3) C d10_53 hq (by decide) (by decide) rfl ?_
        refine Wk.bipush (z := (32 : Int32)) (pc' := 56) C d10_54 rfl rfl ?_
        refine Wk.icmp_eq (pcT := 70) (pcF := 59) C d10_56 (by decide) (by decide) rfl (fun c42 => ?_) (fun c42 => ?_)
        · skip
          refine Wk.iloadN (pc' := 71) C d10_70 rfl rfl ?_
          have htk : (1 : Int32) = tokF f := by
            simp only [tokF, if_pos c36, if_pos c37, if_neg c38, if_pos c41, if_pos c42] <;> decide
          exact Wk.retI C J d10_71 (by decide) (by decide) (fun h O => ⟨by rw [htk], O⟩)
        · skip
          refine Wk.aloadN (pc' := 60) C d10_59 rfl rfl rfl ?_
          refine Wk.iconst (z := (2 : Int32)) (pc' := 61) C d10_60 rfl rfl ?_
          refine Wk.baload (pc' := 62) (q := q) (i := 2) C d10_61 hq (by decide) (by decide) rfl ?_
          refine Wk.bipush (z := (32 : Int32)) (pc' := 64) C d10_62 rfl rfl ?_
          refine Wk.icmp_ne (pcT := 70) (pcF := 67) C d10_64 (by decide) (by decide) rfl (fun c43 => ?_) (fun c43 => (show False from c38 c43).elim)
          refine Wk.iloadN (pc' := 71) C d10_70 rfl rfl ?_
          have htk : (1 : Int32) = tokF f := by
            simp only [tokF, if_pos c36, if_pos c37, if_neg c38, if_pos c41, if_neg c42, if_neg c43] <;> decide
          exact Wk.retI C J d10_71 (by decide) (by decide) (fun h O => ⟨by rw [htk], O⟩)
    · skip
      refine Wk.aloadN (pc' := 22) C d10_21 rfl rfl rfl ?_
      refine Wk.iconst (z := (0 : Int32)) (pc' := 23) C d10_22 rfl rfl ?_
      refine Wk.baload (pc' := 24) (q := q) (i := 0) C d10_23 hq (by decide) (by decide) rfl ?_
      refine Wk.bipush (z := (32 : Int32)) (pc' := 26) C d10_24 rfl rfl ?_
      refine Wk.icmp_ne (pcT := 32) (pcF := 29) C d10_26 (by decide) (by decide) rfl (fun c44 => (show False from c44 c36).elim) (fun c44 => ?_)
      refine Wk.iinc (z := (1 : Int32)) (Ls' := #[.val (.ref r0), .val (.int (1 : Int32))]) (pc' := 32) C d10_29 rfl (by decide) rfl rfl ?_
      refine Wk.aloadN (pc' := 33) C d10_32 rfl rfl rfl ?_
      refine Wk.iconst (z := (2 : Int32)) (pc' := 34) C d10_33 rfl rfl ?_
      refine Wk.baload (pc' := 35) (q := q) (i := 2) C d10_34 hq (by decide) (by decide) rfl ?_
      refine Wk.bipush (z := (32 : Int32)) (pc' := 37) C d10_35 rfl rfl ?_
      refine Wk.icmp_eq (pcT := 51) (pcF := 40) C d10_37 (by decide) (by decide) rfl (fun c45 => ?_) (fun c45 => ?_)
      · skip
        refine Wk.aloadN (pc' := 52) C d10_51 rfl rfl rfl ?_
        refine Wk.iconst (z := (3 : Int32)) (pc' := 53) C d10_52 rfl rfl ?_
        refine Wk.baload (pc' := 54) (q := q) (i := 3) C d10_53 hq (by decide) (by decide) rfl ?_
        refine Wk.bipush (z := (32 : Int32)) (pc' := 56) C d10_54 rfl rfl ?_
        refine Wk.icmp_eq (pcT := 70) (pcF := 59) C d10_56 (by decide) (by decide) rfl (fun c46 => ?_) (fun c46 => ?_)
        · skip
          refine Wk.iloadN (pc' := 71) C d10_70 rfl rfl ?_
          have htk : (1 : Int32) = tokF f := by
            simp only [tokF, if_pos c36, if_neg c37, if_pos c44, if_pos c45, if_pos c46] <;> decide
          exact Wk.retI C J d10_71 (by decide) (by decide) (fun h O => ⟨by rw [htk], O⟩)
        · skip
          refine Wk.aloadN (pc' := 60) C d10_59 rfl rfl rfl ?_
          refine Wk.iconst (z := (2 : Int32)) (pc' := 61) C d10_60 rfl rfl ?_
          refine Wk.baload (pc' := 62) (q := q) (i := 2) C d10_61 hq (by decide) (by decide) rfl ?_
          refine Wk.bipush (z := (32 : Int32)) (pc' := 64) C d10_62 rfl rfl ?_
          refine Wk.icmp_ne (pcT := 70) (pcF := 67) C d10_64 (by decide) (by decide) rfl (fun c47 => (show False from c47 c45).elim) (fun c47 => ?_)
          refine Wk.iinc (z := (2 : Int32)) (Ls' := #[.val (.ref r0), .val (.int (2 : Int32))]) (pc' := 70) C d10_67 rfl (by decide) rfl rfl ?_
          refine Wk.iloadN (pc' := 71) C d10_70 rfl rfl ?_
          have htk : (2 : Int32) = tokF f := by
            simp only [tokF, if_pos c36, if_neg c37, if_pos c44, if_pos c45, if_neg c46, if_pos c47] <;> decide
          exact Wk.retI C J d10_71 (by decide) (by decide) (fun h O => ⟨by rw [htk], O⟩)
      · skip
        refine Wk.aloadN (pc' := 41) C d10_40 rfl rfl rfl ?_
        refine Wk.iconst (z := (1 : Int32)) (pc' := 42) C d10_41 rfl rfl ?_
        refine Wk.baload (pc' := 43) (q := q) (i := 1) C d10_42 hq (by decide) (by decide) rfl ?_
        refine Wk.bipush (z := (32 : Int32)) (pc' := 45) C d10_43 rfl rfl ?_
        refine Wk.icmp_ne (pcT := 51) (pcF := 48) C d10_45 (by decide) (by decide) rfl (fun c48 => ?_) (fun c48 => (show False from c37 c48).elim)
        refine Wk.aloadN (pc' := 52) C d10_51 rfl rfl rfl ?_
        refine Wk.iconst (z := (3 : Int32)) (pc' := 53) C d10_52 rfl rfl ?_
        refine Wk.baload (pc' := 54) (q := q) (i := 3) C d10_53 hq (by decide) (by decide) rfl ?_
        refine Wk.bipush (z := (32 : Int32)) (pc' := 56) C d10_54 rfl rfl ?_
        refine Wk.icmp_eq (pcT := 70) (pcF := 59) C d10_56 (by decide) (by decide) rfl (fun c49 => ?_) (fun c49 => ?_)
        · skip
          refine Wk.iloadN (pc' := 71) C d10_70 rfl rfl ?_
          have htk : (1 : Int32) = tokF f := by
            simp only [tokF, if_pos c36, if_neg c37, if_pos c44, if_neg c45, if_neg c48, if_pos c49] <;> decide
          exact Wk.retI C J d10_71 (by decide) (by decide) (fun h O => ⟨by rw [htk], O⟩)
        · skip
          refine Wk.aloadN (pc' := 60) C d10_59 rfl rfl rfl ?_
          refine Wk.iconst (z := (2 : Int32)) (pc' := 61) C d10_60 rfl rfl ?_
          refine Wk.baload (pc' := 62) (q := q) (i := 2) C d10_61 hq (by decide) (by decide) rfl ?_
          refine Wk.bipush (z := (32 : Int32)) (pc' := 64) C d10_62 rfl rfl ?_
          refine Wk.icmp_ne (pcT := 70) (pcF := 67) C d10_64 (by decide) (by decide) rfl (fun c50 => ?_) (fun c50 => (show False from c45 c50).elim)
          refine Wk.iloadN (pc' := 71) C d10_70 rfl rfl ?_
          have htk : (1 : Int32) = tokF f := by
            simp only [tokF, if_pos c36, if_neg c37, if_pos c44, if_neg c45, if_neg c48, if_neg c49, if_neg c50] <;> decide
          exact Wk.retI C J d10_71 (by decide) (by decide) (fun h O => ⟨by rw [htk], O⟩)
  · skip
    refine Wk.iinc (z := (1 : Int32)) (Ls' := #[.val (.ref r0), .val (.int (1 : Int32))]) (pc' := 13) C d10_10 rfl (by decide) rfl rfl ?_
    refine Wk.aloadN (pc' := 14) C d10_13 rfl rfl rfl ?_
    refine Wk.iconst (z := (1 : Int32)) (pc' := 15) C d10_14 rfl rfl ?_
    refine Wk.baload (pc' := 16) (q := q) (i := 1) C d10_15 hq (by decide) (by decide) rfl ?_
    refine Wk.bipush (z := (32 : Int32)) (pc' := 18) C d10_16 rfl rfl ?_
    refine Wk.icmp_eq (pcT := 32) (pcF := 21) C d10_18 (by decide) (by decide) rfl (fun c51 => ?_) (fun c51 => ?_)
    · skip
      refine Wk.aloadN (pc' := 33) C d10_32 rfl rfl rfl ?_
      refine Wk.iconst (z := (2 : Int32)) (pc' := 34) C d10_33 rfl rfl ?_
      refine Wk.baload (pc' := 35) (q := q) (i := 2) C d10_34 hq (by decide) (by decide) rfl ?_
      refine Wk.bipush (z := (32 : Int32)) (pc' := 37) C d10_35 rfl rfl ?_
      refine Wk.icmp_eq (pcT := 51) (pcF := 40) C d10_37 (by decide) (by decide) rfl (fun c52 => ?_) (fun c52 => ?_)
      · skip
        refine Wk.aloadN (pc' := 52) C d10_51 rfl rfl rfl ?_
        refine Wk.iconst (z := (3 : Int32)) (pc' := 53) C d10_52 rfl rfl ?_
        refine Wk.baload (pc' := 54) (q := q) (i := 3) C d10_53 hq (by decide) (by decide) rfl ?_
        refine Wk.bipush (z := (32 : Int32)) (pc' := 56) C d10_54 rfl rfl ?_
        refine Wk.icmp_eq (pcT := 70) (pcF := 59) C d10_56 (by decide) (by decide) rfl (fun c53 => ?_) (fun c53 => ?_)
        · skip
          refine Wk.iloadN (pc' := 71) C d10_70 rfl rfl ?_
          have htk : (1 : Int32) = tokF f := by
            simp only [tokF, if_neg c36, if_pos c51, if_pos c52, if_pos c53] <;> decide
          exact Wk.retI C J d10_71 (by decide) (by decide) (fun h O => ⟨by rw [htk], O⟩)
        · skip
          refine Wk.aloadN (pc' := 60) C d10_59 rfl rfl rfl ?_
          refine Wk.iconst (z := (2 : Int32)) (pc' := 61) C d10_60 rfl rfl ?_
          refine Wk.baload (pc' := 62) (q := q) (i := 2) C d10_61 hq (by decide) (by decide) rfl ?_
          refine Wk.bipush (z := (32 : Int32)) (pc' := 64) C d10_62 rfl rfl ?_
          refine Wk.icmp_ne (pcT := 70) (pcF := 67) C d10_64 (by decide) (by decide) rfl (fun c54 => (show False from c54 c52).elim) (fun c54 => ?_)
          refine Wk.iinc (z := (2 : Int32)) (Ls' := #[.val (.ref r0), .val (.int (2 : Int32))]) (pc' := 70) C d10_67 rfl (by decide) rfl rfl ?_
          refine Wk.iloadN (pc' := 71) C d10_70 rfl rfl ?_
          have htk : (2 : Int32) = tokF f := by
            simp only [tokF, if_neg c36, if_pos c51, if_pos c52, if_neg c53, if_pos c54] <;> decide
          exact Wk.retI C J d10_71 (by decide) (by decide) (fun h O => ⟨by rw [htk], O⟩)
      · skip
        refine Wk.aloadN (pc' := 41) C d10_40 rfl rfl rfl ?_
        refine Wk.iconst (z := (1 : Int32)) (pc' := 42) C d10_41 rfl rfl ?_
        refine Wk.baload (pc' := 43) (q := q) (i := 1) C d10_42 hq (by decide) (by decide) rfl ?_
        refine Wk.bipush (z := (32 : Int32)) (pc' := 45) C d10_43 rfl rfl ?_
        refine Wk.icmp_ne (pcT := 51) (pcF := 48) C d10_45 (by decide) (by decide) rfl (fun c55 => (show False from c55 c51).elim) (fun c55 => ?_)
        refine Wk.iinc (z := (2 : Int32)) (Ls' := #[.val (.ref r0), .val (.int (2 : Int32))]) (pc' := 51) C d10_48 rfl (by decide) rfl rfl ?_
        refine Wk.aloadN (pc' := 52) C d10_51 rfl rfl rfl ?_
        refine Wk.iconst (z := (3 : Int32)) (pc' := 53) C d10_52 rfl rfl ?_
        refine Wk.baload (pc' := 54) (q := q) (i := 3) C d10_53 hq (by decide) (by decide) rfl ?_
        refine Wk.bipush (z := (32 : Int32)) (pc' := 56) C d10_54 rfl rfl ?_
        refine Wk.icmp_eq (pcT := 70) (pcF := 59) C d10_56 (by decide) (by decide) rfl (fun c56 => ?_) (fun c56 => ?_)
        · skip
          refine Wk.iloadN (pc' := 71) C d10_70 rfl rfl ?_
          have htk : (2 : Int32) = tokF f := by
            simp only [tokF, if_neg c36, if_pos c51, if_neg c52, if_pos c55, if_pos c56] <;> decide
          exact Wk.retI C J d10_71 (by decide) (by decide) (fun h O => ⟨by rw [htk], O⟩)
        · skip
          refine Wk.aloadN (pc' := 60) C d10_59 rfl rfl rfl ?_
          refine Wk.iconst (z := (2 : Int32)) (pc' := 61) C d10_60 rfl rfl ?_
          refine Wk.baload (pc' := 62) (q := q) (i := 2) C d10_61 hq (by decide) (by decide) rfl ?_
          refine Wk.bipush (z := (32 : Int32)) (pc' := 64) C d10_62 rfl rfl ?_
          refine Wk.icmp_ne (pcT := 70) (pcF := 67) C d10_64 (by decide) (by decide) rfl (fun c57 => ?_) (fun c57 => (show False from c52 c57).elim)
          refine Wk.iloadN (pc' := 71) C d10_70 rfl rfl ?_
          have htk : (2 : Int32) = tokF f := by
            simp only [tokF, if_neg c36, if_pos c51, if_neg c52, if_pos c55, if_neg c56, if_neg c57] <;> decide
          exact Wk.retI C J d10_71 (by decide) (by decide) (fun h O => ⟨by rw [htk], O⟩)
    · skip
      refine Wk.aloadN (pc' := 22) C d10_21 rfl rfl rfl ?_
      refine Wk.iconst (z := (0 : Int32)) (pc' := 23) C d10_22 rfl rfl ?_
      refine Wk.baload (pc' := 24) (q := q) (i := 0) C d10_23 hq (by decide) (by decide) rfl ?_
      refine Wk.bipush (z := (32 : Int32)) (pc' := 26) C d10_24 rfl rfl ?_
      refine Wk.icmp_ne (pcT := 32) (pcF := 29) C d10_26 (by decide) (by decide) rfl (fun c58 => ?_) (fun c58 => (show False from c36 c58).elim)
      refine Wk.aloadN (pc' := 33) C d10_32 rfl rfl rfl ?_
      refine Wk.iconst (z := (2 : Int32)) (pc' := 34) C d10_33 rfl rfl ?_
      refine Wk.baload (pc' := 35) (q := q) (i := 2) C d10_34 hq (by decide) (by decide) rfl ?_
      refine Wk.bipush (z := (32 : Int32)) (pc' := 37) C d10_35 rfl rfl ?_
      refine Wk.icmp_eq (pcT := 51) (pcF := 40) C d10_37 (by decide) (by decide) rfl (fun c59 => ?_) (fun c59 => ?_)
      · skip
        refine Wk.aloadN (pc' := 52) C d10_51 rfl rfl rfl ?_
        refine Wk.iconst (z := (3 : Int32)) (pc' := 53) C d10_52 rfl rfl ?_
        refine Wk.baload (pc' := 54) (q := q) (i := 3) C d10_53 hq (by decide) (by decide) rfl ?_
        refine Wk.bipush (z := (32 : Int32)) (pc' := 56) C d10_54 rfl rfl ?_
        refine Wk.icmp_eq (pcT := 70) (pcF := 59) C d10_56 (by decide) (by decide) rfl (fun c60 => ?_) (fun c60 => ?_)
        · skip
          refine Wk.iloadN (pc' := 71) C d10_70 rfl rfl ?_
          have htk : (1 : Int32) = tokF f := by
            simp only [tokF, if_neg c36, if_neg c51, if_neg c58, if_pos c59, if_pos c60] <;> decide
          exact Wk.retI C J d10_71 (by decide) (by decide) (fun h O => ⟨by rw [htk], O⟩)
        · skip
          refine Wk.aloadN (pc' := 60) C d10_59 rfl rfl rfl ?_
          refine Wk.iconst (z := (2 : Int32)) (pc' := 61) C d10_60 rfl rfl ?_
          refine Wk.baload (pc' := 62) (q := q) (i := 2) C d10_61 hq (by decide) (by decide) rfl ?_
          refine Wk.bipush (z := (32 : Int32)) (pc' := 64) C d10_62 rfl rfl ?_
          refine Wk.icmp_ne (pcT := 70) (pcF := 67) C d10_64 (by decide) (by decide) rfl (fun c61 => (show False from c61 c59).elim) (fun c61 => ?_)
          refine Wk.iinc (z := (2 : Int32)) (Ls' := #[.val (.ref r0), .val (.int (2 : Int32))]) (pc' := 70) C d10_67 rfl (by decide) rfl rfl ?_
          refine Wk.iloadN (pc' := 71) C d10_70 rfl rfl ?_
          have htk : (2 : Int32) = tokF f := by
            simp only [tokF, if_neg c36, if_neg c51, if_neg c58, if_pos c59, if_neg c60, if_pos c61] <;> decide
          exact Wk.retI C J d10_71 (by decide) (by decide) (fun h O => ⟨by rw [htk], O⟩)
      · skip
        refine Wk.aloadN (pc' := 41) C d10_40 rfl rfl rfl ?_
        refine Wk.iconst (z := (1 : Int32)) (pc' := 42) C d10_41 rfl rfl ?_
        refine Wk.baload (pc' := 43) (q := q) (i := 1) C d10_42 hq (by decide) (by decide) rfl ?_
        refine Wk.bipush (z := (32 : Int32)) (pc' := 45) C d10_43 rfl rfl ?_
        refine Wk.icmp_ne (pcT := 51) (pcF := 48) C d10_45 (by decide) (by decide) rfl (fun c62 => ?_) (fun c62 => (show False from c51 c62).elim)
        refine Wk.aloadN (pc' := 52) C d10_51 rfl rfl rfl ?_
        refine Wk.iconst (z := (3 : Int32)) (pc' := 53) C d10_52 rfl rfl ?_
        refine Wk.baload (pc' := 54) (q := q) (i := 3) C d10_53 hq (by decide) (by decide) rfl ?_
        refine Wk.bipush (z := (32 : Int32)) (pc' := 56) C d10_54 rfl rfl ?_
        refine Wk.icmp_eq (pcT := 70) (pcF := 59) C d10_56 (by decide) (by decide) rfl (fun c63 => ?_) (fun c63 => ?_)
        · skip
          refine Wk.iloadN (pc' := 71) C d10_70 rfl rfl ?_
          have htk : (1 : Int32) = tokF f := by
            simp only [tokF, if_neg c36, if_neg c51, if_neg c58, if_neg c59, if_neg c62, if_pos c63] <;> decide
          exact Wk.retI C J d10_71 (by decide) (by decide) (fun h O => ⟨by rw [htk], O⟩)
        · skip
          refine Wk.aloadN (pc' := 60) C d10_59 rfl rfl rfl ?_
          refine Wk.iconst (z := (2 : Int32)) (pc' := 61) C d10_60 rfl rfl ?_
          refine Wk.baload (pc' := 62) (q := q) (i := 2) C d10_61 hq (by decide) (by decide) rfl ?_
          refine Wk.bipush (z := (32 : Int32)) (pc' := 64) C d10_62 rfl rfl ?_
          refine Wk.icmp_ne (pcT := 70) (pcF := 67) C d10_64 (by decide) (by decide) rfl (fun c64 => ?_) (fun c64 => (show False from c59 c64).elim)
          refine Wk.iloadN (pc' := 71) C d10_70 rfl rfl ?_
          have htk : (1 : Int32) = tokF f := by
            simp only [tokF, if_neg c36, if_neg c51, if_neg c58, if_neg c59, if_neg c62, if_neg c63, if_neg c64] <;> decide
          exact Wk.retI C J d10_71 (by decide) (by decide) (fun h O => ⟨by rw [htk], O⟩)
def F15 (x0 : Int32) (x1 : Int32) : Int32 := (if x1 < x0 then x1 else x0)
theorem ef_rm15 (m : MethodId) (x0 : Int32) (x1 : Int32) : entryFrame m #[.int x0, .int x1] 2 = mkF m 0 #[.val (.int x0), .val (.int x1)] [] := by first | (simp [entryFrame, mkF, argsToLocals, Value.category]; done) | rfl
set_option maxRecDepth 65536 in
set_option maxHeartbeats 40000000 in
theorem rm15 (l : Launch) (Z : State) (a0 : Array Value) (hw : HW Z a0) (x0 : Int32) (x1 : Int32) (L : List (Addr × (Cell → Prop))) (h : Heap) (n0 : Nat) (O : Own n0 h L) :
    Meth l Z (⟨"java/lang/Math", "min", "(II)I"⟩ : MethodName) jdk_29_method_69_code 2 (some .int) [] ({ frames := 0, cells := 0, slots := 0, locals := 0 } : Room) #[.int x0, .int x1] h n0 (fun v h' => v = some (.int (F15 x0 x1)) ∧ Own n0 h' L) := by
  refine Meth.of pf_0 (fun m => ef_rm15 m x0 x1) O ?_
  intro p e m below meth c M FE C J
  change Cx Z "java/lang/Math" "min" jdk_29_method_69_code 2 (some .int) p m meth c M at C
  clear O
  refine Wk.iloadN (pc' := 1) C d15_0 rfl rfl ?_
  refine Wk.iloadN (pc' := 2) C d15_1 rfl rfl ?_
  refine Wk.icmp_gt (pcT := 9) (pcF := 5) C d15_2 (by decide) (by decide) rfl (fun c65 => ?_) (fun c65 => ?_)
  · skip
    refine Wk.iloadN (pc' := 10) C d15_9 rfl rfl ?_
    exact Wk.retI C J d15_10 (by decide) (by decide) (fun h O => ⟨by rw [F15, if_pos c65], O⟩)
  · skip
    refine Wk.iloadN (pc' := 6) C d15_5 rfl rfl ?_
    refine Wk.goto (pc' := 10) C d15_6 (by decide) (by decide) ?_
    exact Wk.retI C J d15_10 (by decide) (by decide) (fun h O => ⟨by rw [F15, if_neg c65], O⟩)
theorem ef_rm14 (m : MethodId) (x0 : Int32) (x1 : Int32) : entryFrame m #[.int x0, .int x1] 2 = mkF m 0 #[.val (.int x0), .val (.int x1)] [] := by first | (simp [entryFrame, mkF, argsToLocals, Value.category]; done) | rfl
set_option maxRecDepth 65536 in
set_option maxHeartbeats 40000000 in
theorem rm14 (l : Launch) (Z : State) (a0 : Array Value) (hw : HW Z a0) (x0 : Int32) (x1 : Int32) (L : List (Addr × (Cell → Prop))) (h : Heap) (n0 : Nat) (O : Own n0 h L) (hle : ¬ x1 < x0) :
    Meth l Z (⟨"java/util/Arrays", "checkLength", "(II)V"⟩ : MethodName) jdk_65_method_131_code 2 none [] ({ frames := 0, cells := 0, slots := 0, locals := 0 } : Room) #[.int x0, .int x1] h n0 (fun v h' => v = none ∧ Own n0 h' L) := by
  refine Meth.of (plainFor_of_name pn_2) (fun m => ef_rm14 m x0 x1) O ?_
  intro p e m below meth c M FE C J
  change Cx Z "java/util/Arrays" "checkLength" jdk_65_method_131_code 2 none p m meth c M at C
  clear O
  refine Wk.iloadN (pc' := 1) C d14_0 rfl rfl ?_
  refine Wk.iloadN (pc' := 2) C d14_1 rfl rfl ?_
  refine Wk.icmp_ge (pcT := 37) (pcF := 5) C d14_2 (by decide) (by decide) rfl (fun c66 => ?_) (fun c66 => (show False from hle c66).elim)
  exact Wk.retV C J d14_37 (by decide) (by decide) (fun h O => ⟨rfl, O⟩)
theorem own_nlt {x y : Int32} {i j : Nat} (hx : x.toInt = (i : Int)) (hy : y.toInt = (j : Int)) (h : i ≤ j) : ¬ y < x := by rw [Int32.lt_iff_toInt_lt]; omega
theorem own_min {x v : Int32} {i j : Nat} (hx : x.toInt = (i : Int)) (hv : v.toInt = ((j - i : Nat) : Int)) (h : i ≤ j) (hj : j ≤ 4) : (F15 ((4 : Int32) - x) v).toInt = ((j - i : Nat) : Int) := by
  have e := c_isub 4 x
  have r := rng32 ((4 : Int32) - x)
  have z4 : (4 : Int32).toInt = 4 := rfl
  unfold F15
  by_cases q : v < (4 : Int32) - x
  · rw [if_pos q]; exact hv
  · rw [if_neg q]; rw [Int32.lt_iff_toInt_lt] at q; omega
theorem ef_rm13 (m : MethodId) (r0 : Addr) (x1 : Int32) (x2 : Int32) : entryFrame m #[.ref r0, .int x1, .int x2] 5 = mkF m 0 #[.val (.ref r0), .val (.int x1), .val (.int x2), .unset, .unset] [] := by first | (simp [entryFrame, mkF, argsToLocals, Value.category]; done) | rfl
set_option maxRecDepth 65536 in
set_option maxHeartbeats 40000000 in
theorem rm13 (l : Launch) (Z : State) (a0 : Array Value) (hw : HW Z a0) (r0 : Addr) (x1 : Int32) (x2 : Int32) (L : List (Addr × (Cell → Prop))) (q i j : Nat) (f : Nat → Int32) (h : Heap) (n0 : Nat) (O : Own n0 h L) (hq : L[q]? = some (r0, ArrC Z .byte 4 f)) (hx1 : x1.toInt = (i : Int)) (hx2 : x2.toInt = (j : Int)) (hij : i ≤ j) (hj : j ≤ 4) :
    Meth l Z (⟨"java/util/Arrays", "copyOfRangeByte", "([BII)[B"⟩ : MethodName) jdk_65_method_133_code 5 (some (.array .byte)) [] ({ frames := 1, cells := 1, slots := 4, locals := 30 } : Room) #[.ref r0, .int x1, .int x2] h n0 (fun v h' => ∃ (a : Addr) (nn : Nat) (g : Nat → Int32), v = some (.ref a) ∧ Own n0 h' ((a, ArrC Z .byte nn g) :: L)) := by
  refine Meth.of (plainFor_of_name pn_2) (fun m => ef_rm13 m r0 x1 x2) O ?_
  intro p e m below meth c M FE C J
  change Cx Z "java/util/Arrays" "copyOfRangeByte" jdk_65_method_133_code 5 (some (.array .byte)) p m meth c M at C
  clear O
  refine Wk.iloadN (pc' := 1) C d13_0 rfl rfl ?_
  refine Wk.iloadN (pc' := 2) C d13_1 rfl rfl ?_
  refine Wk.callS (pc' := 5) (rm := { frames := 0, cells := 0, slots := 0, locals := 0 }) (W0 := 0) (argsL := [.int x1, .int x2]) (st := []) C (w67 hw) (w68 hw) (w62 hw) (w69 hw) (by decide) (fun h O => rm14 l Z a0 hw x1 x2 L h n0 O (own_nlt hx1 hx2 hij)) (by decide) (by decide) (by decide) (by decide) d13_2 rfl pd_1 rfl rfl rfl rfl ?_
  rintro _ h' ⟨rfl, O'⟩
  refine ⟨_, O', ?_⟩
  change Wk p l e _ m _ below meth c _ _ n0 L 0 0 5 #[.val (.ref r0), .val (.int x1), .val (.int x2), .unset, .unset] []
  refine Wk.iloadN (pc' := 6) C d13_5 rfl rfl ?_
  refine Wk.iloadN (pc' := 7) C d13_6 rfl rfl ?_
  refine Wk.isub (pc' := 8) C d13_7 rfl ?_
  refine Wk.istoreNV (fun v67 => #[.val (.ref r0), .val (.int x1), .val (.int x2), .val (.int v67), .unset]) (pc' := 9) C d13_8 rfl rfl ?_
  intro v67 hv67
  have hv : v67.toInt = ((j - i : Nat) : Int) := by rw [hv67]; exact own_sub hx1 hx2 hij hj
  refine Wk.iloadN (pc' := 10) C d13_9 rfl rfl ?_
  refine Wk.newarray (pc' := 12) (aty := .byte) (nn := (j - i)) (cap := 4) (d := 0) C (w4 hw) d13_10 rfl rfl hv (by omega) (by decide) (by decide) (by decide) rfl ?_
  intro a68
  change Wk p l e _ m _ below meth c _ _ n0 ((a68, ArrC Z .byte ((j - i)) (fun _ => 0)) :: L) 1 4 12 #[.val (.ref r0), .val (.int x1), .val (.int x2), .val (.int v67), .unset] [.ref a68]
  refine Wk.astore (Ls' := #[.val (.ref r0), .val (.int x1), .val (.int x2), .val (.int v67), .val (.ref a68)]) (pc' := 14) C d13_12 rfl rfl rfl ?_
  refine Wk.aloadN (pc' := 15) C d13_14 rfl rfl rfl ?_
  refine Wk.iloadN (pc' := 16) C d13_15 rfl rfl ?_
  refine Wk.aload (pc' := 18) C d13_16 rfl rfl rfl ?_
  refine Wk.iconst (z := (0 : Int32)) (pc' := 19) C d13_18 rfl rfl ?_
  refine Wk.aloadN (pc' := 20) C d13_19 rfl rfl rfl ?_
  refine Wk.arraylength (pc' := 21) (q := (q + 1)) (z := (4 : Int32)) C d13_20 hq (fun _ A => ⟨A.1, A.2.2.1⟩) rfl rfl ?_
  refine Wk.iloadN (pc' := 22) C d13_21 rfl rfl ?_
  refine Wk.isub (pc' := 23) C d13_22 rfl ?_
  refine Wk.iloadN (pc' := 24) C d13_23 rfl rfl ?_
  refine Wk.callS (pc' := 27) (rm := { frames := 0, cells := 0, slots := 0, locals := 0 }) (W0 := 4) (argsL := [.int ((4 : Int32) - x1), .int v67]) (st := [.int (0 : Int32), .ref a68, .int x1, .ref r0]) C (w70 hw) (w71 hw) (w72 hw) (w73 hw) (by decide) (fun h O => rm15 l Z a0 hw ((4 : Int32) - x1) v67 ((a68, ArrC Z .byte ((j - i)) (fun _ => 0)) :: L) h n0 O) (by decide) (by decide) (by decide) (by decide) d13_24 rfl pd_2 rfl rfl rfl rfl ?_
  rintro _ h' ⟨rfl, O'⟩
  refine ⟨_, O', ?_⟩
  change Wk p l e _ m _ below meth c _ _ n0 ((a68, ArrC Z .byte ((j - i)) (fun _ => 0)) :: L) 1 4 27 #[.val (.ref r0), .val (.int x1), .val (.int x2), .val (.int v67), .val (.ref a68)] [.int (F15 ((4 : Int32) - x1) v67), .int (0 : Int32), .ref a68, .int x1, .ref r0]
  refine Wk.arraycopy (pc' := 30) (W0 := 0) (q1 := (q + 1)) (q2 := 0) (i := i) (j := 0) (kk := (j - i)) C (w74 hw) (w77 hw) (w75 hw) (w76 hw) d13_27 hq rfl rfl (by omega) (by omega) hx1 rfl (own_min hx1 hv hij hj) (by omega) (by omega) rfl (by decide) rfl (by decide) rfl ?_
  change Wk p l e _ m _ below meth c _ _ n0 ((a68, ArrC Z .byte ((j - i)) (cpy f (fun _ => 0) i 0 (j - i))) :: L) 1 4 30 #[.val (.ref r0), .val (.int x1), .val (.int x2), .val (.int v67), .val (.ref a68)] []
  refine Wk.aload (pc' := 32) C d13_30 rfl rfl rfl ?_
  exact Wk.retA C J d13_32 (by decide) (by decide) rfl rfl (fun h O => ⟨_, _, _, rfl, O⟩)
theorem ef_rm12 (m : MethodId) (r0 : Addr) (x1 : Int32) (x2 : Int32) : entryFrame m #[.ref r0, .int x1, .int x2] 3 = mkF m 0 #[.val (.ref r0), .val (.int x1), .val (.int x2)] [] := by first | (simp [entryFrame, mkF, argsToLocals, Value.category]; done) | rfl
set_option maxRecDepth 65536 in
set_option maxHeartbeats 40000000 in
theorem rm12 (l : Launch) (Z : State) (a0 : Array Value) (hw : HW Z a0) (r0 : Addr) (x1 : Int32) (x2 : Int32) (L : List (Addr × (Cell → Prop))) (q i j : Nat) (f : Nat → Int32) (h : Heap) (n0 : Nat) (O : Own n0 h L) (hq : L[q]? = some (r0, ArrC Z .byte 4 f)) (hx1 : x1.toInt = (i : Int)) (hx2 : x2.toInt = (j : Int)) (hij : i ≤ j) (hj : j ≤ 4) :
    Meth l Z (⟨"java/util/Arrays", "copyOfRange", "([BII)[B"⟩ : MethodName) jdk_65_method_132_code 3 (some (.array .byte)) [] ({ frames := 2, cells := 1, slots := 4, locals := 46 } : Room) #[.ref r0, .int x1, .int x2] h n0 (fun v h' => ∃ (a : Addr) (nn : Nat) (g : Nat → Int32), v = some (.ref a) ∧ Own n0 h' ((a, ArrC Z .byte nn g) :: L)) := by
  refine Meth.of (plainFor_of_name pn_2) (fun m => ef_rm12 m r0 x1 x2) O ?_
  intro p e m below meth c M FE C J
  change Cx Z "java/util/Arrays" "copyOfRange" jdk_65_method_132_code 3 (some (.array .byte)) p m meth c M at C
  clear O
  refine Wk.iloadN (pc' := 1) C d12_0 rfl rfl ?_
  refine Wk.if_ne (pcT := 10) (pcF := 4) C d12_1 (by decide) (by decide) rfl (fun c69 => ?_) (fun c69 => ?_)
  · skip
    refine Wk.aloadN (pc' := 11) C d12_10 rfl rfl rfl ?_
    refine Wk.iloadN (pc' := 12) C d12_11 rfl rfl ?_
    refine Wk.iloadN (pc' := 13) C d12_12 rfl rfl ?_
    refine Wk.callS (pc' := 16) (rm := { frames := 1, cells := 1, slots := 4, locals := 30 }) (W0 := 0) (argsL := [.ref r0, .int x1, .int x2]) (st := []) C (w64 hw) (w65 hw) (w62 hw) (w66 hw) (by decide) (fun h O => rm13 l Z a0 hw r0 x1 x2 L q i j (f) h n0 O hq hx1 hx2 hij hj) (by decide) (by decide) (by decide) (by decide) d12_13 rfl pd_3 rfl rfl rfl rfl ?_
    rintro _ h' ⟨a70, nn71, g72, rfl, O'⟩
    refine ⟨_, O', ?_⟩
    change Wk p l e _ m _ below meth c _ _ n0 ((a70, ArrC Z .byte nn71 g72) :: L) 1 4 16 #[.val (.ref r0), .val (.int x1), .val (.int x2)] [.ref a70]
    exact Wk.retA C J d12_16 (by decide) (by decide) rfl rfl (fun h O => ⟨_, _, _, rfl, O⟩)
  · skip
    refine Wk.iloadN (pc' := 5) C d12_4 rfl rfl ?_
    refine Wk.aloadN (pc' := 6) C d12_5 rfl rfl rfl ?_
    refine Wk.arraylength (pc' := 7) (q := q) (z := (4 : Int32)) C d12_6 hq (fun _ A => ⟨A.1, A.2.2.1⟩) rfl rfl ?_
    refine Wk.icmp_eq (pcT := 17) (pcF := 10) C d12_7 (by decide) (by decide) rfl (fun c73 => ?_) (fun c73 => ?_)
    · skip
      refine Wk.aloadN (pc' := 18) C d12_17 rfl rfl rfl ?_
      refine Wk.cloneA (pc' := 21) (W0 := 0) (q := q) (cap := 4) C (w78 hw) (w79 hw) (w83 hw) (w81 hw) (w82 hw) (w84 hw) d12_18 (by decide) hq (by omega) (by decide) rfl (by decide) rfl (by decide) (by decide) (by decide) rfl ?_
      intro a74
      change Wk p l e _ m _ below meth c _ _ n0 ((a74, ArrC Z .byte 4 f) :: L) 1 4 21 #[.val (.ref r0), .val (.int x1), .val (.int x2)] [.ref a74]
      refine Wk.castA (pc' := 24) (q := 0) C (w85 hw) d12_21 (by decide) rfl rfl ?_
      exact Wk.retA C J d12_24 (by decide) (by decide) rfl rfl (fun h O => ⟨_, _, _, rfl, O⟩)
    · skip
      refine Wk.aloadN (pc' := 11) C d12_10 rfl rfl rfl ?_
      refine Wk.iloadN (pc' := 12) C d12_11 rfl rfl ?_
      refine Wk.iloadN (pc' := 13) C d12_12 rfl rfl ?_
      refine Wk.callS (pc' := 16) (rm := { frames := 1, cells := 1, slots := 4, locals := 30 }) (W0 := 0) (argsL := [.ref r0, .int x1, .int x2]) (st := []) C (w64 hw) (w65 hw) (w62 hw) (w66 hw) (by decide) (fun h O => rm13 l Z a0 hw r0 x1 x2 L q i j (f) h n0 O hq hx1 hx2 hij hj) (by decide) (by decide) (by decide) (by decide) d12_13 rfl pd_3 rfl rfl rfl rfl ?_
      rintro _ h' ⟨a75, nn76, g77, rfl, O'⟩
      refine ⟨_, O', ?_⟩
      change Wk p l e _ m _ below meth c _ _ n0 ((a75, ArrC Z .byte nn76 g77) :: L) 1 4 16 #[.val (.ref r0), .val (.int x1), .val (.int x2)] [.ref a75]
      exact Wk.retA C J d12_16 (by decide) (by decide) rfl rfl (fun h O => ⟨_, _, _, rfl, O⟩)
theorem ef_rm11_1 (m : MethodId) (r0 : Addr) : entryFrame m #[.ref r0] 3 = mkF m 0 #[.val (.ref r0), .unset, .unset] [] := by first | (simp [entryFrame, mkF, argsToLocals, Value.category]; done) | rfl
set_option maxRecDepth 65536 in
set_option maxHeartbeats 40000000 in
theorem rm11_1 (l : Launch) (Z : State) (a0 : Array Value) (hw : HW Z a0) (r0 : Addr) (L : List (Addr × (Cell → Prop))) (sa ea ra : Addr) (dt : Int32) (fs fe f : Nat → Int32) (h : Heap) (n0 : Nat) (O : Own n0 h ((r0, ObjC Z "com/example/vole/vole/textprotocol/RequestLine" ks_0 [.ref sa, .ref ea, .ref ra, .int dt, .int (1 : Int32)]) :: (sa, ArrC Z .int 8 fs) :: (ea, ArrC Z .int 8 fe) :: (ra, ArrC Z .byte 4 f) :: L)) (hb : bnd fs fe 0) :
    Meth l Z (⟨"com/example/vole/vole/textprotocol/RequestLine", "detach", "()V"⟩ : MethodName) prog_27_method_4_code 3 none [] ({ frames := 3, cells := 1, slots := 4, locals := 64 } : Room) #[.ref r0] h n0 (fun v h' => ∃ (a : Addr) (nn : Nat) (g fs' fe' : Nat → Int32), v = none ∧ Own n0 h' ((a, ArrC Z .byte nn g) :: (r0, ObjC Z "com/example/vole/vole/textprotocol/RequestLine" ks_0 [.ref sa, .ref ea, .ref a, .int (1 : Int32), .int (1 : Int32)]) :: (sa, ArrC Z .int 8 fs') :: (ea, ArrC Z .int 8 fe') :: (ra, ArrC Z .byte 4 f) :: L)) := by
  refine Meth.of (plainFor_of_name pn_1) (fun m => ef_rm11_1 m r0) O ?_
  intro p e m below meth c M FE C J
  change Cx Z "com/example/vole/vole/textprotocol/RequestLine" "detach" prog_27_method_4_code 3 none p m meth c M at C
  clear O
  refine Wk.aloadN (pc' := 1) C d11_0 rfl rfl rfl ?_
  refine Wk.getfield (pc' := 4) (host := "") (q := 0) (i := 0) C (Or.inl (w18 hw)) d11_1 rfl rfl rfl rfl ?_
  refine Wk.iconst (z := (0 : Int32)) (pc' := 5) C d11_4 rfl rfl ?_
  refine Wk.iaload (pc' := 6) (q := 1) (i := 0) C d11_5 rfl (by decide) (by decide) rfl ?_
  refine Wk.istoreNV (fun v78 => #[.val (.ref r0), .val (.int v78), .unset]) (pc' := 7) C d11_6 rfl rfl ?_
  intro v78 hv78
  obtain ⟨b1, b2, b3⟩ := hb
  obtain ⟨i, hx1⟩ : ∃ i : Nat, v78.toInt = (i : Int) := ⟨v78.toInt.toNat, by rw [hv78]; omega⟩
  obtain ⟨j, hx2⟩ : ∃ j : Nat, (fe 0).toInt = (j : Int) := ⟨(fe 0).toInt.toNat, by omega⟩
  have hij : i ≤ j := by have := hx1; rw [hv78] at this; omega
  have hj : j ≤ 4 := by omega
  refine Wk.aloadN (pc' := 8) C d11_7 rfl rfl rfl ?_
  refine Wk.aloadN (pc' := 9) C d11_8 rfl rfl rfl ?_
  refine Wk.getfield (pc' := 12) (host := "") (q := 0) (i := 2) C (Or.inl (w27 hw)) d11_9 rfl rfl rfl rfl ?_
  refine Wk.iloadN (pc' := 13) C d11_12 rfl rfl ?_
  refine Wk.aloadN (pc' := 14) C d11_13 rfl rfl rfl ?_
  refine Wk.getfield (pc' := 17) (host := "") (q := 0) (i := 1) C (Or.inl (w20 hw)) d11_14 rfl rfl rfl rfl ?_
  refine Wk.aloadN (pc' := 18) C d11_17 rfl rfl rfl ?_
  refine Wk.getfield (pc' := 21) (host := "") (q := 0) (i := 4) C (Or.inl (w31 hw)) d11_18 rfl rfl rfl rfl ?_
  refine Wk.iconst (z := (1 : Int32)) (pc' := 22) C d11_21 rfl rfl ?_
  refine Wk.isub (pc' := 23) C d11_22 rfl ?_
  refine Wk.iaload (pc' := 24) (q := 2) (i := 0) C d11_23 rfl (by decide) (by decide) rfl ?_
  refine Wk.callS (pc' := 27) (rm := { frames := 2, cells := 1, slots := 4, locals := 46 }) (W0 := 1) (argsL := [.ref ra, .int v78, .int (fe 0)]) (st := [.ref r0]) C (w60 hw) (w61 hw) (w62 hw) (w63 hw) (by decide) (fun h O => rm12 l Z a0 hw ra v78 (fe 0) ((r0, ObjC Z "com/example/vole/vole/textprotocol/RequestLine" ks_0 [.ref sa, .ref ea, .ref ra, .int dt, .int (1 : Int32)]) :: (sa, ArrC Z .int 8 fs) :: (ea, ArrC Z .int 8 fe) :: (ra, ArrC Z .byte 4 f) :: L) 3 i j (f) h n0 O rfl hx1 hx2 hij hj) (by decide) (by decide) (by decide) (by decide) d11_24 rfl pd_3 rfl rfl rfl rfl ?_
  rintro _ h' ⟨a79, nn80, g81, rfl, O'⟩
  refine ⟨_, O', ?_⟩
  change Wk p l e _ m _ below meth c _ _ n0 ((a79, ArrC Z .byte nn80 g81) :: (r0, ObjC Z "com/example/vole/vole/textprotocol/RequestLine" ks_0 [.ref sa, .ref ea, .ref ra, .int dt, .int (1 : Int32)]) :: (sa, ArrC Z .int 8 fs) :: (ea, ArrC Z .int 8 fe) :: (ra, ArrC Z .byte 4 f) :: L) 1 4 27 #[.val (.ref r0), .val (.int v78), .unset] [.ref a79, .ref r0]
  refine Wk.putfield (pc' := 30) (host := "") (q := 1) (i := 2) C (Or.inl (w27 hw)) (lays_ks_0 hw) (Or.inl (w28 hw)) (w9 hw) d11_27 rfl rfl (Nat.le_of_ble_eq_true rfl) rfl rfl rfl ?_
  change Wk p l e _ m _ below meth c _ _ n0 ((a79, ArrC Z .byte nn80 g81) :: (r0, ObjC Z "com/example/vole/vole/textprotocol/RequestLine" ks_0 [.ref sa, .ref ea, .ref a79, .int dt, .int (1 : Int32)]) :: (sa, ArrC Z .int 8 fs) :: (ea, ArrC Z .int 8 fe) :: (ra, ArrC Z .byte 4 f) :: L) 1 4 30 #[.val (.ref r0), .val (.int v78), .unset] []
  refine Wk.aloadN (pc' := 31) C d11_30 rfl rfl rfl ?_
  refine Wk.iconst (z := (1 : Int32)) (pc' := 32) C d11_31 rfl rfl ?_
  refine Wk.putfield (pc' := 35) (host := "") (q := 1) (i := 3) C (Or.inl (w29 hw)) (lays_ks_0 hw) (Or.inl (w30 hw)) (w9 hw) d11_32 rfl rfl (Nat.le_of_ble_eq_true rfl) rfl rfl rfl ?_
  change Wk p l e _ m _ below meth c _ _ n0 ((a79, ArrC Z .byte nn80 g81) :: (r0, ObjC Z "com/example/vole/vole/textprotocol/RequestLine" ks_0 [.ref sa, .ref ea, .ref a79, .int (1 : Int32), .int (1 : Int32)]) :: (sa, ArrC Z .int 8 fs) :: (ea, ArrC Z .int 8 fe) :: (ra, ArrC Z .byte 4 f) :: L) 1 4 35 #[.val (.ref r0), .val (.int v78), .unset] []
  refine Wk.iconst (z := (0 : Int32)) (pc' := 36) C d11_35 rfl rfl ?_
  refine Wk.istoreN (Ls' := #[.val (.ref r0), .val (.int v78), .val (.int (0 : Int32))]) (pc' := 37) C d11_36 rfl rfl ?_
  refine Wk.iloadN (pc' := 38) C d11_37 rfl rfl ?_
  refine Wk.aloadN (pc' := 39) C d11_38 rfl rfl rfl ?_
  refine Wk.getfield (pc' := 42) (host := "") (q := 1) (i := 4) C (Or.inl (w31 hw)) d11_39 rfl rfl rfl rfl ?_
  refine Wk.icmp_ge (pcT := 71) (pcF := 45) C d11_42 (by decide) (by decide) rfl (fun q => absurd q (by decide)) (fun _ => ?_)
  refine Wk.aloadN (pc' := 46) C d11_45 rfl rfl rfl ?_
  refine Wk.getfield (pc' := 49) (host := "") (q := 1) (i := 0) C (Or.inl (w18 hw)) d11_46 rfl rfl rfl rfl ?_
  refine Wk.iloadN (pc' := 50) C d11_49 rfl rfl ?_
  refine Wk.dup2 (pc' := 51) C d11_50 rfl rfl rfl ?_
  refine Wk.iaload (pc' := 52) (q := 2) (i := 0) C d11_51 rfl (by decide) (by decide) rfl ?_
  refine Wk.iloadN (pc' := 53) C d11_52 rfl rfl ?_
  refine Wk.isub (pc' := 54) C d11_53 rfl ?_
  refine Wk.iastore (pc' := 55) (q := 2) (i := 0) C d11_54 rfl (by decide) (by decide) rfl ?_
  change Wk p l e _ m _ below meth c _ _ n0 ((a79, ArrC Z .byte nn80 g81) :: (r0, ObjC Z "com/example/vole/vole/textprotocol/RequestLine" ks_0 [.ref sa, .ref ea, .ref a79, .int (1 : Int32), .int (1 : Int32)]) :: (sa, ArrC Z .int 8 (upd fs 0 ((fs 0) - v78))) :: (ea, ArrC Z .int 8 fe) :: (ra, ArrC Z .byte 4 f) :: L) 1 4 55 #[.val (.ref r0), .val (.int v78), .val (.int (0 : Int32))] []
  refine Wk.aloadN (pc' := 56) C d11_55 rfl rfl rfl ?_
  refine Wk.getfield (pc' := 59) (host := "") (q := 1) (i := 1) C (Or.inl (w20 hw)) d11_56 rfl rfl rfl rfl ?_
  refine Wk.iloadN (pc' := 60) C d11_59 rfl rfl ?_
  refine Wk.dup2 (pc' := 61) C d11_60 rfl rfl rfl ?_
  refine Wk.iaload (pc' := 62) (q := 3) (i := 0) C d11_61 rfl (by decide) (by decide) rfl ?_
  refine Wk.iloadN (pc' := 63) C d11_62 rfl rfl ?_
  refine Wk.isub (pc' := 64) C d11_63 rfl ?_
  refine Wk.iastore (pc' := 65) (q := 3) (i := 0) C d11_64 rfl (by decide) (by decide) rfl ?_
  change Wk p l e _ m _ below meth c _ _ n0 ((a79, ArrC Z .byte nn80 g81) :: (r0, ObjC Z "com/example/vole/vole/textprotocol/RequestLine" ks_0 [.ref sa, .ref ea, .ref a79, .int (1 : Int32), .int (1 : Int32)]) :: (sa, ArrC Z .int 8 (upd fs 0 ((fs 0) - v78))) :: (ea, ArrC Z .int 8 (upd fe 0 ((fe 0) - v78))) :: (ra, ArrC Z .byte 4 f) :: L) 1 4 65 #[.val (.ref r0), .val (.int v78), .val (.int (0 : Int32))] []
  refine Wk.iinc (z := (1 : Int32)) (Ls' := #[.val (.ref r0), .val (.int v78), .val (.int (1 : Int32))]) (pc' := 68) C d11_65 rfl (by decide) rfl rfl ?_
  refine Wk.goto (pc' := 37) C d11_68 (by decide) (by decide) ?_
  refine Wk.iloadN (pc' := 38) C d11_37 rfl rfl ?_
  refine Wk.aloadN (pc' := 39) C d11_38 rfl rfl rfl ?_
  refine Wk.getfield (pc' := 42) (host := "") (q := 1) (i := 4) C (Or.inl (w31 hw)) d11_39 rfl rfl rfl rfl ?_
  refine Wk.icmp_ge (pcT := 71) (pcF := 45) C d11_42 (by decide) (by decide) rfl (fun _ => ?_) (fun q => absurd q (by decide))
  exact Wk.retV C J d11_71 (by decide) (by decide) (fun h O => ⟨_, _, _, _, _, rfl, O⟩)
theorem ef_rm11_2 (m : MethodId) (r0 : Addr) : entryFrame m #[.ref r0] 3 = mkF m 0 #[.val (.ref r0), .unset, .unset] [] := by first | (simp [entryFrame, mkF, argsToLocals, Value.category]; done) | rfl
set_option maxRecDepth 65536 in
set_option maxHeartbeats 40000000 in
theorem rm11_2 (l : Launch) (Z : State) (a0 : Array Value) (hw : HW Z a0) (r0 : Addr) (L : List (Addr × (Cell → Prop))) (sa ea ra : Addr) (dt : Int32) (fs fe f : Nat → Int32) (h : Heap) (n0 : Nat) (O : Own n0 h ((r0, ObjC Z "com/example/vole/vole/textprotocol/RequestLine" ks_0 [.ref sa, .ref ea, .ref ra, .int dt, .int (2 : Int32)]) :: (sa, ArrC Z .int 8 fs) :: (ea, ArrC Z .int 8 fe) :: (ra, ArrC Z .byte 4 f) :: L)) (hb : bnd fs fe 1) :
    Meth l Z (⟨"com/example/vole/vole/textprotocol/RequestLine", "detach", "()V"⟩ : MethodName) prog_27_method_4_code 3 none [] ({ frames := 3, cells := 1, slots := 4, locals := 64 } : Room) #[.ref r0] h n0 (fun v h' => ∃ (a : Addr) (nn : Nat) (g fs' fe' : Nat → Int32), v = none ∧ Own n0 h' ((a, ArrC Z .byte nn g) :: (r0, ObjC Z "com/example/vole/vole/textprotocol/RequestLine" ks_0 [.ref sa, .ref ea, .ref a, .int (1 : Int32), .int (2 : Int32)]) :: (sa, ArrC Z .int 8 fs') :: (ea, ArrC Z .int 8 fe') :: (ra, ArrC Z .byte 4 f) :: L)) := by
  refine Meth.of (plainFor_of_name pn_1) (fun m => ef_rm11_2 m r0) O ?_
  intro p e m below meth c M FE C J
  change Cx Z "com/example/vole/vole/textprotocol/RequestLine" "detach" prog_27_method_4_code 3 none p m meth c M at C
  clear O
  refine Wk.aloadN (pc' := 1) C d11_0 rfl rfl rfl ?_
  refine Wk.getfield (pc' := 4) (host := "") (q := 0) (i := 0) C (Or.inl (w18 hw)) d11_1 rfl rfl rfl rfl ?_
  refine Wk.iconst (z := (0 : Int32)) (pc' := 5) C d11_4 rfl rfl ?_
  refine Wk.iaload (pc' := 6) (q := 1) (i := 0) C d11_5 rfl (by decide) (by decide) rfl ?_
  refine Wk.istoreNV (fun v82 => #[.val (.ref r0), .val (.int v82), .unset]) (pc' := 7) C d11_6 rfl rfl ?_
  intro v82 hv82
  obtain ⟨b1, b2, b3⟩ := hb
  obtain ⟨i, hx1⟩ : ∃ i : Nat, v82.toInt = (i : Int) := ⟨v82.toInt.toNat, by rw [hv82]; omega⟩
  obtain ⟨j, hx2⟩ : ∃ j : Nat, (fe 1).toInt = (j : Int) := ⟨(fe 1).toInt.toNat, by omega⟩
  have hij : i ≤ j := by have := hx1; rw [hv82] at this; omega
  have hj : j ≤ 4 := by omega
  refine Wk.aloadN (pc' := 8) C d11_7 rfl rfl rfl ?_
  refine Wk.aloadN (pc' := 9) C d11_8 rfl rfl rfl ?_
  refine Wk.getfield (pc' := 12) (host := "") (q := 0) (i := 2) C (Or.inl (w27 hw)) d11_9 rfl rfl rfl rfl ?_
  refine Wk.iloadN (pc' := 13) C d11_12 rfl rfl ?_
  refine Wk.aloadN (pc' := 14) C d11_13 rfl rfl rfl ?_
  refine Wk.getfield (pc' := 17) (host := "") (q := 0) (i := 1) C (Or.inl (w20 hw)) d11_14 rfl rfl rfl rfl ?_
  refine Wk.aloadN (pc' := 18) C d11_17 rfl rfl rfl ?_
  refine Wk.getfield (pc' := 21) (host := "") (q := 0) (i := 4) C (Or.inl (w31 hw)) d11_18 rfl rfl rfl rfl ?_
  refine Wk.iconst (z := (1 : Int32)) (pc' := 22) C d11_21 rfl rfl ?_
  refine Wk.isub (pc' := 23) C d11_22 rfl ?_
  refine Wk.iaload (pc' := 24) (q := 2) (i := 1) C d11_23 rfl (by decide) (by decide) rfl ?_
  refine Wk.callS (pc' := 27) (rm := { frames := 2, cells := 1, slots := 4, locals := 46 }) (W0 := 1) (argsL := [.ref ra, .int v82, .int (fe 1)]) (st := [.ref r0]) C (w60 hw) (w61 hw) (w62 hw) (w63 hw) (by decide) (fun h O => rm12 l Z a0 hw ra v82 (fe 1) ((r0, ObjC Z "com/example/vole/vole/textprotocol/RequestLine" ks_0 [.ref sa, .ref ea, .ref ra, .int dt, .int (2 : Int32)]) :: (sa, ArrC Z .int 8 fs) :: (ea, ArrC Z .int 8 fe) :: (ra, ArrC Z .byte 4 f) :: L) 3 i j (f) h n0 O rfl hx1 hx2 hij hj) (by decide) (by decide) (by decide) (by decide) d11_24 rfl pd_3 rfl rfl rfl rfl ?_
  rintro _ h' ⟨a83, nn84, g85, rfl, O'⟩
  refine ⟨_, O', ?_⟩
  change Wk p l e _ m _ below meth c _ _ n0 ((a83, ArrC Z .byte nn84 g85) :: (r0, ObjC Z "com/example/vole/vole/textprotocol/RequestLine" ks_0 [.ref sa, .ref ea, .ref ra, .int dt, .int (2 : Int32)]) :: (sa, ArrC Z .int 8 fs) :: (ea, ArrC Z .int 8 fe) :: (ra, ArrC Z .byte 4 f) :: L) 1 4 27 #[.val (.ref r0), .val (.int v82), .unset] [.ref a83, .ref r0]
  refine Wk.putfield (pc' := 30) (host := "") (q := 1) (i := 2) C (Or.inl (w27 hw)) (lays_ks_0 hw) (Or.inl (w28 hw)) (w9 hw) d11_27 rfl rfl (Nat.le_of_ble_eq_true rfl) rfl rfl rfl ?_
  change Wk p l e _ m _ below meth c _ _ n0 ((a83, ArrC Z .byte nn84 g85) :: (r0, ObjC Z "com/example/vole/vole/textprotocol/RequestLine" ks_0 [.ref sa, .ref ea, .ref a83, .int dt, .int (2 : Int32)]) :: (sa, ArrC Z .int 8 fs) :: (ea, ArrC Z .int 8 fe) :: (ra, ArrC Z .byte 4 f) :: L) 1 4 30 #[.val (.ref r0), .val (.int v82), .unset] []
  refine Wk.aloadN (pc' := 31) C d11_30 rfl rfl rfl ?_
  refine Wk.iconst (z := (1 : Int32)) (pc' := 32) C d11_31 rfl rfl ?_
  refine Wk.putfield (pc' := 35) (host := "") (q := 1) (i := 3) C (Or.inl (w29 hw)) (lays_ks_0 hw) (Or.inl (w30 hw)) (w9 hw) d11_32 rfl rfl (Nat.le_of_ble_eq_true rfl) rfl rfl rfl ?_
  change Wk p l e _ m _ below meth c _ _ n0 ((a83, ArrC Z .byte nn84 g85) :: (r0, ObjC Z "com/example/vole/vole/textprotocol/RequestLine" ks_0 [.ref sa, .ref ea, .ref a83, .int (1 : Int32), .int (2 : Int32)]) :: (sa, ArrC Z .int 8 fs) :: (ea, ArrC Z .int 8 fe) :: (ra, ArrC Z .byte 4 f) :: L) 1 4 35 #[.val (.ref r0), .val (.int v82), .unset] []
  refine Wk.iconst (z := (0 : Int32)) (pc' := 36) C d11_35 rfl rfl ?_
  refine Wk.istoreN (Ls' := #[.val (.ref r0), .val (.int v82), .val (.int (0 : Int32))]) (pc' := 37) C d11_36 rfl rfl ?_
  refine Wk.iloadN (pc' := 38) C d11_37 rfl rfl ?_
  refine Wk.aloadN (pc' := 39) C d11_38 rfl rfl rfl ?_
  refine Wk.getfield (pc' := 42) (host := "") (q := 1) (i := 4) C (Or.inl (w31 hw)) d11_39 rfl rfl rfl rfl ?_
  refine Wk.icmp_ge (pcT := 71) (pcF := 45) C d11_42 (by decide) (by decide) rfl (fun q => absurd q (by decide)) (fun _ => ?_)
  refine Wk.aloadN (pc' := 46) C d11_45 rfl rfl rfl ?_
  refine Wk.getfield (pc' := 49) (host := "") (q := 1) (i := 0) C (Or.inl (w18 hw)) d11_46 rfl rfl rfl rfl ?_
  refine Wk.iloadN (pc' := 50) C d11_49 rfl rfl ?_
  refine Wk.dup2 (pc' := 51) C d11_50 rfl rfl rfl ?_
  refine Wk.iaload (pc' := 52) (q := 2) (i := 0) C d11_51 rfl (by decide) (by decide) rfl ?_
  refine Wk.iloadN (pc' := 53) C d11_52 rfl rfl ?_
  refine Wk.isub (pc' := 54) C d11_53 rfl ?_
  refine Wk.iastore (pc' := 55) (q := 2) (i := 0) C d11_54 rfl (by decide) (by decide) rfl ?_
  change Wk p l e _ m _ below meth c _ _ n0 ((a83, ArrC Z .byte nn84 g85) :: (r0, ObjC Z "com/example/vole/vole/textprotocol/RequestLine" ks_0 [.ref sa, .ref ea, .ref a83, .int (1 : Int32), .int (2 : Int32)]) :: (sa, ArrC Z .int 8 (upd fs 0 ((fs 0) - v82))) :: (ea, ArrC Z .int 8 fe) :: (ra, ArrC Z .byte 4 f) :: L) 1 4 55 #[.val (.ref r0), .val (.int v82), .val (.int (0 : Int32))] []
  refine Wk.aloadN (pc' := 56) C d11_55 rfl rfl rfl ?_
  refine Wk.getfield (pc' := 59) (host := "") (q := 1) (i := 1) C (Or.inl (w20 hw)) d11_56 rfl rfl rfl rfl ?_
  refine Wk.iloadN (pc' := 60) C d11_59 rfl rfl ?_
  refine Wk.dup2 (pc' := 61) C d11_60 rfl rfl rfl ?_
  refine Wk.iaload (pc' := 62) (q := 3) (i := 0) C d11_61 rfl (by decide) (by decide) rfl ?_
  refine Wk.iloadN (pc' := 63) C d11_62 rfl rfl ?_
  refine Wk.isub (pc' := 64) C d11_63 rfl ?_
  refine Wk.iastore (pc' := 65) (q := 3) (i := 0) C d11_64 rfl (by decide) (by decide) rfl ?_
  change Wk p l e _ m _ below meth c _ _ n0 ((a83, ArrC Z .byte nn84 g85) :: (r0, ObjC Z "com/example/vole/vole/textprotocol/RequestLine" ks_0 [.ref sa, .ref ea, .ref a83, .int (1 : Int32), .int (2 : Int32)]) :: (sa, ArrC Z .int 8 (upd fs 0 ((fs 0) - v82))) :: (ea, ArrC Z .int 8 (upd fe 0 ((fe 0) - v82))) :: (ra, ArrC Z .byte 4 f) :: L) 1 4 65 #[.val (.ref r0), .val (.int v82), .val (.int (0 : Int32))] []
  refine Wk.iinc (z := (1 : Int32)) (Ls' := #[.val (.ref r0), .val (.int v82), .val (.int (1 : Int32))]) (pc' := 68) C d11_65 rfl (by decide) rfl rfl ?_
  refine Wk.goto (pc' := 37) C d11_68 (by decide) (by decide) ?_
  refine Wk.iloadN (pc' := 38) C d11_37 rfl rfl ?_
  refine Wk.aloadN (pc' := 39) C d11_38 rfl rfl rfl ?_
  refine Wk.getfield (pc' := 42) (host := "") (q := 1) (i := 4) C (Or.inl (w31 hw)) d11_39 rfl rfl rfl rfl ?_
  refine Wk.icmp_ge (pcT := 71) (pcF := 45) C d11_42 (by decide) (by decide) rfl (fun q => absurd q (by decide)) (fun _ => ?_)
  refine Wk.aloadN (pc' := 46) C d11_45 rfl rfl rfl ?_
  refine Wk.getfield (pc' := 49) (host := "") (q := 1) (i := 0) C (Or.inl (w18 hw)) d11_46 rfl rfl rfl rfl ?_
  refine Wk.iloadN (pc' := 50) C d11_49 rfl rfl ?_
  refine Wk.dup2 (pc' := 51) C d11_50 rfl rfl rfl ?_
  refine Wk.iaload (pc' := 52) (q := 2) (i := 1) C d11_51 rfl (by decide) (by decide) rfl ?_
  change Wk p l e _ m _ below meth c _ _ n0 ((a83, ArrC Z .byte nn84 g85) :: (r0, ObjC Z "com/example/vole/vole/textprotocol/RequestLine" ks_0 [.ref sa, .ref ea, .ref a83, .int (1 : Int32), .int (2 : Int32)]) :: (sa, ArrC Z .int 8 (upd fs 0 ((fs 0) - v82))) :: (ea, ArrC Z .int 8 (upd fe 0 ((fe 0) - v82))) :: (ra, ArrC Z .byte 4 f) :: L) 1 4 52 #[.val (.ref r0), .val (.int v82), .val (.int (1 : Int32))] [.int (fs 1), .int (1 : Int32), .ref sa]
  refine Wk.iloadN (pc' := 53) C d11_52 rfl rfl ?_
  refine Wk.isub (pc' := 54) C d11_53 rfl ?_
  refine Wk.iastore (pc' := 55) (q := 2) (i := 1) C d11_54 rfl (by decide) (by decide) rfl ?_
  change Wk p l e _ m _ below meth c _ _ n0 ((a83, ArrC Z .byte nn84 g85) :: (r0, ObjC Z "com/example/vole/vole/textprotocol/RequestLine" ks_0 [.ref sa, .ref ea, .ref a83, .int (1 : Int32), .int (2 : Int32)]) :: (sa, ArrC Z .int 8 (upd (upd fs 0 ((fs 0) - v82)) 1 ((fs 1) - v82))) :: (ea, ArrC Z .int 8 (upd fe 0 ((fe 0) - v82))) :: (ra, ArrC Z .byte 4 f) :: L) 1 4 55 #[.val (.ref r0), .val (.int v82), .val (.int (1 : Int32))] []
  refine Wk.aloadN (pc' := 56) C d11_55 rfl rfl rfl ?_
  refine Wk.getfield (pc' := 59) (host := "") (q := 1) (i := 1) C (Or.inl (w20 hw)) d11_56 rfl rfl rfl rfl ?_
  refine Wk.iloadN (pc' := 60) C d11_59 rfl rfl ?_
  refine Wk.dup2 (pc' := 61) C d11_60 rfl rfl rfl ?_
  refine Wk.iaload (pc' := 62) (q := 3) (i := 1) C d11_61 rfl (by decide) (by decide) rfl ?_
  change Wk p l e _ m _ below meth c _ _ n0 ((a83, ArrC Z .byte nn84 g85) :: (r0, ObjC Z "com/example/vole/vole/textprotocol/RequestLine" ks_0 [.ref sa, .ref ea, .ref a83, .int (1 : Int32), .int (2 : Int32)]) :: (sa, ArrC Z .int 8 (upd (upd fs 0 ((fs 0) - v82)) 1 ((fs 1) - v82))) :: (ea, ArrC Z .int 8 (upd fe 0 ((fe 0) - v82))) :: (ra, ArrC Z .byte 4 f) :: L) 1 4 62 #[.val (.ref r0), .val (.int v82), .val (.int (1 : Int32))] [.int (fe 1), .int (1 : Int32), .ref ea]
  refine Wk.iloadN (pc' := 63) C d11_62 rfl rfl ?_
  refine Wk.isub (pc' := 64) C d11_63 rfl ?_
  refine Wk.iastore (pc' := 65) (q := 3) (i := 1) C d11_64 rfl (by decide) (by decide) rfl ?_
  change Wk p l e _ m _ below meth c _ _ n0 ((a83, ArrC Z .byte nn84 g85) :: (r0, ObjC Z "com/example/vole/vole/textprotocol/RequestLine" ks_0 [.ref sa, .ref ea, .ref a83, .int (1 : Int32), .int (2 : Int32)]) :: (sa, ArrC Z .int 8 (upd (upd fs 0 ((fs 0) - v82)) 1 ((fs 1) - v82))) :: (ea, ArrC Z .int 8 (upd (upd fe 0 ((fe 0) - v82)) 1 ((fe 1) - v82))) :: (ra, ArrC Z .byte 4 f) :: L) 1 4 65 #[.val (.ref r0), .val (.int v82), .val (.int (1 : Int32))] []
  refine Wk.iinc (z := (2 : Int32)) (Ls' := #[.val (.ref r0), .val (.int v82), .val (.int (2 : Int32))]) (pc' := 68) C d11_65 rfl (by decide) rfl rfl ?_
  refine Wk.goto (pc' := 37) C d11_68 (by decide) (by decide) ?_
  refine Wk.iloadN (pc' := 38) C d11_37 rfl rfl ?_
  refine Wk.aloadN (pc' := 39) C d11_38 rfl rfl rfl ?_
  refine Wk.getfield (pc' := 42) (host := "") (q := 1) (i := 4) C (Or.inl (w31 hw)) d11_39 rfl rfl rfl rfl ?_
  refine Wk.icmp_ge (pcT := 71) (pcF := 45) C d11_42 (by decide) (by decide) rfl (fun _ => ?_) (fun q => absurd q (by decide))
  exact Wk.retV C J d11_71 (by decide) (by decide) (fun h O => ⟨_, _, _, _, _, rfl, O⟩)
theorem ef_rmLaw (m : MethodId) (x0 : Int32) (x1 : Int32) (x2 : Int32) (x3 : Int32) (x4 : Int32) : entryFrame m #[.int x0, .int x1, .int x2, .int x3, .int x4] 11 = mkF m 0 #[.val (.int x0), .val (.int x1), .val (.int x2), .val (.int x3), .val (.int x4), .unset, .unset, .unset, .unset, .unset, .unset] [] := by first | (simp [entryFrame, mkF, argsToLocals, Value.category]; done) | rfl
set_option maxRecDepth 65536 in
set_option maxHeartbeats 40000000 in
theorem rmLaw (l : Launch) (Z : State) (a0 : Array Value) (hw : HW Z a0) (x0 : Int32) (x1 : Int32) (x2 : Int32) (x3 : Int32) (x4 : Int32) (h : Heap) (n0 : Nat) (O : Own n0 h []) :
    Meth l Z x code maxLocals ret tables_1 room_1 #[.int x0, .int x1, .int x2, .int x3, .int x4] h n0 (fun v h' => v = some (.int 1)) := by
  refine Meth.of (plainFor_of_name pn_0) (fun m => ef_rmLaw m x0 x1 x2 x3 x4) O ?_
  intro p e m below meth c M FE C J
  change Cx Z "com/example/vole/vole/textprotocol/RequestLineReleasePinLaw" "law" code 11 (some .boolean) p m meth c M at C
  clear O
  refine Wk.iloadN (pc' := 1) C at_0 rfl rfl ?_
  refine Wk.iloadN (pc' := 2) C at_1 rfl rfl ?_
  refine Wk.callS (pc' := 5) (rm := { frames := 1, cells := 1, slots := 4, locals := 20 }) (W0 := 0) (argsL := [.int x0, .int x1]) (st := []) C (w0 hw) (w1 hw) (w2 hw) (w3 hw) (by decide) (fun h O => rm1 l Z a0 hw x0 x1 [] h n0 O) (by decide) (by decide) (by decide) (by decide) at_2 rfl pd_4 rfl rfl rfl rfl ?_
  rintro _ h' ⟨a86, f87, rfl, O'⟩
  refine ⟨_, O', ?_⟩
  change Wk p l e _ m _ below meth c _ _ n0 ((a86, ArrC Z .byte 4 f87) :: []) 1 4 5 #[.val (.int x0), .val (.int x1), .val (.int x2), .val (.int x3), .val (.int x4), .unset, .unset, .unset, .unset, .unset, .unset] [.ref a86]
  refine Wk.astore (Ls' := #[.val (.int x0), .val (.int x1), .val (.int x2), .val (.int x3), .val (.int x4), .val (.ref a86), .unset, .unset, .unset, .unset, .unset]) (pc' := 7) C at_5 rfl rfl rfl ?_
  refine Wk.iloadN (pc' := 8) C at_7 rfl rfl ?_
  refine Wk.iloadN (pc' := 9) C at_8 rfl rfl ?_
  refine Wk.callS (pc' := 12) (rm := { frames := 1, cells := 1, slots := 4, locals := 20 }) (W0 := 0) (argsL := [.int x2, .int x3]) (st := []) C (w0 hw) (w1 hw) (w2 hw) (w3 hw) (by decide) (fun h O => rm1 l Z a0 hw x2 x3 ((a86, ArrC Z .byte 4 f87) :: []) h n0 O) (by decide) (by decide) (by decide) (by decide) at_9 rfl pd_4 rfl rfl rfl rfl ?_
  rintro _ h' ⟨a88, f89, rfl, O'⟩
  refine ⟨_, O', ?_⟩
  change Wk p l e _ m _ below meth c _ _ n0 ((a88, ArrC Z .byte 4 f89) :: (a86, ArrC Z .byte 4 f87) :: []) 2 8 12 #[.val (.int x0), .val (.int x1), .val (.int x2), .val (.int x3), .val (.int x4), .val (.ref a86), .unset, .unset, .unset, .unset, .unset] [.ref a88]
  refine Wk.astore (Ls' := #[.val (.int x0), .val (.int x1), .val (.int x2), .val (.int x3), .val (.int x4), .val (.ref a86), .val (.ref a88), .unset, .unset, .unset, .unset]) (pc' := 14) C at_12 rfl rfl rfl ?_
  refine Wk.new (pc' := 17) (ks := ks_0) (vs := [.null, .null, .null, .int (0 : Int32), .int (0 : Int32)]) C (w8 hw) (w9 hw) (w10 hw) (lays_ks_0 hw) at_14 rfl (by decide) (by decide) rfl ?_
  intro a90
  change Wk p l e _ m _ below meth c _ _ n0 ((a90, ObjC Z "com/example/vole/vole/textprotocol/RequestLine" ks_0 [.null, .null, .null, .int (0 : Int32), .int (0 : Int32)]) :: (a88, ArrC Z .byte 4 f89) :: (a86, ArrC Z .byte 4 f87) :: []) 3 13 17 #[.val (.int x0), .val (.int x1), .val (.int x2), .val (.int x3), .val (.int x4), .val (.ref a86), .val (.ref a88), .unset, .unset, .unset, .unset] [.ref a90]
  refine Wk.dup (pc' := 18) C at_17 rfl rfl ?_
  refine Wk.callI (pc' := 21) (rm := { frames := 1, cells := 2, slots := 16, locals := 12 }) (W0 := 1) (a := a90) (argsL := []) (st := [.ref a90]) C rfl rfl (w11 hw) (w12 hw) (w10 hw) (w13 hw) (by decide) (fun h O => rm3 l Z a0 hw a90 ((a88, ArrC Z .byte 4 f89) :: (a86, ArrC Z .byte 4 f87) :: []) h n0 O) (by decide) (by decide) (by decide) (by decide) at_18 rfl pd_5 rfl rfl rfl rfl ?_
  rintro _ h' ⟨b91, b92, rfl, O'⟩
  refine ⟨_, O', ?_⟩
  change Wk p l e _ m _ below meth c _ _ n0 ((b92, ArrC Z .int 8 (fun _ => 0)) :: (b91, ArrC Z .int 8 (fun _ => 0)) :: (a90, ObjC Z "com/example/vole/vole/textprotocol/RequestLine" ks_0 [.ref b91, .ref b92, .null, .int (0 : Int32), .int (0 : Int32)]) :: (a88, ArrC Z .byte 4 f89) :: (a86, ArrC Z .byte 4 f87) :: []) 5 29 21 #[.val (.int x0), .val (.int x1), .val (.int x2), .val (.int x3), .val (.int x4), .val (.ref a86), .val (.ref a88), .unset, .unset, .unset, .unset] [.ref a90]
  refine Wk.astore (Ls' := #[.val (.int x0), .val (.int x1), .val (.int x2), .val (.int x3), .val (.int x4), .val (.ref a86), .val (.ref a88), .val (.ref a90), .unset, .unset, .unset]) (pc' := 23) C at_21 rfl rfl rfl ?_
  refine Wk.aload (pc' := 25) C at_23 rfl rfl rfl ?_
  refine Wk.aload (pc' := 27) C at_25 rfl rfl rfl ?_
  refine Wk.iconst (z := (0 : Int32)) (pc' := 28) C at_27 rfl rfl ?_
  refine Wk.iconst (z := (4 : Int32)) (pc' := 29) C at_28 rfl rfl ?_
  refine Wk.recast (L' := ((a90, ObjC Z "com/example/vole/vole/textprotocol/RequestLine" ks_0 [.ref b91, .ref b92, .null, .int (0 : Int32), .int (0 : Int32)]) :: (b91, ArrC Z .int 8 (fun _ => 0)) :: (b92, ArrC Z .int 8 (fun _ => 0)) :: (a86, ArrC Z .byte 4 f87) :: (a88, ArrC Z .byte 4 f89) :: [])) ?_ (fun h O => ((((O.front 4 rfl).front 1 rfl).front 2 rfl).front 3 rfl))
  refine Wk.callV (pc' := 32) (rm := { frames := 1, cells := 0, slots := 0, locals := 20 }) (W0 := 0) (q := 0) (argsL := [.ref a86, .int (0 : Int32), .int (4 : Int32)]) (st := []) C rfl (w22 hw) (w23 hw) (w25 hw) (w24 hw) (w10 hw) (w26 hw) (by decide) (fun h O => rm5 l Z a0 hw a90 a86 ((a88, ArrC Z .byte 4 f89) :: []) b91 b92 (.null) (0 : Int32) (0 : Int32) (fun _ => 0) (fun _ => 0) (f87) h n0 O) (by decide) (by decide) (by decide) (by decide) at_29 rfl pd_6 rfl rfl rfl rfl ?_
  rintro _ h' ⟨cn93, f94, f95, rfl, hcn93, kcn93, O'⟩
  refine ⟨_, O', ?_⟩
  change Wk p l e _ m _ below meth c _ _ n0 ((a90, ObjC Z "com/example/vole/vole/textprotocol/RequestLine" ks_0 [.ref b91, .ref b92, .ref a86, .int (0 : Int32), .int cn93]) :: (b91, ArrC Z .int 8 f94) :: (b92, ArrC Z .int 8 f95) :: (a86, ArrC Z .byte 4 f87) :: (a88, ArrC Z .byte 4 f89) :: []) 5 29 32 #[.val (.int x0), .val (.int x1), .val (.int x2), .val (.int x3), .val (.int x4), .val (.ref a86), .val (.ref a88), .val (.ref a90), .unset, .unset, .unset] []
  clear hcn93
  rcases kcn93 with rfl | ⟨rfl, hbd⟩ | ⟨rfl, hbd⟩
  · skip
    refine Wk.iload (pc' := 34) C at_32 rfl rfl ?_
    refine Wk.iconst (z := (1 : Int32)) (pc' := 35) C at_34 rfl rfl ?_
    refine Wk.iand (pc' := 36) C at_35 rfl ?_
    refine Wk.if_eq (pcT := 51) (pcF := 39) C at_36 (by decide) (by decide) rfl (fun c96 => ?_) (fun c96 => ?_)
    · skip
      refine Wk.iconst (z := (0 : Int32)) (pc' := 52) C at_51 rfl rfl ?_
      refine Wk.istore (Ls' := #[.val (.int x0), .val (.int x1), .val (.int x2), .val (.int x3), .val (.int x4), .val (.ref a86), .val (.ref a88), .val (.ref a90), .val (.int (0 : Int32)), .unset, .unset]) (pc' := 54) C at_52 rfl rfl ?_
      refine Wk.iload (pc' := 56) C at_54 rfl rfl ?_
      refine Wk.if_eq (pcT := 64) (pcF := 59) C at_56 (by decide) (by decide) rfl (fun _ => ?_) (fun q => absurd q (by decide))
      refine Wk.aload (pc' := 66) C at_64 rfl rfl rfl ?_
      refine Wk.callV (pc' := 69) (rm := { frames := 0, cells := 0, slots := 0, locals := 0 }) (W0 := 0) (q := 0) (argsL := []) (st := []) C rfl (w37 hw) (w38 hw) (w40 hw) (w39 hw) (w10 hw) (w41 hw) (by decide) (fun h O => rm7 l Z a0 hw a90 ((a86, ArrC Z .byte 4 f87) :: (a88, ArrC Z .byte 4 f89) :: []) b91 b92 (.ref a86) (0 : Int32) (0 : Int32) (f94) (f95) h n0 O) (by decide) (by decide) (by decide) (by decide) at_66 rfl pd_5 rfl rfl rfl rfl ?_
      rintro _ h' ⟨rfl, O'⟩
      refine ⟨_, O', ?_⟩
      change Wk p l e _ m _ below meth c _ _ n0 ((a90, ObjC Z "com/example/vole/vole/textprotocol/RequestLine" ks_0 [.ref b91, .ref b92, .null, .int (0 : Int32), .int (0 : Int32)]) :: (b91, ArrC Z .int 8 f94) :: (b92, ArrC Z .int 8 f95) :: (a86, ArrC Z .byte 4 f87) :: (a88, ArrC Z .byte 4 f89) :: []) 5 29 69 #[.val (.int x0), .val (.int x1), .val (.int x2), .val (.int x3), .val (.int x4), .val (.ref a86), .val (.ref a88), .val (.ref a90), .val (.int (0 : Int32)), .unset, .unset] []
      refine Wk.aload (pc' := 71) C at_69 rfl rfl rfl ?_
      refine Wk.callV (pc' := 74) (rm := { frames := 0, cells := 0, slots := 0, locals := 0 }) (W0 := 0) (q := 0) (argsL := []) (st := []) C rfl (w42 hw) (w43 hw) (w45 hw) (w44 hw) (w10 hw) (w46 hw) (by decide) (fun h O => rm8 l Z a0 hw a90 ((a90, ObjC Z "com/example/vole/vole/textprotocol/RequestLine" ks_0 [.ref b91, .ref b92, .null, .int (0 : Int32), .int (0 : Int32)]) :: (b91, ArrC Z .int 8 f94) :: (b92, ArrC Z .int 8 f95) :: (a86, ArrC Z .byte 4 f87) :: (a88, ArrC Z .byte 4 f89) :: []) 0 b91 b92 (.null) (0 : Int32) (0 : Int32) h n0 O rfl) (by decide) (by decide) (by decide) (by decide) at_71 rfl pd_7 rfl rfl rfl rfl ?_
      rintro _ h' ⟨rfl, O'⟩
      refine ⟨_, O', ?_⟩
      change Wk p l e _ m _ below meth c _ _ n0 ((a90, ObjC Z "com/example/vole/vole/textprotocol/RequestLine" ks_0 [.ref b91, .ref b92, .null, .int (0 : Int32), .int (0 : Int32)]) :: (b91, ArrC Z .int 8 f94) :: (b92, ArrC Z .int 8 f95) :: (a86, ArrC Z .byte 4 f87) :: (a88, ArrC Z .byte 4 f89) :: []) 5 29 74 #[.val (.int x0), .val (.int x1), .val (.int x2), .val (.int x3), .val (.int x4), .val (.ref a86), .val (.ref a88), .val (.ref a90), .val (.int (0 : Int32)), .unset, .unset] [.int (0 : Int32)]
      refine Wk.if_ne (pcT := 89) (pcF := 77) C at_74 (by decide) (by decide) rfl (fun q => absurd q (by decide)) (fun _ => ?_)
      refine Wk.aload (pc' := 79) C at_77 rfl rfl rfl ?_
      refine Wk.callV (pc' := 82) (rm := { frames := 0, cells := 0, slots := 0, locals := 0 }) (W0 := 0) (q := 0) (argsL := []) (st := []) C rfl (w47 hw) (w48 hw) (w50 hw) (w49 hw) (w10 hw) (w51 hw) (by decide) (fun h O => rm9 l Z a0 hw a90 ((a90, ObjC Z "com/example/vole/vole/textprotocol/RequestLine" ks_0 [.ref b91, .ref b92, .null, .int (0 : Int32), .int (0 : Int32)]) :: (b91, ArrC Z .int 8 f94) :: (b92, ArrC Z .int 8 f95) :: (a86, ArrC Z .byte 4 f87) :: (a88, ArrC Z .byte 4 f89) :: []) 0 b91 b92 (.null) (0 : Int32) h n0 O rfl) (by decide) (by decide) (by decide) (by decide) at_79 rfl pd_7 rfl rfl rfl rfl ?_
      rintro _ h' ⟨rfl, O'⟩
      refine ⟨_, O', ?_⟩
      change Wk p l e _ m _ below meth c _ _ n0 ((a90, ObjC Z "com/example/vole/vole/textprotocol/RequestLine" ks_0 [.ref b91, .ref b92, .null, .int (0 : Int32), .int (0 : Int32)]) :: (b91, ArrC Z .int 8 f94) :: (b92, ArrC Z .int 8 f95) :: (a86, ArrC Z .byte 4 f87) :: (a88, ArrC Z .byte 4 f89) :: []) 5 29 82 #[.val (.int x0), .val (.int x1), .val (.int x2), .val (.int x3), .val (.int x4), .val (.ref a86), .val (.ref a88), .val (.ref a90), .val (.int (0 : Int32)), .unset, .unset] [.int (0 : Int32)]
      refine Wk.if_ne (pcT := 89) (pcF := 85) C at_82 (by decide) (by decide) rfl (fun q => absurd q (by decide)) (fun _ => ?_)
      refine Wk.iconst (z := (1 : Int32)) (pc' := 86) C at_85 rfl rfl ?_
      refine Wk.goto (pc' := 90) C at_86 (by decide) (by decide) ?_
      refine Wk.istore (Ls' := #[.val (.int x0), .val (.int x1), .val (.int x2), .val (.int x3), .val (.int x4), .val (.ref a86), .val (.ref a88), .val (.ref a90), .val (.int (0 : Int32)), .val (.int (1 : Int32)), .unset]) (pc' := 92) C at_90 rfl rfl ?_
      refine Wk.aload (pc' := 94) C at_92 rfl rfl rfl ?_
      refine Wk.aload (pc' := 96) C at_94 rfl rfl rfl ?_
      refine Wk.iconst (z := (0 : Int32)) (pc' := 97) C at_96 rfl rfl ?_
      refine Wk.iconst (z := (4 : Int32)) (pc' := 98) C at_97 rfl rfl ?_
      refine Wk.recast (L' := ((a90, ObjC Z "com/example/vole/vole/textprotocol/RequestLine" ks_0 [.ref b91, .ref b92, .null, .int (0 : Int32), .int (0 : Int32)]) :: (b91, ArrC Z .int 8 f94) :: (b92, ArrC Z .int 8 f95) :: (a88, ArrC Z .byte 4 f89) :: (a86, ArrC Z .byte 4 f87) :: [])) ?_ (fun h O => ((((O.front 4 rfl).front 3 rfl).front 3 rfl).front 3 rfl))
      refine Wk.callV (pc' := 101) (rm := { frames := 1, cells := 0, slots := 0, locals := 20 }) (W0 := 0) (q := 0) (argsL := [.ref a88, .int (0 : Int32), .int (4 : Int32)]) (st := []) C rfl (w22 hw) (w23 hw) (w25 hw) (w24 hw) (w10 hw) (w26 hw) (by decide) (fun h O => rm5 l Z a0 hw a90 a88 ((a86, ArrC Z .byte 4 f87) :: []) b91 b92 (.null) (0 : Int32) (0 : Int32) (f94) (f95) (f89) h n0 O) (by decide) (by decide) (by decide) (by decide) at_98 rfl pd_6 rfl rfl rfl rfl ?_
      rintro _ h' ⟨cn97, f98, f99, rfl, hcn97, kcn97, O'⟩
      refine ⟨_, O', ?_⟩
      change Wk p l e _ m _ below meth c _ _ n0 ((a90, ObjC Z "com/example/vole/vole/textprotocol/RequestLine" ks_0 [.ref b91, .ref b92, .ref a88, .int (0 : Int32), .int cn97]) :: (b91, ArrC Z .int 8 f98) :: (b92, ArrC Z .int 8 f99) :: (a88, ArrC Z .byte 4 f89) :: (a86, ArrC Z .byte 4 f87) :: []) 5 29 101 #[.val (.int x0), .val (.int x1), .val (.int x2), .val (.int x3), .val (.int x4), .val (.ref a86), .val (.ref a88), .val (.ref a90), .val (.int (0 : Int32)), .val (.int (1 : Int32)), .unset] []
      refine Wk.aload (pc' := 103) C at_101 rfl rfl rfl ?_
      refine Wk.callV (pc' := 106) (rm := { frames := 0, cells := 0, slots := 0, locals := 0 }) (W0 := 0) (q := 0) (argsL := []) (st := []) C rfl (w42 hw) (w43 hw) (w45 hw) (w44 hw) (w10 hw) (w46 hw) (by decide) (fun h O => rm8 l Z a0 hw a90 ((a90, ObjC Z "com/example/vole/vole/textprotocol/RequestLine" ks_0 [.ref b91, .ref b92, .ref a88, .int (0 : Int32), .int cn97]) :: (b91, ArrC Z .int 8 f98) :: (b92, ArrC Z .int 8 f99) :: (a88, ArrC Z .byte 4 f89) :: (a86, ArrC Z .byte 4 f87) :: []) 0 b91 b92 (.ref a88) (0 : Int32) cn97 h n0 O rfl) (by decide) (by decide) (by decide) (by decide) at_103 rfl pd_7 rfl rfl rfl rfl ?_
      rintro _ h' ⟨rfl, O'⟩
      refine ⟨_, O', ?_⟩
      change Wk p l e _ m _ below meth c _ _ n0 ((a90, ObjC Z "com/example/vole/vole/textprotocol/RequestLine" ks_0 [.ref b91, .ref b92, .ref a88, .int (0 : Int32), .int cn97]) :: (b91, ArrC Z .int 8 f98) :: (b92, ArrC Z .int 8 f99) :: (a88, ArrC Z .byte 4 f89) :: (a86, ArrC Z .byte 4 f87) :: []) 5 29 106 #[.val (.int x0), .val (.int x1), .val (.int x2), .val (.int x3), .val (.int x4), .val (.ref a86), .val (.ref a88), .val (.ref a90), .val (.int (0 : Int32)), .val (.int (1 : Int32)), .unset] [.int cn97]
      refine Wk.aload (pc' := 108) C at_106 rfl rfl rfl ?_
      refine Wk.callS (pc' := 111) (rm := { frames := 0, cells := 0, slots := 0, locals := 0 }) (W0 := 1) (argsL := [.ref a88]) (st := [.int cn97]) C (w52 hw) (w53 hw) (w2 hw) (w54 hw) (by decide) (fun h O => rm10 l Z a0 hw a88 ((a90, ObjC Z "com/example/vole/vole/textprotocol/RequestLine" ks_0 [.ref b91, .ref b92, .ref a88, .int (0 : Int32), .int cn97]) :: (b91, ArrC Z .int 8 f98) :: (b92, ArrC Z .int 8 f99) :: (a88, ArrC Z .byte 4 f89) :: (a86, ArrC Z .byte 4 f87) :: []) 3 (f89) h n0 O rfl) (by decide) (by decide) (by decide) (by decide) at_108 rfl pd_8 rfl rfl rfl rfl ?_
      rintro _ h' ⟨rfl, O'⟩
      refine ⟨_, O', ?_⟩
      change Wk p l e _ m _ below meth c _ _ n0 ((a90, ObjC Z "com/example/vole/vole/textprotocol/RequestLine" ks_0 [.ref b91, .ref b92, .ref a88, .int (0 : Int32), .int cn97]) :: (b91, ArrC Z .int 8 f98) :: (b92, ArrC Z .int 8 f99) :: (a88, ArrC Z .byte 4 f89) :: (a86, ArrC Z .byte 4 f87) :: []) 5 29 111 #[.val (.int x0), .val (.int x1), .val (.int x2), .val (.int x3), .val (.int x4), .val (.ref a86), .val (.ref a88), .val (.ref a90), .val (.int (0 : Int32)), .val (.int (1 : Int32)), .unset] [.int (tokF f89), .int cn97]
      refine Wk.icmp_ne (pcT := 126) (pcF := 114) C at_111 (by decide) (by decide) rfl (fun c100 => (show False from c100 hcn97).elim) (fun c100 => ?_)
      refine Wk.aload (pc' := 116) C at_114 rfl rfl rfl ?_
      refine Wk.callV (pc' := 119) (rm := { frames := 0, cells := 0, slots := 0, locals := 0 }) (W0 := 0) (q := 0) (argsL := []) (st := []) C rfl (w47 hw) (w48 hw) (w50 hw) (w49 hw) (w10 hw) (w51 hw) (by decide) (fun h O => rm9 l Z a0 hw a90 ((a90, ObjC Z "com/example/vole/vole/textprotocol/RequestLine" ks_0 [.ref b91, .ref b92, .ref a88, .int (0 : Int32), .int cn97]) :: (b91, ArrC Z .int 8 f98) :: (b92, ArrC Z .int 8 f99) :: (a88, ArrC Z .byte 4 f89) :: (a86, ArrC Z .byte 4 f87) :: []) 0 b91 b92 (.ref a88) cn97 h n0 O rfl) (by decide) (by decide) (by decide) (by decide) at_116 rfl pd_7 rfl rfl rfl rfl ?_
      rintro _ h' ⟨rfl, O'⟩
      refine ⟨_, O', ?_⟩
      change Wk p l e _ m _ below meth c _ _ n0 ((a90, ObjC Z "com/example/vole/vole/textprotocol/RequestLine" ks_0 [.ref b91, .ref b92, .ref a88, .int (0 : Int32), .int cn97]) :: (b91, ArrC Z .int 8 f98) :: (b92, ArrC Z .int 8 f99) :: (a88, ArrC Z .byte 4 f89) :: (a86, ArrC Z .byte 4 f87) :: []) 5 29 119 #[.val (.int x0), .val (.int x1), .val (.int x2), .val (.int x3), .val (.int x4), .val (.ref a86), .val (.ref a88), .val (.ref a90), .val (.int (0 : Int32)), .val (.int (1 : Int32)), .unset] [.int (0 : Int32)]
      refine Wk.if_ne (pcT := 126) (pcF := 122) C at_119 (by decide) (by decide) rfl (fun q => absurd q (by decide)) (fun _ => ?_)
      refine Wk.iconst (z := (1 : Int32)) (pc' := 123) C at_122 rfl rfl ?_
      refine Wk.goto (pc' := 127) C at_123 (by decide) (by decide) ?_
      refine Wk.istore (Ls' := #[.val (.int x0), .val (.int x1), .val (.int x2), .val (.int x3), .val (.int x4), .val (.ref a86), .val (.ref a88), .val (.ref a90), .val (.int (0 : Int32)), .val (.int (1 : Int32)), .val (.int (1 : Int32))]) (pc' := 129) C at_127 rfl rfl ?_
      refine Wk.iload (pc' := 131) C at_129 rfl rfl ?_
      refine Wk.if_eq (pcT := 143) (pcF := 134) C at_131 (by decide) (by decide) rfl (fun q => absurd q (by decide)) (fun _ => ?_)
      refine Wk.iload (pc' := 136) C at_134 rfl rfl ?_
      refine Wk.if_eq (pcT := 143) (pcF := 139) C at_136 (by decide) (by decide) rfl (fun q => absurd q (by decide)) (fun _ => ?_)
      refine Wk.iconst (z := (1 : Int32)) (pc' := 140) C at_139 rfl rfl ?_
      refine Wk.goto (pc' := 144) C at_140 (by decide) (by decide) ?_
      exact Wk.retN C J at_144 (by decide) (by decide) (by simp) rfl (fun h O => rfl)
    · skip
      refine Wk.aload (pc' := 41) C at_39 rfl rfl rfl ?_
      refine Wk.callV (pc' := 44) (rm := { frames := 0, cells := 0, slots := 0, locals := 0 }) (W0 := 0) (q := 0) (argsL := []) (st := []) C rfl (w42 hw) (w43 hw) (w45 hw) (w44 hw) (w10 hw) (w46 hw) (by decide) (fun h O => rm8 l Z a0 hw a90 ((a90, ObjC Z "com/example/vole/vole/textprotocol/RequestLine" ks_0 [.ref b91, .ref b92, .ref a86, .int (0 : Int32), .int (0 : Int32)]) :: (b91, ArrC Z .int 8 f94) :: (b92, ArrC Z .int 8 f95) :: (a86, ArrC Z .byte 4 f87) :: (a88, ArrC Z .byte 4 f89) :: []) 0 b91 b92 (.ref a86) (0 : Int32) (0 : Int32) h n0 O rfl) (by decide) (by decide) (by decide) (by decide) at_41 rfl pd_7 rfl rfl rfl rfl ?_
      rintro _ h' ⟨rfl, O'⟩
      refine ⟨_, O', ?_⟩
      change Wk p l e _ m _ below meth c _ _ n0 ((a90, ObjC Z "com/example/vole/vole/textprotocol/RequestLine" ks_0 [.ref b91, .ref b92, .ref a86, .int (0 : Int32), .int (0 : Int32)]) :: (b91, ArrC Z .int 8 f94) :: (b92, ArrC Z .int 8 f95) :: (a86, ArrC Z .byte 4 f87) :: (a88, ArrC Z .byte 4 f89) :: []) 5 29 44 #[.val (.int x0), .val (.int x1), .val (.int x2), .val (.int x3), .val (.int x4), .val (.ref a86), .val (.ref a88), .val (.ref a90), .unset, .unset, .unset] [.int (0 : Int32)]
      refine Wk.if_le (pcT := 51) (pcF := 47) C at_44 (by decide) (by decide) rfl (fun _ => ?_) (fun q => absurd q (by decide))
      refine Wk.iconst (z := (0 : Int32)) (pc' := 52) C at_51 rfl rfl ?_
      refine Wk.istore (Ls' := #[.val (.int x0), .val (.int x1), .val (.int x2), .val (.int x3), .val (.int x4), .val (.ref a86), .val (.ref a88), .val (.ref a90), .val (.int (0 : Int32)), .unset, .unset]) (pc' := 54) C at_52 rfl rfl ?_
      refine Wk.iload (pc' := 56) C at_54 rfl rfl ?_
      refine Wk.if_eq (pcT := 64) (pcF := 59) C at_56 (by decide) (by decide) rfl (fun _ => ?_) (fun q => absurd q (by decide))
      refine Wk.aload (pc' := 66) C at_64 rfl rfl rfl ?_
      refine Wk.callV (pc' := 69) (rm := { frames := 0, cells := 0, slots := 0, locals := 0 }) (W0 := 0) (q := 0) (argsL := []) (st := []) C rfl (w37 hw) (w38 hw) (w40 hw) (w39 hw) (w10 hw) (w41 hw) (by decide) (fun h O => rm7 l Z a0 hw a90 ((a86, ArrC Z .byte 4 f87) :: (a88, ArrC Z .byte 4 f89) :: []) b91 b92 (.ref a86) (0 : Int32) (0 : Int32) (f94) (f95) h n0 O) (by decide) (by decide) (by decide) (by decide) at_66 rfl pd_5 rfl rfl rfl rfl ?_
      rintro _ h' ⟨rfl, O'⟩
      refine ⟨_, O', ?_⟩
      change Wk p l e _ m _ below meth c _ _ n0 ((a90, ObjC Z "com/example/vole/vole/textprotocol/RequestLine" ks_0 [.ref b91, .ref b92, .null, .int (0 : Int32), .int (0 : Int32)]) :: (b91, ArrC Z .int 8 f94) :: (b92, ArrC Z .int 8 f95) :: (a86, ArrC Z .byte 4 f87) :: (a88, ArrC Z .byte 4 f89) :: []) 5 29 69 #[.val (.int x0), .val (.int x1), .val (.int x2), .val (.int x3), .val (.int x4), .val (.ref a86), .val (.ref a88), .val (.ref a90), .val (.int (0 : Int32)), .unset, .unset] []
      refine Wk.aload (pc' := 71) C at_69 rfl rfl rfl ?_
      refine Wk.callV (pc' := 74) (rm := { frames := 0, cells := 0, slots := 0, locals := 0 }) (W0 := 0) (q := 0) (argsL := []) (st := []) C rfl (w42 hw) (w43 hw) (w45 hw) (w44 hw) (w10 hw) (w46 hw) (by decide) (fun h O => rm8 l Z a0 hw a90 ((a90, ObjC Z "com/example/vole/vole/textprotocol/RequestLine" ks_0 [.ref b91, .ref b92, .null, .int (0 : Int32), .int (0 : Int32)]) :: (b91, ArrC Z .int 8 f94) :: (b92, ArrC Z .int 8 f95) :: (a86, ArrC Z .byte 4 f87) :: (a88, ArrC Z .byte 4 f89) :: []) 0 b91 b92 (.null) (0 : Int32) (0 : Int32) h n0 O rfl) (by decide) (by decide) (by decide) (by decide) at_71 rfl pd_7 rfl rfl rfl rfl ?_
      rintro _ h' ⟨rfl, O'⟩
      refine ⟨_, O', ?_⟩
      change Wk p l e _ m _ below meth c _ _ n0 ((a90, ObjC Z "com/example/vole/vole/textprotocol/RequestLine" ks_0 [.ref b91, .ref b92, .null, .int (0 : Int32), .int (0 : Int32)]) :: (b91, ArrC Z .int 8 f94) :: (b92, ArrC Z .int 8 f95) :: (a86, ArrC Z .byte 4 f87) :: (a88, ArrC Z .byte 4 f89) :: []) 5 29 74 #[.val (.int x0), .val (.int x1), .val (.int x2), .val (.int x3), .val (.int x4), .val (.ref a86), .val (.ref a88), .val (.ref a90), .val (.int (0 : Int32)), .unset, .unset] [.int (0 : Int32)]
      refine Wk.if_ne (pcT := 89) (pcF := 77) C at_74 (by decide) (by decide) rfl (fun q => absurd q (by decide)) (fun _ => ?_)
      refine Wk.aload (pc' := 79) C at_77 rfl rfl rfl ?_
      refine Wk.callV (pc' := 82) (rm := { frames := 0, cells := 0, slots := 0, locals := 0 }) (W0 := 0) (q := 0) (argsL := []) (st := []) C rfl (w47 hw) (w48 hw) (w50 hw) (w49 hw) (w10 hw) (w51 hw) (by decide) (fun h O => rm9 l Z a0 hw a90 ((a90, ObjC Z "com/example/vole/vole/textprotocol/RequestLine" ks_0 [.ref b91, .ref b92, .null, .int (0 : Int32), .int (0 : Int32)]) :: (b91, ArrC Z .int 8 f94) :: (b92, ArrC Z .int 8 f95) :: (a86, ArrC Z .byte 4 f87) :: (a88, ArrC Z .byte 4 f89) :: []) 0 b91 b92 (.null) (0 : Int32) h n0 O rfl) (by decide) (by decide) (by decide) (by decide) at_79 rfl pd_7 rfl rfl rfl rfl ?_
      rintro _ h' ⟨rfl, O'⟩
      refine ⟨_, O', ?_⟩
      change Wk p l e _ m _ below meth c _ _ n0 ((a90, ObjC Z "com/example/vole/vole/textprotocol/RequestLine" ks_0 [.ref b91, .ref b92, .null, .int (0 : Int32), .int (0 : Int32)]) :: (b91, ArrC Z .int 8 f94) :: (b92, ArrC Z .int 8 f95) :: (a86, ArrC Z .byte 4 f87) :: (a88, ArrC Z .byte 4 f89) :: []) 5 29 82 #[.val (.int x0), .val (.int x1), .val (.int x2), .val (.int x3), .val (.int x4), .val (.ref a86), .val (.ref a88), .val (.ref a90), .val (.int (0 : Int32)), .unset, .unset] [.int (0 : Int32)]
      refine Wk.if_ne (pcT := 89) (pcF := 85) C at_82 (by decide) (by decide) rfl (fun q => absurd q (by decide)) (fun _ => ?_)
      refine Wk.iconst (z := (1 : Int32)) (pc' := 86) C at_85 rfl rfl ?_
      refine Wk.goto (pc' := 90) C at_86 (by decide) (by decide) ?_
      refine Wk.istore (Ls' := #[.val (.int x0), .val (.int x1), .val (.int x2), .val (.int x3), .val (.int x4), .val (.ref a86), .val (.ref a88), .val (.ref a90), .val (.int (0 : Int32)), .val (.int (1 : Int32)), .unset]) (pc' := 92) C at_90 rfl rfl ?_
      refine Wk.aload (pc' := 94) C at_92 rfl rfl rfl ?_
      refine Wk.aload (pc' := 96) C at_94 rfl rfl rfl ?_
      refine Wk.iconst (z := (0 : Int32)) (pc' := 97) C at_96 rfl rfl ?_
      refine Wk.iconst (z := (4 : Int32)) (pc' := 98) C at_97 rfl rfl ?_
      refine Wk.recast (L' := ((a90, ObjC Z "com/example/vole/vole/textprotocol/RequestLine" ks_0 [.ref b91, .ref b92, .null, .int (0 : Int32), .int (0 : Int32)]) :: (b91, ArrC Z .int 8 f94) :: (b92, ArrC Z .int 8 f95) :: (a88, ArrC Z .byte 4 f89) :: (a86, ArrC Z .byte 4 f87) :: [])) ?_ (fun h O => ((((O.front 4 rfl).front 3 rfl).front 3 rfl).front 3 rfl))
      refine Wk.callV (pc' := 101) (rm := { frames := 1, cells := 0, slots := 0, locals := 20 }) (W0 := 0) (q := 0) (argsL := [.ref a88, .int (0 : Int32), .int (4 : Int32)]) (st := []) C rfl (w22 hw) (w23 hw) (w25 hw) (w24 hw) (w10 hw) (w26 hw) (by decide) (fun h O => rm5 l Z a0 hw a90 a88 ((a86, ArrC Z .byte 4 f87) :: []) b91 b92 (.null) (0 : Int32) (0 : Int32) (f94) (f95) (f89) h n0 O) (by decide) (by decide) (by decide) (by decide) at_98 rfl pd_6 rfl rfl rfl rfl ?_
      rintro _ h' ⟨cn101, f102, f103, rfl, hcn101, kcn101, O'⟩
      refine ⟨_, O', ?_⟩
      change Wk p l e _ m _ below meth c _ _ n0 ((a90, ObjC Z "com/example/vole/vole/textprotocol/RequestLine" ks_0 [.ref b91, .ref b92, .ref a88, .int (0 : Int32), .int cn101]) :: (b91, ArrC Z .int 8 f102) :: (b92, ArrC Z .int 8 f103) :: (a88, ArrC Z .byte 4 f89) :: (a86, ArrC Z .byte 4 f87) :: []) 5 29 101 #[.val (.int x0), .val (.int x1), .val (.int x2), .val (.int x3), .val (.int x4), .val (.ref a86), .val (.ref a88), .val (.ref a90), .val (.int (0 : Int32)), .val (.int (1 : Int32)), .unset] []
      refine Wk.aload (pc' := 103) C at_101 rfl rfl rfl ?_
      refine Wk.callV (pc' := 106) (rm := { frames := 0, cells := 0, slots := 0, locals := 0 }) (W0 := 0) (q := 0) (argsL := []) (st := []) C rfl (w42 hw) (w43 hw) (w45 hw) (w44 hw) (w10 hw) (w46 hw) (by decide) (fun h O => rm8 l Z a0 hw a90 ((a90, ObjC Z "com/example/vole/vole/textprotocol/RequestLine" ks_0 [.ref b91, .ref b92, .ref a88, .int (0 : Int32), .int cn101]) :: (b91, ArrC Z .int 8 f102) :: (b92, ArrC Z .int 8 f103) :: (a88, ArrC Z .byte 4 f89) :: (a86, ArrC Z .byte 4 f87) :: []) 0 b91 b92 (.ref a88) (0 : Int32) cn101 h n0 O rfl) (by decide) (by decide) (by decide) (by decide) at_103 rfl pd_7 rfl rfl rfl rfl ?_
      rintro _ h' ⟨rfl, O'⟩
      refine ⟨_, O', ?_⟩
      change Wk p l e _ m _ below meth c _ _ n0 ((a90, ObjC Z "com/example/vole/vole/textprotocol/RequestLine" ks_0 [.ref b91, .ref b92, .ref a88, .int (0 : Int32), .int cn101]) :: (b91, ArrC Z .int 8 f102) :: (b92, ArrC Z .int 8 f103) :: (a88, ArrC Z .byte 4 f89) :: (a86, ArrC Z .byte 4 f87) :: []) 5 29 106 #[.val (.int x0), .val (.int x1), .val (.int x2), .val (.int x3), .val (.int x4), .val (.ref a86), .val (.ref a88), .val (.ref a90), .val (.int (0 : Int32)), .val (.int (1 : Int32)), .unset] [.int cn101]
      refine Wk.aload (pc' := 108) C at_106 rfl rfl rfl ?_
      refine Wk.callS (pc' := 111) (rm := { frames := 0, cells := 0, slots := 0, locals := 0 }) (W0 := 1) (argsL := [.ref a88]) (st := [.int cn101]) C (w52 hw) (w53 hw) (w2 hw) (w54 hw) (by decide) (fun h O => rm10 l Z a0 hw a88 ((a90, ObjC Z "com/example/vole/vole/textprotocol/RequestLine" ks_0 [.ref b91, .ref b92, .ref a88, .int (0 : Int32), .int cn101]) :: (b91, ArrC Z .int 8 f102) :: (b92, ArrC Z .int 8 f103) :: (a88, ArrC Z .byte 4 f89) :: (a86, ArrC Z .byte 4 f87) :: []) 3 (f89) h n0 O rfl) (by decide) (by decide) (by decide) (by decide) at_108 rfl pd_8 rfl rfl rfl rfl ?_
      rintro _ h' ⟨rfl, O'⟩
      refine ⟨_, O', ?_⟩
      change Wk p l e _ m _ below meth c _ _ n0 ((a90, ObjC Z "com/example/vole/vole/textprotocol/RequestLine" ks_0 [.ref b91, .ref b92, .ref a88, .int (0 : Int32), .int cn101]) :: (b91, ArrC Z .int 8 f102) :: (b92, ArrC Z .int 8 f103) :: (a88, ArrC Z .byte 4 f89) :: (a86, ArrC Z .byte 4 f87) :: []) 5 29 111 #[.val (.int x0), .val (.int x1), .val (.int x2), .val (.int x3), .val (.int x4), .val (.ref a86), .val (.ref a88), .val (.ref a90), .val (.int (0 : Int32)), .val (.int (1 : Int32)), .unset] [.int (tokF f89), .int cn101]
      refine Wk.icmp_ne (pcT := 126) (pcF := 114) C at_111 (by decide) (by decide) rfl (fun c104 => (show False from c104 hcn101).elim) (fun c104 => ?_)
      refine Wk.aload (pc' := 116) C at_114 rfl rfl rfl ?_
      refine Wk.callV (pc' := 119) (rm := { frames := 0, cells := 0, slots := 0, locals := 0 }) (W0 := 0) (q := 0) (argsL := []) (st := []) C rfl (w47 hw) (w48 hw) (w50 hw) (w49 hw) (w10 hw) (w51 hw) (by decide) (fun h O => rm9 l Z a0 hw a90 ((a90, ObjC Z "com/example/vole/vole/textprotocol/RequestLine" ks_0 [.ref b91, .ref b92, .ref a88, .int (0 : Int32), .int cn101]) :: (b91, ArrC Z .int 8 f102) :: (b92, ArrC Z .int 8 f103) :: (a88, ArrC Z .byte 4 f89) :: (a86, ArrC Z .byte 4 f87) :: []) 0 b91 b92 (.ref a88) cn101 h n0 O rfl) (by decide) (by decide) (by decide) (by decide) at_116 rfl pd_7 rfl rfl rfl rfl ?_
      rintro _ h' ⟨rfl, O'⟩
      refine ⟨_, O', ?_⟩
      change Wk p l e _ m _ below meth c _ _ n0 ((a90, ObjC Z "com/example/vole/vole/textprotocol/RequestLine" ks_0 [.ref b91, .ref b92, .ref a88, .int (0 : Int32), .int cn101]) :: (b91, ArrC Z .int 8 f102) :: (b92, ArrC Z .int 8 f103) :: (a88, ArrC Z .byte 4 f89) :: (a86, ArrC Z .byte 4 f87) :: []) 5 29 119 #[.val (.int x0), .val (.int x1), .val (.int x2), .val (.int x3), .val (.int x4), .val (.ref a86), .val (.ref a88), .val (.ref a90), .val (.int (0 : Int32)), .val (.int (1 : Int32)), .unset] [.int (0 : Int32)]
      refine Wk.if_ne (pcT := 126) (pcF := 122) C at_119 (by decide) (by decide) rfl (fun q => absurd q (by decide)) (fun _ => ?_)
      refine Wk.iconst (z := (1 : Int32)) (pc' := 123) C at_122 rfl rfl ?_
      refine Wk.goto (pc' := 127) C at_123 (by decide) (by decide) ?_
      refine Wk.istore (Ls' := #[.val (.int x0), .val (.int x1), .val (.int x2), .val (.int x3), .val (.int x4), .val (.ref a86), .val (.ref a88), .val (.ref a90), .val (.int (0 : Int32)), .val (.int (1 : Int32)), .val (.int (1 : Int32))]) (pc' := 129) C at_127 rfl rfl ?_
      refine Wk.iload (pc' := 131) C at_129 rfl rfl ?_
      refine Wk.if_eq (pcT := 143) (pcF := 134) C at_131 (by decide) (by decide) rfl (fun q => absurd q (by decide)) (fun _ => ?_)
      refine Wk.iload (pc' := 136) C at_134 rfl rfl ?_
      refine Wk.if_eq (pcT := 143) (pcF := 139) C at_136 (by decide) (by decide) rfl (fun q => absurd q (by decide)) (fun _ => ?_)
      refine Wk.iconst (z := (1 : Int32)) (pc' := 140) C at_139 rfl rfl ?_
      refine Wk.goto (pc' := 144) C at_140 (by decide) (by decide) ?_
      exact Wk.retN C J at_144 (by decide) (by decide) (by simp) rfl (fun h O => rfl)
  · skip
    refine Wk.iload (pc' := 34) C at_32 rfl rfl ?_
    refine Wk.iconst (z := (1 : Int32)) (pc' := 35) C at_34 rfl rfl ?_
    refine Wk.iand (pc' := 36) C at_35 rfl ?_
    refine Wk.if_eq (pcT := 51) (pcF := 39) C at_36 (by decide) (by decide) rfl (fun c105 => ?_) (fun c105 => ?_)
    · skip
      refine Wk.iconst (z := (0 : Int32)) (pc' := 52) C at_51 rfl rfl ?_
      refine Wk.istore (Ls' := #[.val (.int x0), .val (.int x1), .val (.int x2), .val (.int x3), .val (.int x4), .val (.ref a86), .val (.ref a88), .val (.ref a90), .val (.int (0 : Int32)), .unset, .unset]) (pc' := 54) C at_52 rfl rfl ?_
      refine Wk.iload (pc' := 56) C at_54 rfl rfl ?_
      refine Wk.if_eq (pcT := 64) (pcF := 59) C at_56 (by decide) (by decide) rfl (fun _ => ?_) (fun q => absurd q (by decide))
      refine Wk.aload (pc' := 66) C at_64 rfl rfl rfl ?_
      refine Wk.callV (pc' := 69) (rm := { frames := 0, cells := 0, slots := 0, locals := 0 }) (W0 := 0) (q := 0) (argsL := []) (st := []) C rfl (w37 hw) (w38 hw) (w40 hw) (w39 hw) (w10 hw) (w41 hw) (by decide) (fun h O => rm7 l Z a0 hw a90 ((a86, ArrC Z .byte 4 f87) :: (a88, ArrC Z .byte 4 f89) :: []) b91 b92 (.ref a86) (0 : Int32) (1 : Int32) (f94) (f95) h n0 O) (by decide) (by decide) (by decide) (by decide) at_66 rfl pd_5 rfl rfl rfl rfl ?_
      rintro _ h' ⟨rfl, O'⟩
      refine ⟨_, O', ?_⟩
      change Wk p l e _ m _ below meth c _ _ n0 ((a90, ObjC Z "com/example/vole/vole/textprotocol/RequestLine" ks_0 [.ref b91, .ref b92, .null, .int (0 : Int32), .int (0 : Int32)]) :: (b91, ArrC Z .int 8 f94) :: (b92, ArrC Z .int 8 f95) :: (a86, ArrC Z .byte 4 f87) :: (a88, ArrC Z .byte 4 f89) :: []) 5 29 69 #[.val (.int x0), .val (.int x1), .val (.int x2), .val (.int x3), .val (.int x4), .val (.ref a86), .val (.ref a88), .val (.ref a90), .val (.int (0 : Int32)), .unset, .unset] []
      refine Wk.aload (pc' := 71) C at_69 rfl rfl rfl ?_
      refine Wk.callV (pc' := 74) (rm := { frames := 0, cells := 0, slots := 0, locals := 0 }) (W0 := 0) (q := 0) (argsL := []) (st := []) C rfl (w42 hw) (w43 hw) (w45 hw) (w44 hw) (w10 hw) (w46 hw) (by decide) (fun h O => rm8 l Z a0 hw a90 ((a90, ObjC Z "com/example/vole/vole/textprotocol/RequestLine" ks_0 [.ref b91, .ref b92, .null, .int (0 : Int32), .int (0 : Int32)]) :: (b91, ArrC Z .int 8 f94) :: (b92, ArrC Z .int 8 f95) :: (a86, ArrC Z .byte 4 f87) :: (a88, ArrC Z .byte 4 f89) :: []) 0 b91 b92 (.null) (0 : Int32) (0 : Int32) h n0 O rfl) (by decide) (by decide) (by decide) (by decide) at_71 rfl pd_7 rfl rfl rfl rfl ?_
      rintro _ h' ⟨rfl, O'⟩
      refine ⟨_, O', ?_⟩
      change Wk p l e _ m _ below meth c _ _ n0 ((a90, ObjC Z "com/example/vole/vole/textprotocol/RequestLine" ks_0 [.ref b91, .ref b92, .null, .int (0 : Int32), .int (0 : Int32)]) :: (b91, ArrC Z .int 8 f94) :: (b92, ArrC Z .int 8 f95) :: (a86, ArrC Z .byte 4 f87) :: (a88, ArrC Z .byte 4 f89) :: []) 5 29 74 #[.val (.int x0), .val (.int x1), .val (.int x2), .val (.int x3), .val (.int x4), .val (.ref a86), .val (.ref a88), .val (.ref a90), .val (.int (0 : Int32)), .unset, .unset] [.int (0 : Int32)]
      refine Wk.if_ne (pcT := 89) (pcF := 77) C at_74 (by decide) (by decide) rfl (fun q => absurd q (by decide)) (fun _ => ?_)
      refine Wk.aload (pc' := 79) C at_77 rfl rfl rfl ?_
      refine Wk.callV (pc' := 82) (rm := { frames := 0, cells := 0, slots := 0, locals := 0 }) (W0 := 0) (q := 0) (argsL := []) (st := []) C rfl (w47 hw) (w48 hw) (w50 hw) (w49 hw) (w10 hw) (w51 hw) (by decide) (fun h O => rm9 l Z a0 hw a90 ((a90, ObjC Z "com/example/vole/vole/textprotocol/RequestLine" ks_0 [.ref b91, .ref b92, .null, .int (0 : Int32), .int (0 : Int32)]) :: (b91, ArrC Z .int 8 f94) :: (b92, ArrC Z .int 8 f95) :: (a86, ArrC Z .byte 4 f87) :: (a88, ArrC Z .byte 4 f89) :: []) 0 b91 b92 (.null) (0 : Int32) h n0 O rfl) (by decide) (by decide) (by decide) (by decide) at_79 rfl pd_7 rfl rfl rfl rfl ?_
      rintro _ h' ⟨rfl, O'⟩
      refine ⟨_, O', ?_⟩
      change Wk p l e _ m _ below meth c _ _ n0 ((a90, ObjC Z "com/example/vole/vole/textprotocol/RequestLine" ks_0 [.ref b91, .ref b92, .null, .int (0 : Int32), .int (0 : Int32)]) :: (b91, ArrC Z .int 8 f94) :: (b92, ArrC Z .int 8 f95) :: (a86, ArrC Z .byte 4 f87) :: (a88, ArrC Z .byte 4 f89) :: []) 5 29 82 #[.val (.int x0), .val (.int x1), .val (.int x2), .val (.int x3), .val (.int x4), .val (.ref a86), .val (.ref a88), .val (.ref a90), .val (.int (0 : Int32)), .unset, .unset] [.int (0 : Int32)]
      refine Wk.if_ne (pcT := 89) (pcF := 85) C at_82 (by decide) (by decide) rfl (fun q => absurd q (by decide)) (fun _ => ?_)
      refine Wk.iconst (z := (1 : Int32)) (pc' := 86) C at_85 rfl rfl ?_
      refine Wk.goto (pc' := 90) C at_86 (by decide) (by decide) ?_
      refine Wk.istore (Ls' := #[.val (.int x0), .val (.int x1), .val (.int x2), .val (.int x3), .val (.int x4), .val (.ref a86), .val (.ref a88), .val (.ref a90), .val (.int (0 : Int32)), .val (.int (1 : Int32)), .unset]) (pc' := 92) C at_90 rfl rfl ?_
      refine Wk.aload (pc' := 94) C at_92 rfl rfl rfl ?_
      refine Wk.aload (pc' := 96) C at_94 rfl rfl rfl ?_
      refine Wk.iconst (z := (0 : Int32)) (pc' := 97) C at_96 rfl rfl ?_
      refine Wk.iconst (z := (4 : Int32)) (pc' := 98) C at_97 rfl rfl ?_
      refine Wk.recast (L' := ((a90, ObjC Z "com/example/vole/vole/textprotocol/RequestLine" ks_0 [.ref b91, .ref b92, .null, .int (0 : Int32), .int (0 : Int32)]) :: (b91, ArrC Z .int 8 f94) :: (b92, ArrC Z .int 8 f95) :: (a88, ArrC Z .byte 4 f89) :: (a86, ArrC Z .byte 4 f87) :: [])) ?_ (fun h O => ((((O.front 4 rfl).front 3 rfl).front 3 rfl).front 3 rfl))
      refine Wk.callV (pc' := 101) (rm := { frames := 1, cells := 0, slots := 0, locals := 20 }) (W0 := 0) (q := 0) (argsL := [.ref a88, .int (0 : Int32), .int (4 : Int32)]) (st := []) C rfl (w22 hw) (w23 hw) (w25 hw) (w24 hw) (w10 hw) (w26 hw) (by decide) (fun h O => rm5 l Z a0 hw a90 a88 ((a86, ArrC Z .byte 4 f87) :: []) b91 b92 (.null) (0 : Int32) (0 : Int32) (f94) (f95) (f89) h n0 O) (by decide) (by decide) (by decide) (by decide) at_98 rfl pd_6 rfl rfl rfl rfl ?_
      rintro _ h' ⟨cn106, f107, f108, rfl, hcn106, kcn106, O'⟩
      refine ⟨_, O', ?_⟩
      change Wk p l e _ m _ below meth c _ _ n0 ((a90, ObjC Z "com/example/vole/vole/textprotocol/RequestLine" ks_0 [.ref b91, .ref b92, .ref a88, .int (0 : Int32), .int cn106]) :: (b91, ArrC Z .int 8 f107) :: (b92, ArrC Z .int 8 f108) :: (a88, ArrC Z .byte 4 f89) :: (a86, ArrC Z .byte 4 f87) :: []) 5 29 101 #[.val (.int x0), .val (.int x1), .val (.int x2), .val (.int x3), .val (.int x4), .val (.ref a86), .val (.ref a88), .val (.ref a90), .val (.int (0 : Int32)), .val (.int (1 : Int32)), .unset] []
      refine Wk.aload (pc' := 103) C at_101 rfl rfl rfl ?_
      refine Wk.callV (pc' := 106) (rm := { frames := 0, cells := 0, slots := 0, locals := 0 }) (W0 := 0) (q := 0) (argsL := []) (st := []) C rfl (w42 hw) (w43 hw) (w45 hw) (w44 hw) (w10 hw) (w46 hw) (by decide) (fun h O => rm8 l Z a0 hw a90 ((a90, ObjC Z "com/example/vole/vole/textprotocol/RequestLine" ks_0 [.ref b91, .ref b92, .ref a88, .int (0 : Int32), .int cn106]) :: (b91, ArrC Z .int 8 f107) :: (b92, ArrC Z .int 8 f108) :: (a88, ArrC Z .byte 4 f89) :: (a86, ArrC Z .byte 4 f87) :: []) 0 b91 b92 (.ref a88) (0 : Int32) cn106 h n0 O rfl) (by decide) (by decide) (by decide) (by decide) at_103 rfl pd_7 rfl rfl rfl rfl ?_
      rintro _ h' ⟨rfl, O'⟩
      refine ⟨_, O', ?_⟩
      change Wk p l e _ m _ below meth c _ _ n0 ((a90, ObjC Z "com/example/vole/vole/textprotocol/RequestLine" ks_0 [.ref b91, .ref b92, .ref a88, .int (0 : Int32), .int cn106]) :: (b91, ArrC Z .int 8 f107) :: (b92, ArrC Z .int 8 f108) :: (a88, ArrC Z .byte 4 f89) :: (a86, ArrC Z .byte 4 f87) :: []) 5 29 106 #[.val (.int x0), .val (.int x1), .val (.int x2), .val (.int x3), .val (.int x4), .val (.ref a86), .val (.ref a88), .val (.ref a90), .val (.int (0 : Int32)), .val (.int (1 : Int32)), .unset] [.int cn106]
      refine Wk.aload (pc' := 108) C at_106 rfl rfl rfl ?_
      refine Wk.callS (pc' := 111) (rm := { frames := 0, cells := 0, slots := 0, locals := 0 }) (W0 := 1) (argsL := [.ref a88]) (st := [.int cn106]) C (w52 hw) (w53 hw) (w2 hw) (w54 hw) (by decide) (fun h O => rm10 l Z a0 hw a88 ((a90, ObjC Z "com/example/vole/vole/textprotocol/RequestLine" ks_0 [.ref b91, .ref b92, .ref a88, .int (0 : Int32), .int cn106]) :: (b91, ArrC Z .int 8 f107) :: (b92, ArrC Z .int 8 f108) :: (a88, ArrC Z .byte 4 f89) :: (a86, ArrC Z .byte 4 f87) :: []) 3 (f89) h n0 O rfl) (by decide) (by decide) (by decide) (by decide) at_108 rfl pd_8 rfl rfl rfl rfl ?_
      rintro _ h' ⟨rfl, O'⟩
      refine ⟨_, O', ?_⟩
      change Wk p l e _ m _ below meth c _ _ n0 ((a90, ObjC Z "com/example/vole/vole/textprotocol/RequestLine" ks_0 [.ref b91, .ref b92, .ref a88, .int (0 : Int32), .int cn106]) :: (b91, ArrC Z .int 8 f107) :: (b92, ArrC Z .int 8 f108) :: (a88, ArrC Z .byte 4 f89) :: (a86, ArrC Z .byte 4 f87) :: []) 5 29 111 #[.val (.int x0), .val (.int x1), .val (.int x2), .val (.int x3), .val (.int x4), .val (.ref a86), .val (.ref a88), .val (.ref a90), .val (.int (0 : Int32)), .val (.int (1 : Int32)), .unset] [.int (tokF f89), .int cn106]
      refine Wk.icmp_ne (pcT := 126) (pcF := 114) C at_111 (by decide) (by decide) rfl (fun c109 => (show False from c109 hcn106).elim) (fun c109 => ?_)
      refine Wk.aload (pc' := 116) C at_114 rfl rfl rfl ?_
      refine Wk.callV (pc' := 119) (rm := { frames := 0, cells := 0, slots := 0, locals := 0 }) (W0 := 0) (q := 0) (argsL := []) (st := []) C rfl (w47 hw) (w48 hw) (w50 hw) (w49 hw) (w10 hw) (w51 hw) (by decide) (fun h O => rm9 l Z a0 hw a90 ((a90, ObjC Z "com/example/vole/vole/textprotocol/RequestLine" ks_0 [.ref b91, .ref b92, .ref a88, .int (0 : Int32), .int cn106]) :: (b91, ArrC Z .int 8 f107) :: (b92, ArrC Z .int 8 f108) :: (a88, ArrC Z .byte 4 f89) :: (a86, ArrC Z .byte 4 f87) :: []) 0 b91 b92 (.ref a88) cn106 h n0 O rfl) (by decide) (by decide) (by decide) (by decide) at_116 rfl pd_7 rfl rfl rfl rfl ?_
      rintro _ h' ⟨rfl, O'⟩
      refine ⟨_, O', ?_⟩
      change Wk p l e _ m _ below meth c _ _ n0 ((a90, ObjC Z "com/example/vole/vole/textprotocol/RequestLine" ks_0 [.ref b91, .ref b92, .ref a88, .int (0 : Int32), .int cn106]) :: (b91, ArrC Z .int 8 f107) :: (b92, ArrC Z .int 8 f108) :: (a88, ArrC Z .byte 4 f89) :: (a86, ArrC Z .byte 4 f87) :: []) 5 29 119 #[.val (.int x0), .val (.int x1), .val (.int x2), .val (.int x3), .val (.int x4), .val (.ref a86), .val (.ref a88), .val (.ref a90), .val (.int (0 : Int32)), .val (.int (1 : Int32)), .unset] [.int (0 : Int32)]
      refine Wk.if_ne (pcT := 126) (pcF := 122) C at_119 (by decide) (by decide) rfl (fun q => absurd q (by decide)) (fun _ => ?_)
      refine Wk.iconst (z := (1 : Int32)) (pc' := 123) C at_122 rfl rfl ?_
      refine Wk.goto (pc' := 127) C at_123 (by decide) (by decide) ?_
      refine Wk.istore (Ls' := #[.val (.int x0), .val (.int x1), .val (.int x2), .val (.int x3), .val (.int x4), .val (.ref a86), .val (.ref a88), .val (.ref a90), .val (.int (0 : Int32)), .val (.int (1 : Int32)), .val (.int (1 : Int32))]) (pc' := 129) C at_127 rfl rfl ?_
      refine Wk.iload (pc' := 131) C at_129 rfl rfl ?_
      refine Wk.if_eq (pcT := 143) (pcF := 134) C at_131 (by decide) (by decide) rfl (fun q => absurd q (by decide)) (fun _ => ?_)
      refine Wk.iload (pc' := 136) C at_134 rfl rfl ?_
      refine Wk.if_eq (pcT := 143) (pcF := 139) C at_136 (by decide) (by decide) rfl (fun q => absurd q (by decide)) (fun _ => ?_)
      refine Wk.iconst (z := (1 : Int32)) (pc' := 140) C at_139 rfl rfl ?_
      refine Wk.goto (pc' := 144) C at_140 (by decide) (by decide) ?_
      exact Wk.retN C J at_144 (by decide) (by decide) (by simp) rfl (fun h O => rfl)
    · skip
      refine Wk.aload (pc' := 41) C at_39 rfl rfl rfl ?_
      refine Wk.callV (pc' := 44) (rm := { frames := 0, cells := 0, slots := 0, locals := 0 }) (W0 := 0) (q := 0) (argsL := []) (st := []) C rfl (w42 hw) (w43 hw) (w45 hw) (w44 hw) (w10 hw) (w46 hw) (by decide) (fun h O => rm8 l Z a0 hw a90 ((a90, ObjC Z "com/example/vole/vole/textprotocol/RequestLine" ks_0 [.ref b91, .ref b92, .ref a86, .int (0 : Int32), .int (1 : Int32)]) :: (b91, ArrC Z .int 8 f94) :: (b92, ArrC Z .int 8 f95) :: (a86, ArrC Z .byte 4 f87) :: (a88, ArrC Z .byte 4 f89) :: []) 0 b91 b92 (.ref a86) (0 : Int32) (1 : Int32) h n0 O rfl) (by decide) (by decide) (by decide) (by decide) at_41 rfl pd_7 rfl rfl rfl rfl ?_
      rintro _ h' ⟨rfl, O'⟩
      refine ⟨_, O', ?_⟩
      change Wk p l e _ m _ below meth c _ _ n0 ((a90, ObjC Z "com/example/vole/vole/textprotocol/RequestLine" ks_0 [.ref b91, .ref b92, .ref a86, .int (0 : Int32), .int (1 : Int32)]) :: (b91, ArrC Z .int 8 f94) :: (b92, ArrC Z .int 8 f95) :: (a86, ArrC Z .byte 4 f87) :: (a88, ArrC Z .byte 4 f89) :: []) 5 29 44 #[.val (.int x0), .val (.int x1), .val (.int x2), .val (.int x3), .val (.int x4), .val (.ref a86), .val (.ref a88), .val (.ref a90), .unset, .unset, .unset] [.int (1 : Int32)]
      refine Wk.if_le (pcT := 51) (pcF := 47) C at_44 (by decide) (by decide) rfl (fun q => absurd q (by decide)) (fun _ => ?_)
      refine Wk.iconst (z := (1 : Int32)) (pc' := 48) C at_47 rfl rfl ?_
      refine Wk.goto (pc' := 52) C at_48 (by decide) (by decide) ?_
      refine Wk.istore (Ls' := #[.val (.int x0), .val (.int x1), .val (.int x2), .val (.int x3), .val (.int x4), .val (.ref a86), .val (.ref a88), .val (.ref a90), .val (.int (1 : Int32)), .unset, .unset]) (pc' := 54) C at_52 rfl rfl ?_
      refine Wk.iload (pc' := 56) C at_54 rfl rfl ?_
      refine Wk.if_eq (pcT := 64) (pcF := 59) C at_56 (by decide) (by decide) rfl (fun q => absurd q (by decide)) (fun _ => ?_)
      refine Wk.aload (pc' := 61) C at_59 rfl rfl rfl ?_
      refine Wk.callV (pc' := 64) (rm := { frames := 3, cells := 1, slots := 4, locals := 64 }) (W0 := 0) (q := 0) (argsL := []) (st := []) C rfl (w55 hw) (w56 hw) (w58 hw) (w57 hw) (w10 hw) (w59 hw) (by decide) (fun h O => rm11_1 l Z a0 hw a90 ((a88, ArrC Z .byte 4 f89) :: []) b91 b92 a86 (0 : Int32) (f94) (f95) (f87) h n0 O hbd) (by decide) (by decide) (by decide) (by decide) at_61 rfl pd_5 rfl rfl rfl rfl ?_
      rintro _ h' ⟨a110, nn111, g112, f113, f114, rfl, O'⟩
      refine ⟨_, O', ?_⟩
      change Wk p l e _ m _ below meth c _ _ n0 ((a110, ArrC Z .byte nn111 g112) :: (a90, ObjC Z "com/example/vole/vole/textprotocol/RequestLine" ks_0 [.ref b91, .ref b92, .ref a110, .int (1 : Int32), .int (1 : Int32)]) :: (b91, ArrC Z .int 8 f113) :: (b92, ArrC Z .int 8 f114) :: (a86, ArrC Z .byte 4 f87) :: (a88, ArrC Z .byte 4 f89) :: []) 6 33 64 #[.val (.int x0), .val (.int x1), .val (.int x2), .val (.int x3), .val (.int x4), .val (.ref a86), .val (.ref a88), .val (.ref a90), .val (.int (1 : Int32)), .unset, .unset] []
      refine Wk.aload (pc' := 66) C at_64 rfl rfl rfl ?_
      refine Wk.recast (L' := ((a90, ObjC Z "com/example/vole/vole/textprotocol/RequestLine" ks_0 [.ref b91, .ref b92, .ref a110, .int (1 : Int32), .int (1 : Int32)]) :: (b91, ArrC Z .int 8 f113) :: (b92, ArrC Z .int 8 f114) :: (a110, ArrC Z .byte nn111 g112) :: (a86, ArrC Z .byte 4 f87) :: (a88, ArrC Z .byte 4 f89) :: [])) ?_ (fun h O => (((O.front 3 rfl).front 3 rfl).front 3 rfl))
      refine Wk.callV (pc' := 69) (rm := { frames := 0, cells := 0, slots := 0, locals := 0 }) (W0 := 0) (q := 0) (argsL := []) (st := []) C rfl (w37 hw) (w38 hw) (w40 hw) (w39 hw) (w10 hw) (w41 hw) (by decide) (fun h O => rm7 l Z a0 hw a90 ((a110, ArrC Z .byte nn111 g112) :: (a86, ArrC Z .byte 4 f87) :: (a88, ArrC Z .byte 4 f89) :: []) b91 b92 (.ref a110) (1 : Int32) (1 : Int32) (f113) (f114) h n0 O) (by decide) (by decide) (by decide) (by decide) at_66 rfl pd_5 rfl rfl rfl rfl ?_
      rintro _ h' ⟨rfl, O'⟩
      refine ⟨_, O', ?_⟩
      change Wk p l e _ m _ below meth c _ _ n0 ((a90, ObjC Z "com/example/vole/vole/textprotocol/RequestLine" ks_0 [.ref b91, .ref b92, .null, .int (0 : Int32), .int (0 : Int32)]) :: (b91, ArrC Z .int 8 f113) :: (b92, ArrC Z .int 8 f114) :: (a110, ArrC Z .byte nn111 g112) :: (a86, ArrC Z .byte 4 f87) :: (a88, ArrC Z .byte 4 f89) :: []) 6 33 69 #[.val (.int x0), .val (.int x1), .val (.int x2), .val (.int x3), .val (.int x4), .val (.ref a86), .val (.ref a88), .val (.ref a90), .val (.int (1 : Int32)), .unset, .unset] []
      refine Wk.aload (pc' := 71) C at_69 rfl rfl rfl ?_
      refine Wk.callV (pc' := 74) (rm := { frames := 0, cells := 0, slots := 0, locals := 0 }) (W0 := 0) (q := 0) (argsL := []) (st := []) C rfl (w42 hw) (w43 hw) (w45 hw) (w44 hw) (w10 hw) (w46 hw) (by decide) (fun h O => rm8 l Z a0 hw a90 ((a90, ObjC Z "com/example/vole/vole/textprotocol/RequestLine" ks_0 [.ref b91, .ref b92, .null, .int (0 : Int32), .int (0 : Int32)]) :: (b91, ArrC Z .int 8 f113) :: (b92, ArrC Z .int 8 f114) :: (a110, ArrC Z .byte nn111 g112) :: (a86, ArrC Z .byte 4 f87) :: (a88, ArrC Z .byte 4 f89) :: []) 0 b91 b92 (.null) (0 : Int32) (0 : Int32) h n0 O rfl) (by decide) (by decide) (by decide) (by decide) at_71 rfl pd_7 rfl rfl rfl rfl ?_
      rintro _ h' ⟨rfl, O'⟩
      refine ⟨_, O', ?_⟩
      change Wk p l e _ m _ below meth c _ _ n0 ((a90, ObjC Z "com/example/vole/vole/textprotocol/RequestLine" ks_0 [.ref b91, .ref b92, .null, .int (0 : Int32), .int (0 : Int32)]) :: (b91, ArrC Z .int 8 f113) :: (b92, ArrC Z .int 8 f114) :: (a110, ArrC Z .byte nn111 g112) :: (a86, ArrC Z .byte 4 f87) :: (a88, ArrC Z .byte 4 f89) :: []) 6 33 74 #[.val (.int x0), .val (.int x1), .val (.int x2), .val (.int x3), .val (.int x4), .val (.ref a86), .val (.ref a88), .val (.ref a90), .val (.int (1 : Int32)), .unset, .unset] [.int (0 : Int32)]
      refine Wk.if_ne (pcT := 89) (pcF := 77) C at_74 (by decide) (by decide) rfl (fun q => absurd q (by decide)) (fun _ => ?_)
      refine Wk.aload (pc' := 79) C at_77 rfl rfl rfl ?_
      refine Wk.callV (pc' := 82) (rm := { frames := 0, cells := 0, slots := 0, locals := 0 }) (W0 := 0) (q := 0) (argsL := []) (st := []) C rfl (w47 hw) (w48 hw) (w50 hw) (w49 hw) (w10 hw) (w51 hw) (by decide) (fun h O => rm9 l Z a0 hw a90 ((a90, ObjC Z "com/example/vole/vole/textprotocol/RequestLine" ks_0 [.ref b91, .ref b92, .null, .int (0 : Int32), .int (0 : Int32)]) :: (b91, ArrC Z .int 8 f113) :: (b92, ArrC Z .int 8 f114) :: (a110, ArrC Z .byte nn111 g112) :: (a86, ArrC Z .byte 4 f87) :: (a88, ArrC Z .byte 4 f89) :: []) 0 b91 b92 (.null) (0 : Int32) h n0 O rfl) (by decide) (by decide) (by decide) (by decide) at_79 rfl pd_7 rfl rfl rfl rfl ?_
      rintro _ h' ⟨rfl, O'⟩
      refine ⟨_, O', ?_⟩
      change Wk p l e _ m _ below meth c _ _ n0 ((a90, ObjC Z "com/example/vole/vole/textprotocol/RequestLine" ks_0 [.ref b91, .ref b92, .null, .int (0 : Int32), .int (0 : Int32)]) :: (b91, ArrC Z .int 8 f113) :: (b92, ArrC Z .int 8 f114) :: (a110, ArrC Z .byte nn111 g112) :: (a86, ArrC Z .byte 4 f87) :: (a88, ArrC Z .byte 4 f89) :: []) 6 33 82 #[.val (.int x0), .val (.int x1), .val (.int x2), .val (.int x3), .val (.int x4), .val (.ref a86), .val (.ref a88), .val (.ref a90), .val (.int (1 : Int32)), .unset, .unset] [.int (0 : Int32)]
      refine Wk.if_ne (pcT := 89) (pcF := 85) C at_82 (by decide) (by decide) rfl (fun q => absurd q (by decide)) (fun _ => ?_)
      refine Wk.iconst (z := (1 : Int32)) (pc' := 86) C at_85 rfl rfl ?_
      refine Wk.goto (pc' := 90) C at_86 (by decide) (by decide) ?_
      refine Wk.istore (Ls' := #[.val (.int x0), .val (.int x1), .val (.int x2), .val (.int x3), .val (.int x4), .val (.ref a86), .val (.ref a88), .val (.ref a90), .val (.int (1 : Int32)), .val (.int (1 : Int32)), .unset]) (pc' := 92) C at_90 rfl rfl ?_
      refine Wk.aload (pc' := 94) C at_92 rfl rfl rfl ?_
      refine Wk.aload (pc' := 96) C at_94 rfl rfl rfl ?_
      refine Wk.iconst (z := (0 : Int32)) (pc' := 97) C at_96 rfl rfl ?_
      refine Wk.iconst (z := (4 : Int32)) (pc' := 98) C at_97 rfl rfl ?_
      refine Wk.recast (L' := ((a90, ObjC Z "com/example/vole/vole/textprotocol/RequestLine" ks_0 [.ref b91, .ref b92, .null, .int (0 : Int32), .int (0 : Int32)]) :: (b91, ArrC Z .int 8 f113) :: (b92, ArrC Z .int 8 f114) :: (a88, ArrC Z .byte 4 f89) :: (a110, ArrC Z .byte nn111 g112) :: (a86, ArrC Z .byte 4 f87) :: [])) ?_ (fun h O => ((((O.front 5 rfl).front 3 rfl).front 3 rfl).front 3 rfl))
      refine Wk.callV (pc' := 101) (rm := { frames := 1, cells := 0, slots := 0, locals := 20 }) (W0 := 0) (q := 0) (argsL := [.ref a88, .int (0 : Int32), .int (4 : Int32)]) (st := []) C rfl (w22 hw) (w23 hw) (w25 hw) (w24 hw) (w10 hw) (w26 hw) (by decide) (fun h O => rm5 l Z a0 hw a90 a88 ((a110, ArrC Z .byte nn111 g112) :: (a86, ArrC Z .byte 4 f87) :: []) b91 b92 (.null) (0 : Int32) (0 : Int32) (f113) (f114) (f89) h n0 O) (by decide) (by decide) (by decide) (by decide) at_98 rfl pd_6 rfl rfl rfl rfl ?_
      rintro _ h' ⟨cn115, f116, f117, rfl, hcn115, kcn115, O'⟩
      refine ⟨_, O', ?_⟩
      change Wk p l e _ m _ below meth c _ _ n0 ((a90, ObjC Z "com/example/vole/vole/textprotocol/RequestLine" ks_0 [.ref b91, .ref b92, .ref a88, .int (0 : Int32), .int cn115]) :: (b91, ArrC Z .int 8 f116) :: (b92, ArrC Z .int 8 f117) :: (a88, ArrC Z .byte 4 f89) :: (a110, ArrC Z .byte nn111 g112) :: (a86, ArrC Z .byte 4 f87) :: []) 6 33 101 #[.val (.int x0), .val (.int x1), .val (.int x2), .val (.int x3), .val (.int x4), .val (.ref a86), .val (.ref a88), .val (.ref a90), .val (.int (1 : Int32)), .val (.int (1 : Int32)), .unset] []
      refine Wk.aload (pc' := 103) C at_101 rfl rfl rfl ?_
      refine Wk.callV (pc' := 106) (rm := { frames := 0, cells := 0, slots := 0, locals := 0 }) (W0 := 0) (q := 0) (argsL := []) (st := []) C rfl (w42 hw) (w43 hw) (w45 hw) (w44 hw) (w10 hw) (w46 hw) (by decide) (fun h O => rm8 l Z a0 hw a90 ((a90, ObjC Z "com/example/vole/vole/textprotocol/RequestLine" ks_0 [.ref b91, .ref b92, .ref a88, .int (0 : Int32), .int cn115]) :: (b91, ArrC Z .int 8 f116) :: (b92, ArrC Z .int 8 f117) :: (a88, ArrC Z .byte 4 f89) :: (a110, ArrC Z .byte nn111 g112) :: (a86, ArrC Z .byte 4 f87) :: []) 0 b91 b92 (.ref a88) (0 : Int32) cn115 h n0 O rfl) (by decide) (by decide) (by decide) (by decide) at_103 rfl pd_7 rfl rfl rfl rfl ?_
      rintro _ h' ⟨rfl, O'⟩
      refine ⟨_, O', ?_⟩
      change Wk p l e _ m _ below meth c _ _ n0 ((a90, ObjC Z "com/example/vole/vole/textprotocol/RequestLine" ks_0 [.ref b91, .ref b92, .ref a88, .int (0 : Int32), .int cn115]) :: (b91, ArrC Z .int 8 f116) :: (b92, ArrC Z .int 8 f117) :: (a88, ArrC Z .byte 4 f89) :: (a110, ArrC Z .byte nn111 g112) :: (a86, ArrC Z .byte 4 f87) :: []) 6 33 106 #[.val (.int x0), .val (.int x1), .val (.int x2), .val (.int x3), .val (.int x4), .val (.ref a86), .val (.ref a88), .val (.ref a90), .val (.int (1 : Int32)), .val (.int (1 : Int32)), .unset] [.int cn115]
      refine Wk.aload (pc' := 108) C at_106 rfl rfl rfl ?_
      refine Wk.callS (pc' := 111) (rm := { frames := 0, cells := 0, slots := 0, locals := 0 }) (W0 := 1) (argsL := [.ref a88]) (st := [.int cn115]) C (w52 hw) (w53 hw) (w2 hw) (w54 hw) (by decide) (fun h O => rm10 l Z a0 hw a88 ((a90, ObjC Z "com/example/vole/vole/textprotocol/RequestLine" ks_0 [.ref b91, .ref b92, .ref a88, .int (0 : Int32), .int cn115]) :: (b91, ArrC Z .int 8 f116) :: (b92, ArrC Z .int 8 f117) :: (a88, ArrC Z .byte 4 f89) :: (a110, ArrC Z .byte nn111 g112) :: (a86, ArrC Z .byte 4 f87) :: []) 3 (f89) h n0 O rfl) (by decide) (by decide) (by decide) (by decide) at_108 rfl pd_8 rfl rfl rfl rfl ?_
      rintro _ h' ⟨rfl, O'⟩
      refine ⟨_, O', ?_⟩
      change Wk p l e _ m _ below meth c _ _ n0 ((a90, ObjC Z "com/example/vole/vole/textprotocol/RequestLine" ks_0 [.ref b91, .ref b92, .ref a88, .int (0 : Int32), .int cn115]) :: (b91, ArrC Z .int 8 f116) :: (b92, ArrC Z .int 8 f117) :: (a88, ArrC Z .byte 4 f89) :: (a110, ArrC Z .byte nn111 g112) :: (a86, ArrC Z .byte 4 f87) :: []) 6 33 111 #[.val (.int x0), .val (.int x1), .val (.int x2), .val (.int x3), .val (.int x4), .val (.ref a86), .val (.ref a88), .val (.ref a90), .val (.int (1 : Int32)), .val (.int (1 : Int32)), .unset] [.int (tokF f89), .int cn115]
      refine Wk.icmp_ne (pcT := 126) (pcF := 114) C at_111 (by decide) (by decide) rfl (fun c118 => (show False from c118 hcn115).elim) (fun c118 => ?_)
      refine Wk.aload (pc' := 116) C at_114 rfl rfl rfl ?_
      refine Wk.callV (pc' := 119) (rm := { frames := 0, cells := 0, slots := 0, locals := 0 }) (W0 := 0) (q := 0) (argsL := []) (st := []) C rfl (w47 hw) (w48 hw) (w50 hw) (w49 hw) (w10 hw) (w51 hw) (by decide) (fun h O => rm9 l Z a0 hw a90 ((a90, ObjC Z "com/example/vole/vole/textprotocol/RequestLine" ks_0 [.ref b91, .ref b92, .ref a88, .int (0 : Int32), .int cn115]) :: (b91, ArrC Z .int 8 f116) :: (b92, ArrC Z .int 8 f117) :: (a88, ArrC Z .byte 4 f89) :: (a110, ArrC Z .byte nn111 g112) :: (a86, ArrC Z .byte 4 f87) :: []) 0 b91 b92 (.ref a88) cn115 h n0 O rfl) (by decide) (by decide) (by decide) (by decide) at_116 rfl pd_7 rfl rfl rfl rfl ?_
      rintro _ h' ⟨rfl, O'⟩
      refine ⟨_, O', ?_⟩
      change Wk p l e _ m _ below meth c _ _ n0 ((a90, ObjC Z "com/example/vole/vole/textprotocol/RequestLine" ks_0 [.ref b91, .ref b92, .ref a88, .int (0 : Int32), .int cn115]) :: (b91, ArrC Z .int 8 f116) :: (b92, ArrC Z .int 8 f117) :: (a88, ArrC Z .byte 4 f89) :: (a110, ArrC Z .byte nn111 g112) :: (a86, ArrC Z .byte 4 f87) :: []) 6 33 119 #[.val (.int x0), .val (.int x1), .val (.int x2), .val (.int x3), .val (.int x4), .val (.ref a86), .val (.ref a88), .val (.ref a90), .val (.int (1 : Int32)), .val (.int (1 : Int32)), .unset] [.int (0 : Int32)]
      refine Wk.if_ne (pcT := 126) (pcF := 122) C at_119 (by decide) (by decide) rfl (fun q => absurd q (by decide)) (fun _ => ?_)
      refine Wk.iconst (z := (1 : Int32)) (pc' := 123) C at_122 rfl rfl ?_
      refine Wk.goto (pc' := 127) C at_123 (by decide) (by decide) ?_
      refine Wk.istore (Ls' := #[.val (.int x0), .val (.int x1), .val (.int x2), .val (.int x3), .val (.int x4), .val (.ref a86), .val (.ref a88), .val (.ref a90), .val (.int (1 : Int32)), .val (.int (1 : Int32)), .val (.int (1 : Int32))]) (pc' := 129) C at_127 rfl rfl ?_
      refine Wk.iload (pc' := 131) C at_129 rfl rfl ?_
      refine Wk.if_eq (pcT := 143) (pcF := 134) C at_131 (by decide) (by decide) rfl (fun q => absurd q (by decide)) (fun _ => ?_)
      refine Wk.iload (pc' := 136) C at_134 rfl rfl ?_
      refine Wk.if_eq (pcT := 143) (pcF := 139) C at_136 (by decide) (by decide) rfl (fun q => absurd q (by decide)) (fun _ => ?_)
      refine Wk.iconst (z := (1 : Int32)) (pc' := 140) C at_139 rfl rfl ?_
      refine Wk.goto (pc' := 144) C at_140 (by decide) (by decide) ?_
      exact Wk.retN C J at_144 (by decide) (by decide) (by simp) rfl (fun h O => rfl)
  · skip
    refine Wk.iload (pc' := 34) C at_32 rfl rfl ?_
    refine Wk.iconst (z := (1 : Int32)) (pc' := 35) C at_34 rfl rfl ?_
    refine Wk.iand (pc' := 36) C at_35 rfl ?_
    refine Wk.if_eq (pcT := 51) (pcF := 39) C at_36 (by decide) (by decide) rfl (fun c119 => ?_) (fun c119 => ?_)
    · skip
      refine Wk.iconst (z := (0 : Int32)) (pc' := 52) C at_51 rfl rfl ?_
      refine Wk.istore (Ls' := #[.val (.int x0), .val (.int x1), .val (.int x2), .val (.int x3), .val (.int x4), .val (.ref a86), .val (.ref a88), .val (.ref a90), .val (.int (0 : Int32)), .unset, .unset]) (pc' := 54) C at_52 rfl rfl ?_
      refine Wk.iload (pc' := 56) C at_54 rfl rfl ?_
      refine Wk.if_eq (pcT := 64) (pcF := 59) C at_56 (by decide) (by decide) rfl (fun _ => ?_) (fun q => absurd q (by decide))
      refine Wk.aload (pc' := 66) C at_64 rfl rfl rfl ?_
      refine Wk.callV (pc' := 69) (rm := { frames := 0, cells := 0, slots := 0, locals := 0 }) (W0 := 0) (q := 0) (argsL := []) (st := []) C rfl (w37 hw) (w38 hw) (w40 hw) (w39 hw) (w10 hw) (w41 hw) (by decide) (fun h O => rm7 l Z a0 hw a90 ((a86, ArrC Z .byte 4 f87) :: (a88, ArrC Z .byte 4 f89) :: []) b91 b92 (.ref a86) (0 : Int32) (2 : Int32) (f94) (f95) h n0 O) (by decide) (by decide) (by decide) (by decide) at_66 rfl pd_5 rfl rfl rfl rfl ?_
      rintro _ h' ⟨rfl, O'⟩
      refine ⟨_, O', ?_⟩
      change Wk p l e _ m _ below meth c _ _ n0 ((a90, ObjC Z "com/example/vole/vole/textprotocol/RequestLine" ks_0 [.ref b91, .ref b92, .null, .int (0 : Int32), .int (0 : Int32)]) :: (b91, ArrC Z .int 8 f94) :: (b92, ArrC Z .int 8 f95) :: (a86, ArrC Z .byte 4 f87) :: (a88, ArrC Z .byte 4 f89) :: []) 5 29 69 #[.val (.int x0), .val (.int x1), .val (.int x2), .val (.int x3), .val (.int x4), .val (.ref a86), .val (.ref a88), .val (.ref a90), .val (.int (0 : Int32)), .unset, .unset] []
      refine Wk.aload (pc' := 71) C at_69 rfl rfl rfl ?_
      refine Wk.callV (pc' := 74) (rm := { frames := 0, cells := 0, slots := 0, locals := 0 }) (W0 := 0) (q := 0) (argsL := []) (st := []) C rfl (w42 hw) (w43 hw) (w45 hw) (w44 hw) (w10 hw) (w46 hw) (by decide) (fun h O => rm8 l Z a0 hw a90 ((a90, ObjC Z "com/example/vole/vole/textprotocol/RequestLine" ks_0 [.ref b91, .ref b92, .null, .int (0 : Int32), .int (0 : Int32)]) :: (b91, ArrC Z .int 8 f94) :: (b92, ArrC Z .int 8 f95) :: (a86, ArrC Z .byte 4 f87) :: (a88, ArrC Z .byte 4 f89) :: []) 0 b91 b92 (.null) (0 : Int32) (0 : Int32) h n0 O rfl) (by decide) (by decide) (by decide) (by decide) at_71 rfl pd_7 rfl rfl rfl rfl ?_
      rintro _ h' ⟨rfl, O'⟩
      refine ⟨_, O', ?_⟩
      change Wk p l e _ m _ below meth c _ _ n0 ((a90, ObjC Z "com/example/vole/vole/textprotocol/RequestLine" ks_0 [.ref b91, .ref b92, .null, .int (0 : Int32), .int (0 : Int32)]) :: (b91, ArrC Z .int 8 f94) :: (b92, ArrC Z .int 8 f95) :: (a86, ArrC Z .byte 4 f87) :: (a88, ArrC Z .byte 4 f89) :: []) 5 29 74 #[.val (.int x0), .val (.int x1), .val (.int x2), .val (.int x3), .val (.int x4), .val (.ref a86), .val (.ref a88), .val (.ref a90), .val (.int (0 : Int32)), .unset, .unset] [.int (0 : Int32)]
      refine Wk.if_ne (pcT := 89) (pcF := 77) C at_74 (by decide) (by decide) rfl (fun q => absurd q (by decide)) (fun _ => ?_)
      refine Wk.aload (pc' := 79) C at_77 rfl rfl rfl ?_
      refine Wk.callV (pc' := 82) (rm := { frames := 0, cells := 0, slots := 0, locals := 0 }) (W0 := 0) (q := 0) (argsL := []) (st := []) C rfl (w47 hw) (w48 hw) (w50 hw) (w49 hw) (w10 hw) (w51 hw) (by decide) (fun h O => rm9 l Z a0 hw a90 ((a90, ObjC Z "com/example/vole/vole/textprotocol/RequestLine" ks_0 [.ref b91, .ref b92, .null, .int (0 : Int32), .int (0 : Int32)]) :: (b91, ArrC Z .int 8 f94) :: (b92, ArrC Z .int 8 f95) :: (a86, ArrC Z .byte 4 f87) :: (a88, ArrC Z .byte 4 f89) :: []) 0 b91 b92 (.null) (0 : Int32) h n0 O rfl) (by decide) (by decide) (by decide) (by decide) at_79 rfl pd_7 rfl rfl rfl rfl ?_
      rintro _ h' ⟨rfl, O'⟩
      refine ⟨_, O', ?_⟩
      change Wk p l e _ m _ below meth c _ _ n0 ((a90, ObjC Z "com/example/vole/vole/textprotocol/RequestLine" ks_0 [.ref b91, .ref b92, .null, .int (0 : Int32), .int (0 : Int32)]) :: (b91, ArrC Z .int 8 f94) :: (b92, ArrC Z .int 8 f95) :: (a86, ArrC Z .byte 4 f87) :: (a88, ArrC Z .byte 4 f89) :: []) 5 29 82 #[.val (.int x0), .val (.int x1), .val (.int x2), .val (.int x3), .val (.int x4), .val (.ref a86), .val (.ref a88), .val (.ref a90), .val (.int (0 : Int32)), .unset, .unset] [.int (0 : Int32)]
      refine Wk.if_ne (pcT := 89) (pcF := 85) C at_82 (by decide) (by decide) rfl (fun q => absurd q (by decide)) (fun _ => ?_)
      refine Wk.iconst (z := (1 : Int32)) (pc' := 86) C at_85 rfl rfl ?_
      refine Wk.goto (pc' := 90) C at_86 (by decide) (by decide) ?_
      refine Wk.istore (Ls' := #[.val (.int x0), .val (.int x1), .val (.int x2), .val (.int x3), .val (.int x4), .val (.ref a86), .val (.ref a88), .val (.ref a90), .val (.int (0 : Int32)), .val (.int (1 : Int32)), .unset]) (pc' := 92) C at_90 rfl rfl ?_
      refine Wk.aload (pc' := 94) C at_92 rfl rfl rfl ?_
      refine Wk.aload (pc' := 96) C at_94 rfl rfl rfl ?_
      refine Wk.iconst (z := (0 : Int32)) (pc' := 97) C at_96 rfl rfl ?_
      refine Wk.iconst (z := (4 : Int32)) (pc' := 98) C at_97 rfl rfl ?_
      refine Wk.recast (L' := ((a90, ObjC Z "com/example/vole/vole/textprotocol/RequestLine" ks_0 [.ref b91, .ref b92, .null, .int (0 : Int32), .int (0 : Int32)]) :: (b91, ArrC Z .int 8 f94) :: (b92, ArrC Z .int 8 f95) :: (a88, ArrC Z .byte 4 f89) :: (a86, ArrC Z .byte 4 f87) :: [])) ?_ (fun h O => ((((O.front 4 rfl).front 3 rfl).front 3 rfl).front 3 rfl))
      refine Wk.callV (pc' := 101) (rm := { frames := 1, cells := 0, slots := 0, locals := 20 }) (W0 := 0) (q := 0) (argsL := [.ref a88, .int (0 : Int32), .int (4 : Int32)]) (st := []) C rfl (w22 hw) (w23 hw) (w25 hw) (w24 hw) (w10 hw) (w26 hw) (by decide) (fun h O => rm5 l Z a0 hw a90 a88 ((a86, ArrC Z .byte 4 f87) :: []) b91 b92 (.null) (0 : Int32) (0 : Int32) (f94) (f95) (f89) h n0 O) (by decide) (by decide) (by decide) (by decide) at_98 rfl pd_6 rfl rfl rfl rfl ?_
      rintro _ h' ⟨cn120, f121, f122, rfl, hcn120, kcn120, O'⟩
      refine ⟨_, O', ?_⟩
      change Wk p l e _ m _ below meth c _ _ n0 ((a90, ObjC Z "com/example/vole/vole/textprotocol/RequestLine" ks_0 [.ref b91, .ref b92, .ref a88, .int (0 : Int32), .int cn120]) :: (b91, ArrC Z .int 8 f121) :: (b92, ArrC Z .int 8 f122) :: (a88, ArrC Z .byte 4 f89) :: (a86, ArrC Z .byte 4 f87) :: []) 5 29 101 #[.val (.int x0), .val (.int x1), .val (.int x2), .val (.int x3), .val (.int x4), .val (.ref a86), .val (.ref a88), .val (.ref a90), .val (.int (0 : Int32)), .val (.int (1 : Int32)), .unset] []
      refine Wk.aload (pc' := 103) C at_101 rfl rfl rfl ?_
      refine Wk.callV (pc' := 106) (rm := { frames := 0, cells := 0, slots := 0, locals := 0 }) (W0 := 0) (q := 0) (argsL := []) (st := []) C rfl (w42 hw) (w43 hw) (w45 hw) (w44 hw) (w10 hw) (w46 hw) (by decide) (fun h O => rm8 l Z a0 hw a90 ((a90, ObjC Z "com/example/vole/vole/textprotocol/RequestLine" ks_0 [.ref b91, .ref b92, .ref a88, .int (0 : Int32), .int cn120]) :: (b91, ArrC Z .int 8 f121) :: (b92, ArrC Z .int 8 f122) :: (a88, ArrC Z .byte 4 f89) :: (a86, ArrC Z .byte 4 f87) :: []) 0 b91 b92 (.ref a88) (0 : Int32) cn120 h n0 O rfl) (by decide) (by decide) (by decide) (by decide) at_103 rfl pd_7 rfl rfl rfl rfl ?_
      rintro _ h' ⟨rfl, O'⟩
      refine ⟨_, O', ?_⟩
      change Wk p l e _ m _ below meth c _ _ n0 ((a90, ObjC Z "com/example/vole/vole/textprotocol/RequestLine" ks_0 [.ref b91, .ref b92, .ref a88, .int (0 : Int32), .int cn120]) :: (b91, ArrC Z .int 8 f121) :: (b92, ArrC Z .int 8 f122) :: (a88, ArrC Z .byte 4 f89) :: (a86, ArrC Z .byte 4 f87) :: []) 5 29 106 #[.val (.int x0), .val (.int x1), .val (.int x2), .val (.int x3), .val (.int x4), .val (.ref a86), .val (.ref a88), .val (.ref a90), .val (.int (0 : Int32)), .val (.int (1 : Int32)), .unset] [.int cn120]
      refine Wk.aload (pc' := 108) C at_106 rfl rfl rfl ?_
      refine Wk.callS (pc' := 111) (rm := { frames := 0, cells := 0, slots := 0, locals := 0 }) (W0 := 1) (argsL := [.ref a88]) (st := [.int cn120]) C (w52 hw) (w53 hw) (w2 hw) (w54 hw) (by decide) (fun h O => rm10 l Z a0 hw a88 ((a90, ObjC Z "com/example/vole/vole/textprotocol/RequestLine" ks_0 [.ref b91, .ref b92, .ref a88, .int (0 : Int32), .int cn120]) :: (b91, ArrC Z .int 8 f121) :: (b92, ArrC Z .int 8 f122) :: (a88, ArrC Z .byte 4 f89) :: (a86, ArrC Z .byte 4 f87) :: []) 3 (f89) h n0 O rfl) (by decide) (by decide) (by decide) (by decide) at_108 rfl pd_8 rfl rfl rfl rfl ?_
      rintro _ h' ⟨rfl, O'⟩
      refine ⟨_, O', ?_⟩
      change Wk p l e _ m _ below meth c _ _ n0 ((a90, ObjC Z "com/example/vole/vole/textprotocol/RequestLine" ks_0 [.ref b91, .ref b92, .ref a88, .int (0 : Int32), .int cn120]) :: (b91, ArrC Z .int 8 f121) :: (b92, ArrC Z .int 8 f122) :: (a88, ArrC Z .byte 4 f89) :: (a86, ArrC Z .byte 4 f87) :: []) 5 29 111 #[.val (.int x0), .val (.int x1), .val (.int x2), .val (.int x3), .val (.int x4), .val (.ref a86), .val (.ref a88), .val (.ref a90), .val (.int (0 : Int32)), .val (.int (1 : Int32)), .unset] [.int (tokF f89), .int cn120]
      refine Wk.icmp_ne (pcT := 126) (pcF := 114) C at_111 (by decide) (by decide) rfl (fun c123 => (show False from c123 hcn120).elim) (fun c123 => ?_)
      refine Wk.aload (pc' := 116) C at_114 rfl rfl rfl ?_
      refine Wk.callV (pc' := 119) (rm := { frames := 0, cells := 0, slots := 0, locals := 0 }) (W0 := 0) (q := 0) (argsL := []) (st := []) C rfl (w47 hw) (w48 hw) (w50 hw) (w49 hw) (w10 hw) (w51 hw) (by decide) (fun h O => rm9 l Z a0 hw a90 ((a90, ObjC Z "com/example/vole/vole/textprotocol/RequestLine" ks_0 [.ref b91, .ref b92, .ref a88, .int (0 : Int32), .int cn120]) :: (b91, ArrC Z .int 8 f121) :: (b92, ArrC Z .int 8 f122) :: (a88, ArrC Z .byte 4 f89) :: (a86, ArrC Z .byte 4 f87) :: []) 0 b91 b92 (.ref a88) cn120 h n0 O rfl) (by decide) (by decide) (by decide) (by decide) at_116 rfl pd_7 rfl rfl rfl rfl ?_
      rintro _ h' ⟨rfl, O'⟩
      refine ⟨_, O', ?_⟩
      change Wk p l e _ m _ below meth c _ _ n0 ((a90, ObjC Z "com/example/vole/vole/textprotocol/RequestLine" ks_0 [.ref b91, .ref b92, .ref a88, .int (0 : Int32), .int cn120]) :: (b91, ArrC Z .int 8 f121) :: (b92, ArrC Z .int 8 f122) :: (a88, ArrC Z .byte 4 f89) :: (a86, ArrC Z .byte 4 f87) :: []) 5 29 119 #[.val (.int x0), .val (.int x1), .val (.int x2), .val (.int x3), .val (.int x4), .val (.ref a86), .val (.ref a88), .val (.ref a90), .val (.int (0 : Int32)), .val (.int (1 : Int32)), .unset] [.int (0 : Int32)]
      refine Wk.if_ne (pcT := 126) (pcF := 122) C at_119 (by decide) (by decide) rfl (fun q => absurd q (by decide)) (fun _ => ?_)
      refine Wk.iconst (z := (1 : Int32)) (pc' := 123) C at_122 rfl rfl ?_
      refine Wk.goto (pc' := 127) C at_123 (by decide) (by decide) ?_
      refine Wk.istore (Ls' := #[.val (.int x0), .val (.int x1), .val (.int x2), .val (.int x3), .val (.int x4), .val (.ref a86), .val (.ref a88), .val (.ref a90), .val (.int (0 : Int32)), .val (.int (1 : Int32)), .val (.int (1 : Int32))]) (pc' := 129) C at_127 rfl rfl ?_
      refine Wk.iload (pc' := 131) C at_129 rfl rfl ?_
      refine Wk.if_eq (pcT := 143) (pcF := 134) C at_131 (by decide) (by decide) rfl (fun q => absurd q (by decide)) (fun _ => ?_)
      refine Wk.iload (pc' := 136) C at_134 rfl rfl ?_
      refine Wk.if_eq (pcT := 143) (pcF := 139) C at_136 (by decide) (by decide) rfl (fun q => absurd q (by decide)) (fun _ => ?_)
      refine Wk.iconst (z := (1 : Int32)) (pc' := 140) C at_139 rfl rfl ?_
      refine Wk.goto (pc' := 144) C at_140 (by decide) (by decide) ?_
      exact Wk.retN C J at_144 (by decide) (by decide) (by simp) rfl (fun h O => rfl)
    · skip
      refine Wk.aload (pc' := 41) C at_39 rfl rfl rfl ?_
      refine Wk.callV (pc' := 44) (rm := { frames := 0, cells := 0, slots := 0, locals := 0 }) (W0 := 0) (q := 0) (argsL := []) (st := []) C rfl (w42 hw) (w43 hw) (w45 hw) (w44 hw) (w10 hw) (w46 hw) (by decide) (fun h O => rm8 l Z a0 hw a90 ((a90, ObjC Z "com/example/vole/vole/textprotocol/RequestLine" ks_0 [.ref b91, .ref b92, .ref a86, .int (0 : Int32), .int (2 : Int32)]) :: (b91, ArrC Z .int 8 f94) :: (b92, ArrC Z .int 8 f95) :: (a86, ArrC Z .byte 4 f87) :: (a88, ArrC Z .byte 4 f89) :: []) 0 b91 b92 (.ref a86) (0 : Int32) (2 : Int32) h n0 O rfl) (by decide) (by decide) (by decide) (by decide) at_41 rfl pd_7 rfl rfl rfl rfl ?_
      rintro _ h' ⟨rfl, O'⟩
      refine ⟨_, O', ?_⟩
      change Wk p l e _ m _ below meth c _ _ n0 ((a90, ObjC Z "com/example/vole/vole/textprotocol/RequestLine" ks_0 [.ref b91, .ref b92, .ref a86, .int (0 : Int32), .int (2 : Int32)]) :: (b91, ArrC Z .int 8 f94) :: (b92, ArrC Z .int 8 f95) :: (a86, ArrC Z .byte 4 f87) :: (a88, ArrC Z .byte 4 f89) :: []) 5 29 44 #[.val (.int x0), .val (.int x1), .val (.int x2), .val (.int x3), .val (.int x4), .val (.ref a86), .val (.ref a88), .val (.ref a90), .unset, .unset, .unset] [.int (2 : Int32)]
      refine Wk.if_le (pcT := 51) (pcF := 47) C at_44 (by decide) (by decide) rfl (fun q => absurd q (by decide)) (fun _ => ?_)
      refine Wk.iconst (z := (1 : Int32)) (pc' := 48) C at_47 rfl rfl ?_
      refine Wk.goto (pc' := 52) C at_48 (by decide) (by decide) ?_
      refine Wk.istore (Ls' := #[.val (.int x0), .val (.int x1), .val (.int x2), .val (.int x3), .val (.int x4), .val (.ref a86), .val (.ref a88), .val (.ref a90), .val (.int (1 : Int32)), .unset, .unset]) (pc' := 54) C at_52 rfl rfl ?_
      refine Wk.iload (pc' := 56) C at_54 rfl rfl ?_
      refine Wk.if_eq (pcT := 64) (pcF := 59) C at_56 (by decide) (by decide) rfl (fun q => absurd q (by decide)) (fun _ => ?_)
      refine Wk.aload (pc' := 61) C at_59 rfl rfl rfl ?_
      refine Wk.callV (pc' := 64) (rm := { frames := 3, cells := 1, slots := 4, locals := 64 }) (W0 := 0) (q := 0) (argsL := []) (st := []) C rfl (w55 hw) (w56 hw) (w58 hw) (w57 hw) (w10 hw) (w59 hw) (by decide) (fun h O => rm11_2 l Z a0 hw a90 ((a88, ArrC Z .byte 4 f89) :: []) b91 b92 a86 (0 : Int32) (f94) (f95) (f87) h n0 O hbd) (by decide) (by decide) (by decide) (by decide) at_61 rfl pd_5 rfl rfl rfl rfl ?_
      rintro _ h' ⟨a124, nn125, g126, f127, f128, rfl, O'⟩
      refine ⟨_, O', ?_⟩
      change Wk p l e _ m _ below meth c _ _ n0 ((a124, ArrC Z .byte nn125 g126) :: (a90, ObjC Z "com/example/vole/vole/textprotocol/RequestLine" ks_0 [.ref b91, .ref b92, .ref a124, .int (1 : Int32), .int (2 : Int32)]) :: (b91, ArrC Z .int 8 f127) :: (b92, ArrC Z .int 8 f128) :: (a86, ArrC Z .byte 4 f87) :: (a88, ArrC Z .byte 4 f89) :: []) 6 33 64 #[.val (.int x0), .val (.int x1), .val (.int x2), .val (.int x3), .val (.int x4), .val (.ref a86), .val (.ref a88), .val (.ref a90), .val (.int (1 : Int32)), .unset, .unset] []
      refine Wk.aload (pc' := 66) C at_64 rfl rfl rfl ?_
      refine Wk.recast (L' := ((a90, ObjC Z "com/example/vole/vole/textprotocol/RequestLine" ks_0 [.ref b91, .ref b92, .ref a124, .int (1 : Int32), .int (2 : Int32)]) :: (b91, ArrC Z .int 8 f127) :: (b92, ArrC Z .int 8 f128) :: (a124, ArrC Z .byte nn125 g126) :: (a86, ArrC Z .byte 4 f87) :: (a88, ArrC Z .byte 4 f89) :: [])) ?_ (fun h O => (((O.front 3 rfl).front 3 rfl).front 3 rfl))
      refine Wk.callV (pc' := 69) (rm := { frames := 0, cells := 0, slots := 0, locals := 0 }) (W0 := 0) (q := 0) (argsL := []) (st := []) C rfl (w37 hw) (w38 hw) (w40 hw) (w39 hw) (w10 hw) (w41 hw) (by decide) (fun h O => rm7 l Z a0 hw a90 ((a124, ArrC Z .byte nn125 g126) :: (a86, ArrC Z .byte 4 f87) :: (a88, ArrC Z .byte 4 f89) :: []) b91 b92 (.ref a124) (1 : Int32) (2 : Int32) (f127) (f128) h n0 O) (by decide) (by decide) (by decide) (by decide) at_66 rfl pd_5 rfl rfl rfl rfl ?_
      rintro _ h' ⟨rfl, O'⟩
      refine ⟨_, O', ?_⟩
      change Wk p l e _ m _ below meth c _ _ n0 ((a90, ObjC Z "com/example/vole/vole/textprotocol/RequestLine" ks_0 [.ref b91, .ref b92, .null, .int (0 : Int32), .int (0 : Int32)]) :: (b91, ArrC Z .int 8 f127) :: (b92, ArrC Z .int 8 f128) :: (a124, ArrC Z .byte nn125 g126) :: (a86, ArrC Z .byte 4 f87) :: (a88, ArrC Z .byte 4 f89) :: []) 6 33 69 #[.val (.int x0), .val (.int x1), .val (.int x2), .val (.int x3), .val (.int x4), .val (.ref a86), .val (.ref a88), .val (.ref a90), .val (.int (1 : Int32)), .unset, .unset] []
      refine Wk.aload (pc' := 71) C at_69 rfl rfl rfl ?_
      refine Wk.callV (pc' := 74) (rm := { frames := 0, cells := 0, slots := 0, locals := 0 }) (W0 := 0) (q := 0) (argsL := []) (st := []) C rfl (w42 hw) (w43 hw) (w45 hw) (w44 hw) (w10 hw) (w46 hw) (by decide) (fun h O => rm8 l Z a0 hw a90 ((a90, ObjC Z "com/example/vole/vole/textprotocol/RequestLine" ks_0 [.ref b91, .ref b92, .null, .int (0 : Int32), .int (0 : Int32)]) :: (b91, ArrC Z .int 8 f127) :: (b92, ArrC Z .int 8 f128) :: (a124, ArrC Z .byte nn125 g126) :: (a86, ArrC Z .byte 4 f87) :: (a88, ArrC Z .byte 4 f89) :: []) 0 b91 b92 (.null) (0 : Int32) (0 : Int32) h n0 O rfl) (by decide) (by decide) (by decide) (by decide) at_71 rfl pd_7 rfl rfl rfl rfl ?_
      rintro _ h' ⟨rfl, O'⟩
      refine ⟨_, O', ?_⟩
      change Wk p l e _ m _ below meth c _ _ n0 ((a90, ObjC Z "com/example/vole/vole/textprotocol/RequestLine" ks_0 [.ref b91, .ref b92, .null, .int (0 : Int32), .int (0 : Int32)]) :: (b91, ArrC Z .int 8 f127) :: (b92, ArrC Z .int 8 f128) :: (a124, ArrC Z .byte nn125 g126) :: (a86, ArrC Z .byte 4 f87) :: (a88, ArrC Z .byte 4 f89) :: []) 6 33 74 #[.val (.int x0), .val (.int x1), .val (.int x2), .val (.int x3), .val (.int x4), .val (.ref a86), .val (.ref a88), .val (.ref a90), .val (.int (1 : Int32)), .unset, .unset] [.int (0 : Int32)]
      refine Wk.if_ne (pcT := 89) (pcF := 77) C at_74 (by decide) (by decide) rfl (fun q => absurd q (by decide)) (fun _ => ?_)
      refine Wk.aload (pc' := 79) C at_77 rfl rfl rfl ?_
      refine Wk.callV (pc' := 82) (rm := { frames := 0, cells := 0, slots := 0, locals := 0 }) (W0 := 0) (q := 0) (argsL := []) (st := []) C rfl (w47 hw) (w48 hw) (w50 hw) (w49 hw) (w10 hw) (w51 hw) (by decide) (fun h O => rm9 l Z a0 hw a90 ((a90, ObjC Z "com/example/vole/vole/textprotocol/RequestLine" ks_0 [.ref b91, .ref b92, .null, .int (0 : Int32), .int (0 : Int32)]) :: (b91, ArrC Z .int 8 f127) :: (b92, ArrC Z .int 8 f128) :: (a124, ArrC Z .byte nn125 g126) :: (a86, ArrC Z .byte 4 f87) :: (a88, ArrC Z .byte 4 f89) :: []) 0 b91 b92 (.null) (0 : Int32) h n0 O rfl) (by decide) (by decide) (by decide) (by decide) at_79 rfl pd_7 rfl rfl rfl rfl ?_
      rintro _ h' ⟨rfl, O'⟩
      refine ⟨_, O', ?_⟩
      change Wk p l e _ m _ below meth c _ _ n0 ((a90, ObjC Z "com/example/vole/vole/textprotocol/RequestLine" ks_0 [.ref b91, .ref b92, .null, .int (0 : Int32), .int (0 : Int32)]) :: (b91, ArrC Z .int 8 f127) :: (b92, ArrC Z .int 8 f128) :: (a124, ArrC Z .byte nn125 g126) :: (a86, ArrC Z .byte 4 f87) :: (a88, ArrC Z .byte 4 f89) :: []) 6 33 82 #[.val (.int x0), .val (.int x1), .val (.int x2), .val (.int x3), .val (.int x4), .val (.ref a86), .val (.ref a88), .val (.ref a90), .val (.int (1 : Int32)), .unset, .unset] [.int (0 : Int32)]
      refine Wk.if_ne (pcT := 89) (pcF := 85) C at_82 (by decide) (by decide) rfl (fun q => absurd q (by decide)) (fun _ => ?_)
      refine Wk.iconst (z := (1 : Int32)) (pc' := 86) C at_85 rfl rfl ?_
      refine Wk.goto (pc' := 90) C at_86 (by decide) (by decide) ?_
      refine Wk.istore (Ls' := #[.val (.int x0), .val (.int x1), .val (.int x2), .val (.int x3), .val (.int x4), .val (.ref a86), .val (.ref a88), .val (.ref a90), .val (.int (1 : Int32)), .val (.int (1 : Int32)), .unset]) (pc' := 92) C at_90 rfl rfl ?_
      refine Wk.aload (pc' := 94) C at_92 rfl rfl rfl ?_
      refine Wk.aload (pc' := 96) C at_94 rfl rfl rfl ?_
      refine Wk.iconst (z := (0 : Int32)) (pc' := 97) C at_96 rfl rfl ?_
      refine Wk.iconst (z := (4 : Int32)) (pc' := 98) C at_97 rfl rfl ?_
      refine Wk.recast (L' := ((a90, ObjC Z "com/example/vole/vole/textprotocol/RequestLine" ks_0 [.ref b91, .ref b92, .null, .int (0 : Int32), .int (0 : Int32)]) :: (b91, ArrC Z .int 8 f127) :: (b92, ArrC Z .int 8 f128) :: (a88, ArrC Z .byte 4 f89) :: (a124, ArrC Z .byte nn125 g126) :: (a86, ArrC Z .byte 4 f87) :: [])) ?_ (fun h O => ((((O.front 5 rfl).front 3 rfl).front 3 rfl).front 3 rfl))
      refine Wk.callV (pc' := 101) (rm := { frames := 1, cells := 0, slots := 0, locals := 20 }) (W0 := 0) (q := 0) (argsL := [.ref a88, .int (0 : Int32), .int (4 : Int32)]) (st := []) C rfl (w22 hw) (w23 hw) (w25 hw) (w24 hw) (w10 hw) (w26 hw) (by decide) (fun h O => rm5 l Z a0 hw a90 a88 ((a124, ArrC Z .byte nn125 g126) :: (a86, ArrC Z .byte 4 f87) :: []) b91 b92 (.null) (0 : Int32) (0 : Int32) (f127) (f128) (f89) h n0 O) (by decide) (by decide) (by decide) (by decide) at_98 rfl pd_6 rfl rfl rfl rfl ?_
      rintro _ h' ⟨cn129, f130, f131, rfl, hcn129, kcn129, O'⟩
      refine ⟨_, O', ?_⟩
      change Wk p l e _ m _ below meth c _ _ n0 ((a90, ObjC Z "com/example/vole/vole/textprotocol/RequestLine" ks_0 [.ref b91, .ref b92, .ref a88, .int (0 : Int32), .int cn129]) :: (b91, ArrC Z .int 8 f130) :: (b92, ArrC Z .int 8 f131) :: (a88, ArrC Z .byte 4 f89) :: (a124, ArrC Z .byte nn125 g126) :: (a86, ArrC Z .byte 4 f87) :: []) 6 33 101 #[.val (.int x0), .val (.int x1), .val (.int x2), .val (.int x3), .val (.int x4), .val (.ref a86), .val (.ref a88), .val (.ref a90), .val (.int (1 : Int32)), .val (.int (1 : Int32)), .unset] []
      refine Wk.aload (pc' := 103) C at_101 rfl rfl rfl ?_
      refine Wk.callV (pc' := 106) (rm := { frames := 0, cells := 0, slots := 0, locals := 0 }) (W0 := 0) (q := 0) (argsL := []) (st := []) C rfl (w42 hw) (w43 hw) (w45 hw) (w44 hw) (w10 hw) (w46 hw) (by decide) (fun h O => rm8 l Z a0 hw a90 ((a90, ObjC Z "com/example/vole/vole/textprotocol/RequestLine" ks_0 [.ref b91, .ref b92, .ref a88, .int (0 : Int32), .int cn129]) :: (b91, ArrC Z .int 8 f130) :: (b92, ArrC Z .int 8 f131) :: (a88, ArrC Z .byte 4 f89) :: (a124, ArrC Z .byte nn125 g126) :: (a86, ArrC Z .byte 4 f87) :: []) 0 b91 b92 (.ref a88) (0 : Int32) cn129 h n0 O rfl) (by decide) (by decide) (by decide) (by decide) at_103 rfl pd_7 rfl rfl rfl rfl ?_
      rintro _ h' ⟨rfl, O'⟩
      refine ⟨_, O', ?_⟩
      change Wk p l e _ m _ below meth c _ _ n0 ((a90, ObjC Z "com/example/vole/vole/textprotocol/RequestLine" ks_0 [.ref b91, .ref b92, .ref a88, .int (0 : Int32), .int cn129]) :: (b91, ArrC Z .int 8 f130) :: (b92, ArrC Z .int 8 f131) :: (a88, ArrC Z .byte 4 f89) :: (a124, ArrC Z .byte nn125 g126) :: (a86, ArrC Z .byte 4 f87) :: []) 6 33 106 #[.val (.int x0), .val (.int x1), .val (.int x2), .val (.int x3), .val (.int x4), .val (.ref a86), .val (.ref a88), .val (.ref a90), .val (.int (1 : Int32)), .val (.int (1 : Int32)), .unset] [.int cn129]
      refine Wk.aload (pc' := 108) C at_106 rfl rfl rfl ?_
      refine Wk.callS (pc' := 111) (rm := { frames := 0, cells := 0, slots := 0, locals := 0 }) (W0 := 1) (argsL := [.ref a88]) (st := [.int cn129]) C (w52 hw) (w53 hw) (w2 hw) (w54 hw) (by decide) (fun h O => rm10 l Z a0 hw a88 ((a90, ObjC Z "com/example/vole/vole/textprotocol/RequestLine" ks_0 [.ref b91, .ref b92, .ref a88, .int (0 : Int32), .int cn129]) :: (b91, ArrC Z .int 8 f130) :: (b92, ArrC Z .int 8 f131) :: (a88, ArrC Z .byte 4 f89) :: (a124, ArrC Z .byte nn125 g126) :: (a86, ArrC Z .byte 4 f87) :: []) 3 (f89) h n0 O rfl) (by decide) (by decide) (by decide) (by decide) at_108 rfl pd_8 rfl rfl rfl rfl ?_
      rintro _ h' ⟨rfl, O'⟩
      refine ⟨_, O', ?_⟩
      change Wk p l e _ m _ below meth c _ _ n0 ((a90, ObjC Z "com/example/vole/vole/textprotocol/RequestLine" ks_0 [.ref b91, .ref b92, .ref a88, .int (0 : Int32), .int cn129]) :: (b91, ArrC Z .int 8 f130) :: (b92, ArrC Z .int 8 f131) :: (a88, ArrC Z .byte 4 f89) :: (a124, ArrC Z .byte nn125 g126) :: (a86, ArrC Z .byte 4 f87) :: []) 6 33 111 #[.val (.int x0), .val (.int x1), .val (.int x2), .val (.int x3), .val (.int x4), .val (.ref a86), .val (.ref a88), .val (.ref a90), .val (.int (1 : Int32)), .val (.int (1 : Int32)), .unset] [.int (tokF f89), .int cn129]
      refine Wk.icmp_ne (pcT := 126) (pcF := 114) C at_111 (by decide) (by decide) rfl (fun c132 => (show False from c132 hcn129).elim) (fun c132 => ?_)
      refine Wk.aload (pc' := 116) C at_114 rfl rfl rfl ?_
      refine Wk.callV (pc' := 119) (rm := { frames := 0, cells := 0, slots := 0, locals := 0 }) (W0 := 0) (q := 0) (argsL := []) (st := []) C rfl (w47 hw) (w48 hw) (w50 hw) (w49 hw) (w10 hw) (w51 hw) (by decide) (fun h O => rm9 l Z a0 hw a90 ((a90, ObjC Z "com/example/vole/vole/textprotocol/RequestLine" ks_0 [.ref b91, .ref b92, .ref a88, .int (0 : Int32), .int cn129]) :: (b91, ArrC Z .int 8 f130) :: (b92, ArrC Z .int 8 f131) :: (a88, ArrC Z .byte 4 f89) :: (a124, ArrC Z .byte nn125 g126) :: (a86, ArrC Z .byte 4 f87) :: []) 0 b91 b92 (.ref a88) cn129 h n0 O rfl) (by decide) (by decide) (by decide) (by decide) at_116 rfl pd_7 rfl rfl rfl rfl ?_
      rintro _ h' ⟨rfl, O'⟩
      refine ⟨_, O', ?_⟩
      change Wk p l e _ m _ below meth c _ _ n0 ((a90, ObjC Z "com/example/vole/vole/textprotocol/RequestLine" ks_0 [.ref b91, .ref b92, .ref a88, .int (0 : Int32), .int cn129]) :: (b91, ArrC Z .int 8 f130) :: (b92, ArrC Z .int 8 f131) :: (a88, ArrC Z .byte 4 f89) :: (a124, ArrC Z .byte nn125 g126) :: (a86, ArrC Z .byte 4 f87) :: []) 6 33 119 #[.val (.int x0), .val (.int x1), .val (.int x2), .val (.int x3), .val (.int x4), .val (.ref a86), .val (.ref a88), .val (.ref a90), .val (.int (1 : Int32)), .val (.int (1 : Int32)), .unset] [.int (0 : Int32)]
      refine Wk.if_ne (pcT := 126) (pcF := 122) C at_119 (by decide) (by decide) rfl (fun q => absurd q (by decide)) (fun _ => ?_)
      refine Wk.iconst (z := (1 : Int32)) (pc' := 123) C at_122 rfl rfl ?_
      refine Wk.goto (pc' := 127) C at_123 (by decide) (by decide) ?_
      refine Wk.istore (Ls' := #[.val (.int x0), .val (.int x1), .val (.int x2), .val (.int x3), .val (.int x4), .val (.ref a86), .val (.ref a88), .val (.ref a90), .val (.int (1 : Int32)), .val (.int (1 : Int32)), .val (.int (1 : Int32))]) (pc' := 129) C at_127 rfl rfl ?_
      refine Wk.iload (pc' := 131) C at_129 rfl rfl ?_
      refine Wk.if_eq (pcT := 143) (pcF := 134) C at_131 (by decide) (by decide) rfl (fun q => absurd q (by decide)) (fun _ => ?_)
      refine Wk.iload (pc' := 136) C at_134 rfl rfl ?_
      refine Wk.if_eq (pcT := 143) (pcF := 139) C at_136 (by decide) (by decide) rfl (fun q => absurd q (by decide)) (fun _ => ?_)
      refine Wk.iconst (z := (1 : Int32)) (pc' := 140) C at_139 rfl rfl ?_
      refine Wk.goto (pc' := 144) C at_140 (by decide) (by decide) ?_
      exact Wk.retN C J at_144 (by decide) (by decide) (by simp) rfl (fun h O => rfl)
set_option maxRecDepth 65536 in
set_option maxHeartbeats 40000000 in
theorem comes_1 {Post : Tables → Env → Array Value → State → Outcome → State → Prop} (hpost : ∀ tb e args s v u, (limb_1_1.after args s (.returned v) u = true ∧ limb_1_2.after args s (.returned v) u = true ∧ True) → FrameEnd s (.returned v) u (Jvm.fieldLocs frame_1_writes args s ++ Jvm.arrayLocs frame_1_arrays args s ++ Jvm.staticLocs frame_1_statics s) 24 192 → Post tb e args s (.returned v) u) :
    ArmFor flags0 classFile x code maxLocals ret World_1 tables_1 room_1 Calls_1 rest_1 Pre_1 Post := by
  intro l hfl _ _ p e ha hc hk s m args below hf hA hF happ hP
  obtain ⟨hcalls, hrest, hpre⟩ := hP
  obtain ⟨-, -, -, hnamed, -, -, -, hat⟩ := (Spec.applies_iff hf).mp happ
  obtain ⟨hg, hn⟩ := and_e (Cond.before_iff.mp (show (Jvm.Cond.and given_1 narrow_1).before args s = true from hpre))
  obtain ⟨hcount, hr0⟩ := and_e hg
  obtain ⟨hi0, hr1⟩ := and_e hr0
  obtain ⟨hi1, hr2⟩ := and_e hr1
  obtain ⟨hi2, hr3⟩ := and_e hr2
  obtain ⟨hi3, hr4⟩ := and_e hr3
  have hi4 := hr4
  obtain ⟨w0, w1, w2, w3, w4, rfl⟩ : ∃ w0 w1 w2 w3 w4 : Value, args = #[w0, w1, w2, w3, w4] := by
    have hs : args.size = 5 := by simpa [Cond.value, given_1] using hcount
    obtain ⟨L⟩ := args
    match L, hs with
    | [w0, w1, w2, w3, w4], _ => exact ⟨w0, w1, w2, w3, w4, rfl⟩
  have hw : HW s _ := fun d (hd : d ∈ tables_1) => atoms_spec (ws := Jvm.Cond.code x code maxLocals ret :: tables_1) hat d (List.mem_cons_of_mem _ hd)
  obtain ⟨i0, e0⟩ := is_v hi0
  obtain rfl : w0 = (.int i0) := Option.some.inj e0
  obtain ⟨i1, e1⟩ := is_v hi1
  obtain rfl : w1 = (.int i1) := Option.some.inj e1
  obtain ⟨i2, e2⟩ := is_v hi2
  obtain rfl : w2 = (.int i2) := Option.some.inj e2
  obtain ⟨i3, e3⟩ := is_v hi3
  obtain rfl : w3 = (.int i3) := Option.some.inj e3
  obtain ⟨i4, e4⟩ := is_v hi4
  obtain rfl : w4 = (.int i4) := Option.some.inj e4
  obtain ⟨n, o, h1, h2, h3, _, L, rfl, ⟨rfl, -, N⟩, hq⟩ := rmLaw l s _ hw i0 i1 i2 i3 i4 s.heap s.heap.size (Own.nil (Nat.le_refl _)) p e ha hc hk s m _ below hf ((Spec.applies_iff_loose hf).mp happ).1 ⟨rfl, State.Warmed39.refl s, rfl⟩ trivial
  refine ⟨n, _, h1, h2, h3, hpost _ _ _ _ _ _ ⟨Cond.after_iff.mpr rfl, Cond.after_iff.mpr (eq_i res_at (Term.int_eval (1)) rfl), trivial⟩ ⟨hq.1, hq.2.1, (hq.2.2.sift fun y hy => Or.inr (N y hy)).mono (by decide) (by decide)⟩⟩
theorem main_1_1 : Claimed_1_1 := comes_1 fun _ _ _ _ _ _ h hF => ⟨h.1, hF⟩
theorem main_1_2 : Claimed_1_2 := comes_1 fun _ _ _ _ _ _ h hF => ⟨h.2.1, hF⟩
end Jvm.Pilot.@@N@@
namespace Jvm.Pilot.@@N@@
open Jvm Jvm.ClassFile Sem Op Lib Jvm.Free Jvm.Stand Jvm.Pilot.@@N@@.Jvm.D
/-! MADE BY PROGRAM (witnessworld.py) out of the Statement's table words and the real class files: 12 classes; the members and pool entries that the words name. The judged class is class 1, her method 1. -/
namespace start1
open Jvm.ClassFile
def u (s : String) : CpInfo := .utf8 (stringToUtf16 s)
/-- a pool by its gaps: so many unusable entries, then the entry; so many at the end -/
def gap : Nat → List CpInfo → List CpInfo
  | 0, r => r
  | n + 1, r => .unusable :: gap n r
def poolList (es : List (Nat × CpInfo)) (last : Nat) : List CpInfo := es.foldr (fun e r => gap e.1 (e.2 :: r)) (gap last [])
def pool (es : List (Nat × CpInfo)) (last : Nat) : Array CpInfo := ⟨poolList es last⟩
def fileOf (pool : Array CpInfo) (this : Nat) (attrs : Array Attribute := #[]) (ms : Array MethodInfo := #[]) (fl : Nat := 33) (sup : Nat := 0) (ifs : Array Nat := #[]) (fds : Array FieldInfo := #[]) : ClassFile where
  minorVersion := 0
  majorVersion := 65
  constantPool := pool
  accessFlags := fl
  thisClass := this
  superClass := sup
  interfaces := ifs
  fields := fds
  methods := ms
  attributes := attrs
def plain (name : String) (sup : Option ClassId) : Class where
  name := name
  kind := .ordinary
  loader := none
  accessFlags := 33
  super := sup
  interfaces := #[]
  cf := none
  fields := #[]
  methods := #[]
  instanceTypes := #[]
  staticTypes := #[]
  resolved := #[]
  callSites := []
  init := .initialized
  statics := none
  mirror := none

def pool0 : Array CpInfo := pool [(5, u "<init>"), (0, u "()V"), (1, .class_ 10), (1, u "java/lang/Object"), (85, u "clone"), (0, u "()Ljava/lang/Object;")] 26

def k0c0 : Code := { maxStack := 0, maxLocals := 1, code := object_method_1_code, exceptionTable := #[], attributes := #[] }
def k0m0 : Method := { name := "<init>", desc := "()V", sig := { parameters := [], returnType := none }, accessFlags := 1, code := some k0c0 }
def k0m1 : Method := { name := "clone", desc := "()Ljava/lang/Object;", sig := { parameters := [], returnType := some (.object "java/lang/Object") }, accessFlags := 260, code := none }
/-- java/lang/Object -/
def k0 : Class := { plain "java/lang/Object" none with
  accessFlags := 33
  interfaces := #[]
  cf := some (fileOf pool0 8 #[] #[{ accessFlags := 1, nameIndex := 5, descriptorIndex := 6, attributes := #[] }, { accessFlags := 260, nameIndex := 96, descriptorIndex := 97, attributes := #[] }] 33 0 #[] #[])
  fields := #[]
  methods := #[k0m0, k0m1]
  instanceTypes := #[]
  staticTypes := #[]
  resolved := Array.replicate 124 none
  statics := none }

def pool1 : Array CpInfo := pool [(2, .class_ 4), (0, .nameAndType 5 6), (0, u "java/lang/Object"), (0, u "<init>"), (0, u "()V"), (0, .methodref 8 9), (0, .class_ 10), (0, .nameAndType 11 12), (0, u "com/example/vole/vole/textprotocol/RequestLineReleasePinLaw"), (0, u "line"), (0, u "(II)[B"), (0, .class_ 14), (0, u "com/example/vole/vole/textprotocol/RequestLine"), (0, .methodref 13 3), (0, .methodref 13 17), (0, .nameAndType 18 19), (0, u "split"), (0, u "([BII)V"), (0, .methodref 13 21), (0, .nameAndType 22 23), (0, u "count"), (0, u "()I"), (0, .methodref 13 25), (0, .nameAndType 26 6), (0, u "detach"), (0, .methodref 13 28), (0, .nameAndType 29 6), (0, u "release"), (0, .methodref 13 31), (0, .nameAndType 32 23), (0, u "copiedLength"), (0, .methodref 8 34), (0, .nameAndType 35 36), (0, u "tokens"), (0, u "([B)I"), (0, .methodref 8 38), (0, .nameAndType 39 40), (0, u "pick"), (0, u "(III)B"), (2, u "law"), (0, u "(IIIII)Z")] 5

def k1m0 : Method := { name := "<init>", desc := "()V", sig := { parameters := [], returnType := none }, accessFlags := 1, code := none }
def k1c1 : Code := { maxStack := 4, maxLocals := 11, code := code, exceptionTable := #[], attributes := #[] }
def k1m1 : Method := { name := "law", desc := "(IIIII)Z", sig := { parameters := [.int, .int, .int, .int, .int], returnType := some .boolean }, accessFlags := 9, code := some k1c1 }
def k1c2 : Code := { maxStack := 5, maxLocals := 3, code := method_3_code, exceptionTable := #[], attributes := #[] }
def k1m2 : Method := { name := "line", desc := "(II)[B", sig := { parameters := [.int, .int], returnType := some (.array .byte) }, accessFlags := 10, code := some k1c2 }
def k1c3 : Code := { maxStack := 3, maxLocals := 3, code := method_4_code, exceptionTable := #[], attributes := #[] }
def k1m3 : Method := { name := "pick", desc := "(III)B", sig := { parameters := [.int, .int, .int], returnType := some .byte }, accessFlags := 10, code := some k1c3 }
def k1c4 : Code := { maxStack := 2, maxLocals := 2, code := method_5_code, exceptionTable := #[], attributes := #[] }
def k1m4 : Method := { name := "tokens", desc := "([B)I", sig := { parameters := [(.array .byte)], returnType := some .int }, accessFlags := 10, code := some k1c4 }
/-- com/example/vole/vole/textprotocol/RequestLineReleasePinLaw -/
def k1 : Class := { plain "com/example/vole/vole/textprotocol/RequestLineReleasePinLaw" (some 0) with
  accessFlags := 49
  interfaces := #[]
  cf := some (fileOf pool1 8 #[] #[{ accessFlags := 1, nameIndex := 5, descriptorIndex := 6, attributes := #[] }, { accessFlags := 9, nameIndex := 43, descriptorIndex := 44, attributes := #[] }, { accessFlags := 10, nameIndex := 11, descriptorIndex := 12, attributes := #[] }, { accessFlags := 10, nameIndex := 39, descriptorIndex := 40, attributes := #[] }, { accessFlags := 10, nameIndex := 35, descriptorIndex := 36, attributes := #[] }] 49 2 #[] #[])
  fields := #[]
  methods := #[k1m0, k1m1, k1m2, k1m3, k1m4]
  instanceTypes := #[]
  staticTypes := #[]
  resolved := Array.replicate 50 none
  statics := none }

def pool2 : Array CpInfo := pool [(1, .methodref 2 3), (0, .class_ 4), (0, .nameAndType 5 6), (0, u "java/lang/Object"), (0, u "<init>"), (0, u "()V"), (0, .class_ 8), (0, u "com/example/vole/vole/textprotocol/RequestLine"), (0, .fieldref 7 10), (0, .nameAndType 11 12), (0, u "starts"), (0, u "[I"), (0, .fieldref 7 14), (0, .nameAndType 15 12), (0, u "ends"), (0, .fieldref 7 17), (0, .nameAndType 18 19), (0, u "line"), (0, u "[B"), (0, .fieldref 7 21), (0, .nameAndType 22 23), (0, u "detached"), (0, u "Z"), (0, .fieldref 7 25), (0, .nameAndType 26 27), (0, u "count"), (0, u "I"), (0, .methodref 7 29), (0, .nameAndType 30 31), (0, u "add"), (0, u "(II)V"), (1, .class_ 35), (1, u "java/util/Arrays"), (2, .methodref 33 39), (0, .nameAndType 40 41), (0, u "copyOfRange"), (0, u "([BII)[B"), (25, u "([BII)V"), (34, u "FIRST_TOKENS"), (2, u "KEPT_TOKENS"), (3, u "split"), (1, u "detach"), (0, u "release"), (0, u "copiedLength"), (0, u "()I")] 13

def k2c0 : Code := { maxStack := 2, maxLocals := 1, code := prog_27_method_1_code, exceptionTable := #[], attributes := #[] }
def k2m0 : Method := { name := "<init>", desc := "()V", sig := { parameters := [], returnType := none }, accessFlags := 0, code := some k2c0 }
def k2c1 : Code := { maxStack := 3, maxLocals := 6, code := prog_27_method_2_code, exceptionTable := #[], attributes := #[] }
def k2m1 : Method := { name := "split", desc := "([BII)V", sig := { parameters := [(.array .byte), .int, .int], returnType := none }, accessFlags := 0, code := some k2c1 }
def k2c2 : Code := { maxStack := 4, maxLocals := 3, code := prog_27_method_3_code, exceptionTable := #[], attributes := #[] }
def k2m2 : Method := { name := "add", desc := "(II)V", sig := { parameters := [.int, .int], returnType := none }, accessFlags := 2, code := some k2c2 }
def k2c3 : Code := { maxStack := 6, maxLocals := 3, code := prog_27_method_4_code, exceptionTable := #[], attributes := #[] }
def k2m3 : Method := { name := "detach", desc := "()V", sig := { parameters := [], returnType := none }, accessFlags := 0, code := some k2c3 }
def k2c4 : Code := { maxStack := 2, maxLocals := 1, code := prog_27_method_5_code, exceptionTable := #[], attributes := #[] }
def k2m4 : Method := { name := "release", desc := "()V", sig := { parameters := [], returnType := none }, accessFlags := 0, code := some k2c4 }
def k2c5 : Code := { maxStack := 1, maxLocals := 1, code := prog_27_method_6_code, exceptionTable := #[], attributes := #[] }
def k2m5 : Method := { name := "copiedLength", desc := "()I", sig := { parameters := [], returnType := some .int }, accessFlags := 0, code := some k2c5 }
def k2c6 : Code := { maxStack := 1, maxLocals := 1, code := prog_27_method_7_code, exceptionTable := #[], attributes := #[] }
def k2m6 : Method := { name := "count", desc := "()I", sig := { parameters := [], returnType := some .int }, accessFlags := 0, code := some k2c6 }
/-- com/example/vole/vole/textprotocol/RequestLine -/
def k2 : Class := { plain "com/example/vole/vole/textprotocol/RequestLine" (some 0) with
  accessFlags := 48
  interfaces := #[]
  cf := some (fileOf pool2 7 #[] #[{ accessFlags := 0, nameIndex := 5, descriptorIndex := 6, attributes := #[] }, { accessFlags := 0, nameIndex := 109, descriptorIndex := 67, attributes := #[] }, { accessFlags := 2, nameIndex := 30, descriptorIndex := 31, attributes := #[] }, { accessFlags := 0, nameIndex := 111, descriptorIndex := 6, attributes := #[] }, { accessFlags := 0, nameIndex := 112, descriptorIndex := 6, attributes := #[] }, { accessFlags := 0, nameIndex := 113, descriptorIndex := 114, attributes := #[] }, { accessFlags := 0, nameIndex := 26, descriptorIndex := 114, attributes := #[] }] 48 2 #[] #[{ accessFlags := 26, nameIndex := 102, descriptorIndex := 27, attributes := #[] }, { accessFlags := 26, nameIndex := 105, descriptorIndex := 27, attributes := #[] }, { accessFlags := 2, nameIndex := 18, descriptorIndex := 19, attributes := #[] }, { accessFlags := 2, nameIndex := 11, descriptorIndex := 12, attributes := #[] }, { accessFlags := 2, nameIndex := 15, descriptorIndex := 12, attributes := #[] }, { accessFlags := 2, nameIndex := 26, descriptorIndex := 27, attributes := #[] }, { accessFlags := 2, nameIndex := 22, descriptorIndex := 23, attributes := #[] }])
  fields := #[{ name := "FIRST_TOKENS", type := .int, accessFlags := 26, slot := 0, constantValue := 0 }, { name := "KEPT_TOKENS", type := .int, accessFlags := 26, slot := 1, constantValue := 0 }, { name := "line", type := (.array .byte), accessFlags := 2, slot := 0, constantValue := 0 }, { name := "starts", type := (.array .int), accessFlags := 2, slot := 1, constantValue := 0 }, { name := "ends", type := (.array .int), accessFlags := 2, slot := 2, constantValue := 0 }, { name := "count", type := .int, accessFlags := 2, slot := 3, constantValue := 0 }, { name := "detached", type := .boolean, accessFlags := 2, slot := 4, constantValue := 0 }]
  methods := #[k2m0, k2m1, k2m2, k2m3, k2m4, k2m5, k2m6]
  instanceTypes := #[(.array .byte), (.array .int), (.array .int), .int, .boolean]
  staticTypes := #[.int, .int]
  resolved := Array.replicate 128 none
  statics := none }

def pool3 : Array CpInfo := pool [(2, .class_ 4), (1, u "java/lang/Object"), (0, u "<init>"), (0, u "()V"), (7, .class_ 16), (1, u "java/util/Arrays"), (57, .class_ 76), (1, u "java/util/Arrays$NaturalOrder"), (32, u "()Ljava/lang/Object;"), (3, .class_ 115), (1, u "java/util/Arrays$LegacyMergeSort"), (1, u "Z"), (10, .nameAndType 129 109), (0, u "clone"), (9, u "copyOfRange"), (10, .methodref 151 152), (0, .class_ 153), (0, .nameAndType 154 155), (0, u "java/lang/System"), (0, u "arraycopy"), (0, u "(Ljava/lang/Object;ILjava/lang/Object;II)V"), (148, .methodref 305 306), (0, .class_ 307), (0, .nameAndType 308 309), (0, u "java/lang/Math"), (0, u "min"), (0, u "(II)I"), (0, .methodref 311 128), (0, .class_ 312), (0, u "[B"), (26, .methodref 14 340), (0, .nameAndType 341 342), (0, u "copyOfRangeByte"), (0, u "([BII)[B"), (0, .methodref 14 344), (0, .nameAndType 345 346), (0, u "checkLength"), (0, u "(II)V"), (28, .class_ 376), (0, u "java/util/Arrays$ArrayList"), (68, u "$assertionsDisabled"), (269, u "MIN_ARRAY_SORT_GRAN"), (0, u "I"), (2, u "INSERTIONSORT_THRESHOLD"), (255, .class_ 976), (0, u "java/util/Arrays$ArrayItr")] 52

def k3m0 : Method := { name := "<init>", desc := "()V", sig := { parameters := [], returnType := none }, accessFlags := 2, code := none }
def k3c1 : Code := { maxStack := 4, maxLocals := 2, code := jdk_65_method_131_code, exceptionTable := #[], attributes := #[] }
def k3m1 : Method := { name := "checkLength", desc := "(II)V", sig := { parameters := [.int, .int], returnType := none }, accessFlags := 10, code := some k3c1 }
def k3c2 : Code := { maxStack := 3, maxLocals := 3, code := jdk_65_method_132_code, exceptionTable := #[], attributes := #[] }
def k3m2 : Method := { name := "copyOfRange", desc := "([BII)[B", sig := { parameters := [(.array .byte), .int, .int], returnType := some (.array .byte) }, accessFlags := 9, code := some k3c2 }
def k3c3 : Code := { maxStack := 6, maxLocals := 5, code := jdk_65_method_133_code, exceptionTable := #[], attributes := #[] }
def k3m3 : Method := { name := "copyOfRangeByte", desc := "([BII)[B", sig := { parameters := [(.array .byte), .int, .int], returnType := some (.array .byte) }, accessFlags := 10, code := some k3c3 }
/-- java/util/Arrays -/
def k3 : Class := { plain "java/util/Arrays" (some 0) with
  accessFlags := 49
  interfaces := #[]
  cf := some (fileOf pool3 14 #[.nestMembers #[975, 375, 113, 74]] #[{ accessFlags := 2, nameIndex := 5, descriptorIndex := 6, attributes := #[] }, { accessFlags := 10, nameIndex := 345, descriptorIndex := 346, attributes := #[] }, { accessFlags := 9, nameIndex := 139, descriptorIndex := 342, attributes := #[] }, { accessFlags := 10, nameIndex := 341, descriptorIndex := 342, attributes := #[] }] 49 2 #[] #[{ accessFlags := 26, nameIndex := 715, descriptorIndex := 716, attributes := #[] }, { accessFlags := 26, nameIndex := 719, descriptorIndex := 716, attributes := #[] }, { accessFlags := 4120, nameIndex := 445, descriptorIndex := 117, attributes := #[] }])
  fields := #[{ name := "MIN_ARRAY_SORT_GRAN", type := .int, accessFlags := 26, slot := 0, constantValue := 0 }, { name := "INSERTIONSORT_THRESHOLD", type := .int, accessFlags := 26, slot := 1, constantValue := 0 }, { name := "$assertionsDisabled", type := .boolean, accessFlags := 4120, slot := 2, constantValue := 0 }]
  methods := #[k3m0, k3m1, k3m2, k3m3]
  instanceTypes := #[]
  staticTypes := #[.int, .int, .boolean]
  resolved := Array.replicate 1029 none
  statics := none }

def pool4 : Array CpInfo := pool [(1, .class_ 2), (0, u "java/lang/Math"), (1, .class_ 6), (1, u "java/lang/Object"), (0, u "<init>"), (0, u "()V"), (89, .class_ 100), (1, u "java/lang/Math$RandomNumberGeneratorHolder"), (71, u "negativeZeroFloatBits"), (0, u "J"), (2, u "negativeZeroDoubleBits"), (24, u "min"), (43, u "$assertionsDisabled"), (0, u "Z"), (88, u "(II)I"), (2, u "twoToTheDoubleScaleDown"), (0, u "D"), (4, u "twoToTheDoubleScaleUp"), (9, u "E"), (3, u "PI"), (2, u "TAU"), (2, u "DEGREES_TO_RADIANS"), (0, u "RADIANS_TO_DEGREES")] 94

def k4m0 : Method := { name := "<init>", desc := "()V", sig := { parameters := [], returnType := none }, accessFlags := 2, code := none }
def k4c1 : Code := { maxStack := 2, maxLocals := 2, code := jdk_29_method_69_code, exceptionTable := #[], attributes := #[] }
def k4m1 : Method := { name := "min", desc := "(II)I", sig := { parameters := [.int, .int], returnType := some .int }, accessFlags := 9, code := some k4c1 }
/-- java/lang/Math -/
def k4 : Class := { plain "java/lang/Math" (some 0) with
  accessFlags := 49
  interfaces := #[]
  cf := some (fileOf pool4 1 #[.nestMembers #[98]] #[{ accessFlags := 2, nameIndex := 7, descriptorIndex := 8, attributes := #[] }, { accessFlags := 9, nameIndex := 201, descriptorIndex := 335, attributes := #[] }] 49 4 #[] #[{ accessFlags := 25, nameIndex := 354, descriptorIndex := 339, attributes := #[] }, { accessFlags := 25, nameIndex := 358, descriptorIndex := 339, attributes := #[] }, { accessFlags := 25, nameIndex := 361, descriptorIndex := 339, attributes := #[] }, { accessFlags := 26, nameIndex := 364, descriptorIndex := 339, attributes := #[] }, { accessFlags := 26, nameIndex := 365, descriptorIndex := 339, attributes := #[] }, { accessFlags := 26, nameIndex := 172, descriptorIndex := 173, attributes := #[] }, { accessFlags := 26, nameIndex := 176, descriptorIndex := 173, attributes := #[] }, { accessFlags := 8, nameIndex := 344, descriptorIndex := 339, attributes := #[] }, { accessFlags := 8, nameIndex := 338, descriptorIndex := 339, attributes := #[] }, { accessFlags := 4120, nameIndex := 245, descriptorIndex := 246, attributes := #[] }])
  fields := #[{ name := "E", type := .double, accessFlags := 25, slot := 0, constantValue := 0 }, { name := "PI", type := .double, accessFlags := 25, slot := 1, constantValue := 0 }, { name := "TAU", type := .double, accessFlags := 25, slot := 2, constantValue := 0 }, { name := "DEGREES_TO_RADIANS", type := .double, accessFlags := 26, slot := 3, constantValue := 0 }, { name := "RADIANS_TO_DEGREES", type := .double, accessFlags := 26, slot := 4, constantValue := 0 }, { name := "negativeZeroFloatBits", type := .long, accessFlags := 26, slot := 5, constantValue := 0 }, { name := "negativeZeroDoubleBits", type := .long, accessFlags := 26, slot := 6, constantValue := 0 }, { name := "twoToTheDoubleScaleUp", type := .double, accessFlags := 8, slot := 7, constantValue := 0 }, { name := "twoToTheDoubleScaleDown", type := .double, accessFlags := 8, slot := 8, constantValue := 0 }, { name := "$assertionsDisabled", type := .boolean, accessFlags := 4120, slot := 9, constantValue := 0 }]
  methods := #[k4m0, k4m1]
  instanceTypes := #[]
  staticTypes := #[.double, .double, .double, .double, .double, .long, .long, .double, .double, .boolean]
  resolved := Array.replicate 460 none
  statics := none }

def pool5 : Array CpInfo := pool [(2, .class_ 4), (1, u "java/lang/Object"), (0, u "<init>"), (0, u "()V"), (1, .class_ 10), (1, u "java/lang/System"), (0, u "allowSecurityManager"), (0, u "I"), (16, u "cons"), (0, u "Ljava/io/Console;"), (77, .class_ 110), (1, u "java/lang/System$CallersHolder"), (43, u "initialErrStream"), (0, u "Ljava/io/PrintStream;"), (19, u "security"), (0, u "Ljava/lang/SecurityManager;"), (31, .class_ 209), (0, u "java/lang/System$1"), (7, u "props"), (0, u "Ljava/util/Properties;"), (2, u "lineSeparator"), (0, u "Ljava/lang/String;"), (96, .class_ 321), (1, u "java/lang/System$LoggerFinder"), (5, .class_ 328), (0, u "java/lang/System$Logger"), (67, u "err"), (2, u "out"), (91, u "notSupportedJnuEncoding"), (15, u "in"), (17, u "initialIn"), (0, u "Ljava/io/InputStream;"), (35, u "bootLayer"), (0, u "Ljava/lang/ModuleLayer;"), (99, .class_ 664), (0, u "java/lang/System$2"), (9, u "NEVER"), (2, u "MAYBE"), (49, u "arraycopy"), (0, u "(Ljava/lang/Object;ILjava/lang/Object;II)V"), (72, .class_ 802), (0, u "java/lang/System$Logger$Level")] 31

def k5m0 : Method := { name := "<init>", desc := "()V", sig := { parameters := [], returnType := none }, accessFlags := 2, code := none }
def k5m1 : Method := { name := "arraycopy", desc := "(Ljava/lang/Object;ILjava/lang/Object;II)V", sig := { parameters := [(.object "java/lang/Object"), .int, (.object "java/lang/Object"), .int, .int], returnType := none }, accessFlags := 265, code := none }
/-- java/lang/System -/
def k5 : Class := { plain "java/lang/System" (some 0) with
  accessFlags := 49
  interfaces := #[]
  cf := some (fileOf pool5 8 #[.nestMembers #[319, 327, 801, 108, 663, 208]] #[{ accessFlags := 2, nameIndex := 5, descriptorIndex := 6, attributes := #[] }, { accessFlags := 265, nameIndex := 727, descriptorIndex := 728, attributes := #[] }] 49 2 #[] #[{ accessFlags := 25, nameIndex := 507, descriptorIndex := 526, attributes := #[] }, { accessFlags := 25, nameIndex := 399, descriptorIndex := 155, attributes := #[] }, { accessFlags := 25, nameIndex := 396, descriptorIndex := 155, attributes := #[] }, { accessFlags := 10, nameIndex := 525, descriptorIndex := 526, attributes := #[] }, { accessFlags := 26, nameIndex := 674, descriptorIndex := 12, attributes := #[] }, { accessFlags := 26, nameIndex := 677, descriptorIndex := 12, attributes := #[] }, { accessFlags := 10, nameIndex := 11, descriptorIndex := 12, attributes := #[] }, { accessFlags := 74, nameIndex := 175, descriptorIndex := 176, attributes := #[] }, { accessFlags := 10, nameIndex := 491, descriptorIndex := 222, attributes := #[] }, { accessFlags := 74, nameIndex := 29, descriptorIndex := 30, attributes := #[] }, { accessFlags := 74, nameIndex := 154, descriptorIndex := 155, attributes := #[] }, { accessFlags := 10, nameIndex := 217, descriptorIndex := 218, attributes := #[] }, { accessFlags := 10, nameIndex := 221, descriptorIndex := 222, attributes := #[] }, { accessFlags := 8, nameIndex := 562, descriptorIndex := 563, attributes := #[] }])
  fields := #[{ name := "in", type := (.object "java/io/InputStream"), accessFlags := 25, slot := 0, constantValue := 0 }, { name := "out", type := (.object "java/io/PrintStream"), accessFlags := 25, slot := 1, constantValue := 0 }, { name := "err", type := (.object "java/io/PrintStream"), accessFlags := 25, slot := 2, constantValue := 0 }, { name := "initialIn", type := (.object "java/io/InputStream"), accessFlags := 10, slot := 3, constantValue := 0 }, { name := "NEVER", type := .int, accessFlags := 26, slot := 4, constantValue := 0 }, { name := "MAYBE", type := .int, accessFlags := 26, slot := 5, constantValue := 0 }, { name := "allowSecurityManager", type := .int, accessFlags := 10, slot := 6, constantValue := 0 }, { name := "security", type := (.object "java/lang/SecurityManager"), accessFlags := 74, slot := 7, constantValue := 0 }, { name := "notSupportedJnuEncoding", type := (.object "java/lang/String"), accessFlags := 10, slot := 8, constantValue := 0 }, { name := "cons", type := (.object "java/io/Console"), accessFlags := 74, slot := 9, constantValue := 0 }, { name := "initialErrStream", type := (.object "java/io/PrintStream"), accessFlags := 74, slot := 10, constantValue := 0 }, { name := "props", type := (.object "java/util/Properties"), accessFlags := 10, slot := 11, constantValue := 0 }, { name := "lineSeparator", type := (.object "java/lang/String"), accessFlags := 10, slot := 12, constantValue := 0 }, { name := "bootLayer", type := (.object "java/lang/ModuleLayer"), accessFlags := 8, slot := 13, constantValue := 0 }]
  methods := #[k5m0, k5m1]
  instanceTypes := #[]
  staticTypes := #[(.object "java/io/InputStream"), (.object "java/io/PrintStream"), (.object "java/io/PrintStream"), (.object "java/io/InputStream"), .int, .int, .int, (.object "java/lang/SecurityManager"), (.object "java/lang/String"), (.object "java/io/Console"), (.object "java/io/PrintStream"), (.object "java/util/Properties"), (.object "java/lang/String"), (.object "java/lang/ModuleLayer")]
  resolved := Array.replicate 834 none
  statics := none }

def pool6 : Array CpInfo := pool [(1, .class_ 2), (0, u "java/lang/Cloneable"), (0, .class_ 4), (0, u "java/lang/Object")] 2

/-- java/lang/Cloneable -/
def k6 : Class := { plain "java/lang/Cloneable" (some 0) with
  accessFlags := 1537
  interfaces := #[]
  cf := some (fileOf pool6 1 #[] #[] 1537 3 #[] #[])
  fields := #[]
  methods := #[]
  instanceTypes := #[]
  staticTypes := #[]
  resolved := Array.replicate 7 none
  statics := none }

def pool7 : Array CpInfo := pool [(1, u "java/io/Serializable"), (0, .class_ 1), (0, u "java/lang/Object"), (0, .class_ 3)] 3

/-- java/io/Serializable -/
def k7 : Class := { plain "java/io/Serializable" (some 0) with
  accessFlags := 1537
  interfaces := #[]
  cf := some (fileOf pool7 2 #[] #[] 1537 4 #[] #[])
  fields := #[]
  methods := #[]
  instanceTypes := #[]
  staticTypes := #[]
  resolved := Array.replicate 8 none
  statics := none }

/-- the primitive byte -/
def k8 : Class := { plain "byte" none with kind := .primitive 'B', accessFlags := 0x411 }
/-- [B -/
def k9 : Class := { plain "[B" (some 0) with kind := .array 8 .byte, interfaces := #[6, 7], accessFlags := 1041 }

/-- the primitive int -/
def k10 : Class := { plain "int" none with kind := .primitive 'I', accessFlags := 0x411 }
/-- [I -/
def k11 : Class := { plain "[I" (some 0) with kind := .array 10 .int, interfaces := #[6, 7], accessFlags := 1041 }

def heap : Heap := #[]
def classes : Array Class := #[k0, k1, k2, k3, k4, k5, k6, k7, k8, k9, k10, k11]
def interned : List (Array UInt16 × Addr) := []
def slotsUsed : Nat := 0
def theMethod : MethodId := ⟨1, 1⟩
def args0 : Array Value := #[.int 7, .int 200, .int 3, .int 5, .int 1]
def aboutOver (below : List Frame) : State where
  vm := { classes := classes, interned := interned.toArray }
  heap := heap
  slotsUsed := slotsUsed
  threads := #[{ frames := .invoking theMethod args0 :: below }]
def below0 : List Frame := [.native { method := ⟨0, 0⟩, args := #[] }]
def about1 : State := aboutOver below0
def p0 : Program := .bare "" "" ""
def e0 : Env := launch0.env 0 0 0
theorem w_frames : about1.frames = Frame.invoking theMethod args0 :: below0 := rfl
set_option maxRecDepth 65536 in
theorem w_args : argsFit about1.vm theMethod args0 = true := by decide +kernel
set_option maxRecDepth 65536 in
theorem w_heap : heapFits about1 = true := by decide +kernel
set_option maxRecDepth 65536 in
theorem w_runnable : about1.curStatus? = some .runnable := by decide +kernel
set_option maxRecDepth 65536 in
theorem w_alone : about1.alone = true := by decide +kernel
set_option maxRecDepth 65536 in
theorem w_named : about1.methodNamed? x = some theMethod := by decide +kernel
set_option maxRecDepth 65536 in
theorem w_hears : about1.hears theMethod below0 = true := by decide +kernel
set_option maxRecDepth 65536 in
theorem w_ripe : about1.ripe theMethod args0 below0 = true := by decide +kernel
theorem w_running : about1.status = .running := rfl
set_option maxRecDepth 65536 in
theorem w_room : about1.hasRoom e0.platform room_1 = true :=
  launch0.hasRoom_least _ room_1 (by decide +kernel) (by decide +kernel) (by decide +kernel) (by decide +kernel) (by decide +kernel) (by decide +kernel)
theorem allAtoms_all (ts : List Jvm.Cond) (a : Array Jvm.Value) (st : Jvm.State) : (allAtoms ts).before a st = ts.all (fun c => c.before a st) := by
  induction ts with
  | nil => rfl
  | cons c t ih =>
    show (Jvm.Cond.and c (allAtoms t)).before a st = _
    rw [Jvm.Cond.before_and, ih, List.all_cons]
def words1 : List Jvm.Cond := Jvm.Cond.code x code maxLocals ret :: tables_1
/-- a 'code' word, met by the world's own term for the bytes: nothing is compared byte by byte -/
theorem code_word {y : MethodName} {bytes : ByteArray} {mx : Nat} {rt : Option FieldType} {a : Array Value} {s : State} {m : MethodId} {meth : Method} {c : Code} (h1 : s.methodNamed? y = some m) (h2 : s.vm.method? m = some meth) (h3 : meth.code = some c) (h4 : c.code = bytes)
    (h5 : (c.maxLocals == mx && c.exceptionTable.isEmpty && decide (c.maxStack ≤ mostOperands) && decide (meth.sig.returnType = rt) && !meth.locks && decide (parseMethodDescriptor y.desc = some meth.sig)) = true) : (Jvm.Cond.code y bytes mx rt).before a s = true := by
  simp only [Bool.and_eq_true, beq_iff_eq, Bool.not_eq_true', decide_eq_true_eq] at h5
  obtain ⟨⟨⟨⟨⟨g1, g2⟩, g3⟩, g4⟩, g5⟩, g6⟩ := h5
  simp [Cond.before, Cond.holds, Cond.value, h1, h2, h3, h4, g1, g2, g3, g4, g5, g6]
def isCode : Jvm.Cond → Bool
  | .code _ _ _ _ => true
  | _ => false
theorem all_split {L : List Jvm.Cond} {P : Jvm.Cond → Bool} (h1 : L.all (fun c => isCode c || P c) = true) (h2 : ∀ c ∈ L.filter isCode, P c = true) : L.all P = true := by
  refine List.all_eq_true.mpr fun c hc => ?_
  have h := List.all_eq_true.mp h1 c hc
  rcases Bool.eq_false_or_eq_true (isCode c) with hi | hi
  · exact h2 c (List.mem_filter.mpr ⟨hc, hi⟩)
  · simpa [hi] using h
set_option maxRecDepth 65536 in
theorem w_c0 : (Jvm.Cond.code x code maxLocals ret).before args0 about1 = true := code_word (m := ⟨1, 1⟩) (meth := k1m1) (c := k1c1) (by decide +kernel) rfl rfl rfl (by decide +kernel)
set_option maxRecDepth 65536 in
theorem w_c1 : (Jvm.Cond.code ({ cls := "com/example/vole/vole/textprotocol/RequestLineReleasePinLaw", name := "line", desc := "(II)[B" } : Jvm.MethodName) method_3_code (3 : Nat) (Option.some (Jvm.ClassFile.FieldType.array Jvm.ClassFile.FieldType.byte))).before args0 about1 = true := code_word (m := ⟨1, 2⟩) (meth := k1m2) (c := k1c2) (by decide +kernel) rfl rfl rfl (by decide +kernel)
set_option maxRecDepth 65536 in
theorem w_c2 : (Jvm.Cond.code ({ cls := "com/example/vole/vole/textprotocol/RequestLineReleasePinLaw", name := "pick", desc := "(III)B" } : Jvm.MethodName) method_4_code (3 : Nat) (Option.some Jvm.ClassFile.FieldType.byte)).before args0 about1 = true := code_word (m := ⟨1, 3⟩) (meth := k1m3) (c := k1c3) (by decide +kernel) rfl rfl rfl (by decide +kernel)
set_option maxRecDepth 65536 in
theorem w_c3 : (Jvm.Cond.code ({ cls := "com/example/vole/vole/textprotocol/RequestLine", name := "<init>", desc := "()V" } : Jvm.MethodName) prog_27_method_1_code (1 : Nat) (Option.none : Option Jvm.ClassFile.FieldType)).before args0 about1 = true := code_word (m := ⟨2, 0⟩) (meth := k2m0) (c := k2c0) (by decide +kernel) rfl rfl rfl (by decide +kernel)
set_option maxRecDepth 65536 in
theorem w_c4 : (Jvm.Cond.code ({ cls := "java/lang/Object", name := "<init>", desc := "()V" } : Jvm.MethodName) object_method_1_code (1 : Nat) (Option.none : Option Jvm.ClassFile.FieldType)).before args0 about1 = true := code_word (m := ⟨0, 0⟩) (meth := k0m0) (c := k0c0) (by decide +kernel) rfl rfl rfl (by decide +kernel)
set_option maxRecDepth 65536 in
theorem w_c5 : (Jvm.Cond.code ({ cls := "com/example/vole/vole/textprotocol/RequestLine", name := "split", desc := "([BII)V" } : Jvm.MethodName) prog_27_method_2_code (6 : Nat) (Option.none : Option Jvm.ClassFile.FieldType)).before args0 about1 = true := code_word (m := ⟨2, 1⟩) (meth := k2m1) (c := k2c1) (by decide +kernel) rfl rfl rfl (by decide +kernel)
set_option maxRecDepth 65536 in
theorem w_c6 : (Jvm.Cond.code ({ cls := "com/example/vole/vole/textprotocol/RequestLine", name := "add", desc := "(II)V" } : Jvm.MethodName) prog_27_method_3_code (3 : Nat) (Option.none : Option Jvm.ClassFile.FieldType)).before args0 about1 = true := code_word (m := ⟨2, 2⟩) (meth := k2m2) (c := k2c2) (by decide +kernel) rfl rfl rfl (by decide +kernel)
set_option maxRecDepth 65536 in
theorem w_c7 : (Jvm.Cond.code ({ cls := "com/example/vole/vole/textprotocol/RequestLine", name := "release", desc := "()V" } : Jvm.MethodName) prog_27_method_5_code (1 : Nat) (Option.none : Option Jvm.ClassFile.FieldType)).before args0 about1 = true := code_word (m := ⟨2, 4⟩) (meth := k2m4) (c := k2c4) (by decide +kernel) rfl rfl rfl (by decide +kernel)
set_option maxRecDepth 65536 in
theorem w_c8 : (Jvm.Cond.code ({ cls := "com/example/vole/vole/textprotocol/RequestLine", name := "count", desc := "()I" } : Jvm.MethodName) prog_27_method_7_code (1 : Nat) (Option.some Jvm.ClassFile.FieldType.int)).before args0 about1 = true := code_word (m := ⟨2, 6⟩) (meth := k2m6) (c := k2c6) (by decide +kernel) rfl rfl rfl (by decide +kernel)
set_option maxRecDepth 65536 in
theorem w_c9 : (Jvm.Cond.code ({ cls := "com/example/vole/vole/textprotocol/RequestLine", name := "copiedLength", desc := "()I" } : Jvm.MethodName) prog_27_method_6_code (1 : Nat) (Option.some Jvm.ClassFile.FieldType.int)).before args0 about1 = true := code_word (m := ⟨2, 5⟩) (meth := k2m5) (c := k2c5) (by decide +kernel) rfl rfl rfl (by decide +kernel)
set_option maxRecDepth 65536 in
theorem w_c10 : (Jvm.Cond.code ({ cls := "com/example/vole/vole/textprotocol/RequestLineReleasePinLaw", name := "tokens", desc := "([B)I" } : Jvm.MethodName) method_5_code (2 : Nat) (Option.some Jvm.ClassFile.FieldType.int)).before args0 about1 = true := code_word (m := ⟨1, 4⟩) (meth := k1m4) (c := k1c4) (by decide +kernel) rfl rfl rfl (by decide +kernel)
set_option maxRecDepth 65536 in
theorem w_c11 : (Jvm.Cond.code ({ cls := "com/example/vole/vole/textprotocol/RequestLine", name := "detach", desc := "()V" } : Jvm.MethodName) prog_27_method_4_code (3 : Nat) (Option.none : Option Jvm.ClassFile.FieldType)).before args0 about1 = true := code_word (m := ⟨2, 3⟩) (meth := k2m3) (c := k2c3) (by decide +kernel) rfl rfl rfl (by decide +kernel)
set_option maxRecDepth 65536 in
theorem w_c12 : (Jvm.Cond.code ({ cls := "java/util/Arrays", name := "copyOfRange", desc := "([BII)[B" } : Jvm.MethodName) jdk_65_method_132_code (3 : Nat) (Option.some (Jvm.ClassFile.FieldType.array Jvm.ClassFile.FieldType.byte))).before args0 about1 = true := code_word (m := ⟨3, 2⟩) (meth := k3m2) (c := k3c2) (by decide +kernel) rfl rfl rfl (by decide +kernel)
set_option maxRecDepth 65536 in
theorem w_c13 : (Jvm.Cond.code ({ cls := "java/util/Arrays", name := "copyOfRangeByte", desc := "([BII)[B" } : Jvm.MethodName) jdk_65_method_133_code (5 : Nat) (Option.some (Jvm.ClassFile.FieldType.array Jvm.ClassFile.FieldType.byte))).before args0 about1 = true := code_word (m := ⟨3, 3⟩) (meth := k3m3) (c := k3c3) (by decide +kernel) rfl rfl rfl (by decide +kernel)
set_option maxRecDepth 65536 in
theorem w_c14 : (Jvm.Cond.code ({ cls := "java/util/Arrays", name := "checkLength", desc := "(II)V" } : Jvm.MethodName) jdk_65_method_131_code (2 : Nat) (Option.none : Option Jvm.ClassFile.FieldType)).before args0 about1 = true := code_word (m := ⟨3, 1⟩) (meth := k3m1) (c := k3c1) (by decide +kernel) rfl rfl rfl (by decide +kernel)
set_option maxRecDepth 65536 in
theorem w_c15 : (Jvm.Cond.code ({ cls := "java/lang/Math", name := "min", desc := "(II)I" } : Jvm.MethodName) jdk_29_method_69_code (2 : Nat) (Option.some Jvm.ClassFile.FieldType.int)).before args0 about1 = true := code_word (m := ⟨4, 1⟩) (meth := k4m1) (c := k4c1) (by decide +kernel) rfl rfl rfl (by decide +kernel)
def codes1 : List Jvm.Cond := [Jvm.Cond.code x code maxLocals ret, Jvm.Cond.code ({ cls := "com/example/vole/vole/textprotocol/RequestLineReleasePinLaw", name := "line", desc := "(II)[B" } : Jvm.MethodName) method_3_code (3 : Nat) (Option.some (Jvm.ClassFile.FieldType.array Jvm.ClassFile.FieldType.byte)), Jvm.Cond.code ({ cls := "com/example/vole/vole/textprotocol/RequestLineReleasePinLaw", name := "pick", desc := "(III)B" } : Jvm.MethodName) method_4_code (3 : Nat) (Option.some Jvm.ClassFile.FieldType.byte), Jvm.Cond.code ({ cls := "com/example/vole/vole/textprotocol/RequestLine", name := "<init>", desc := "()V" } : Jvm.MethodName) prog_27_method_1_code (1 : Nat) (Option.none : Option Jvm.ClassFile.FieldType), Jvm.Cond.code ({ cls := "java/lang/Object", name := "<init>", desc := "()V" } : Jvm.MethodName) object_method_1_code (1 : Nat) (Option.none : Option Jvm.ClassFile.FieldType), Jvm.Cond.code ({ cls := "com/example/vole/vole/textprotocol/RequestLine", name := "split", desc := "([BII)V" } : Jvm.MethodName) prog_27_method_2_code (6 : Nat) (Option.none : Option Jvm.ClassFile.FieldType), Jvm.Cond.code ({ cls := "com/example/vole/vole/textprotocol/RequestLine", name := "add", desc := "(II)V" } : Jvm.MethodName) prog_27_method_3_code (3 : Nat) (Option.none : Option Jvm.ClassFile.FieldType), Jvm.Cond.code ({ cls := "com/example/vole/vole/textprotocol/RequestLine", name := "release", desc := "()V" } : Jvm.MethodName) prog_27_method_5_code (1 : Nat) (Option.none : Option Jvm.ClassFile.FieldType), Jvm.Cond.code ({ cls := "com/example/vole/vole/textprotocol/RequestLine", name := "count", desc := "()I" } : Jvm.MethodName) prog_27_method_7_code (1 : Nat) (Option.some Jvm.ClassFile.FieldType.int), Jvm.Cond.code ({ cls := "com/example/vole/vole/textprotocol/RequestLine", name := "copiedLength", desc := "()I" } : Jvm.MethodName) prog_27_method_6_code (1 : Nat) (Option.some Jvm.ClassFile.FieldType.int), Jvm.Cond.code ({ cls := "com/example/vole/vole/textprotocol/RequestLineReleasePinLaw", name := "tokens", desc := "([B)I" } : Jvm.MethodName) method_5_code (2 : Nat) (Option.some Jvm.ClassFile.FieldType.int), Jvm.Cond.code ({ cls := "com/example/vole/vole/textprotocol/RequestLine", name := "detach", desc := "()V" } : Jvm.MethodName) prog_27_method_4_code (3 : Nat) (Option.none : Option Jvm.ClassFile.FieldType), Jvm.Cond.code ({ cls := "java/util/Arrays", name := "copyOfRange", desc := "([BII)[B" } : Jvm.MethodName) jdk_65_method_132_code (3 : Nat) (Option.some (Jvm.ClassFile.FieldType.array Jvm.ClassFile.FieldType.byte)), Jvm.Cond.code ({ cls := "java/util/Arrays", name := "copyOfRangeByte", desc := "([BII)[B" } : Jvm.MethodName) jdk_65_method_133_code (5 : Nat) (Option.some (Jvm.ClassFile.FieldType.array Jvm.ClassFile.FieldType.byte)), Jvm.Cond.code ({ cls := "java/util/Arrays", name := "checkLength", desc := "(II)V" } : Jvm.MethodName) jdk_65_method_131_code (2 : Nat) (Option.none : Option Jvm.ClassFile.FieldType), Jvm.Cond.code ({ cls := "java/lang/Math", name := "min", desc := "(II)I" } : Jvm.MethodName) jdk_29_method_69_code (2 : Nat) (Option.some Jvm.ClassFile.FieldType.int)]
set_option maxRecDepth 65536 in
theorem codes_eq : words1.filter isCode = codes1 := rfl
theorem w_codes : ∀ c ∈ words1.filter isCode, c.before args0 about1 = true := by
  rw [codes_eq]
  intro c hc
  simp only [codes1, List.mem_cons, List.not_mem_nil, or_false] at hc
  rcases hc with rfl | rfl | rfl | rfl | rfl | rfl | rfl | rfl | rfl | rfl | rfl | rfl | rfl | rfl | rfl | rfl
  · exact w_c0
  · exact w_c1
  · exact w_c2
  · exact w_c3
  · exact w_c4
  · exact w_c5
  · exact w_c6
  · exact w_c7
  · exact w_c8
  · exact w_c9
  · exact w_c10
  · exact w_c11
  · exact w_c12
  · exact w_c13
  · exact w_c14
  · exact w_c15
set_option maxRecDepth 65536 in
theorem w_t1 : (words1.take 24).all (fun c => isCode c || c.before args0 about1) = true := by decide +kernel
set_option maxRecDepth 65536 in
theorem w_t2 : ((words1.drop 24).take 24).all (fun c => isCode c || c.before args0 about1) = true := by decide +kernel
set_option maxRecDepth 65536 in
theorem w_t3 : (((words1.drop 24).drop 24).take 24).all (fun c => isCode c || c.before args0 about1) = true := by decide +kernel
set_option maxRecDepth 65536 in
theorem w_t4 : (((words1.drop 24).drop 24).drop 24).all (fun c => isCode c || c.before args0 about1) = true := by decide +kernel
theorem w_tables : (allAtoms (Jvm.Cond.code x code maxLocals ret :: tables_1)).before args0 about1 = true := by
  rw [allAtoms_all]
  show words1.all (fun c => c.before args0 about1) = true
  refine all_split ?_ w_codes
  rw [← List.take_append_drop 24 words1, List.all_append, w_t1, ← List.take_append_drop 24 (words1.drop 24), List.all_append, w_t2, ← List.take_append_drop 24 ((words1.drop 24).drop 24), List.all_append, w_t3, w_t4]
  rfl
set_option maxRecDepth 65536 in
theorem w_case : (Jvm.Cond.and given_1 narrow_1).before args0 about1 = true := by decide +kernel
theorem w_applies : (headSpec (Jvm.Cond.code x code maxLocals ret :: tables_1) room_1).applies x e0.platform about1 = true :=
  (Spec.applies_iff w_frames).mpr ⟨w_running, w_runnable, w_alone, w_named, w_hears, w_ripe, w_room, w_tables⟩
theorem atStart : AtStart classFile x code maxLocals ret World_1 tables_1 room_1 Calls_1 rest_1 Pre_1 launch0 p0 e0 about1 theMethod args0 below0 :=
  ⟨lists_1, trivial, launch0.admits_env _ _ _, launch0.least_env, fairChoices_fair.cas, fairChoices_fair.clock, w_frames, w_args, w_heap, w_applies, trivial, trivial, w_case⟩
end start1
theorem witness_1 : WitnessClaimed_1 := ⟨start1.p0, start1.e0, start1.about1, start1.theMethod, start1.args0, start1.below0, start1.atStart⟩
end Jvm.Pilot.@@N@@
