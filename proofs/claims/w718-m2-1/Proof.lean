import JvmDerived
import JvmDerived.Pilot.@@N@@Statement
import JvmDerived.Pilot.@@N@@Code
set_option linter.unusedVariables false
set_option linter.unusedSimpArgs false

namespace Jvm.Own
open Jvm Jvm.ClassFile Sem Op Lib Jvm.Free Jvm.Stand Jvm.LawKit Jvm.RoadKit
/-! the heap as a law knows it: its own objects (address, class, fields) and arrays (address, kind, values) -/
abbrev OFld := String × String × String × Value
abbrev OObj := Addr × String × List OFld
abbrev OArr := Addr × FieldType × List Value
abbrev HD := List OObj × List OArr
def FldOk (Z : State) (a0 : Array Value) (h : Heap) (a : Addr) (C : String) (x : OFld) : Prop := Fld Z h a x.1 x.2.1 x.2.2.1 x.2.2.2 ∧ Laid Z a0 C x.1 x.2.1 x.2.2.1 ∧ ∃ t, parseFieldDescriptor x.2.2.1 = some t
def ObjOk (Z : State) (a0 : Array Value) (n0 : Nat) (h : Heap) (o : OObj) : Prop := n0 ≤ o.1 ∧ Exa Z h o.1 o.2.1 ∧ (∀ x ∈ o.2.2, FldOk Z a0 h o.1 o.2.1 x) ∧ (o.2.2.map fun x => x.2.1).Nodup
def ArrOk (Z : State) (n0 : Nat) (h : Heap) (r : OArr) : Prop := (n0 ≤ r.1 ∧ Exa Z h r.1 ("[" ++ r.2.1.toString)) ∧ ∃ c : Cell, Arr Z h r.1 c r.2.1 ∧ c.slots = r.2.2.toArray ∧ r.2.2.length < 2 ^ 31 ∧ ∀ v ∈ r.2.2, fits r.2.1 v = true
def adrs (D : HD) : List Addr := D.1.map (fun o => o.1) ++ D.2.map (fun r => r.1)
def Heaped (Z : State) (a0 : Array Value) (n0 : Nat) (h : Heap) (D : HD) : Prop := Old Z n0 h ∧ (∀ o ∈ D.1, ObjOk Z a0 n0 h o) ∧ (∀ r ∈ D.2, ArrOk Z n0 h r) ∧ (adrs D).Nodup
section HeapFacts
variable {Z : State} {a0 : Array Value} {n0 : Nat} {h h' : Heap} {D : HD}
theorem FldOk.ext {a : Addr} {C : String} {x : OFld} (F : FldOk Z a0 h a C x) (E : Ext h h') : FldOk Z a0 h' a C x := ⟨F.1.ext E, F.2⟩
theorem ObjOk.ext {o : OObj} (F : ObjOk Z a0 n0 h o) (E : Ext h h') : ObjOk Z a0 n0 h' o := ⟨F.1, F.2.1.ext E, fun x hx => (F.2.2.1 x hx).ext E, F.2.2.2⟩
theorem ArrOk.ext {r : OArr} (F : ArrOk Z n0 h r) (E : Ext h h') : ArrOk Z n0 h' r := by
  obtain ⟨g, c, A, q⟩ := F
  exact ⟨⟨g.1, g.2.ext E⟩, c, A.ext E, q⟩
theorem ObjOk.lt {o : OObj} (F : ObjOk Z a0 n0 h o) : o.1 < h.size := F.2.1.lt
theorem ArrOk.lt {r : OArr} (F : ArrOk Z n0 h r) : r.1 < h.size := by
  obtain ⟨g, c, A, q⟩ := F
  exact A.lt
theorem Heaped.lt (H : Heaped Z a0 n0 h D) : ∀ a ∈ adrs D, a < h.size := by
  intro a ha
  rcases List.mem_append.mp ha with q | q
  · obtain ⟨o, ho, rfl⟩ := List.mem_map.mp q
    exact (H.2.1 o ho).lt
  · obtain ⟨o, ho, rfl⟩ := List.mem_map.mp q
    exact (H.2.2.1 o ho).lt
theorem Heaped.fresh (H : Heaped Z a0 n0 h D) : h.size ∉ adrs D := fun q => Nat.lt_irrefl _ (H.lt _ q)
theorem Heaped.base (H : Heaped Z a0 n0 h D) : n0 ≤ h.size := by
  have := H.1.1
  have := H.1.2.1
  omega
theorem ObjOk.other {o : OObj} {a : Addr} {sl : Nat} {v : Value} (F : ObjOk Z a0 n0 h o) (W : Wr h h' a sl v) (q : o.1 ≠ a) : ObjOk Z a0 n0 h' o := ⟨F.1, F.2.1.wr W, fun x hx => ⟨(F.2.2.1 x hx).1.other W (Or.inl q), (F.2.2.1 x hx).2⟩, F.2.2.2⟩
theorem ArrOk.other {r : OArr} {a : Addr} {sl : Nat} {v : Value} (F : ArrOk Z n0 h r) (W : Wr h h' a sl v) (q : r.1 ≠ a) : ArrOk Z n0 h' r := by
  obtain ⟨g, c, A, z⟩ := F
  exact ⟨⟨g.1, g.2.wr W⟩, c, A.other W q, z⟩
theorem nodup_of {β γ : Type} {L : List β} {f : β → γ} (N : (L.map f).Nodup) {i j : Nat} {x z : β} (hi : L[i]? = some x) (hj : L[j]? = some z) (e : f x = f z) : i = j := by
  have P := List.pairwise_iff_getElem.mp N
  obtain ⟨li, ei⟩ := List.getElem?_eq_some_iff.mp hi
  obtain ⟨lj, ej⟩ := List.getElem?_eq_some_iff.mp hj
  rcases Nat.lt_trichotomy i j with q | q | q
  · exact absurd (by rw [List.getElem_map, List.getElem_map, ei, ej]; exact e) (P i j (by simpa using li) (by simpa using lj) q)
  · exact q
  · exact absurd (by rw [List.getElem_map, List.getElem_map, ei, ej]; exact e.symm) (P j i (by simpa using lj) (by simpa using li) q)
theorem map_set_same {β γ : Type} (L : List β) (f : β → γ) {i : Nat} {x z : β} (hi : L[i]? = some x) (e : f z = f x) : (L.set i z).map f = L.map f := by
  rw [List.map_set, e]
  obtain ⟨li, rfl⟩ := List.getElem?_eq_some_iff.mp hi
  apply List.ext_getElem?
  intro j
  by_cases q : i = j
  · subst q; simp [li]
  · simp [List.getElem?_set, q]
theorem mem_set_cases {β : Type} {L : List β} {i : Nat} {z w : β} (hw : w ∈ L.set i z) : w = z ∨ ∃ j, j ≠ i ∧ L[j]? = some w := by
  obtain ⟨j, hj⟩ := List.mem_iff_getElem?.mp hw
  rw [List.getElem?_set] at hj
  by_cases q : i = j
  · subst q
    by_cases lt : i < L.length
    · simp [lt] at hj; exact Or.inl hj.symm
    · simp [lt] at hj
  · rw [if_neg q] at hj
    exact Or.inr ⟨j, fun e => q e.symm, hj⟩
theorem Heaped.put {i j : Nat} {a : Addr} {C O n d : String} {fs : List OFld} {v w : Value} (H : Heaped Z a0 n0 h D) (hi : D.1[i]? = some (a, C, fs)) (hj : fs[j]? = some (O, n, d, w)) (W : Wr h h' a (RoadKit.slotOf Z O n d) v) :
    Heaped Z a0 n0 h' (D.1.set i (a, C, fs.set j (O, n, d, v)), D.2) := by
  have HO := H.2.1 _ (List.mem_of_getElem? hi)
  have ND := H.2.2.2
  refine ⟨H.1.wr W HO.1, fun o ho => ?_, fun r hr => ?_, ?_⟩
  · rcases mem_set_cases ho with rfl | ⟨k, hk, ek⟩
    · refine ⟨HO.1, HO.2.1.wr W, fun x hx => ?_, ?_⟩
      · rcases mem_set_cases hx with rfl | ⟨q, hq, eq⟩
        · have F := HO.2.2.1 _ (List.mem_of_getElem? hj)
          exact ⟨F.1.same W, F.2⟩
        · have F := HO.2.2.1 _ (List.mem_of_getElem? eq)
          have G := HO.2.2.1 _ (List.mem_of_getElem? hj)
          refine ⟨F.1.other W (Or.inr ?_), F.2⟩
          obtain ⟨t1, e1⟩ := F.2.2
          obtain ⟨t2, e2⟩ := G.2.2
          exact slot_ne F.2.1 G.2.1 (fun e => hq (nodup_of HO.2.2.2 eq hj e)) e1 e2
      · show ((fs.set j (O, n, d, v)).map fun x => x.2.1).Nodup
        rw [map_set_same fs (fun x => x.2.1) (z := (O, n, d, v)) hj rfl]; exact HO.2.2.2
    · refine (H.2.1 o (List.mem_of_getElem? ek)).other W fun e => hk ?_
      exact nodup_of (List.nodup_append.mp ND).1 ek hi e
  · refine (H.2.2.1 r hr).other W fun e => ?_
    exact (List.nodup_append.mp ND).2.2 a (List.mem_map.mpr ⟨_, List.mem_of_getElem? hi, rfl⟩) r.1 (List.mem_map.mpr ⟨_, hr, rfl⟩) e.symm
  · show (adrs (D.1.set i (a, C, fs.set j (O, n, d, v)), D.2)).Nodup
    have q : adrs (D.1.set i (a, C, fs.set j (O, n, d, v)), D.2) = adrs D := congrArg (fun q => q ++ D.2.map (fun r => r.1)) (map_set_same D.1 (fun o => o.1) (z := (a, C, fs.set j (O, n, d, v))) hi rfl)
    rw [q]; exact ND
theorem Heaped.store {i k : Nat} {a : Addr} {ty : FieldType} {vs : List Value} {v : Value} (H : Heaped Z a0 n0 h D) (hi : D.2[i]? = some (a, ty, vs)) (hv : fits ty v = true) (W : Wr h h' a k v) :
    Heaped Z a0 n0 h' (D.1, D.2.set i (a, ty, vs.set k v)) := by
  have HA := H.2.2.1 _ (List.mem_of_getElem? hi)
  have ND := H.2.2.2
  refine ⟨H.1.wr W HA.1.1, fun o ho => ?_, fun r hr => ?_, ?_⟩
  · refine (H.2.1 o ho).other W fun e => ?_
    exact (List.nodup_append.mp ND).2.2 o.1 (List.mem_map.mpr ⟨_, ho, rfl⟩) a (List.mem_map.mpr ⟨_, List.mem_of_getElem? hi, rfl⟩) e
  · rcases mem_set_cases hr with rfl | ⟨q, hq, eq⟩
    · obtain ⟨g, c, A, e1, e2, e3⟩ := HA
      refine ⟨⟨g.1, g.2.wr W⟩, _, A.same W, ?_, ?_, fun w hw => ?_⟩
      · show c.slots.setIfInBounds k v = _
        rw [e1]; simp
      · show (vs.set k v).length < _
        rw [List.length_set]; exact e2
      · rcases List.mem_or_eq_of_mem_set hw with q | q
        · exact e3 w q
        · rw [q]; exact hv
    · refine (H.2.2.1 r (List.mem_of_getElem? eq)).other W fun e => hq ?_
      exact nodup_of (List.nodup_append.mp ND).2.1 eq hi e
  · show (adrs (D.1, D.2.set i (a, ty, vs.set k v))).Nodup
    have q : adrs (D.1, D.2.set i (a, ty, vs.set k v)) = adrs D := congrArg (fun q => D.1.map (fun r => r.1) ++ q) (map_set_same D.2 (fun o => o.1) (z := (a, ty, vs.set k v)) hi rfl)
    rw [q]; exact ND
theorem Old.ext' {n0 : Nat} (X : Old Z n0 h) (E : Ext h h') : Old Z n0 h' := X.ext E
def FieldsOk (Z : State) (a0 : Array Value) (C : String) (fs : List OFld) : Prop := (∀ x ∈ fs, Laid Z a0 C x.1 x.2.1 x.2.2.1 ∧ ∃ ty, parseFieldDescriptor x.2.2.1 = some ty ∧ x.2.2.2 = defaultValue ty) ∧ (fs.map fun x => x.2.1).Nodup
theorem FieldsOk.nil (C : String) : FieldsOk Z a0 C [] := ⟨fun _ h => (nomatch h), List.nodup_nil⟩
theorem FieldsOk.cons {C O n d : String} {v : Value} {fs : List OFld} {ty : FieldType} (L : Laid Z a0 C O n d) (hty : parseFieldDescriptor d = some ty) (hv : v = defaultValue ty) (hn : n ∉ fs.map fun x => x.2.1) (F : FieldsOk Z a0 C fs) : FieldsOk Z a0 C ((O, n, d, v) :: fs) := by
  refine ⟨fun x hx => ?_, ?_⟩
  · rcases List.mem_cons.mp hx with rfl | hx
    · exact ⟨L, ty, hty, hv⟩
    · exact F.1 x hx
  · rw [List.map_cons]; exact List.nodup_cons.mpr ⟨hn, F.2⟩
theorem Heaped.new {C : String} {fs : List OFld} (H : Heaped Z a0 n0 h D) (E : Ext h h') (A : Exa Z h' h.size C) (F : FieldsOk Z a0 C fs)
    (Dv : ∀ {O nm d : String} {ty : FieldType}, Laid Z a0 C O nm d → parseFieldDescriptor d = some ty → Fld Z h' h.size O nm d (defaultValue ty)) : Heaped Z a0 n0 h' ((h.size, C, fs) :: D.1, D.2) := by
  refine ⟨H.1.ext E, fun o ho => ?_, fun r hr => (H.2.2.1 r hr).ext E, ?_⟩
  · rcases List.mem_cons.mp ho with rfl | ho
    · refine ⟨H.base, A, fun x hx => ?_, F.2⟩
      obtain ⟨L, ty, h1, h2⟩ := F.1 x hx
      exact ⟨by rw [h2]; exact Dv L h1, L, ty, h1⟩
    · exact (H.2.1 o ho).ext E
  · exact List.nodup_cons.mpr ⟨H.fresh, H.2.2.2⟩
theorem Heaped.newArr {ty : FieldType} {c : Cell} {vs : List Value} (H : Heaped Z a0 n0 h D) (E : Ext h h') (A : Arr Z h' h.size c ty) (EX : Exa Z h' h.size ("[" ++ ty.toString)) (e1 : c.slots = vs.toArray) (e2 : vs.length < 2 ^ 31) (e3 : ∀ v ∈ vs, fits ty v = true) : Heaped Z a0 n0 h' (D.1, (h.size, ty, vs) :: D.2) := by
  refine ⟨H.1.ext E, fun o ho => (H.2.1 o ho).ext E, fun r hr => ?_, ?_⟩
  · rcases List.mem_cons.mp hr with rfl | hr
    · exact ⟨⟨H.base, EX⟩, c, A, e1, e2, e3⟩
    · exact (H.2.2.1 r hr).ext E
  · have q : (adrs (D.1, (h.size, ty, vs) :: D.2)).Perm (h.size :: adrs D) := by
      unfold adrs; simp only [List.map_cons]; exact List.perm_middle
    exact q.nodup_iff.mpr (List.nodup_cons.mpr ⟨H.fresh, H.2.2.2⟩)
theorem Heaped.perm {D' : HD} (H : Heaped Z a0 n0 h D) (q1 : D'.1.Perm D.1) (q2 : D'.2.Perm D.2) : Heaped Z a0 n0 h D' := by
  refine ⟨H.1, fun o ho => H.2.1 o (q1.mem_iff.mp ho), fun o ho => H.2.2.1 o (q2.mem_iff.mp ho), ?_⟩
  exact ((q1.map _).append (q2.map _)).nodup_iff.mpr H.2.2.2
theorem ObjOk.keep {o : OObj} {ws : List Addr} (F : ObjOk Z a0 n0 h o) (K : Keep h h' ws) (q : o.1 ∉ ws) : ObjOk Z a0 n0 h' o := ⟨F.1, F.2.1.keep K, fun x hx => ⟨(F.2.2.1 x hx).1.keep K q, (F.2.2.1 x hx).2⟩, F.2.2.2⟩
theorem ArrOk.keep {r : OArr} {ws : List Addr} (F : ArrOk Z n0 h r) (K : Keep h h' ws) (q : r.1 ∉ ws) : ArrOk Z n0 h' r := by
  obtain ⟨g, c, A, z⟩ := F
  exact ⟨⟨g.1, g.2.keep K⟩, c, ⟨K.2.1 _ c A.1 q, A.2⟩, z⟩
theorem Heaped.swap {j : Nat} {b : Addr} {ty : FieldType} {vd vd' : List Value} (H : Heaped Z a0 n0 h D) (hj : D.2[j]? = some (b, ty, vd)) (K : Keep h h' [b]) (A : ArrOk Z n0 h' (b, ty, vd')) : Heaped Z a0 n0 h' (D.1, D.2.set j (b, ty, vd')) := by
  have ND := H.2.2.2
  have HB := H.2.2.1 _ (List.mem_of_getElem? hj)
  refine ⟨H.1.keep K (allS HB.1.1 all0), fun o ho => ?_, fun r hr => ?_, ?_⟩
  · refine (H.2.1 o ho).keep K (ninS (fun e => ?_) nin0)
    exact (List.nodup_append.mp ND).2.2 o.1 (List.mem_map.mpr ⟨_, ho, rfl⟩) b (List.mem_map.mpr ⟨_, List.mem_of_getElem? hj, rfl⟩) e
  · rcases mem_set_cases hr with rfl | ⟨q, hq, eq⟩
    · exact A
    · refine (H.2.2.1 r (List.mem_of_getElem? eq)).keep K (ninS (fun e => hq ?_) nin0)
      exact nodup_of (List.nodup_append.mp ND).2.1 eq hj e
  · have q : adrs (D.1, D.2.set j (b, ty, vd')) = adrs D := congrArg (fun q => D.1.map (fun r => r.1) ++ q) (map_set_same D.2 (fun o => o.1) (z := (b, ty, vd')) hj rfl)
    rw [q]; exact ND
theorem arv_of {r : OArr} {d : Value} (F : ArrOk Z n0 h r) : ∃ k, Arv Z h r.1 k r.2.1 (Int32.ofNat r.2.2.length) r.2.2 d := by
  obtain ⟨-, c, A, e1, e2, e3⟩ := F
  have q : (Int32.ofNat r.2.2.length).toInt = r.2.2.length := Int32.toInt_ofNat_small (by omega)
  have z : (0 : Int32).toInt = 0 := by decide
  have sz : c.slots.size = r.2.2.length := by rw [e1]; simp
  refine ⟨c.cls, c, A, rfl, ?_, ?_, fun k hk => ?_, fun k hk => ?_⟩
  · rw [sz]; show _ = (Int32.ofNat r.2.2.length).toInt.toNat; omega
  · rw [Int32.lt_iff_toInt_lt]; omega
  · rw [e1]; rw [sz] at hk; simp [List.getD_eq_getElem?_getD, hk]
  · rw [sz] at hk
    have m : r.2.2.getD k d ∈ r.2.2 := by simp [List.getD_eq_getElem?_getD, hk]
    exact e3 _ m
theorem of_arv {b : Addr} {ty : FieldType} {k : ClassId} {z : Int32} {vs : List Value} {d : Value} (V : Arv Z h b k ty z vs d) (g : n0 ≤ b) (E : Exa Z h b ("[" ++ ty.toString)) (hl : vs.length = z.toNatClampNeg) : ArrOk Z n0 h (b, ty, vs) := by
  obtain ⟨c, A, -, S, Nz, Hh, G⟩ := V
  have lt : vs.length < 2 ^ 31 := by rw [hl]; exact (back32 Nz).2
  refine ⟨⟨g, E⟩, c, A, ?_, lt, fun v hv => ?_⟩
  · apply Array.ext_getElem?
    intro i
    by_cases hi : i < c.slots.size
    · rw [Hh i hi]
      have hi' : i < vs.length := by omega
      simp [List.getD_eq_getElem?_getD, hi']
    · have hi' : ¬ i < vs.length := by omega
      rw [Array.getElem?_eq_none (xs := c.slots) (by omega)]
      have q : vs.length ≤ i := by omega
      simp [q]
  · obtain ⟨i, hi, rfl⟩ := List.getElem_of_mem hv
    have hi2 : i < vs.length := hi
    have q := G i (by omega)
    simpa [List.getD_eq_getElem?_getD, hi] using q
theorem range_map {vs : List Value} {d : Value} {s n : Nat} (h : s + n ≤ vs.length) : ((List.range n).map fun i => vs.getD (s + i) d) = (vs.drop s).take n := by
  apply List.ext_getElem?
  intro i
  by_cases hi : i < n
  · have : s + i < vs.length := by omega
    simp [hi, List.getD_eq_getElem?_getD, this]
  · simp [hi]; omega
def bringL {β : Type} (i : Nat) (L : List β) : List β := match L[i]? with
  | some x => x :: (L.take i ++ L.drop (i + 1))
  | none => L
theorem bringL_perm {β : Type} (i : Nat) (L : List β) : (bringL i L).Perm L := by
  unfold bringL
  split
  · rename_i x hx
    obtain ⟨li, rfl⟩ := List.getElem?_eq_some_iff.mp hx
    have q : L = L.take i ++ L[i] :: L.drop (i + 1) := by rw [← List.drop_eq_getElem_cons li, List.take_append_drop]
    have p := (List.perm_middle (a := L[i]) (l₁ := L.take i) (l₂ := L.drop (i + 1))).symm
    rw [← q] at p
    exact p
  · exact List.Perm.refl _
end HeapFacts
/-! a contract, and a run from a point of a body to its end -/
def Con (l : Launch) (Z : State) (a0 : Array Value) (n0 : Nat) (ws : List Jvm.Cond) (y : MethodName) (bytes : ByteArray) (maxL : Nat) (ret : Option FieldType) (rm : Room) (as' : Array Value) (D : HD) (Ψ : Option Value → HD → Prop) : Prop :=
  ∀ h, Heaped Z a0 n0 h D → MetFree l y (head1 (Jvm.Cond.code y bytes maxL ret :: ws) rm) (fun a U => a = as' ∧ Z.Warmed39 U.vm ∧ U.heap = h) (fun _ _ _ _ _ => True) (fun _ U o U' => ∃ v L, o = .returned v ∧ (Fr n0 L ∧ ∃ D', Ψ v D' ∧ Heaped Z a0 n0 U'.heap D') ∧ FrameEnd U o U' L rm.cells rm.slots)
def Run (Z : State) (a0 : Array Value) (n0 : Nat) (p : Program) (l : Launch) (e : Env) (R : Room) (s : State) (m : MethodId) (args : Array Value) (below : List Frame) (meth : Method) (c : Code) (Ψ : Option Value → HD → Prop) (D : HD) (cells slots pc : Nat) (L : Array Slot) (S : List Value) : Prop :=
  ∀ (T : State) (locs : List Loc), Stand p l e R s m args below meth c T locs cells slots → Fr n0 locs → Heaped Z a0 n0 T.heap D →
    ∃ t o, Steps p.tables e below (T.setTop (mkF m pc L S)) t ∧ t.status = .running ∧ Ended t below o ∧ ∃ v L', o = .returned v ∧ (Fr n0 L' ∧ ∃ D', Ψ v D' ∧ Heaped Z a0 n0 t.heap D') ∧ FrameEnd s o t L' R.cells R.slots
def Ctx (Z : State) (y : MethodName) (bytes : ByteArray) (maxL : Nat) (ret : Option FieldType) (p : Program) (s : State) (m : MethodId) (meth : Method) (c : Code) : Prop :=
  p.tables.exec = Jvm.exec ∧ Z.Warmed39 s.vm ∧ c.code = bytes ∧ c.maxLocals = maxL ∧ s.vm.findClass y.cls = some m.cls ∧ meth.name = y.name ∧ meth.sig.returnType = ret ∧ meth.locks = false
def Ret (v : Option Value) (D : HD) (w : Option Value) (E : HD) : Prop := w = v ∧ E = D
theorem Con.of_run {l : Launch} {Z : State} {a0 : Array Value} {n0 : Nat} {ws : List Jvm.Cond} {y : MethodName} {bytes : ByteArray} {maxL : Nat} {ret : Option FieldType} {rm : Room} {as' : Array Value} {D : HD} {Ψ : Option Value → HD → Prop} (hp : plainFor y = true) {L0 : Array Slot} (hL : ∀ m, entryFrame m as' maxL = mkF m 0 L0 [])
    (B : ∀ p e s m below meth c, Ctx Z y bytes maxL ret p s m meth c → Run Z a0 n0 p l e rm s m as' below meth c Ψ D 0 0 0 L0 []) : Con l Z a0 n0 ws y bytes maxL ret rm as' D Ψ := by
  intro h H
  refine MetFree.of_bodySF hp hisR ?_
  intro p e s m args below meth c s₁ Bd hml0 hP hK
  obtain ⟨rfl, hZ, hh⟩ := hP
  have e0 : s₁.heap = h := by rw [← hh, Bd.state]; rfl
  have X0 : Stand p l e rm s m args below meth c s₁ [] 0 0 := Stand.of_body Bd
  obtain ⟨t, o, st, r⟩ := B p e s m below meth c ⟨Bd.exec, hZ, Bd.bytes, hml0, findClass_of_methodNamed Bd.named, (name_of_methodNamed Bd.named Bd.method).1, Bd.returns, Bd.notSynchronized⟩ s₁ [] X0 (Fr.nil n0) (by rw [e0]; exact H)
  exact ⟨t, o, castTop (hL m) st, r⟩
def rel (cd : ClassFile.Cond) (x y : Int32) : Prop := match cd with
  | .eq => x = y
  | .ne => x ≠ y
  | .lt => x < y
  | .ge => y ≤ x
  | .gt => y < x
  | .le => x ≤ y
def relL (cd : ClassFile.Cond) (x y : Int64) : Prop := match cd with
  | .eq => x = y
  | .ne => x ≠ y
  | .lt => x < y
  | .ge => y ≤ x
  | .gt => y < x
  | .le => x ≤ y
theorem rel_iff (cd : ClassFile.Cond) (x y : Int32) : if_icmp.holds cd x y = true ↔ rel cd x y := by
  cases cd
  · show _ ↔ x = y
    by_cases q : x = y
    · rw [(teq q).1]; exact ⟨fun _ => q, fun _ => rfl⟩
    · rw [(feq q).1]; exact ⟨fun h => (Bool.noConfusion h), fun h => absurd h q⟩
  · show _ ↔ x ≠ y
    by_cases q : x = y
    · rw [(teq q).2]; exact ⟨fun h => (Bool.noConfusion h), fun h => absurd q h⟩
    · rw [(feq q).2]; exact ⟨fun _ => q, fun _ => rfl⟩
  · show _ ↔ x < y
    by_cases q : x < y
    · rw [(tlt q).1]; exact ⟨fun _ => q, fun _ => rfl⟩
    · rw [(flt q).1]; exact ⟨fun h => (Bool.noConfusion h), fun h => absurd h q⟩
  · show _ ↔ y ≤ x
    by_cases q : x < y
    · rw [(tlt q).2.1]; exact ⟨fun h => (Bool.noConfusion h), fun h => absurd q (Int32.not_lt.mpr h)⟩
    · rw [(flt q).2.1]; exact ⟨fun _ => Int32.not_lt.mp q, fun _ => rfl⟩
  · show _ ↔ y < x
    by_cases q : y < x
    · rw [(tlt q).2.2.1]; exact ⟨fun _ => q, fun _ => rfl⟩
    · rw [(flt q).2.2.1]; exact ⟨fun h => (Bool.noConfusion h), fun h => absurd h q⟩
  · show _ ↔ x ≤ y
    by_cases q : y < x
    · rw [(tlt q).2.2.2]; exact ⟨fun h => (Bool.noConfusion h), fun h => absurd q (Int32.not_lt.mpr h)⟩
    · rw [(flt q).2.2.2]; exact ⟨fun _ => Int32.not_lt.mp q, fun _ => rfl⟩
theorem relL_iff (cd : ClassFile.Cond) (x y : Int64) : if_icmp.holds cd (lcmpW x y) 0 = true ↔ relL cd x y := by
  rw [rel_iff, lcW]
  cases cd
  · exact lc_eq x y
  · exact not_congr (lc_eq x y)
  · exact lc_lt x y
  · exact lc_ge x y
  · exact lc_gt x y
  · exact lc_le x y
section Runs
variable {Z : State} {a0 : Array Value} {n0 : Nat} {p : Program} {l : Launch} {e : Env} {R : Room} {s : State} {m : MethodId} {args : Array Value} {below : List Frame} {meth : Method} {c : Code} {Ψ : Option Value → HD → Prop} {D : HD} {cells slots pc : Nat} {L : Array Slot} {S : List Value} {y : MethodName} {bytes : ByteArray} {maxL : Nat} {ret : Option FieldType}

theorem Run.iconst (K : Ctx Z y bytes maxL ret p s m meth c) {i : Int} {v : Int32} {pc' : Nat} (hd : decode bytes pc = .ok (.iconst i, 1)) (hp : pc + 1 = pc') (hv : Int32.ofInt i = v) (k : Run Z a0 n0 p l e R s m args below meth c Ψ D cells slots pc' L (.int v :: S)) : Run Z a0 n0 p l e R s m args below meth c Ψ D cells slots pc L S := by
  subst hp hv
  intro T locs X N H
  obtain ⟨t, o, st, r⟩ := k T locs X N H
  exact ⟨t, o, XS.iconst X.here K.1 rfl (hb K.2.2.1 hd) st, r⟩
theorem Run.bipush (K : Ctx Z y bytes maxL ret p s m meth c) {i : Int} {v : Int32} {pc' : Nat} (hd : decode bytes pc = .ok (.bipush i, 2)) (hp : pc + 2 = pc') (hv : (Int8.ofInt i).toInt32 = v) (k : Run Z a0 n0 p l e R s m args below meth c Ψ D cells slots pc' L (.int v :: S)) : Run Z a0 n0 p l e R s m args below meth c Ψ D cells slots pc L S := by
  subst hp hv
  intro T locs X N H
  obtain ⟨t, o, st, r⟩ := k T locs X N H
  exact ⟨t, o, XS.bipush X.here K.1 rfl (hb K.2.2.1 hd) st, r⟩
theorem Run.sipush (K : Ctx Z y bytes maxL ret p s m meth c) {i : Int} {v : Int32} {pc' : Nat} (hd : decode bytes pc = .ok (.sipush i, 3)) (hp : pc + 3 = pc') (hv : (Int16.ofInt i).toInt32 = v) (k : Run Z a0 n0 p l e R s m args below meth c Ψ D cells slots pc' L (.int v :: S)) : Run Z a0 n0 p l e R s m args below meth c Ψ D cells slots pc L S := by
  subst hp hv
  intro T locs X N H
  obtain ⟨t, o, st, r⟩ := k T locs X N H
  exact ⟨t, o, XS.sipush X.here K.1 rfl (hb K.2.2.1 hd) st, r⟩
theorem Run.lconst (K : Ctx Z y bytes maxL ret p s m meth c) {i : Fin 2} {v : Int64} {pc' : Nat} (hd : decode bytes pc = .ok (.lconst i, 1)) (hp : pc + 1 = pc') (hv : Int64.ofNat i = v) (k : Run Z a0 n0 p l e R s m args below meth c Ψ D cells slots pc' L (.long v :: S)) : Run Z a0 n0 p l e R s m args below meth c Ψ D cells slots pc L S := by
  subst hp hv
  intro T locs X N H
  obtain ⟨t, o, st, r⟩ := k T locs X N H
  exact ⟨t, o, XS.lconst X.here K.1 rfl (hb K.2.2.1 hd) st, r⟩
theorem Run.aconstNull (K : Ctx Z y bytes maxL ret p s m meth c) {pc' : Nat} (hd : decode bytes pc = .ok (.aconst_null, 1)) (hp : pc + 1 = pc') (k : Run Z a0 n0 p l e R s m args below meth c Ψ D cells slots pc' L (.null :: S)) : Run Z a0 n0 p l e R s m args below meth c Ψ D cells slots pc L S := by
  subst hp
  intro T locs X N H
  obtain ⟨t, o, st, r⟩ := k T locs X N H
  exact ⟨t, o, XS.aconstNull X.here K.1 rfl (hb K.2.2.1 hd) st, r⟩
theorem Run.iadd (K : Ctx Z y bytes maxL ret p s m meth c) {x z : Int32} {pc' : Nat} (hd : decode bytes pc = .ok (.iadd, 1)) (hp : pc + 1 = pc') (k : Run Z a0 n0 p l e R s m args below meth c Ψ D cells slots pc' L (.int (x + z) :: S)) : Run Z a0 n0 p l e R s m args below meth c Ψ D cells slots pc L (.int z :: .int x :: S) := by
  subst hp
  intro T locs X N H
  obtain ⟨t, o, st, r⟩ := k T locs X N H
  exact ⟨t, o, XS.iadd X.here K.1 rfl (hb K.2.2.1 hd) rfl st, r⟩
theorem Run.isub (K : Ctx Z y bytes maxL ret p s m meth c) {x z : Int32} {pc' : Nat} (hd : decode bytes pc = .ok (.isub, 1)) (hp : pc + 1 = pc') (k : Run Z a0 n0 p l e R s m args below meth c Ψ D cells slots pc' L (.int (x - z) :: S)) : Run Z a0 n0 p l e R s m args below meth c Ψ D cells slots pc L (.int z :: .int x :: S) := by
  subst hp
  intro T locs X N H
  obtain ⟨t, o, st, r⟩ := k T locs X N H
  exact ⟨t, o, XS.isub X.here K.1 rfl (hb K.2.2.1 hd) rfl st, r⟩
theorem Run.imul (K : Ctx Z y bytes maxL ret p s m meth c) {x z : Int32} {pc' : Nat} (hd : decode bytes pc = .ok (.imul, 1)) (hp : pc + 1 = pc') (k : Run Z a0 n0 p l e R s m args below meth c Ψ D cells slots pc' L (.int (x * z) :: S)) : Run Z a0 n0 p l e R s m args below meth c Ψ D cells slots pc L (.int z :: .int x :: S) := by
  subst hp
  intro T locs X N H
  obtain ⟨t, o, st, r⟩ := k T locs X N H
  exact ⟨t, o, XS.imul X.here K.1 rfl (hb K.2.2.1 hd) rfl st, r⟩
theorem Run.iand (K : Ctx Z y bytes maxL ret p s m meth c) {x z : Int32} {pc' : Nat} (hd : decode bytes pc = .ok (.iand, 1)) (hp : pc + 1 = pc') (k : Run Z a0 n0 p l e R s m args below meth c Ψ D cells slots pc' L (.int (x &&& z) :: S)) : Run Z a0 n0 p l e R s m args below meth c Ψ D cells slots pc L (.int z :: .int x :: S) := by
  subst hp
  intro T locs X N H
  obtain ⟨t, o, st, r⟩ := k T locs X N H
  exact ⟨t, o, XS.iand X.here K.1 rfl (hb K.2.2.1 hd) rfl st, r⟩
theorem Run.ior (K : Ctx Z y bytes maxL ret p s m meth c) {x z : Int32} {pc' : Nat} (hd : decode bytes pc = .ok (.ior, 1)) (hp : pc + 1 = pc') (k : Run Z a0 n0 p l e R s m args below meth c Ψ D cells slots pc' L (.int (x ||| z) :: S)) : Run Z a0 n0 p l e R s m args below meth c Ψ D cells slots pc L (.int z :: .int x :: S) := by
  subst hp
  intro T locs X N H
  obtain ⟨t, o, st, r⟩ := k T locs X N H
  exact ⟨t, o, XS.ior X.here K.1 rfl (hb K.2.2.1 hd) rfl st, r⟩
theorem Run.ixor (K : Ctx Z y bytes maxL ret p s m meth c) {x z : Int32} {pc' : Nat} (hd : decode bytes pc = .ok (.ixor, 1)) (hp : pc + 1 = pc') (k : Run Z a0 n0 p l e R s m args below meth c Ψ D cells slots pc' L (.int (x ^^^ z) :: S)) : Run Z a0 n0 p l e R s m args below meth c Ψ D cells slots pc L (.int z :: .int x :: S) := by
  subst hp
  intro T locs X N H
  obtain ⟨t, o, st, r⟩ := k T locs X N H
  exact ⟨t, o, XS.ixor X.here K.1 rfl (hb K.2.2.1 hd) rfl st, r⟩
theorem Run.ishl (K : Ctx Z y bytes maxL ret p s m meth c) {x z : Int32} {pc' : Nat} (hd : decode bytes pc = .ok (.ishl, 1)) (hp : pc + 1 = pc') (k : Run Z a0 n0 p l e R s m args below meth c Ψ D cells slots pc' L (.int (x <<< (z &&& 31)) :: S)) : Run Z a0 n0 p l e R s m args below meth c Ψ D cells slots pc L (.int z :: .int x :: S) := by
  subst hp
  intro T locs X N H
  obtain ⟨t, o, st, r⟩ := k T locs X N H
  exact ⟨t, o, XS.ishl X.here K.1 rfl (hb K.2.2.1 hd) rfl st, r⟩
theorem Run.ishr (K : Ctx Z y bytes maxL ret p s m meth c) {x z : Int32} {pc' : Nat} (hd : decode bytes pc = .ok (.ishr, 1)) (hp : pc + 1 = pc') (k : Run Z a0 n0 p l e R s m args below meth c Ψ D cells slots pc' L (.int (x >>> (z &&& 31)) :: S)) : Run Z a0 n0 p l e R s m args below meth c Ψ D cells slots pc L (.int z :: .int x :: S) := by
  subst hp
  intro T locs X N H
  obtain ⟨t, o, st, r⟩ := k T locs X N H
  exact ⟨t, o, XS.ishr X.here K.1 rfl (hb K.2.2.1 hd) rfl st, r⟩
theorem Run.iushr (K : Ctx Z y bytes maxL ret p s m meth c) {x z : Int32} {pc' : Nat} (hd : decode bytes pc = .ok (.iushr, 1)) (hp : pc + 1 = pc') (k : Run Z a0 n0 p l e R s m args below meth c Ψ D cells slots pc' L (.int ((x.toUInt32 >>> (z &&& 31).toUInt32).toInt32) :: S)) : Run Z a0 n0 p l e R s m args below meth c Ψ D cells slots pc L (.int z :: .int x :: S) := by
  subst hp
  intro T locs X N H
  obtain ⟨t, o, st, r⟩ := k T locs X N H
  exact ⟨t, o, XS.iushr X.here K.1 rfl (hb K.2.2.1 hd) rfl st, r⟩
theorem Run.idiv (K : Ctx Z y bytes maxL ret p s m meth c) {x z : Int32} {pc' : Nat} (hd : decode bytes pc = .ok (.idiv, 1)) (hp : pc + 1 = pc') (hz : z ≠ 0) (k : Run Z a0 n0 p l e R s m args below meth c Ψ D cells slots pc' L (.int (x / z) :: S)) : Run Z a0 n0 p l e R s m args below meth c Ψ D cells slots pc L (.int z :: .int x :: S) := by
  subst hp
  intro T locs X N H
  obtain ⟨t, o, st, r⟩ := k T locs X N H
  exact ⟨t, o, XS.idiv X.here K.1 rfl (hb K.2.2.1 hd) rfl hz st, r⟩
theorem Run.irem (K : Ctx Z y bytes maxL ret p s m meth c) {x z : Int32} {pc' : Nat} (hd : decode bytes pc = .ok (.irem, 1)) (hp : pc + 1 = pc') (hz : z ≠ 0) (k : Run Z a0 n0 p l e R s m args below meth c Ψ D cells slots pc' L (.int (x % z) :: S)) : Run Z a0 n0 p l e R s m args below meth c Ψ D cells slots pc L (.int z :: .int x :: S) := by
  subst hp
  intro T locs X N H
  obtain ⟨t, o, st, r⟩ := k T locs X N H
  exact ⟨t, o, iremM X K.1 rfl (hb K.2.2.1 hd) rfl hz st, r⟩
theorem Run.ineg (K : Ctx Z y bytes maxL ret p s m meth c) {x : Int32} {pc' : Nat} (hd : decode bytes pc = .ok (.ineg, 1)) (hp : pc + 1 = pc') (k : Run Z a0 n0 p l e R s m args below meth c Ψ D cells slots pc' L (.int (-x) :: S)) : Run Z a0 n0 p l e R s m args below meth c Ψ D cells slots pc L (.int x :: S) := by
  subst hp
  intro T locs X N H
  obtain ⟨t, o, st, r⟩ := k T locs X N H
  exact ⟨t, o, XS.ineg X.here K.1 rfl (hb K.2.2.1 hd) rfl st, r⟩
theorem Run.ladd (K : Ctx Z y bytes maxL ret p s m meth c) {x z : Int64} {pc' : Nat} (hd : decode bytes pc = .ok (.ladd, 1)) (hp : pc + 1 = pc') (k : Run Z a0 n0 p l e R s m args below meth c Ψ D cells slots pc' L (.long (x + z) :: S)) : Run Z a0 n0 p l e R s m args below meth c Ψ D cells slots pc L (.long z :: .long x :: S) := by
  subst hp
  intro T locs X N H
  obtain ⟨t, o, st, r⟩ := k T locs X N H
  exact ⟨t, o, XS.ladd X.here K.1 rfl (hb K.2.2.1 hd) rfl st, r⟩
theorem Run.lsub (K : Ctx Z y bytes maxL ret p s m meth c) {x z : Int64} {pc' : Nat} (hd : decode bytes pc = .ok (.lsub, 1)) (hp : pc + 1 = pc') (k : Run Z a0 n0 p l e R s m args below meth c Ψ D cells slots pc' L (.long (x - z) :: S)) : Run Z a0 n0 p l e R s m args below meth c Ψ D cells slots pc L (.long z :: .long x :: S) := by
  subst hp
  intro T locs X N H
  obtain ⟨t, o, st, r⟩ := k T locs X N H
  exact ⟨t, o, XS.lsub X.here K.1 rfl (hb K.2.2.1 hd) rfl st, r⟩
theorem Run.lmul (K : Ctx Z y bytes maxL ret p s m meth c) {x z : Int64} {pc' : Nat} (hd : decode bytes pc = .ok (.lmul, 1)) (hp : pc + 1 = pc') (k : Run Z a0 n0 p l e R s m args below meth c Ψ D cells slots pc' L (.long (x * z) :: S)) : Run Z a0 n0 p l e R s m args below meth c Ψ D cells slots pc L (.long z :: .long x :: S) := by
  subst hp
  intro T locs X N H
  obtain ⟨t, o, st, r⟩ := k T locs X N H
  exact ⟨t, o, XS.lmul X.here K.1 rfl (hb K.2.2.1 hd) rfl st, r⟩
theorem Run.land (K : Ctx Z y bytes maxL ret p s m meth c) {x z : Int64} {pc' : Nat} (hd : decode bytes pc = .ok (.land, 1)) (hp : pc + 1 = pc') (k : Run Z a0 n0 p l e R s m args below meth c Ψ D cells slots pc' L (.long (x &&& z) :: S)) : Run Z a0 n0 p l e R s m args below meth c Ψ D cells slots pc L (.long z :: .long x :: S) := by
  subst hp
  intro T locs X N H
  obtain ⟨t, o, st, r⟩ := k T locs X N H
  exact ⟨t, o, XS.land X.here K.1 rfl (hb K.2.2.1 hd) rfl st, r⟩
theorem Run.lor (K : Ctx Z y bytes maxL ret p s m meth c) {x z : Int64} {pc' : Nat} (hd : decode bytes pc = .ok (.lor, 1)) (hp : pc + 1 = pc') (k : Run Z a0 n0 p l e R s m args below meth c Ψ D cells slots pc' L (.long (x ||| z) :: S)) : Run Z a0 n0 p l e R s m args below meth c Ψ D cells slots pc L (.long z :: .long x :: S) := by
  subst hp
  intro T locs X N H
  obtain ⟨t, o, st, r⟩ := k T locs X N H
  exact ⟨t, o, XS.lor X.here K.1 rfl (hb K.2.2.1 hd) rfl st, r⟩
theorem Run.lxor (K : Ctx Z y bytes maxL ret p s m meth c) {x z : Int64} {pc' : Nat} (hd : decode bytes pc = .ok (.lxor, 1)) (hp : pc + 1 = pc') (k : Run Z a0 n0 p l e R s m args below meth c Ψ D cells slots pc' L (.long (x ^^^ z) :: S)) : Run Z a0 n0 p l e R s m args below meth c Ψ D cells slots pc L (.long z :: .long x :: S) := by
  subst hp
  intro T locs X N H
  obtain ⟨t, o, st, r⟩ := k T locs X N H
  exact ⟨t, o, XS.lxor X.here K.1 rfl (hb K.2.2.1 hd) rfl st, r⟩
theorem Run.ldiv (K : Ctx Z y bytes maxL ret p s m meth c) {x z : Int64} {pc' : Nat} (hd : decode bytes pc = .ok (.ldiv, 1)) (hp : pc + 1 = pc') (hz : z ≠ 0) (k : Run Z a0 n0 p l e R s m args below meth c Ψ D cells slots pc' L (.long (x / z) :: S)) : Run Z a0 n0 p l e R s m args below meth c Ψ D cells slots pc L (.long z :: .long x :: S) := by
  subst hp
  intro T locs X N H
  obtain ⟨t, o, st, r⟩ := k T locs X N H
  exact ⟨t, o, XS.ldiv X.here K.1 rfl (hb K.2.2.1 hd) rfl hz st, r⟩
theorem Run.lrem (K : Ctx Z y bytes maxL ret p s m meth c) {x z : Int64} {pc' : Nat} (hd : decode bytes pc = .ok (.lrem, 1)) (hp : pc + 1 = pc') (hz : z ≠ 0) (k : Run Z a0 n0 p l e R s m args below meth c Ψ D cells slots pc' L (.long (x % z) :: S)) : Run Z a0 n0 p l e R s m args below meth c Ψ D cells slots pc L (.long z :: .long x :: S) := by
  subst hp
  rw [← lrem_mod] at k
  intro T locs X N H
  obtain ⟨t, o, st, r⟩ := k T locs X N H
  exact ⟨t, o, XS.lrem X.here K.1 rfl (hb K.2.2.1 hd) rfl hz st, r⟩
theorem Run.lneg (K : Ctx Z y bytes maxL ret p s m meth c) {x : Int64} {pc' : Nat} (hd : decode bytes pc = .ok (.lneg, 1)) (hp : pc + 1 = pc') (k : Run Z a0 n0 p l e R s m args below meth c Ψ D cells slots pc' L (.long (-x) :: S)) : Run Z a0 n0 p l e R s m args below meth c Ψ D cells slots pc L (.long x :: S) := by
  subst hp
  intro T locs X N H
  obtain ⟨t, o, st, r⟩ := k T locs X N H
  exact ⟨t, o, XS.lneg X.here K.1 rfl (hb K.2.2.1 hd) rfl st, r⟩
theorem Run.lshl (K : Ctx Z y bytes maxL ret p s m meth c) {x : Int64} {z : Int32} {pc' : Nat} (hd : decode bytes pc = .ok (.lshl, 1)) (hp : pc + 1 = pc') (k : Run Z a0 n0 p l e R s m args below meth c Ψ D cells slots pc' L (.long (x <<< (z &&& 0x3f).toInt64) :: S)) : Run Z a0 n0 p l e R s m args below meth c Ψ D cells slots pc L (.int z :: .long x :: S) := by
  subst hp
  intro T locs X N H
  obtain ⟨t, o, st, r⟩ := k T locs X N H
  exact ⟨t, o, XS.lshl X.here K.1 rfl (hb K.2.2.1 hd) rfl st, r⟩
theorem Run.lshr (K : Ctx Z y bytes maxL ret p s m meth c) {x : Int64} {z : Int32} {pc' : Nat} (hd : decode bytes pc = .ok (.lshr, 1)) (hp : pc + 1 = pc') (k : Run Z a0 n0 p l e R s m args below meth c Ψ D cells slots pc' L (.long (x >>> (z &&& 0x3f).toInt64) :: S)) : Run Z a0 n0 p l e R s m args below meth c Ψ D cells slots pc L (.int z :: .long x :: S) := by
  subst hp
  intro T locs X N H
  obtain ⟨t, o, st, r⟩ := k T locs X N H
  exact ⟨t, o, XS.lshr X.here K.1 rfl (hb K.2.2.1 hd) rfl st, r⟩
theorem Run.lushr (K : Ctx Z y bytes maxL ret p s m meth c) {x : Int64} {z : Int32} {pc' : Nat} (hd : decode bytes pc = .ok (.lushr, 1)) (hp : pc + 1 = pc') (k : Run Z a0 n0 p l e R s m args below meth c Ψ D cells slots pc' L (.long ((x.toUInt64 >>> (z &&& 0x3f).toInt64.toUInt64).toInt64) :: S)) : Run Z a0 n0 p l e R s m args below meth c Ψ D cells slots pc L (.int z :: .long x :: S) := by
  subst hp
  intro T locs X N H
  obtain ⟨t, o, st, r⟩ := k T locs X N H
  exact ⟨t, o, XS.lushr X.here K.1 rfl (hb K.2.2.1 hd) rfl st, r⟩
theorem Run.i2l (K : Ctx Z y bytes maxL ret p s m meth c) {x : Int32} {pc' : Nat} (hd : decode bytes pc = .ok (.i2l, 1)) (hp : pc + 1 = pc') (k : Run Z a0 n0 p l e R s m args below meth c Ψ D cells slots pc' L (.long (x.toInt64) :: S)) : Run Z a0 n0 p l e R s m args below meth c Ψ D cells slots pc L (.int x :: S) := by
  subst hp
  intro T locs X N H
  obtain ⟨t, o, st, r⟩ := k T locs X N H
  exact ⟨t, o, XS.i2l X.here K.1 rfl (hb K.2.2.1 hd) rfl st, r⟩
theorem Run.l2i (K : Ctx Z y bytes maxL ret p s m meth c) {x : Int64} {pc' : Nat} (hd : decode bytes pc = .ok (.l2i, 1)) (hp : pc + 1 = pc') (k : Run Z a0 n0 p l e R s m args below meth c Ψ D cells slots pc' L (.int (x.toInt32) :: S)) : Run Z a0 n0 p l e R s m args below meth c Ψ D cells slots pc L (.long x :: S) := by
  subst hp
  intro T locs X N H
  obtain ⟨t, o, st, r⟩ := k T locs X N H
  exact ⟨t, o, XS.l2i X.here K.1 rfl (hb K.2.2.1 hd) rfl st, r⟩
theorem Run.i2b (K : Ctx Z y bytes maxL ret p s m meth c) {x : Int32} {pc' : Nat} (hd : decode bytes pc = .ok (.i2b, 1)) (hp : pc + 1 = pc') (k : Run Z a0 n0 p l e R s m args below meth c Ψ D cells slots pc' L (.int (x.toInt8.toInt32) :: S)) : Run Z a0 n0 p l e R s m args below meth c Ψ D cells slots pc L (.int x :: S) := by
  subst hp
  intro T locs X N H
  obtain ⟨t, o, st, r⟩ := k T locs X N H
  exact ⟨t, o, XS.i2b X.here K.1 rfl (hb K.2.2.1 hd) rfl st, r⟩
theorem Run.i2c (K : Ctx Z y bytes maxL ret p s m meth c) {x : Int32} {pc' : Nat} (hd : decode bytes pc = .ok (.i2c, 1)) (hp : pc + 1 = pc') (k : Run Z a0 n0 p l e R s m args below meth c Ψ D cells slots pc' L (.int (x.toUInt32.toUInt16.toUInt32.toInt32) :: S)) : Run Z a0 n0 p l e R s m args below meth c Ψ D cells slots pc L (.int x :: S) := by
  subst hp
  intro T locs X N H
  obtain ⟨t, o, st, r⟩ := k T locs X N H
  exact ⟨t, o, XS.i2c X.here K.1 rfl (hb K.2.2.1 hd) rfl st, r⟩
theorem Run.i2s (K : Ctx Z y bytes maxL ret p s m meth c) {x : Int32} {pc' : Nat} (hd : decode bytes pc = .ok (.i2s, 1)) (hp : pc + 1 = pc') (k : Run Z a0 n0 p l e R s m args below meth c Ψ D cells slots pc' L (.int (x.toInt16.toInt32) :: S)) : Run Z a0 n0 p l e R s m args below meth c Ψ D cells slots pc L (.int x :: S) := by
  subst hp
  intro T locs X N H
  obtain ⟨t, o, st, r⟩ := k T locs X N H
  exact ⟨t, o, XS.i2s X.here K.1 rfl (hb K.2.2.1 hd) rfl st, r⟩
theorem Run.lcmp (K : Ctx Z y bytes maxL ret p s m meth c) {x z : Int64} {pc' : Nat} (hd : decode bytes pc = .ok (.lcmp, 1)) (hp : pc + 1 = pc') (k : Run Z a0 n0 p l e R s m args below meth c Ψ D cells slots pc' L (.int (lcmpW x z) :: S)) : Run Z a0 n0 p l e R s m args below meth c Ψ D cells slots pc L (.long z :: .long x :: S) := by
  subst hp
  intro T locs X N H
  obtain ⟨t, o, st, r⟩ := k T locs X N H
  exact ⟨t, o, XS.lcmp X.here K.1 rfl (hb K.2.2.1 hd) rfl st, r⟩
theorem Run.dup (K : Ctx Z y bytes maxL ret p s m meth c) {v : Value} {pc' : Nat} (hd : decode bytes pc = .ok (.dup, 1)) (hp : pc + 1 = pc') (hc : v.category = 1) (k : Run Z a0 n0 p l e R s m args below meth c Ψ D cells slots pc' L (v :: v :: S)) : Run Z a0 n0 p l e R s m args below meth c Ψ D cells slots pc L (v :: S) := by
  subst hp
  intro T locs X N H
  obtain ⟨t, o, st, r⟩ := k T locs X N H
  exact ⟨t, o, XS.dup X.here K.1 rfl (hb K.2.2.1 hd) rfl hc st, r⟩
theorem Run.pop (K : Ctx Z y bytes maxL ret p s m meth c) {v : Value} {pc' : Nat} (hd : decode bytes pc = .ok (.pop, 1)) (hp : pc + 1 = pc') (hc : v.category = 1) (k : Run Z a0 n0 p l e R s m args below meth c Ψ D cells slots pc' L S) : Run Z a0 n0 p l e R s m args below meth c Ψ D cells slots pc L (v :: S) := by
  subst hp
  intro T locs X N H
  obtain ⟨t, o, st, r⟩ := k T locs X N H
  exact ⟨t, o, XS.pop X.here K.1 rfl (hb K.2.2.1 hd) rfl hc st, r⟩
theorem Run.dupX1 (K : Ctx Z y bytes maxL ret p s m meth c) {v w : Value} {pc' : Nat} (hd : decode bytes pc = .ok (.dup_x1, 1)) (hp : pc + 1 = pc') (hc : v.category = 1) (hc2 : w.category = 1) (k : Run Z a0 n0 p l e R s m args below meth c Ψ D cells slots pc' L (v :: w :: v :: S)) : Run Z a0 n0 p l e R s m args below meth c Ψ D cells slots pc L (v :: w :: S) := by
  subst hp
  intro T locs X N H
  obtain ⟨t, o, st, r⟩ := k T locs X N H
  exact ⟨t, o, XS.dupX1 X.here K.1 rfl (hb K.2.2.1 hd) rfl hc hc2 st, r⟩
theorem Run.iload (K : Ctx Z y bytes maxL ret p s m meth c) {j : Nat} {v : Int32} {pc' : Nat} (hd : decode bytes pc = .ok (.iload j, 2)) (hp : pc + 2 = pc') (hl : L[j]? = some (.val (.int v))) (k : Run Z a0 n0 p l e R s m args below meth c Ψ D cells slots pc' L (.int v :: S)) : Run Z a0 n0 p l e R s m args below meth c Ψ D cells slots pc L S := by
  subst hp
  intro T locs X N H
  obtain ⟨t, o, st, r⟩ := k T locs X N H
  exact ⟨t, o, XS.iload X.here K.1 rfl (hb K.2.2.1 hd) hl st, r⟩
theorem Run.iloadN (K : Ctx Z y bytes maxL ret p s m meth c) {j : Fin 4} {v : Int32} {pc' : Nat} (hd : decode bytes pc = .ok (.iload_n j, 1)) (hp : pc + 1 = pc') (hl : L[j.val]? = some (.val (.int v))) (k : Run Z a0 n0 p l e R s m args below meth c Ψ D cells slots pc' L (.int v :: S)) : Run Z a0 n0 p l e R s m args below meth c Ψ D cells slots pc L S := by
  subst hp
  intro T locs X N H
  obtain ⟨t, o, st, r⟩ := k T locs X N H
  exact ⟨t, o, XS.iloadN X.here K.1 rfl (hb K.2.2.1 hd) hl st, r⟩
theorem Run.istore (K : Ctx Z y bytes maxL ret p s m meth c) {j : Nat} {v : Int32} {L' : Array Slot} {pc' : Nat} (hd : decode bytes pc = .ok (.istore j, 2)) (hp : pc + 2 = pc') (hl : storeLocals L j (.int v) = some L') (k : Run Z a0 n0 p l e R s m args below meth c Ψ D cells slots pc' L' S) : Run Z a0 n0 p l e R s m args below meth c Ψ D cells slots pc L (.int v :: S) := by
  subst hp
  intro T locs X N H
  obtain ⟨t, o, st, r⟩ := k T locs X N H
  exact ⟨t, o, XS.istore X.here K.1 rfl (hb K.2.2.1 hd) rfl hl st, r⟩
theorem Run.istoreN (K : Ctx Z y bytes maxL ret p s m meth c) {j : Fin 4} {v : Int32} {L' : Array Slot} {pc' : Nat} (hd : decode bytes pc = .ok (.istore_n j, 1)) (hp : pc + 1 = pc') (hl : storeLocals L j.val (.int v) = some L') (k : Run Z a0 n0 p l e R s m args below meth c Ψ D cells slots pc' L' S) : Run Z a0 n0 p l e R s m args below meth c Ψ D cells slots pc L (.int v :: S) := by
  subst hp
  intro T locs X N H
  obtain ⟨t, o, st, r⟩ := k T locs X N H
  exact ⟨t, o, XS.istoreN X.here K.1 rfl (hb K.2.2.1 hd) rfl hl st, r⟩
theorem Run.lload (K : Ctx Z y bytes maxL ret p s m meth c) {j : Nat} {v : Int64} {pc' : Nat} (hd : decode bytes pc = .ok (.lload j, 2)) (hp : pc + 2 = pc') (hl : L[j]? = some (.val (.long v))) (k : Run Z a0 n0 p l e R s m args below meth c Ψ D cells slots pc' L (.long v :: S)) : Run Z a0 n0 p l e R s m args below meth c Ψ D cells slots pc L S := by
  subst hp
  intro T locs X N H
  obtain ⟨t, o, st, r⟩ := k T locs X N H
  exact ⟨t, o, XS.lload X.here K.1 rfl (hb K.2.2.1 hd) hl st, r⟩
theorem Run.lloadN (K : Ctx Z y bytes maxL ret p s m meth c) {j : Fin 4} {v : Int64} {pc' : Nat} (hd : decode bytes pc = .ok (.lload_n j, 1)) (hp : pc + 1 = pc') (hl : L[j.val]? = some (.val (.long v))) (k : Run Z a0 n0 p l e R s m args below meth c Ψ D cells slots pc' L (.long v :: S)) : Run Z a0 n0 p l e R s m args below meth c Ψ D cells slots pc L S := by
  subst hp
  intro T locs X N H
  obtain ⟨t, o, st, r⟩ := k T locs X N H
  exact ⟨t, o, XS.lloadN X.here K.1 rfl (hb K.2.2.1 hd) hl st, r⟩
theorem Run.lstore (K : Ctx Z y bytes maxL ret p s m meth c) {j : Nat} {v : Int64} {L' : Array Slot} {pc' : Nat} (hd : decode bytes pc = .ok (.lstore j, 2)) (hp : pc + 2 = pc') (hl : storeLocals L j (.long v) = some L') (k : Run Z a0 n0 p l e R s m args below meth c Ψ D cells slots pc' L' S) : Run Z a0 n0 p l e R s m args below meth c Ψ D cells slots pc L (.long v :: S) := by
  subst hp
  intro T locs X N H
  obtain ⟨t, o, st, r⟩ := k T locs X N H
  exact ⟨t, o, XS.lstore X.here K.1 rfl (hb K.2.2.1 hd) rfl hl st, r⟩
theorem Run.lstoreN (K : Ctx Z y bytes maxL ret p s m meth c) {j : Fin 4} {v : Int64} {L' : Array Slot} {pc' : Nat} (hd : decode bytes pc = .ok (.lstore_n j, 1)) (hp : pc + 1 = pc') (hl : storeLocals L j.val (.long v) = some L') (k : Run Z a0 n0 p l e R s m args below meth c Ψ D cells slots pc' L' S) : Run Z a0 n0 p l e R s m args below meth c Ψ D cells slots pc L (.long v :: S) := by
  subst hp
  intro T locs X N H
  obtain ⟨t, o, st, r⟩ := k T locs X N H
  exact ⟨t, o, XS.lstoreN X.here K.1 rfl (hb K.2.2.1 hd) rfl hl st, r⟩
theorem Run.aload (K : Ctx Z y bytes maxL ret p s m meth c) {j : Nat} {v : Value} {pc' : Nat} (hd : decode bytes pc = .ok (.aload j, 2)) (hp : pc + 2 = pc') (hl : L[j]? = some (.val v)) (hv : v.isRef = true) (k : Run Z a0 n0 p l e R s m args below meth c Ψ D cells slots pc' L (v :: S)) : Run Z a0 n0 p l e R s m args below meth c Ψ D cells slots pc L S := by
  subst hp
  intro T locs X N H
  obtain ⟨t, o, st, r⟩ := k T locs X N H
  exact ⟨t, o, XS.aload X.here K.1 rfl (hb K.2.2.1 hd) hl hv st, r⟩
theorem Run.aloadN (K : Ctx Z y bytes maxL ret p s m meth c) {j : Fin 4} {v : Value} {pc' : Nat} (hd : decode bytes pc = .ok (.aload_n j, 1)) (hp : pc + 1 = pc') (hl : L[j.val]? = some (.val v)) (hv : v.isRef = true) (k : Run Z a0 n0 p l e R s m args below meth c Ψ D cells slots pc' L (v :: S)) : Run Z a0 n0 p l e R s m args below meth c Ψ D cells slots pc L S := by
  subst hp
  intro T locs X N H
  obtain ⟨t, o, st, r⟩ := k T locs X N H
  exact ⟨t, o, XS.aloadN X.here K.1 rfl (hb K.2.2.1 hd) hl hv st, r⟩
theorem Run.astore (K : Ctx Z y bytes maxL ret p s m meth c) {j : Nat} {v : Value} {L' : Array Slot} {pc' : Nat} (hd : decode bytes pc = .ok (.astore j, 2)) (hp : pc + 2 = pc') (hv : v.isRef = true) (hl : storeLocals L j v = some L') (k : Run Z a0 n0 p l e R s m args below meth c Ψ D cells slots pc' L' S) : Run Z a0 n0 p l e R s m args below meth c Ψ D cells slots pc L (v :: S) := by
  subst hp
  intro T locs X N H
  obtain ⟨t, o, st, r⟩ := k T locs X N H
  exact ⟨t, o, XS.astore X.here K.1 rfl (hb K.2.2.1 hd) rfl hv hl st, r⟩
theorem Run.astoreN (K : Ctx Z y bytes maxL ret p s m meth c) {j : Fin 4} {v : Value} {L' : Array Slot} {pc' : Nat} (hd : decode bytes pc = .ok (.astore_n j, 1)) (hp : pc + 1 = pc') (hv : v.isRef = true) (hl : storeLocals L j.val v = some L') (k : Run Z a0 n0 p l e R s m args below meth c Ψ D cells slots pc' L' S) : Run Z a0 n0 p l e R s m args below meth c Ψ D cells slots pc L (v :: S) := by
  subst hp
  intro T locs X N H
  obtain ⟨t, o, st, r⟩ := k T locs X N H
  exact ⟨t, o, XS.astoreN X.here K.1 rfl (hb K.2.2.1 hd) rfl hv hl st, r⟩
theorem Run.dup2 (K : Ctx Z y bytes maxL ret p s m meth c) {v w : Value} {pc' : Nat} (hd : decode bytes pc = .ok (.dup2, 1)) (hp : pc + 1 = pc') (hc : v.category = 1) (hc2 : w.category = 1) (k : Run Z a0 n0 p l e R s m args below meth c Ψ D cells slots pc' L (v :: w :: v :: w :: S)) : Run Z a0 n0 p l e R s m args below meth c Ψ D cells slots pc L (v :: w :: S) := by
  subst hp
  intro T locs X N H
  obtain ⟨t, o, st, r⟩ := k T locs X N H
  exact ⟨t, o, Jvm.Free.XT.dup2 X.here K.1 rfl (hb K.2.2.1 hd) rfl hc hc2 st, r⟩
theorem Run.dup2L (K : Ctx Z y bytes maxL ret p s m meth c) {x : Int64} {pc' : Nat} (hd : decode bytes pc = .ok (.dup2, 1)) (hp : pc + 1 = pc') (k : Run Z a0 n0 p l e R s m args below meth c Ψ D cells slots pc' L (.long x :: .long x :: S)) : Run Z a0 n0 p l e R s m args below meth c Ψ D cells slots pc L (.long x :: S) := by
  subst hp
  intro T locs X N H
  obtain ⟨t, o, st, r⟩ := k T locs X N H
  exact ⟨t, o, Jvm.Free.XT.dup2L X.here K.1 rfl (hb K.2.2.1 hd) rfl st, r⟩
theorem Run.iinc (K : Ctx Z y bytes maxL ret p s m meth c) {j : Nat} {i : Int} {v : Int32} {L' : Array Slot} {pc' : Nat} (hd : decode bytes pc = .ok (.iinc j i, 3)) (hp : pc + 3 = pc') (hl : L[j]? = some (.val (.int v))) (hl' : storeLocals L j (.int (v + Int32.ofInt i)) = some L') (k : Run Z a0 n0 p l e R s m args below meth c Ψ D cells slots pc' L' S) : Run Z a0 n0 p l e R s m args below meth c Ψ D cells slots pc L S := by
  subst hp
  intro T locs X N H
  obtain ⟨t, o, st, r⟩ := k T locs X N H
  exact ⟨t, o, XS.iinc X.here K.1 rfl (hb K.2.2.1 hd) hl hl' st, r⟩
theorem Run.idivV (K : Ctx Z y bytes maxL ret p s m meth c) {x z v : Int32} {pc' : Nat} (hd : decode bytes pc = .ok (.idiv, 1)) (hp : pc + 1 = pc') (hz : z ≠ 0) (hv : x / z = v) (k : Run Z a0 n0 p l e R s m args below meth c Ψ D cells slots pc' L (.int v :: S)) : Run Z a0 n0 p l e R s m args below meth c Ψ D cells slots pc L (.int z :: .int x :: S) := Run.idiv K hd hp hz (by rw [hv]; exact k)
theorem Run.iremV (K : Ctx Z y bytes maxL ret p s m meth c) {x z v : Int32} {pc' : Nat} (hd : decode bytes pc = .ok (.irem, 1)) (hp : pc + 1 = pc') (hz : z ≠ 0) (hv : x % z = v) (k : Run Z a0 n0 p l e R s m args below meth c Ψ D cells slots pc' L (.int v :: S)) : Run Z a0 n0 p l e R s m args below meth c Ψ D cells slots pc L (.int z :: .int x :: S) := Run.irem K hd hp hz (by rw [hv]; exact k)
theorem Run.ldivV (K : Ctx Z y bytes maxL ret p s m meth c) {x z v : Int64} {pc' : Nat} (hd : decode bytes pc = .ok (.ldiv, 1)) (hp : pc + 1 = pc') (hz : z ≠ 0) (hv : x / z = v) (k : Run Z a0 n0 p l e R s m args below meth c Ψ D cells slots pc' L (.long v :: S)) : Run Z a0 n0 p l e R s m args below meth c Ψ D cells slots pc L (.long z :: .long x :: S) := Run.ldiv K hd hp hz (by rw [hv]; exact k)
theorem Run.lremV (K : Ctx Z y bytes maxL ret p s m meth c) {x z v : Int64} {pc' : Nat} (hd : decode bytes pc = .ok (.lrem, 1)) (hp : pc + 1 = pc') (hz : z ≠ 0) (hv : x % z = v) (k : Run Z a0 n0 p l e R s m args below meth c Ψ D cells slots pc' L (.long v :: S)) : Run Z a0 n0 p l e R s m args below meth c Ψ D cells slots pc L (.long z :: .long x :: S) := Run.lrem K hd hp hz (by rw [hv]; exact k)
theorem Run.iaddV (K : Ctx Z y bytes maxL ret p s m meth c) {x z : Int32} {v : Int32} {pc' : Nat} (hd : decode bytes pc = .ok (.iadd, 1)) (hp : pc + 1 = pc') (hv : x + z = v) (k : Run Z a0 n0 p l e R s m args below meth c Ψ D cells slots pc' L (.int v :: S)) : Run Z a0 n0 p l e R s m args below meth c Ψ D cells slots pc L (.int z :: .int x :: S) := Run.iadd K hd hp (by rw [hv]; exact k)
theorem Run.isubV (K : Ctx Z y bytes maxL ret p s m meth c) {x z : Int32} {v : Int32} {pc' : Nat} (hd : decode bytes pc = .ok (.isub, 1)) (hp : pc + 1 = pc') (hv : x - z = v) (k : Run Z a0 n0 p l e R s m args below meth c Ψ D cells slots pc' L (.int v :: S)) : Run Z a0 n0 p l e R s m args below meth c Ψ D cells slots pc L (.int z :: .int x :: S) := Run.isub K hd hp (by rw [hv]; exact k)
theorem Run.imulV (K : Ctx Z y bytes maxL ret p s m meth c) {x z : Int32} {v : Int32} {pc' : Nat} (hd : decode bytes pc = .ok (.imul, 1)) (hp : pc + 1 = pc') (hv : x * z = v) (k : Run Z a0 n0 p l e R s m args below meth c Ψ D cells slots pc' L (.int v :: S)) : Run Z a0 n0 p l e R s m args below meth c Ψ D cells slots pc L (.int z :: .int x :: S) := Run.imul K hd hp (by rw [hv]; exact k)
theorem Run.iandV (K : Ctx Z y bytes maxL ret p s m meth c) {x z : Int32} {v : Int32} {pc' : Nat} (hd : decode bytes pc = .ok (.iand, 1)) (hp : pc + 1 = pc') (hv : x &&& z = v) (k : Run Z a0 n0 p l e R s m args below meth c Ψ D cells slots pc' L (.int v :: S)) : Run Z a0 n0 p l e R s m args below meth c Ψ D cells slots pc L (.int z :: .int x :: S) := Run.iand K hd hp (by rw [hv]; exact k)
theorem Run.iorV (K : Ctx Z y bytes maxL ret p s m meth c) {x z : Int32} {v : Int32} {pc' : Nat} (hd : decode bytes pc = .ok (.ior, 1)) (hp : pc + 1 = pc') (hv : x ||| z = v) (k : Run Z a0 n0 p l e R s m args below meth c Ψ D cells slots pc' L (.int v :: S)) : Run Z a0 n0 p l e R s m args below meth c Ψ D cells slots pc L (.int z :: .int x :: S) := Run.ior K hd hp (by rw [hv]; exact k)
theorem Run.ixorV (K : Ctx Z y bytes maxL ret p s m meth c) {x z : Int32} {v : Int32} {pc' : Nat} (hd : decode bytes pc = .ok (.ixor, 1)) (hp : pc + 1 = pc') (hv : x ^^^ z = v) (k : Run Z a0 n0 p l e R s m args below meth c Ψ D cells slots pc' L (.int v :: S)) : Run Z a0 n0 p l e R s m args below meth c Ψ D cells slots pc L (.int z :: .int x :: S) := Run.ixor K hd hp (by rw [hv]; exact k)
theorem Run.ishlV (K : Ctx Z y bytes maxL ret p s m meth c) {x z : Int32} {v : Int32} {pc' : Nat} (hd : decode bytes pc = .ok (.ishl, 1)) (hp : pc + 1 = pc') (hv : x <<< (z &&& 31) = v) (k : Run Z a0 n0 p l e R s m args below meth c Ψ D cells slots pc' L (.int v :: S)) : Run Z a0 n0 p l e R s m args below meth c Ψ D cells slots pc L (.int z :: .int x :: S) := Run.ishl K hd hp (by rw [hv]; exact k)
theorem Run.ishrV (K : Ctx Z y bytes maxL ret p s m meth c) {x z : Int32} {v : Int32} {pc' : Nat} (hd : decode bytes pc = .ok (.ishr, 1)) (hp : pc + 1 = pc') (hv : x >>> (z &&& 31) = v) (k : Run Z a0 n0 p l e R s m args below meth c Ψ D cells slots pc' L (.int v :: S)) : Run Z a0 n0 p l e R s m args below meth c Ψ D cells slots pc L (.int z :: .int x :: S) := Run.ishr K hd hp (by rw [hv]; exact k)
theorem Run.iushrV (K : Ctx Z y bytes maxL ret p s m meth c) {x z : Int32} {v : Int32} {pc' : Nat} (hd : decode bytes pc = .ok (.iushr, 1)) (hp : pc + 1 = pc') (hv : (x.toUInt32 >>> (z &&& 31).toUInt32).toInt32 = v) (k : Run Z a0 n0 p l e R s m args below meth c Ψ D cells slots pc' L (.int v :: S)) : Run Z a0 n0 p l e R s m args below meth c Ψ D cells slots pc L (.int z :: .int x :: S) := Run.iushr K hd hp (by rw [hv]; exact k)
theorem Run.inegV (K : Ctx Z y bytes maxL ret p s m meth c) {x : Int32} {v : Int32} {pc' : Nat} (hd : decode bytes pc = .ok (.ineg, 1)) (hp : pc + 1 = pc') (hv : -x = v) (k : Run Z a0 n0 p l e R s m args below meth c Ψ D cells slots pc' L (.int v :: S)) : Run Z a0 n0 p l e R s m args below meth c Ψ D cells slots pc L (.int x :: S) := Run.ineg K hd hp (by rw [hv]; exact k)
theorem Run.laddV (K : Ctx Z y bytes maxL ret p s m meth c) {x z : Int64} {v : Int64} {pc' : Nat} (hd : decode bytes pc = .ok (.ladd, 1)) (hp : pc + 1 = pc') (hv : x + z = v) (k : Run Z a0 n0 p l e R s m args below meth c Ψ D cells slots pc' L (.long v :: S)) : Run Z a0 n0 p l e R s m args below meth c Ψ D cells slots pc L (.long z :: .long x :: S) := Run.ladd K hd hp (by rw [hv]; exact k)
theorem Run.lsubV (K : Ctx Z y bytes maxL ret p s m meth c) {x z : Int64} {v : Int64} {pc' : Nat} (hd : decode bytes pc = .ok (.lsub, 1)) (hp : pc + 1 = pc') (hv : x - z = v) (k : Run Z a0 n0 p l e R s m args below meth c Ψ D cells slots pc' L (.long v :: S)) : Run Z a0 n0 p l e R s m args below meth c Ψ D cells slots pc L (.long z :: .long x :: S) := Run.lsub K hd hp (by rw [hv]; exact k)
theorem Run.lmulV (K : Ctx Z y bytes maxL ret p s m meth c) {x z : Int64} {v : Int64} {pc' : Nat} (hd : decode bytes pc = .ok (.lmul, 1)) (hp : pc + 1 = pc') (hv : x * z = v) (k : Run Z a0 n0 p l e R s m args below meth c Ψ D cells slots pc' L (.long v :: S)) : Run Z a0 n0 p l e R s m args below meth c Ψ D cells slots pc L (.long z :: .long x :: S) := Run.lmul K hd hp (by rw [hv]; exact k)
theorem Run.landV (K : Ctx Z y bytes maxL ret p s m meth c) {x z : Int64} {v : Int64} {pc' : Nat} (hd : decode bytes pc = .ok (.land, 1)) (hp : pc + 1 = pc') (hv : x &&& z = v) (k : Run Z a0 n0 p l e R s m args below meth c Ψ D cells slots pc' L (.long v :: S)) : Run Z a0 n0 p l e R s m args below meth c Ψ D cells slots pc L (.long z :: .long x :: S) := Run.land K hd hp (by rw [hv]; exact k)
theorem Run.lorV (K : Ctx Z y bytes maxL ret p s m meth c) {x z : Int64} {v : Int64} {pc' : Nat} (hd : decode bytes pc = .ok (.lor, 1)) (hp : pc + 1 = pc') (hv : x ||| z = v) (k : Run Z a0 n0 p l e R s m args below meth c Ψ D cells slots pc' L (.long v :: S)) : Run Z a0 n0 p l e R s m args below meth c Ψ D cells slots pc L (.long z :: .long x :: S) := Run.lor K hd hp (by rw [hv]; exact k)
theorem Run.lxorV (K : Ctx Z y bytes maxL ret p s m meth c) {x z : Int64} {v : Int64} {pc' : Nat} (hd : decode bytes pc = .ok (.lxor, 1)) (hp : pc + 1 = pc') (hv : x ^^^ z = v) (k : Run Z a0 n0 p l e R s m args below meth c Ψ D cells slots pc' L (.long v :: S)) : Run Z a0 n0 p l e R s m args below meth c Ψ D cells slots pc L (.long z :: .long x :: S) := Run.lxor K hd hp (by rw [hv]; exact k)
theorem Run.lnegV (K : Ctx Z y bytes maxL ret p s m meth c) {x : Int64} {v : Int64} {pc' : Nat} (hd : decode bytes pc = .ok (.lneg, 1)) (hp : pc + 1 = pc') (hv : -x = v) (k : Run Z a0 n0 p l e R s m args below meth c Ψ D cells slots pc' L (.long v :: S)) : Run Z a0 n0 p l e R s m args below meth c Ψ D cells slots pc L (.long x :: S) := Run.lneg K hd hp (by rw [hv]; exact k)
theorem Run.lshlV (K : Ctx Z y bytes maxL ret p s m meth c) {x : Int64} {z : Int32} {v : Int64} {pc' : Nat} (hd : decode bytes pc = .ok (.lshl, 1)) (hp : pc + 1 = pc') (hv : x <<< (z &&& 0x3f).toInt64 = v) (k : Run Z a0 n0 p l e R s m args below meth c Ψ D cells slots pc' L (.long v :: S)) : Run Z a0 n0 p l e R s m args below meth c Ψ D cells slots pc L (.int z :: .long x :: S) := Run.lshl K hd hp (by rw [hv]; exact k)
theorem Run.lshrV (K : Ctx Z y bytes maxL ret p s m meth c) {x : Int64} {z : Int32} {v : Int64} {pc' : Nat} (hd : decode bytes pc = .ok (.lshr, 1)) (hp : pc + 1 = pc') (hv : x >>> (z &&& 0x3f).toInt64 = v) (k : Run Z a0 n0 p l e R s m args below meth c Ψ D cells slots pc' L (.long v :: S)) : Run Z a0 n0 p l e R s m args below meth c Ψ D cells slots pc L (.int z :: .long x :: S) := Run.lshr K hd hp (by rw [hv]; exact k)
theorem Run.lushrV (K : Ctx Z y bytes maxL ret p s m meth c) {x : Int64} {z : Int32} {v : Int64} {pc' : Nat} (hd : decode bytes pc = .ok (.lushr, 1)) (hp : pc + 1 = pc') (hv : (x.toUInt64 >>> (z &&& 0x3f).toInt64.toUInt64).toInt64 = v) (k : Run Z a0 n0 p l e R s m args below meth c Ψ D cells slots pc' L (.long v :: S)) : Run Z a0 n0 p l e R s m args below meth c Ψ D cells slots pc L (.int z :: .long x :: S) := Run.lushr K hd hp (by rw [hv]; exact k)
theorem Run.i2lV (K : Ctx Z y bytes maxL ret p s m meth c) {x : Int32} {v : Int64} {pc' : Nat} (hd : decode bytes pc = .ok (.i2l, 1)) (hp : pc + 1 = pc') (hv : x.toInt64 = v) (k : Run Z a0 n0 p l e R s m args below meth c Ψ D cells slots pc' L (.long v :: S)) : Run Z a0 n0 p l e R s m args below meth c Ψ D cells slots pc L (.int x :: S) := Run.i2l K hd hp (by rw [hv]; exact k)
theorem Run.l2iV (K : Ctx Z y bytes maxL ret p s m meth c) {x : Int64} {v : Int32} {pc' : Nat} (hd : decode bytes pc = .ok (.l2i, 1)) (hp : pc + 1 = pc') (hv : x.toInt32 = v) (k : Run Z a0 n0 p l e R s m args below meth c Ψ D cells slots pc' L (.int v :: S)) : Run Z a0 n0 p l e R s m args below meth c Ψ D cells slots pc L (.long x :: S) := Run.l2i K hd hp (by rw [hv]; exact k)
theorem Run.i2bV (K : Ctx Z y bytes maxL ret p s m meth c) {x : Int32} {v : Int32} {pc' : Nat} (hd : decode bytes pc = .ok (.i2b, 1)) (hp : pc + 1 = pc') (hv : x.toInt8.toInt32 = v) (k : Run Z a0 n0 p l e R s m args below meth c Ψ D cells slots pc' L (.int v :: S)) : Run Z a0 n0 p l e R s m args below meth c Ψ D cells slots pc L (.int x :: S) := Run.i2b K hd hp (by rw [hv]; exact k)
theorem Run.i2cV (K : Ctx Z y bytes maxL ret p s m meth c) {x : Int32} {v : Int32} {pc' : Nat} (hd : decode bytes pc = .ok (.i2c, 1)) (hp : pc + 1 = pc') (hv : x.toUInt32.toUInt16.toUInt32.toInt32 = v) (k : Run Z a0 n0 p l e R s m args below meth c Ψ D cells slots pc' L (.int v :: S)) : Run Z a0 n0 p l e R s m args below meth c Ψ D cells slots pc L (.int x :: S) := Run.i2c K hd hp (by rw [hv]; exact k)
theorem Run.i2sV (K : Ctx Z y bytes maxL ret p s m meth c) {x : Int32} {v : Int32} {pc' : Nat} (hd : decode bytes pc = .ok (.i2s, 1)) (hp : pc + 1 = pc') (hv : x.toInt16.toInt32 = v) (k : Run Z a0 n0 p l e R s m args below meth c Ψ D cells slots pc' L (.int v :: S)) : Run Z a0 n0 p l e R s m args below meth c Ψ D cells slots pc L (.int x :: S) := Run.i2s K hd hp (by rw [hv]; exact k)
theorem Run.lcmpV (K : Ctx Z y bytes maxL ret p s m meth c) {x z : Int64} {v : Int32} {pc' : Nat} (hd : decode bytes pc = .ok (.lcmp, 1)) (hp : pc + 1 = pc') (hv : lcmpW x z = v) (k : Run Z a0 n0 p l e R s m args below meth c Ψ D cells slots pc' L (.int v :: S)) : Run Z a0 n0 p l e R s m args below meth c Ψ D cells slots pc L (.long z :: .long x :: S) := Run.lcmp K hd hp (by rw [hv]; exact k)
theorem Run.pop2L (K : Ctx Z y bytes maxL ret p s m meth c) {x : Int64} {pc' : Nat} (hd : decode bytes pc = .ok (.pop2, 1)) (hp : pc + 1 = pc') (k : Run Z a0 n0 p l e R s m args below meth c Ψ D cells slots pc' L S) : Run Z a0 n0 p l e R s m args below meth c Ψ D cells slots pc L (.long x :: S) := by
  subst hp
  intro T locs X N H
  obtain ⟨t, o, st, r⟩ := k T locs X N H
  have hx := K.1
  have hd' := hb K.2.2.1 hd
  refine ⟨t, o, ?_, r⟩
  jvm_step X.here [X.here.top, hx, hd', Op.pop2.wp_sem, Value.category]
  exact st
theorem Run.goto (K : Ctx Z y bytes maxL ret p s m meth c) {i : Int} {pc' : Nat} (hd : decode bytes pc = .ok (.goto i, 3)) (ho : 0 ≤ (pc : Int) + i) (hp : ((pc : Int) + i).toNat = pc') (k : Run Z a0 n0 p l e R s m args below meth c Ψ D cells slots pc' L S) : Run Z a0 n0 p l e R s m args below meth c Ψ D cells slots pc L S := by
  intro T locs X N H
  obtain ⟨t, o, st, r⟩ := k T locs X N H
  exact ⟨t, o, XS.goto X.here K.1 rfl rfl (hb K.2.2.1 hd) ho hp st, r⟩
theorem Run.icmp (K : Ctx Z y bytes maxL ret p s m meth c) {x z : Int32} {cd : ClassFile.Cond} {i : Int} {pT pF : Nat} (hd : decode bytes pc = .ok (.if_icmp cd i, 3)) (ho : 0 ≤ (pc : Int) + i) (hT : ((pc : Int) + i).toNat = pT) (hF : pc + 3 = pF) (kT : rel cd x z → Run Z a0 n0 p l e R s m args below meth c Ψ D cells slots pT L S) (kF : ¬ rel cd x z → Run Z a0 n0 p l e R s m args below meth c Ψ D cells slots pF L S) : Run Z a0 n0 p l e R s m args below meth c Ψ D cells slots pc L (.int z :: .int x :: S) := by
  subst hF
  intro T locs X N H
  by_cases q : rel cd x z
  · obtain ⟨t, o, st, r⟩ := kT q T locs X N H
    exact ⟨t, o, XS.icmpYes X.here K.1 rfl rfl (hb K.2.2.1 hd) rfl ((rel_iff cd x z).mpr q) ho hT st, r⟩
  · obtain ⟨t, o, st, r⟩ := kF q T locs X N H
    exact ⟨t, o, XS.icmpNo X.here K.1 rfl (hb K.2.2.1 hd) rfl (Bool.eq_false_iff.mpr fun h => q ((rel_iff cd x z).mp h)) st, r⟩
theorem Run.ifc (K : Ctx Z y bytes maxL ret p s m meth c) {x : Int32} {cd : ClassFile.Cond} {i : Int} {pT pF : Nat} (hd : decode bytes pc = .ok (.ifCond cd i, 3)) (ho : 0 ≤ (pc : Int) + i) (hT : ((pc : Int) + i).toNat = pT) (hF : pc + 3 = pF) (kT : rel cd x 0 → Run Z a0 n0 p l e R s m args below meth c Ψ D cells slots pT L S) (kF : ¬ rel cd x 0 → Run Z a0 n0 p l e R s m args below meth c Ψ D cells slots pF L S) : Run Z a0 n0 p l e R s m args below meth c Ψ D cells slots pc L (.int x :: S) := by
  subst hF
  intro T locs X N H
  by_cases q : rel cd x 0
  · obtain ⟨t, o, st, r⟩ := kT q T locs X N H
    exact ⟨t, o, XS.ifYes X.here K.1 rfl rfl (hb K.2.2.1 hd) rfl ((if0 cd x).trans ((rel_iff cd x 0).mpr q)) ho hT st, r⟩
  · obtain ⟨t, o, st, r⟩ := kF q T locs X N H
    exact ⟨t, o, XS.ifNo X.here K.1 rfl (hb K.2.2.1 hd) rfl (Bool.eq_false_iff.mpr fun h => q ((rel_iff cd x 0).mp ((if0 cd x).symm.trans h))) st, r⟩
theorem Run.ifL (K : Ctx Z y bytes maxL ret p s m meth c) {x z : Int64} {cd : ClassFile.Cond} {i : Int} {pT pF : Nat} (hd : decode bytes pc = .ok (.ifCond cd i, 3)) (ho : 0 ≤ (pc : Int) + i) (hT : ((pc : Int) + i).toNat = pT) (hF : pc + 3 = pF) (kT : relL cd x z → Run Z a0 n0 p l e R s m args below meth c Ψ D cells slots pT L S) (kF : ¬ relL cd x z → Run Z a0 n0 p l e R s m args below meth c Ψ D cells slots pF L S) : Run Z a0 n0 p l e R s m args below meth c Ψ D cells slots pc L (.int (lcmpW x z) :: S) := by
  subst hF
  intro T locs X N H
  by_cases q : relL cd x z
  · obtain ⟨t, o, st, r⟩ := kT q T locs X N H
    exact ⟨t, o, XS.ifYes X.here K.1 rfl rfl (hb K.2.2.1 hd) rfl ((if0 cd _).trans ((relL_iff cd x z).mpr q)) ho hT st, r⟩
  · obtain ⟨t, o, st, r⟩ := kF q T locs X N H
    exact ⟨t, o, XS.ifNo X.here K.1 rfl (hb K.2.2.1 hd) rfl (Bool.eq_false_iff.mpr fun h => q ((relL_iff cd x z).mp ((if0 cd _).symm.trans h))) st, r⟩
theorem Run.icmpT (K : Ctx Z y bytes maxL ret p s m meth c) {x z : Int32} {cd : ClassFile.Cond} {i : Int} {pT pF : Nat} (hd : decode bytes pc = .ok (.if_icmp cd i, 3)) (ho : 0 ≤ (pc : Int) + i) (hT : ((pc : Int) + i).toNat = pT) (hF : pc + 3 = pF) (q : rel cd x z) (kT : Run Z a0 n0 p l e R s m args below meth c Ψ D cells slots pT L S) : Run Z a0 n0 p l e R s m args below meth c Ψ D cells slots pc L (.int z :: .int x :: S) := Run.icmp K hd ho hT hF (fun _ => kT) (fun h => absurd q h)
theorem Run.icmpF (K : Ctx Z y bytes maxL ret p s m meth c) {x z : Int32} {cd : ClassFile.Cond} {i : Int} {pT pF : Nat} (hd : decode bytes pc = .ok (.if_icmp cd i, 3)) (ho : 0 ≤ (pc : Int) + i) (hT : ((pc : Int) + i).toNat = pT) (hF : pc + 3 = pF) (q : ¬ rel cd x z) (kF : Run Z a0 n0 p l e R s m args below meth c Ψ D cells slots pF L S) : Run Z a0 n0 p l e R s m args below meth c Ψ D cells slots pc L (.int z :: .int x :: S) := Run.icmp K hd ho hT hF (fun h => absurd h q) (fun _ => kF)
theorem Run.ifcT (K : Ctx Z y bytes maxL ret p s m meth c) {x : Int32} {cd : ClassFile.Cond} {i : Int} {pT pF : Nat} (hd : decode bytes pc = .ok (.ifCond cd i, 3)) (ho : 0 ≤ (pc : Int) + i) (hT : ((pc : Int) + i).toNat = pT) (hF : pc + 3 = pF) (q : rel cd x 0) (kT : Run Z a0 n0 p l e R s m args below meth c Ψ D cells slots pT L S) : Run Z a0 n0 p l e R s m args below meth c Ψ D cells slots pc L (.int x :: S) := Run.ifc K hd ho hT hF (fun _ => kT) (fun h => absurd q h)
theorem Run.ifcF (K : Ctx Z y bytes maxL ret p s m meth c) {x : Int32} {cd : ClassFile.Cond} {i : Int} {pT pF : Nat} (hd : decode bytes pc = .ok (.ifCond cd i, 3)) (ho : 0 ≤ (pc : Int) + i) (hT : ((pc : Int) + i).toNat = pT) (hF : pc + 3 = pF) (q : ¬ rel cd x 0) (kF : Run Z a0 n0 p l e R s m args below meth c Ψ D cells slots pF L S) : Run Z a0 n0 p l e R s m args below meth c Ψ D cells slots pc L (.int x :: S) := Run.ifc K hd ho hT hF (fun h => absurd h q) (fun _ => kF)
theorem Run.ifLT (K : Ctx Z y bytes maxL ret p s m meth c) {x z : Int64} {cd : ClassFile.Cond} {i : Int} {pT pF : Nat} (hd : decode bytes pc = .ok (.ifCond cd i, 3)) (ho : 0 ≤ (pc : Int) + i) (hT : ((pc : Int) + i).toNat = pT) (hF : pc + 3 = pF) (q : relL cd x z) (kT : Run Z a0 n0 p l e R s m args below meth c Ψ D cells slots pT L S) : Run Z a0 n0 p l e R s m args below meth c Ψ D cells slots pc L (.int (lcmpW x z) :: S) := Run.ifL K hd ho hT hF (fun _ => kT) (fun h => absurd q h)
theorem Run.ifLF (K : Ctx Z y bytes maxL ret p s m meth c) {x z : Int64} {cd : ClassFile.Cond} {i : Int} {pT pF : Nat} (hd : decode bytes pc = .ok (.ifCond cd i, 3)) (ho : 0 ≤ (pc : Int) + i) (hT : ((pc : Int) + i).toNat = pT) (hF : pc + 3 = pF) (q : ¬ relL cd x z) (kF : Run Z a0 n0 p l e R s m args below meth c Ψ D cells slots pF L S) : Run Z a0 n0 p l e R s m args below meth c Ψ D cells slots pc L (.int (lcmpW x z) :: S) := Run.ifL K hd ho hT hF (fun h => absurd h q) (fun _ => kF)
theorem Run.ifnonnullT (K : Ctx Z y bytes maxL ret p s m meth c) {a : Addr} {i : Int} {pT : Nat} (hd : decode bytes pc = .ok (.ifnonnull i, 3)) (ho : 0 ≤ (pc : Int) + i) (hT : ((pc : Int) + i).toNat = pT) (k : Run Z a0 n0 p l e R s m args below meth c Ψ D cells slots pT L S) : Run Z a0 n0 p l e R s m args below meth c Ψ D cells slots pc L (.ref a :: S) := by
  intro T locs X N H
  obtain ⟨t, o, st, r⟩ := k T locs X N H
  exact ⟨t, o, XS.ifnonnullYes X.here K.1 rfl rfl (hb K.2.2.1 hd) rfl ho hT st, r⟩
theorem Run.as {D' : HD} (hD : D' = D) (k : Run Z a0 n0 p l e R s m args below meth c Ψ D' cells slots pc L S) : Run Z a0 n0 p l e R s m args below meth c Ψ D cells slots pc L S := by subst hD; exact k
theorem Run.asL {L' : Array Slot} (hL : L = L') (k : Run Z a0 n0 p l e R s m args below meth c Ψ D cells slots pc L' S) : Run Z a0 n0 p l e R s m args below meth c Ψ D cells slots pc L S := by subst hL; exact k
theorem Run.as2 {D' : HD} {S' : List Value} (hD : D' = D) (hS : S' = S) (k : Run Z a0 n0 p l e R s m args below meth c Ψ D' cells slots pc L S') : Run Z a0 n0 p l e R s m args below meth c Ψ D cells slots pc L S := by subst hD hS; exact k
theorem Ret.k {v : Option Value} {D1 : HD} {S' rest : List Value} {cells' slots' pc' : Nat} (hS : S' = v.toList ++ rest) (k : Run Z a0 n0 p l e R s m args below meth c Ψ D1 cells' slots' pc' L S') : ∀ (w : Option Value) (D' : HD), Ret v D1 w D' → Run Z a0 n0 p l e R s m args below meth c Ψ D' cells' slots' pc' L (w.toList ++ rest) := by rintro w D' ⟨rfl, rfl⟩; subst hS; exact k
theorem Run.join0 {D' : HD} {cells' slots' pc' : Nat} {L' : Array Slot} {S' : List Value} (k : Run Z a0 n0 p l e R s m args below meth c Ψ D' cells' slots' pc' L' S') (b : Run Z a0 n0 p l e R s m args below meth c Ψ D' cells' slots' pc' L' S' → Run Z a0 n0 p l e R s m args below meth c Ψ D cells slots pc L S) : Run Z a0 n0 p l e R s m args below meth c Ψ D cells slots pc L S := b k
theorem Run.join1 {α0 : Type} {F : α0 → Prop} {D' : α0 → HD} {cells' slots' pc' : Nat} {L' : α0 → Array Slot} {S' : α0 → List Value} (k : (∀ w0, F w0 → Run Z a0 n0 p l e R s m args below meth c Ψ (D' w0) cells' slots' pc' (L' w0) (S' w0))) (b : (∀ w0, F w0 → Run Z a0 n0 p l e R s m args below meth c Ψ (D' w0) cells' slots' pc' (L' w0) (S' w0)) → Run Z a0 n0 p l e R s m args below meth c Ψ D cells slots pc L S) : Run Z a0 n0 p l e R s m args below meth c Ψ D cells slots pc L S := b k
theorem Run.join2 {α0 : Type} {α1 : Type} {F : α0 → α1 → Prop} {D' : α0 → α1 → HD} {cells' slots' pc' : Nat} {L' : α0 → α1 → Array Slot} {S' : α0 → α1 → List Value} (k : (∀ w0 w1, F w0 w1 → Run Z a0 n0 p l e R s m args below meth c Ψ (D' w0 w1) cells' slots' pc' (L' w0 w1) (S' w0 w1))) (b : (∀ w0 w1, F w0 w1 → Run Z a0 n0 p l e R s m args below meth c Ψ (D' w0 w1) cells' slots' pc' (L' w0 w1) (S' w0 w1)) → Run Z a0 n0 p l e R s m args below meth c Ψ D cells slots pc L S) : Run Z a0 n0 p l e R s m args below meth c Ψ D cells slots pc L S := b k
theorem Run.join3 {α0 : Type} {α1 : Type} {α2 : Type} {F : α0 → α1 → α2 → Prop} {D' : α0 → α1 → α2 → HD} {cells' slots' pc' : Nat} {L' : α0 → α1 → α2 → Array Slot} {S' : α0 → α1 → α2 → List Value} (k : (∀ w0 w1 w2, F w0 w1 w2 → Run Z a0 n0 p l e R s m args below meth c Ψ (D' w0 w1 w2) cells' slots' pc' (L' w0 w1 w2) (S' w0 w1 w2))) (b : (∀ w0 w1 w2, F w0 w1 w2 → Run Z a0 n0 p l e R s m args below meth c Ψ (D' w0 w1 w2) cells' slots' pc' (L' w0 w1 w2) (S' w0 w1 w2)) → Run Z a0 n0 p l e R s m args below meth c Ψ D cells slots pc L S) : Run Z a0 n0 p l e R s m args below meth c Ψ D cells slots pc L S := b k
theorem Run.join4 {α0 : Type} {α1 : Type} {α2 : Type} {α3 : Type} {F : α0 → α1 → α2 → α3 → Prop} {D' : α0 → α1 → α2 → α3 → HD} {cells' slots' pc' : Nat} {L' : α0 → α1 → α2 → α3 → Array Slot} {S' : α0 → α1 → α2 → α3 → List Value} (k : (∀ w0 w1 w2 w3, F w0 w1 w2 w3 → Run Z a0 n0 p l e R s m args below meth c Ψ (D' w0 w1 w2 w3) cells' slots' pc' (L' w0 w1 w2 w3) (S' w0 w1 w2 w3))) (b : (∀ w0 w1 w2 w3, F w0 w1 w2 w3 → Run Z a0 n0 p l e R s m args below meth c Ψ (D' w0 w1 w2 w3) cells' slots' pc' (L' w0 w1 w2 w3) (S' w0 w1 w2 w3)) → Run Z a0 n0 p l e R s m args below meth c Ψ D cells slots pc L S) : Run Z a0 n0 p l e R s m args below meth c Ψ D cells slots pc L S := b k
theorem Run.join5 {α0 : Type} {α1 : Type} {α2 : Type} {α3 : Type} {α4 : Type} {F : α0 → α1 → α2 → α3 → α4 → Prop} {D' : α0 → α1 → α2 → α3 → α4 → HD} {cells' slots' pc' : Nat} {L' : α0 → α1 → α2 → α3 → α4 → Array Slot} {S' : α0 → α1 → α2 → α3 → α4 → List Value} (k : (∀ w0 w1 w2 w3 w4, F w0 w1 w2 w3 w4 → Run Z a0 n0 p l e R s m args below meth c Ψ (D' w0 w1 w2 w3 w4) cells' slots' pc' (L' w0 w1 w2 w3 w4) (S' w0 w1 w2 w3 w4))) (b : (∀ w0 w1 w2 w3 w4, F w0 w1 w2 w3 w4 → Run Z a0 n0 p l e R s m args below meth c Ψ (D' w0 w1 w2 w3 w4) cells' slots' pc' (L' w0 w1 w2 w3 w4) (S' w0 w1 w2 w3 w4)) → Run Z a0 n0 p l e R s m args below meth c Ψ D cells slots pc L S) : Run Z a0 n0 p l e R s m args below meth c Ψ D cells slots pc L S := b k
theorem Run.join6 {α0 : Type} {α1 : Type} {α2 : Type} {α3 : Type} {α4 : Type} {α5 : Type} {F : α0 → α1 → α2 → α3 → α4 → α5 → Prop} {D' : α0 → α1 → α2 → α3 → α4 → α5 → HD} {cells' slots' pc' : Nat} {L' : α0 → α1 → α2 → α3 → α4 → α5 → Array Slot} {S' : α0 → α1 → α2 → α3 → α4 → α5 → List Value} (k : (∀ w0 w1 w2 w3 w4 w5, F w0 w1 w2 w3 w4 w5 → Run Z a0 n0 p l e R s m args below meth c Ψ (D' w0 w1 w2 w3 w4 w5) cells' slots' pc' (L' w0 w1 w2 w3 w4 w5) (S' w0 w1 w2 w3 w4 w5))) (b : (∀ w0 w1 w2 w3 w4 w5, F w0 w1 w2 w3 w4 w5 → Run Z a0 n0 p l e R s m args below meth c Ψ (D' w0 w1 w2 w3 w4 w5) cells' slots' pc' (L' w0 w1 w2 w3 w4 w5) (S' w0 w1 w2 w3 w4 w5)) → Run Z a0 n0 p l e R s m args below meth c Ψ D cells slots pc L S) : Run Z a0 n0 p l e R s m args below meth c Ψ D cells slots pc L S := b k
theorem Run.acmpF (K : Ctx Z y bytes maxL ret p s m meth c) {i j : Nat} {a b : Addr} {ra rb : OArr} {o : Int} {pF : Nat} (hd : decode bytes pc = .ok (.if_acmp .eq o, 3)) (hF : pc + 3 = pF) (hi : D.2[i]? = some ra) (hj : D.2[j]? = some rb) (ea : ra.1 = a) (eb : rb.1 = b) (ne : i ≠ j) (k : Run Z a0 n0 p l e R s m args below meth c Ψ D cells slots pF L S) : Run Z a0 n0 p l e R s m args below meth c Ψ D cells slots pc L (.ref b :: .ref a :: S) := by
  subst hF ea eb
  intro T locs X N H
  have q : ra.1 ≠ rb.1 := fun e => ne (nodup_of (List.nodup_append.mp H.2.2.2).2.1 hi hj e)
  obtain ⟨t, o, st, r⟩ := k T locs X N H
  exact ⟨t, o, XS.acmpNo X.here K.1 rfl (hb K.2.2.1 hd) rfl (by simp [if_acmp.holds, q]) st, r⟩
theorem Run.ldcI (K : Ctx Z y bytes maxL ret p s m meth c) {idx : Nat} {v : Int32} {pc' : Nat} (hd : decode bytes pc = .ok (.ldc idx, 2)) (hp : pc + 2 = pc') (w : (Jvm.Cond.constant y.cls idx v).before a0 Z = true) (k : Run Z a0 n0 p l e R s m args below meth c Ψ D cells slots pc' L (.int v :: S)) : Run Z a0 n0 p l e R s m args below meth c Ψ D cells slots pc L S := by
  subst hp
  intro T locs X N H
  obtain ⟨t, o, st, r⟩ := k T locs X N H
  exact ⟨t, o, X.ldcInt K.1 K.2.2.2.2.1 (mvT K.2.1 w) (g := mkF m pc L S) rfl (hb K.2.2.1 hd) _ st, r⟩
theorem Run.ldcJ (K : Ctx Z y bytes maxL ret p s m meth c) {idx : Nat} {v : Int64} {pc' : Nat} (hd : decode bytes pc = .ok (.ldc2_w idx, 3)) (hp : pc + 3 = pc') (w : (Jvm.Cond.constantLong y.cls idx v).before a0 Z = true) (k : Run Z a0 n0 p l e R s m args below meth c Ψ D cells slots pc' L (.long v :: S)) : Run Z a0 n0 p l e R s m args below meth c Ψ D cells slots pc L S := by
  subst hp
  intro T locs X N H
  obtain ⟨t, o, st, r⟩ := k T locs X N H
  exact ⟨t, o, X.ldc2Long K.1 K.2.2.2.2.1 (mvT K.2.1 w) (g := mkF m pc L S) rfl (hb K.2.2.1 hd) _ st, r⟩
theorem Run.getF (K : Ctx Z y bytes maxL ret p s m meth c) {idx i j : Nat} {O n d C : String} {a : Addr} {fs : List OFld} {v : Value} {pc' : Nat} (hd : decode bytes pc = .ok (.getfield idx, 3)) (hp : pc + 3 = pc') (w : (Jvm.Cond.fieldLink y.cls idx O n d).before a0 Z = true) (hi : D.1[i]? = some (a, C, fs)) (hj : fs[j]? = some (O, n, d, v)) (k : Run Z a0 n0 p l e R s m args below meth c Ψ D cells slots pc' L (v :: S)) : Run Z a0 n0 p l e R s m args below meth c Ψ D cells slots pc L (.ref a :: S) := by
  subst hp
  intro T locs X N H
  have F := ((H.2.1 _ (List.mem_of_getElem? hi)).2.2.1 _ (List.mem_of_getElem? hj)).1
  obtain ⟨T', X', e', st'⟩ := RoadKit.getF X K.1 K.2.1 K.2.2.2.2.1 (host := "") (Or.inl w) Via.refl rfl F (g := mkF m pc L (.ref a :: S)) rfl rfl (hb K.2.2.1 hd)
  obtain ⟨t, o, st, r⟩ := k T' locs X' N (by rw [e']; exact H)
  exact ⟨t, o, st' _ st, r⟩
theorem Run.putF (K : Ctx Z y bytes maxL ret p s m meth c) {idx i j kk : Nat} {O n d C : String} {a : Addr} {fs : List OFld} {v old : Value} {ty : FieldType} {pc' : Nat} {D' : HD} (hd : decode bytes pc = .ok (.putfield idx, 3)) (hp : pc + 3 = pc') (w : (Jvm.Cond.fieldLink y.cls idx O n d).before a0 Z = true) (wl : (Jvm.Cond.lays C O n d).before a0 Z = true ∨ ((Jvm.Cond.laysFinal C O n d).before a0 Z = true ∧ y.cls = O ∧ y.name = "<init>")) (wi : (Jvm.Cond.instantiable C kk).before a0 Z = true) (hty : parseFieldDescriptor d = some ty) (hn : narrow ty v = v) (hf : fits ty v = true) (hi : D.1[i]? = some (a, C, fs)) (hj : fs[j]? = some (O, n, d, old)) (hD : D' = (D.1.set i (a, C, fs.set j (O, n, d, v)), D.2)) (k : Run Z a0 n0 p l e R s m args below meth c Ψ D' cells slots pc' L S) : Run Z a0 n0 p l e R s m args below meth c Ψ D cells slots pc L (v :: .ref a :: S) := by
  subst hp hD
  intro T locs X N H
  have HO := H.2.1 _ (List.mem_of_getElem? hi)
  have F := (HO.2.2.1 _ (List.mem_of_getElem? hj)).1
  obtain ⟨T', h', X', e', W, st'⟩ := RoadKit.putF X K.1 K.2.1 K.2.2.2.2.1 (host := "") (Or.inl w) Via.refl rfl F HO.2.1 (wl.imp id fun q => ⟨q.1, q.2.1, K.2.2.2.2.2.1.trans q.2.2⟩) wi hty hn hf (g := mkF m pc L (v :: .ref a :: S)) rfl rfl (hb K.2.2.1 hd)
  obtain ⟨t, o, st, r⟩ := k T' _ X' (Fr.snoc X' N HO.1) (by rw [e']; exact H.put hi hj W)
  exact ⟨t, o, st' _ st, r⟩
theorem Run.newO (K : Ctx Z y bytes maxL ret p s m meth c) {idx n : Nat} {C : String} {fs : List OFld} {pc' cells' slots' : Nat} (hd : decode bytes pc = .ok (.new idx, 3)) (hp : pc + 3 = pc') (w : (Jvm.Cond.classLink y.cls idx C).before a0 Z = true) (wi : (Jvm.Cond.instantiable C n).before a0 Z = true) (wz : (Jvm.Cond.initialized C).before a0 Z = true) (F : FieldsOk Z a0 C fs) (e1 : cells + 1 = cells') (e2 : slots + n = slots') (hc : cells' ≤ R.cells) (hs : slots' ≤ R.slots) (k : ∀ a : Addr, Run Z a0 n0 p l e R s m args below meth c Ψ ((a, C, fs) :: D.1, D.2) cells' slots' pc' L (.ref a :: S)) : Run Z a0 n0 p l e R s m args below meth c Ψ D cells slots pc L S := by
  subst hp e1 e2
  intro T locs X N H
  obtain ⟨T', h', X', e', E, A, Dv, -, st'⟩ := RoadKit.newO X K.1 K.2.1 K.2.2.2.2.1 w wi wz rfl (g := mkF m pc L S) rfl (hb K.2.2.1 hd) hc hs
  obtain ⟨t, o, st, r⟩ := k T.heap.size T' locs X' N (by rw [e']; exact H.new E A F Dv)
  exact ⟨t, o, st' _ st, r⟩
theorem Run.newA (K : Ctx Z y bytes maxL ret p s m meth c) {aty : ArrayType} {ty : FieldType} {n : Int32} {vs : List Value} {cap : Nat} {pc' cells' slots' : Nat} (hd : decode bytes pc = .ok (.newarray aty, 2)) (hp : pc + 2 = pc') (hty : newarray.typeOf aty = ty) (w : (Jvm.Cond.arrayClass ty).before a0 Z = true) (hn : ¬ n < 0) (hvs : vs = List.replicate n.toNatClampNeg (defaultValue ty)) (hcap : n.toNatClampNeg ≤ cap) (hb8 : cap * 8 ≤ 536870912) (e1 : cells + 1 = cells') (e2 : slots + cap = slots') (hc : cells' ≤ R.cells) (hs : slots' ≤ R.slots) (hfd : fits ty (defaultValue ty) = true) (k : ∀ a : Addr, Run Z a0 n0 p l e R s m args below meth c Ψ (D.1, (a, ty, vs) :: D.2) cells' slots' pc' L (.ref a :: S)) : Run Z a0 n0 p l e R s m args below meth c Ψ D cells slots pc L (.int n :: S) := by
  subst hp e1 e2 hty hvs
  intro T locs X N H
  obtain ⟨T', h', cA, X', e', E, A, EX, st'⟩ := RoadKit.newPE X K.1 K.2.1 w rfl (g := mkF m pc L (.int n :: S)) rfl (hb K.2.2.1 hd) rfl hn hcap hb8 hc hs rfl
  obtain ⟨t, o, st, r⟩ := k T.heap.size T' locs X' N (by
    rw [e']
    refine H.newArr E A EX ?_ ?_ ?_
    · simp [RoadKit.newA]
    · rw [List.length_replicate]; exact (back32 hn).2
    · intro v hv; rw [List.eq_of_mem_replicate hv]; exact hfd)
  exact ⟨t, o, st' _ st, r⟩
theorem Run.alen (K : Ctx Z y bytes maxL ret p s m meth c) {i : Nat} {a : Addr} {ty : FieldType} {vs : List Value} {w : Int32} {pc' : Nat} (hd : decode bytes pc = .ok (.arraylength, 1)) (hp : pc + 1 = pc') (hi : D.2[i]? = some (a, ty, vs)) (hw : vs.length.toInt32 = w) (k : Run Z a0 n0 p l e R s m args below meth c Ψ D cells slots pc' L (.int w :: S)) : Run Z a0 n0 p l e R s m args below meth c Ψ D cells slots pc L (.ref a :: S) := by
  subst hp hw
  intro T locs X N H
  obtain ⟨-, c', A, e1, -⟩ := H.2.2.1 _ (List.mem_of_getElem? hi)
  have q : c'.slots.size = vs.length := by rw [e1]; simp
  obtain ⟨t, o, st, r⟩ := k T locs X N H
  rw [← q] at st
  exact ⟨t, o, X.arraylength K.1 A.1 (State.isArrayOf_alike K.2.1.alike A.2.1) (g := mkF m pc L (.ref a :: S)) rfl rfl (hb K.2.2.1 hd) _ st, r⟩
theorem nar_byte (x : Int32) : nar .byte (x.toInt8.toInt32) = x.toInt8.toInt32 := by
  show (x.toInt8.toInt32).toInt8.toInt32 = x.toInt8.toInt32
  rw [Int8.toInt8_toInt32]
theorem own_bool {j : Int32} (h : j = (0 : Int32) ∨ j = (1 : Int32)) : nar .boolean j = j := by rcases h with rfl | rfl <;> decide
theorem in_of {vs : List Value} {q : Nat} {v : Value} {j : Int32} (hj : ¬ j < 0) (hq : j.toNatClampNeg = q) (hv : vs[q]? = some v) {c' : Cell} (e1 : c'.slots = vs.toArray) : ¬ (j < 0 ∨ c'.slots.size ≤ j.toNatClampNeg) ∧ c'.slots[j.toNatClampNeg]? = some v := by
  subst hq
  obtain ⟨li, ei⟩ := List.getElem?_eq_some_iff.mp hv
  refine ⟨fun z => z.elim hj fun z => ?_, by rw [e1]; simpa using hv⟩
  rw [e1] at z
  simp at z
  omega
theorem Run.baload (K : Ctx Z y bytes maxL ret p s m meth c) {i q : Nat} {a : Addr} {vs : List Value} {j : Int32} {v : Value} {pc' : Nat} (hd : decode bytes pc = .ok (.baload, 1)) (hp : pc + 1 = pc') (hi : D.2[i]? = some (a, .byte, vs)) (hj : ¬ j < 0) (hq : j.toNatClampNeg = q) (hv : vs[q]? = some v) (k : Run Z a0 n0 p l e R s m args below meth c Ψ D cells slots pc' L (v :: S)) : Run Z a0 n0 p l e R s m args below meth c Ψ D cells slots pc L (.int j :: .ref a :: S) := by
  subst hp
  intro T locs X N H
  obtain ⟨-, c', A, e1, -⟩ := H.2.2.1 _ (List.mem_of_getElem? hi)
  obtain ⟨u1, u2⟩ := in_of hj hq hv e1
  obtain ⟨t, o, st, r⟩ := k T locs X N H
  exact ⟨t, o, X.baloadBytes K.1 A.1 (State.isArrayOf_alike K.2.1.alike A.2.1) A.2.2 u1 u2 (g := mkF m pc L (.int j :: .ref a :: S)) rfl rfl (hb K.2.2.1 hd) _ st, r⟩
theorem Run.iaload (K : Ctx Z y bytes maxL ret p s m meth c) {i q : Nat} {a : Addr} {vs : List Value} {j : Int32} {v : Value} {pc' : Nat} (hd : decode bytes pc = .ok (.iaload, 1)) (hp : pc + 1 = pc') (hi : D.2[i]? = some (a, .int, vs)) (hj : ¬ j < 0) (hq : j.toNatClampNeg = q) (hv : vs[q]? = some v) (k : Run Z a0 n0 p l e R s m args below meth c Ψ D cells slots pc' L (v :: S)) : Run Z a0 n0 p l e R s m args below meth c Ψ D cells slots pc L (.int j :: .ref a :: S) := by
  subst hp
  intro T locs X N H
  obtain ⟨-, c', A, e1, -⟩ := H.2.2.1 _ (List.mem_of_getElem? hi)
  obtain ⟨u1, u2⟩ := in_of hj hq hv e1
  obtain ⟨t, o, st, r⟩ := k T locs X N H
  exact ⟨t, o, X.iaload K.1 A.1 (State.isArrayOf_alike K.2.1.alike A.2.1) A.2.2 u1 u2 (g := mkF m pc L (.int j :: .ref a :: S)) rfl rfl (hb K.2.2.1 hd) _ st, r⟩
theorem Run.laload (K : Ctx Z y bytes maxL ret p s m meth c) {i q : Nat} {a : Addr} {vs : List Value} {j : Int32} {v : Value} {pc' : Nat} (hd : decode bytes pc = .ok (.laload, 1)) (hp : pc + 1 = pc') (hi : D.2[i]? = some (a, .long, vs)) (hj : ¬ j < 0) (hq : j.toNatClampNeg = q) (hv : vs[q]? = some v) (k : Run Z a0 n0 p l e R s m args below meth c Ψ D cells slots pc' L (v :: S)) : Run Z a0 n0 p l e R s m args below meth c Ψ D cells slots pc L (.int j :: .ref a :: S) := by
  subst hp
  intro T locs X N H
  obtain ⟨-, c', A, e1, -⟩ := H.2.2.1 _ (List.mem_of_getElem? hi)
  obtain ⟨u1, u2⟩ := in_of hj hq hv e1
  obtain ⟨t, o, st, r⟩ := k T locs X N H
  exact ⟨t, o, X.laload K.1 A.1 (State.isArrayOf_alike K.2.1.alike A.2.1) A.2.2 u1 u2 (g := mkF m pc L (.int j :: .ref a :: S)) rfl rfl (hb K.2.2.1 hd) _ st, r⟩
theorem Run.zaload (K : Ctx Z y bytes maxL ret p s m meth c) {i q : Nat} {a : Addr} {vs : List Value} {j : Int32} {v : Value} {pc' : Nat} (hd : decode bytes pc = .ok (.baload, 1)) (hp : pc + 1 = pc') (hi : D.2[i]? = some (a, .boolean, vs)) (hj : ¬ j < 0) (hq : j.toNatClampNeg = q) (hv : vs[q]? = some v) (k : Run Z a0 n0 p l e R s m args below meth c Ψ D cells slots pc' L (v :: S)) : Run Z a0 n0 p l e R s m args below meth c Ψ D cells slots pc L (.int j :: .ref a :: S) := by
  subst hp
  intro T locs X N H
  obtain ⟨-, c', A, e1, -⟩ := H.2.2.1 _ (List.mem_of_getElem? hi)
  obtain ⟨u1, u2⟩ := in_of hj hq hv e1
  obtain ⟨t, o, st, r⟩ := k T locs X N H
  exact ⟨t, o, X.baloadBooleans K.1 A.1 (State.isArrayOf_alike K.2.1.alike A.2.1) A.2.2 u1 u2 (g := mkF m pc L (.int j :: .ref a :: S)) rfl rfl (hb K.2.2.1 hd) _ st, r⟩
theorem Run.caload (K : Ctx Z y bytes maxL ret p s m meth c) {i q : Nat} {a : Addr} {vs : List Value} {j : Int32} {v : Value} {pc' : Nat} (hd : decode bytes pc = .ok (.caload, 1)) (hp : pc + 1 = pc') (hi : D.2[i]? = some (a, .char, vs)) (hj : ¬ j < 0) (hq : j.toNatClampNeg = q) (hv : vs[q]? = some v) (k : Run Z a0 n0 p l e R s m args below meth c Ψ D cells slots pc' L (v :: S)) : Run Z a0 n0 p l e R s m args below meth c Ψ D cells slots pc L (.int j :: .ref a :: S) := by
  subst hp
  intro T locs X N H
  obtain ⟨-, c', A, e1, -⟩ := H.2.2.1 _ (List.mem_of_getElem? hi)
  obtain ⟨u1, u2⟩ := in_of hj hq hv e1
  obtain ⟨t, o, st, r⟩ := k T locs X N H
  exact ⟨t, o, X.caload K.1 A.1 (State.isArrayOf_alike K.2.1.alike A.2.1) A.2.2 u1 u2 (g := mkF m pc L (.int j :: .ref a :: S)) rfl rfl (hb K.2.2.1 hd) _ st, r⟩
theorem Run.bastore (K : Ctx Z y bytes maxL ret p s m meth c) {i q : Nat} {a : Addr} {vs : List Value} {j : Int32} {x : Int32} {v : Value} {pc' : Nat} {D' : HD} (hd : decode bytes pc = .ok (.bastore, 1)) (hp : pc + 1 = pc') (hi : D.2[i]? = some (a, .byte, vs)) (hj : ¬ j < 0) (hq : j.toNatClampNeg = q) (hv : vs[q]? = some v) (hD : D' = (D.1, D.2.set i (a, .byte, vs.set q (.int x.toInt8.toInt32)))) (k : Run Z a0 n0 p l e R s m args below meth c Ψ D' cells slots pc' L S) : Run Z a0 n0 p l e R s m args below meth c Ψ D cells slots pc L (.int x :: .int j :: .ref a :: S) := by
  subst hp hD
  intro T locs X N H
  have HA := H.2.2.1 _ (List.mem_of_getElem? hi)
  have g1 := HA.1.1
  obtain ⟨-, c', A, e1, -⟩ := HA
  obtain ⟨u1, u2⟩ := in_of hj hq hv e1
  obtain ⟨T', h', X', e', W, st'⟩ := stB X K.1 K.2.1 rfl A u1 (g := mkF m pc L (.int x :: .int j :: .ref a :: S)) rfl rfl (hb K.2.2.1 hd)
  rw [hq] at W X'
  obtain ⟨t, o, st, r⟩ := k T' _ X' (Fr.snoc X' N g1) (by rw [e']; exact H.store hi (fits_nar_byte x) W)
  exact ⟨t, o, st' _ st, r⟩
theorem Run.iastore (K : Ctx Z y bytes maxL ret p s m meth c) {i q : Nat} {a : Addr} {vs : List Value} {j : Int32} {x : Int32} {v : Value} {pc' : Nat} {D' : HD} (hd : decode bytes pc = .ok (.iastore, 1)) (hp : pc + 1 = pc') (hi : D.2[i]? = some (a, .int, vs)) (hj : ¬ j < 0) (hq : j.toNatClampNeg = q) (hv : vs[q]? = some v) (hD : D' = (D.1, D.2.set i (a, .int, vs.set q (.int x)))) (k : Run Z a0 n0 p l e R s m args below meth c Ψ D' cells slots pc' L S) : Run Z a0 n0 p l e R s m args below meth c Ψ D cells slots pc L (.int x :: .int j :: .ref a :: S) := by
  subst hp hD
  intro T locs X N H
  have HA := H.2.2.1 _ (List.mem_of_getElem? hi)
  have g1 := HA.1.1
  obtain ⟨-, c', A, e1, -⟩ := HA
  obtain ⟨u1, u2⟩ := in_of hj hq hv e1
  obtain ⟨T', h', X', e', W, st'⟩ := stI X K.1 K.2.1 rfl A u1 (g := mkF m pc L (.int x :: .int j :: .ref a :: S)) rfl rfl (hb K.2.2.1 hd)
  rw [hq] at W X'
  obtain ⟨t, o, st, r⟩ := k T' _ X' (Fr.snoc X' N g1) (by rw [e']; exact H.store hi (rfl) W)
  exact ⟨t, o, st' _ st, r⟩
theorem Run.lastore (K : Ctx Z y bytes maxL ret p s m meth c) {i q : Nat} {a : Addr} {vs : List Value} {j : Int32} {x : Int64} {v : Value} {pc' : Nat} {D' : HD} (hd : decode bytes pc = .ok (.lastore, 1)) (hp : pc + 1 = pc') (hi : D.2[i]? = some (a, .long, vs)) (hj : ¬ j < 0) (hq : j.toNatClampNeg = q) (hv : vs[q]? = some v) (hD : D' = (D.1, D.2.set i (a, .long, vs.set q (.long x)))) (k : Run Z a0 n0 p l e R s m args below meth c Ψ D' cells slots pc' L S) : Run Z a0 n0 p l e R s m args below meth c Ψ D cells slots pc L (.long x :: .int j :: .ref a :: S) := by
  subst hp hD
  intro T locs X N H
  have HA := H.2.2.1 _ (List.mem_of_getElem? hi)
  have g1 := HA.1.1
  obtain ⟨-, c', A, e1, -⟩ := HA
  obtain ⟨u1, u2⟩ := in_of hj hq hv e1
  obtain ⟨T', h', X', e', W, st'⟩ := stJ X K.1 K.2.1 rfl A u1 (g := mkF m pc L (.long x :: .int j :: .ref a :: S)) rfl rfl (hb K.2.2.1 hd)
  rw [hq] at W X'
  obtain ⟨t, o, st, r⟩ := k T' _ X' (Fr.snoc X' N g1) (by rw [e']; exact H.store hi (rfl) W)
  exact ⟨t, o, st' _ st, r⟩
theorem Run.bring (i j : Nat) {D' : HD} (hD : D' = (bringL i D.1, bringL j D.2)) (k : Run Z a0 n0 p l e R s m args below meth c Ψ D' cells slots pc L S) : Run Z a0 n0 p l e R s m args below meth c Ψ D cells slots pc L S := by
  subst hD
  intro T locs X N H
  exact k T locs X N (H.perm (bringL_perm i _) (bringL_perm j _))
theorem Run.initO (K : Ctx Z y bytes maxL ret p s m meth c) {idx : Nat} {a : Addr} {W : Nat} {pc' : Nat} (hd : decode bytes pc = .ok (.invokespecial idx, 3)) (hp : pc + 3 = pc') (w1 : (Jvm.Cond.methodLink y.cls idx Lib.objectInit).before a0 Z = true) (w2 : (Jvm.Cond.instanceMethod Lib.objectInit).before a0 Z = true) (w3 : (Jvm.Cond.code Lib.objectInit ⟨#[0xb1]⟩ 1 none).before a0 Z = true) (hsz : L.size = maxL) (hf : 1 ≤ R.frames) (hW : (S.map fun v => v.category).sum = W) (hl : W + 12 ≤ R.locals) (k : Run Z a0 n0 p l e R s m args below meth c Ψ D cells slots pc' L S) : Run Z a0 n0 p l e R s m args below meth c Ψ D cells slots pc L (.ref a :: S) := by
  subst hp
  intro T locs X N H
  obtain ⟨T', X', e', st'⟩ := RoadKit.initO X K.1 K.2.1 K.2.2.2.2.1 w1 w2 w3 rfl (g := mkF m pc L (.ref a :: S)) rfl (by rw [K.2.2.2.1]; exact hsz) rfl (hb K.2.2.1 hd) hf (W := W) (by show 2 * 0 + _ ≤ _; rw [hW]; omega) hl
  obtain ⟨t, o, st, r⟩ := k T' locs X' N (by rw [e']; exact H)
  exact ⟨t, o, st' _ st, r⟩
theorem Run.acopy (K : Ctx Z y bytes maxL ret p s m meth c) {idx i j W : Nat} {a b : Addr} {ty : FieldType} {vs vd vd' : List Value} {sp dp nn : Int32} {k1 k2 k3 : Nat} {pc' : Nat} {D' : HD} (hd : decode bytes pc = .ok (.invokestatic idx, 3)) (hp : pc + 3 = pc') (w1 : (Jvm.Cond.methodLink y.cls idx Jvm.Stand.acN).before a0 Z = true) (w2 : (Jvm.Cond.native Jvm.Stand.acN).before a0 Z = true) (w3 : (Jvm.Cond.static Jvm.Stand.acN).before a0 Z = true) (w4 : (Jvm.Cond.initialized "java/lang/System").before a0 Z = true) (hi : D.2[i]? = some (a, ty, vs)) (hj : D.2[j]? = some (b, ty, vd)) (hty : refKind ty = false) (g1 : ¬ sp < 0) (g2 : ¬ dp < 0) (g3 : ¬ nn < 0) (q1 : sp.toNatClampNeg = k1) (q2 : dp.toNatClampNeg = k2) (q3 : nn.toNatClampNeg = k3) (l1 : k1 + k3 ≤ vs.length) (l2 : k2 + k3 ≤ vd.length) (hvd : vd' = vd.take k2 ++ (vs.drop k1).take k3 ++ vd.drop (k2 + k3)) (hD : D' = (D.1, D.2.set j (b, ty, vd'))) (hsz : L.size = maxL) (hf : 1 ≤ R.frames) (hW : (S.map fun v => v.category).sum = W) (hl : W + 18 ≤ R.locals) (k : Run Z a0 n0 p l e R s m args below meth c Ψ D' cells slots pc' L S) : Run Z a0 n0 p l e R s m args below meth c Ψ D cells slots pc L (.int nn :: .int dp :: .ref b :: .int sp :: .ref a :: S) := by
  subst hp hD
  intro T locs X N H
  obtain ⟨ka, A⟩ := arv_of (d := .null) (H.2.2.1 _ (List.mem_of_getElem? hi))
  have HB := H.2.2.1 _ (List.mem_of_getElem? hj)
  obtain ⟨kb, B⟩ := arv_of (d := .null) HB
  have hla : (Int32.ofNat vs.length).toNatClampNeg = vs.length := by obtain ⟨-, c', -, -, e2, -⟩ := H.2.2.1 _ (List.mem_of_getElem? hi); have q : (Int32.ofNat vs.length).toInt = vs.length := Int32.toInt_ofNat_small (by omega); show (Int32.ofNat vs.length).toInt.toNat = _; omega
  have hlb : (Int32.ofNat vd.length).toNatClampNeg = vd.length := by obtain ⟨-, c', -, -, e2, -⟩ := HB; have q : (Int32.ofNat vd.length).toInt = vd.length := Int32.toInt_ofNat_small (by omega); show (Int32.ofNat vd.length).toInt.toNat = _; omega
  obtain ⟨T', h', L', X', e', N', KP, V, st'⟩ := cpA X K.1 K.2.1 K.2.2.2.2.1 w1 w2 w3 w4 rfl A B (us := (vs.drop k1).take k3) (Or.inl ⟨rfl, hty⟩) g1 g2 g3 (by rw [q1, q3, hla]; exact l1) (by rw [q2, q3, hlb]; exact l2) (by rw [q1, q3]; exact (range_map l1).symm) (by rw [q2, q3]; exact l2) N HB.1.1 (g := mkF m pc L (.int nn :: .int dp :: .ref b :: .int sp :: .ref a :: S)) rfl (by rw [K.2.2.2.1]; exact hsz) rfl (hb K.2.2.1 hd) hf (W := W) (by show 2 * 0 + _ ≤ _; rw [hW]; omega) hl
  rw [q2, q3, ← hvd] at V
  have len : vd'.length = vd.length := by rw [hvd]; simp; omega
  obtain ⟨t, o, st, r⟩ := k T' L' X' N' (by rw [e']; exact H.swap hj KP (of_arv V HB.1.1 (HB.1.2.keep KP) (by rw [len, hlb])))
  exact ⟨t, o, st' _ st, r⟩
theorem Run.clone (K : Ctx Z y bytes maxL ret p s m meth c) {idx i W cap : Nat} {a : Addr} {ty : FieldType} {vs : List Value} {ad : String} {pc' cells' slots' : Nat} (hd : decode bytes pc = .ok (.invokevirtual idx, 3)) (hp : pc + 3 = pc') (had : "[" ++ ty.toString = ad) (w1 : (Jvm.Cond.methodLink y.cls idx ⟨ad, "clone", "()Ljava/lang/Object;"⟩).before a0 Z = true) (w2 : (Jvm.Cond.sameMethod ad "java/lang/Object" "clone" "()Ljava/lang/Object;").before a0 Z = true) (w3 : (Jvm.Cond.native ⟨"java/lang/Object", "clone", "()Ljava/lang/Object;"⟩).before a0 Z = true) (w4 : (Jvm.Cond.instanceMethod ⟨"java/lang/Object", "clone", "()Ljava/lang/Object;"⟩).before a0 Z = true) (w5 : (Jvm.Cond.selects ad ⟨ad, "clone", "()Ljava/lang/Object;"⟩ ⟨"java/lang/Object", "clone", "()Ljava/lang/Object;"⟩).before a0 Z = true) (w6 : (Jvm.Cond.castable ad "java/lang/Cloneable").before a0 Z = true) (hi : D.2[i]? = some (a, ty, vs)) (hcap : vs.length ≤ cap) (hsz : L.size = maxL) (hf : 1 ≤ R.frames) (hW : (S.map fun v => v.category).sum = W) (hl : W + 14 ≤ R.locals) (e1 : cells + 1 = cells') (e2 : slots + cap = slots') (hc : cells' ≤ R.cells) (hs : slots' ≤ R.slots) (k : ∀ b : Addr, Run Z a0 n0 p l e R s m args below meth c Ψ (D.1, (b, ty, vs) :: D.2) cells' slots' pc' L (.ref b :: S)) : Run Z a0 n0 p l e R s m args below meth c Ψ D cells slots pc L (.ref a :: S) := by
  subst hp e1 e2 had
  intro T locs X N H
  have HA := H.2.2.1 _ (List.mem_of_getElem? hi)
  have EX := HA.1.2
  obtain ⟨-, c', A, z1, z2, z3⟩ := HA
  have sz : c'.slots.size = vs.length := by rw [z1]; simp
  have FC : FitC Z c' := fitC_of A fun i hi v hv => by
    rw [z1] at hv
    refine z3 v ?_
    have q : vs[i]? = some v := by simpa using hv
    exact List.mem_of_getElem? q
  obtain ⟨T', h', X', e', E, A', EX', st'⟩ := cloneA X K.1 K.2.1 K.2.2.2.2.1 w1 w2 w3 w4 w5 w6 rfl A EX FC (g := mkF m pc L (.ref a :: S)) rfl (by rw [K.2.2.2.1]; exact hsz) rfl (hb K.2.2.1 hd) hf (W := W) (by show 2 * 0 + _ ≤ _; rw [hW]; omega) hl (by rw [sz]; exact hcap) hc hs
  obtain ⟨t, o, st, r⟩ := k T.heap.size T' locs X' N (by rw [e']; exact H.newArr E A' EX' z1 z2 z3)
  exact ⟨t, o, st' _ st, r⟩
theorem Run.castA (K : Ctx Z y bytes maxL ret p s m meth c) {idx i : Nat} {a : Addr} {ty : FieldType} {vs : List Value} {ad : String} {pc' : Nat} (hd : decode bytes pc = .ok (.checkcast idx, 3)) (hp : pc + 3 = pc') (had : "[" ++ ty.toString = ad) (w : (Jvm.Cond.classLink y.cls idx ad).before a0 Z = true) (hi : D.2[i]? = some (a, ty, vs)) (k : Run Z a0 n0 p l e R s m args below meth c Ψ D cells slots pc' L (.ref a :: S)) : Run Z a0 n0 p l e R s m args below meth c Ψ D cells slots pc L (.ref a :: S) := by
  subst hp had
  intro T locs X N H
  have HA := H.2.2.1 _ (List.mem_of_getElem? hi)
  obtain ⟨T', X', e', st'⟩ := castY X K.1 K.2.1 K.2.2.2.2.1 w rfl (Ins.self HA.1.2) (g := mkF m pc L (.ref a :: S)) rfl rfl (hb K.2.2.1 hd)
  obtain ⟨t, o, st, r⟩ := k T' locs X' N (by rw [e']; exact H)
  exact ⟨t, o, st' _ st, r⟩
theorem Run.callS (K : Ctx Z y bytes maxL ret p s m meth c) {idx W : Nat} {z : MethodName} {bs : ByteArray} {mL : Nat} {rt : Option FieldType} {rm : Room} {Φ : Option Value → HD → Prop} {argsL rest : List Value} {sg : MethodDescriptor} {cells' slots' pc' : Nat} (hd : decode bytes pc = .ok (.invokestatic idx, 3)) (hp : pc + 3 = pc') (w1 : (Jvm.Cond.methodLink y.cls idx z).before a0 Z = true) (w2 : (Jvm.Cond.static z).before a0 Z = true) (w3 : (Jvm.Cond.initialized z.cls).before a0 Z = true) (w4 : (Jvm.Cond.code z bs mL rt).before a0 Z = true) (hz : z.cls ≠ "java/lang/invoke/MethodHandle" ∧ z.cls ≠ "java/lang/invoke/VarHandle") (C : Con l Z a0 n0 [] z bs mL rt rm argsL.toArray D Φ) (hS : S = argsL.reverse ++ rest) (hsz : L.size = maxL) (hsg : parseMethodDescriptor z.desc = some sg) (hlen : argsL.length = sg.parameters.length) (hW : (rest.map fun v => v.category).sum = W) (hf : rm.frames + 1 ≤ R.frames) (hl : W + (mL + 11) + rm.locals ≤ R.locals) (e1 : cells + rm.cells = cells') (e2 : slots + rm.slots = slots') (hc : cells' ≤ R.cells) (hs : slots' ≤ R.slots) (k : ∀ (v : Option Value) (D' : HD), Φ v D' → Run Z a0 n0 p l e R s m args below meth c Ψ D' cells' slots' pc' L (v.toList ++ rest)) : Run Z a0 n0 p l e R s m args below meth c Ψ D cells slots pc L S := by
  subst hp e1 e2 hS
  intro T locs X N H
  have B := backOf (R := R) (p := p) (e := e) (below := below) (s := s) (args := args) (len := 3) (W := W) (Q := fun v h L => Fr n0 L ∧ ∃ D', Φ v D' ∧ Heaped Z a0 n0 h D') (C T.heap H) K.2.1 w4 w3 hf hl
  obtain ⟨v, _, ⟨T', L', k', n'⟩, -, X', ⟨Lc, hQ, l', y', z'⟩, st'⟩ := Jvm.LawKit.callS X K.1 (y := z) K.2.2.2.2.1 (mvT K.2.1 w1) (mvT K.2.1 w2) (mvT K.2.1 w3) (mvT K.2.1 w4) hz B (g := mkF m pc L (argsL.reverse ++ rest)) rfl (by rw [K.2.2.2.1]; exact hsz) (argsL := argsL) (rest := rest) (fun sig h => by cases hsg.symm.trans h; exact hlen) rfl (by show 2 * 0 + _ ≤ _; rw [hW]; omega) (hb K.2.2.1 hd) (fun _ _ => ⟨rfl, rfl, hc, hs⟩)
  dsimp only [Pt.U, Pt.locs, Pt.cells, Pt.slots] at X' st' hQ l' y' z'
  subst l' y' z'
  obtain ⟨N', D', hΦ, H'⟩ := hQ
  obtain ⟨t, o, st, r⟩ := k v D' hΦ T' _ X' (Fr.app N N') H'
  exact ⟨t, o, st' _ st, r⟩
theorem Run.callI (K : Ctx Z y bytes maxL ret p s m meth c) {idx W : Nat} {z : MethodName} {bs : ByteArray} {mL : Nat} {rm : Room} {Φ : Option Value → HD → Prop} {argsL rest : List Value} {sg : MethodDescriptor} {cells' slots' pc' : Nat} {a : Addr} (hd : decode bytes pc = .ok (.invokespecial idx, 3)) (hp : pc + 3 = pc') (hz1 : z.name = "<init>") (w1 : (Jvm.Cond.methodLink y.cls idx z).before a0 Z = true) (w2 : (Jvm.Cond.instanceMethod z).before a0 Z = true) (w3 : (Jvm.Cond.initialized z.cls).before a0 Z = true) (w4 : (Jvm.Cond.code z bs mL none).before a0 Z = true) (hz : z.cls ≠ "java/lang/invoke/MethodHandle" ∧ z.cls ≠ "java/lang/invoke/VarHandle") (C : Con l Z a0 n0 [] z bs mL none rm (.ref a :: argsL).toArray D Φ) (hS : S = argsL.reverse ++ .ref a :: rest) (hsz : L.size = maxL) (hsg : parseMethodDescriptor z.desc = some sg) (hlen : argsL.length = sg.parameters.length) (hW : (rest.map fun v => v.category).sum = W) (hf : rm.frames + 1 ≤ R.frames) (hl : W + (mL + 11) + rm.locals ≤ R.locals) (e1 : cells + rm.cells = cells') (e2 : slots + rm.slots = slots') (hc : cells' ≤ R.cells) (hs : slots' ≤ R.slots) (k : ∀ (v : Option Value) (D' : HD), Φ v D' → Run Z a0 n0 p l e R s m args below meth c Ψ D' cells' slots' pc' L (v.toList ++ rest)) : Run Z a0 n0 p l e R s m args below meth c Ψ D cells slots pc L S := by
  subst hp e1 e2 hS
  intro T locs X N H
  have B := backOf (R := R) (p := p) (e := e) (below := below) (s := s) (args := args) (len := 3) (W := W) (Q := fun v h L => Fr n0 L ∧ ∃ D', Φ v D' ∧ Heaped Z a0 n0 h D') (C T.heap H) K.2.1 w4 w3 hf hl
  obtain ⟨v, _, ⟨T', L', k', n'⟩, -, X', ⟨Lc, hQ, l', y', z'⟩, st'⟩ := X.specialBack K.1 (y := z) hz1 K.2.2.2.2.1 (mvT K.2.1 w1) (mvT K.2.1 w2) (mvT K.2.1 w4) hz B (g := mkF m pc L (argsL.reverse ++ .ref a :: rest)) rfl (by rw [K.2.2.2.1]; exact hsz) (Steps.refl _) (a := a) (argsL := argsL) (rest := rest) (fun sig h => by cases hsg.symm.trans h; exact hlen) rfl (by show 2 * 0 + _ ≤ _; rw [hW]; omega) (hb K.2.2.1 hd) (fun _ _ => ⟨rfl, rfl, hc, hs⟩)
  dsimp only [Pt.U, Pt.locs, Pt.cells, Pt.slots] at X' st' hQ l' y' z'
  subst l' y' z'
  obtain ⟨N', D', hΦ, H'⟩ := hQ
  obtain ⟨t, o, st, r⟩ := k v D' hΦ T' _ X' (Fr.app N N') H'
  exact ⟨t, o, st'.trans st, r⟩
theorem Run.callV (K : Ctx Z y bytes maxL ret p s m meth c) {idx W : Nat} {z : MethodName} {bs : ByteArray} {mL : Nat} {rt : Option FieldType} {rm : Room} {Φ : Option Value → HD → Prop} {argsL rest : List Value} {sg : MethodDescriptor} {cells' slots' pc' : Nat} {a : Addr} {Cn : String} {fs : List OFld} {i : Nat} (hd : decode bytes pc = .ok (.invokevirtual idx, 3)) (hp : pc + 3 = pc') (w1 : (Jvm.Cond.methodLink y.cls idx z).before a0 Z = true) (w5 : (Jvm.Cond.declares z).before a0 Z = true) (w6 : (Jvm.Cond.selects Cn z z).before a0 Z = true) (w2 : (Jvm.Cond.instanceMethod z).before a0 Z = true) (w3 : (Jvm.Cond.initialized z.cls).before a0 Z = true) (w4 : (Jvm.Cond.code z bs mL rt).before a0 Z = true) (hz : z.cls ≠ "java/lang/invoke/MethodHandle" ∧ z.cls ≠ "java/lang/invoke/VarHandle") (hi : D.1[i]? = some (a, Cn, fs)) (C : Con l Z a0 n0 [] z bs mL rt rm (.ref a :: argsL).toArray D Φ) (hS : S = argsL.reverse ++ .ref a :: rest) (hsz : L.size = maxL) (hsg : parseMethodDescriptor z.desc = some sg) (hlen : argsL.length = sg.parameters.length) (hW : (rest.map fun v => v.category).sum = W) (hf : rm.frames + 1 ≤ R.frames) (hl : W + (mL + 11) + rm.locals ≤ R.locals) (e1 : cells + rm.cells = cells') (e2 : slots + rm.slots = slots') (hc : cells' ≤ R.cells) (hs : slots' ≤ R.slots) (k : ∀ (v : Option Value) (D' : HD), Φ v D' → Run Z a0 n0 p l e R s m args below meth c Ψ D' cells' slots' pc' L (v.toList ++ rest)) : Run Z a0 n0 p l e R s m args below meth c Ψ D cells slots pc L S := by
  subst hp e1 e2 hS
  intro T locs X N H
  have B := backOf (R := R) (p := p) (e := e) (below := below) (s := s) (args := args) (len := 3) (W := W) (Q := fun v h L => Fr n0 L ∧ ∃ D', Φ v D' ∧ Heaped Z a0 n0 h D') (C T.heap H) K.2.1 w4 w3 hf hl
  obtain ⟨cq, kq, q1, q2, q3⟩ := isOf (T := T) K.2.1 rfl (H.2.1 _ (List.mem_of_getElem? hi)).2.1
  obtain ⟨v, _, ⟨T', L', k', n'⟩, -, X', ⟨Lc, hQ, l', y', z'⟩, st'⟩ := X.virtualBack K.1 (y := z) (z := z) K.2.2.2.2.1 (mvT K.2.1 w1) (mvT K.2.1 w5) (notFace_of_selects (args := #[]) (mvT K.2.1 w6)) (mvT K.2.1 w6) (mvT K.2.1 w2) hz B q1 q3 (g := mkF m pc L (argsL.reverse ++ .ref a :: rest)) rfl (by rw [K.2.2.2.1]; exact hsz) (Steps.refl _) (argsL := argsL) (rest := rest) (fun sig h => by cases hsg.symm.trans h; exact hlen) rfl (by show 2 * 0 + _ ≤ _; rw [hW]; omega) (hb K.2.2.1 hd) (fun _ _ => ⟨rfl, rfl, hc, hs⟩)
  dsimp only [Pt.U, Pt.locs, Pt.cells, Pt.slots] at X' st' hQ l' y' z'
  subst l' y' z'
  obtain ⟨N', D', hΦ, H'⟩ := hQ
  obtain ⟨t, o, st, r⟩ := k v D' hΦ T' _ X' (Fr.app N N') H'
  exact ⟨t, o, st'.trans st, r⟩
theorem Run.callP (K : Ctx Z y bytes maxL ret p s m meth c) {idx W : Nat} {z : MethodName} {bs : ByteArray} {mL : Nat} {rt : Option FieldType} {rm : Room} {Φ : Option Value → HD → Prop} {argsL rest : List Value} {sg : MethodDescriptor} {cells' slots' pc' : Nat} {a : Addr} {Cn C2 : String} {x2 z2 : MethodName} {fs : List OFld} {i : Nat} (hd : decode bytes pc = .ok (.invokevirtual idx, 3)) (hp : pc + 3 = pc') (w1 : (Jvm.Cond.methodLink y.cls idx z).before a0 Z = true) (w5 : (Jvm.Cond.privateMethod z).before a0 Z = true) (w6 : (Jvm.Cond.selects C2 x2 z2).before a0 Z = true) (hzz : z2.cls = z.cls) (w2 : (Jvm.Cond.instanceMethod z).before a0 Z = true) (w3 : (Jvm.Cond.initialized z.cls).before a0 Z = true) (w4 : (Jvm.Cond.code z bs mL rt).before a0 Z = true) (hz : z.cls ≠ "java/lang/invoke/MethodHandle" ∧ z.cls ≠ "java/lang/invoke/VarHandle") (hi : D.1[i]? = some (a, Cn, fs)) (C : Con l Z a0 n0 [] z bs mL rt rm (.ref a :: argsL).toArray D Φ) (hS : S = argsL.reverse ++ .ref a :: rest) (hsz : L.size = maxL) (hsg : parseMethodDescriptor z.desc = some sg) (hlen : argsL.length = sg.parameters.length) (hW : (rest.map fun v => v.category).sum = W) (hf : rm.frames + 1 ≤ R.frames) (hl : W + (mL + 11) + rm.locals ≤ R.locals) (e1 : cells + rm.cells = cells') (e2 : slots + rm.slots = slots') (hc : cells' ≤ R.cells) (hs : slots' ≤ R.slots) (k : ∀ (v : Option Value) (D' : HD), Φ v D' → Run Z a0 n0 p l e R s m args below meth c Ψ D' cells' slots' pc' L (v.toList ++ rest)) : Run Z a0 n0 p l e R s m args below meth c Ψ D cells slots pc L S := by
  subst hp e1 e2 hS
  intro T locs X N H
  have B := backOf (R := R) (p := p) (e := e) (below := below) (s := s) (args := args) (len := 3) (W := W) (Q := fun v h L => Fr n0 L ∧ ∃ D', Φ v D' ∧ Heaped Z a0 n0 h D') (C T.heap H) K.2.1 w4 w3 hf hl
  obtain ⟨cell, hcell, hobj⟩ := (H.2.1 _ (List.mem_of_getElem? hi)).2.1.cell
  obtain ⟨mk, methM, hnamed, hmethM, hstM, habM⟩ := Cond.instanceMethod_spec (args := args) (mvT K.2.1 w2)
  obtain ⟨methM', cM, hmethM', -, -, -, -, -, -, hsigM⟩ := Cond.code_spec (args := args) hnamed (mvT K.2.1 w4)
  cases hmethM.symm.trans hmethM'
  obtain ⟨c2, r2, m2, -, -, q3, -, kP, hkP, hkPi⟩ := Cond.selects_spec (mvT (args := args) K.2.1 w6)
  have ids : m2.cls = mk.cls := by
    have q1 := findClass_of_methodNamed q3
    have q2 := findClass_of_methodNamed hnamed
    rw [hzz] at q1
    exact Option.some.inj (q1.symm.trans q2)
  rw [ids] at hkP
  have hpr := Cond.privateMethod_at (mvP (args := args) K.2.1 w5) mk methM hnamed hmethM
  obtain ⟨vm₁, X₁, st₁⟩ := X.invokevirtual K.1 K.2.2.2.2.1 (mvT K.2.1 w1) hnamed hmethM hstM hkP hkPi hz hcell hobj (selectMethod_private hmethM hpr) hmethM habM hkP hkPi (g := mkF m pc L (argsL.reverse ++ .ref a :: rest)) rfl (argsL := argsL) (rest := rest) (by cases hsg.symm.trans hsigM; exact hlen) rfl (hb K.2.2.1 hd)
  obtain ⟨v, ⟨T', L', k', n'⟩, X', ⟨Lc, hQ, l', y', z'⟩, st'⟩ := B m meth c ⟨T.setVm vm₁, locs, cells, slots⟩ (mkF m pc L rest) (.invokevirtual idx) mk (.ref a :: argsL).toArray X₁ rfl (by show L.size = c.maxLocals; rw [K.2.2.2.1]; exact hsz) (hb K.2.2.1 hd) (by show 2 * 0 + _ ≤ _; rw [hW]; omega) (X₁.named hnamed) ⟨rfl, rfl, hc, hs⟩
  dsimp only [Pt.U, Pt.locs, Pt.cells, Pt.slots] at X' st' hQ l' y' z'
  subst l' y' z'
  obtain ⟨N', D', hΦ, H'⟩ := hQ
  obtain ⟨t, o, st, r⟩ := k v D' hΦ T' _ X' (Fr.app N N') H'
  exact ⟨t, o, (st₁ _ fun acts => by rw [doInvoke_state]; exact Steps.refl _).trans (st'.trans st), r⟩
theorem Run.retV (K : Ctx Z y bytes maxL ret p s m meth c)  (hd : decode bytes pc = .ok (.return_, 1)) (hret : ret = none) (hc : cells ≤ R.cells) (hs : slots ≤ R.slots) (q : Ψ none D) : Run Z a0 n0 p l e R s m args below meth c Ψ D cells slots pc L [] := by
  intro T locs X N H
  obtain ⟨fs, hr, hrun, hended, hW, hsame⟩ := X.leave (v := none) (fun _ => rfl) K.2.2.2.2.2.2.2
  exact ⟨_, _, X.returnOut K.1 (K.2.2.2.2.2.2.1.trans hret) (hb K.2.2.1 hd) hr, hrun, hended, _, _, rfl, ⟨N, D, q, H⟩, ⟨_, rfl⟩, hW, hsame.mono hc hs⟩
theorem Run.retI (K : Ctx Z y bytes maxL ret p s m meth c) {x : Int32} (hd : decode bytes pc = .ok (.ireturn, 1)) (hret : ret = some .int) (hc : cells ≤ R.cells) (hs : slots ≤ R.slots) (q : Ψ (some (.int x)) D) : Run Z a0 n0 p l e R s m args below meth c Ψ D cells slots pc L [.int x] := by
  intro T locs X N H
  obtain ⟨fs, hr, hrun, hended, hW, hsame⟩ := X.leave (v := (some (.int x))) (fun h => by rw [K.2.2.2.2.2.2.1, hret] at h; cases h) K.2.2.2.2.2.2.2
  exact ⟨_, _, X.ireturnOut K.1 (K.2.2.2.2.2.2.1.trans hret) rfl (Or.inl rfl) (hb K.2.2.1 hd) hr, hrun, hended, _, _, rfl, ⟨N, D, q, H⟩, ⟨_, rfl⟩, hW, hsame.mono hc hs⟩
theorem Run.retJ (K : Ctx Z y bytes maxL ret p s m meth c) {x : Int64} (hd : decode bytes pc = .ok (.lreturn, 1)) (hret : ret = some .long) (hc : cells ≤ R.cells) (hs : slots ≤ R.slots) (q : Ψ (some (.long x)) D) : Run Z a0 n0 p l e R s m args below meth c Ψ D cells slots pc L [.long x] := by
  intro T locs X N H
  obtain ⟨fs, hr, hrun, hended, hW, hsame⟩ := X.leave (v := (some (.long x))) (fun h => by rw [K.2.2.2.2.2.2.1, hret] at h; cases h) K.2.2.2.2.2.2.2
  exact ⟨_, _, X.lreturnOut K.1 (K.2.2.2.2.2.2.1.trans hret) (hb K.2.2.1 hd) hr, hrun, hended, _, _, rfl, ⟨N, D, q, H⟩, ⟨_, rfl⟩, hW, hsame.mono hc hs⟩
theorem Run.retN (K : Ctx Z y bytes maxL ret p s m meth c) {x w : Int32} {t : FieldType} (hd : decode bytes pc = .ok (.ireturn, 1)) (hret : ret = some t) (ht : t = .boolean ∨ t = .byte ∨ t = .char ∨ t = .short) (hw : nar t x = w) (hc : cells ≤ R.cells) (hs : slots ≤ R.slots) (q : Ψ (some (.int w)) D) : Run Z a0 n0 p l e R s m args below meth c Ψ D cells slots pc L [.int x] := by
  intro T locs X N H
  obtain ⟨fs, hr, hrun, hended, hW, hsame⟩ := X.leave (v := (some (.int w))) (fun h => by rw [K.2.2.2.2.2.2.1, hret] at h; cases h) K.2.2.2.2.2.2.2
  exact ⟨_, _, RoadKit.retN X K.1 (K.2.2.2.2.2.2.1.trans hret) ht (hb K.2.2.1 hd) (hw ▸ hr), hrun, hended, _, _, rfl, ⟨N, D, q, H⟩, ⟨_, rfl⟩, hW, hsame.mono hc hs⟩
theorem Run.retA (K : Ctx Z y bytes maxL ret p s m meth c) {x : Value} {t : FieldType} (hd : decode bytes pc = .ok (.areturn, 1)) (hret : ret = some t) (ht : t.isReference = true) (hx : x.isRef = true) (hc : cells ≤ R.cells) (hs : slots ≤ R.slots) (q : Ψ (some x) D) : Run Z a0 n0 p l e R s m args below meth c Ψ D cells slots pc L [x] := by
  intro T locs X N H
  obtain ⟨fs, hr, hrun, hended, hW, hsame⟩ := X.leave (v := (some x)) (fun h => by rw [K.2.2.2.2.2.2.1, hret] at h; cases h) K.2.2.2.2.2.2.2
  exact ⟨_, _, X.areturnOut K.1 hx (K.2.2.2.2.2.2.1.trans hret) ht (hb K.2.2.1 hd) hr, hrun, hended, _, _, rfl, ⟨N, D, q, H⟩, ⟨_, rfl⟩, hW, hsame.mono hc hs⟩
end Runs
end Jvm.Own

namespace Jvm.Pilot.@@N@@
open Jvm Jvm.ClassFile Sem Op Lib Jvm.Free Jvm.Stand Jvm.LawKit Jvm.RoadKit Jvm.Own Bundle Jvm.Pilot.@@N@@.Jvm.D
def own_arr (L : Nat) (f : Nat → Int32) : List Value := (List.range L).map fun i => Value.int (f i)
def own_zero : Nat → Int32 := fun _ => 0
def own_upd (f : Nat → Int32) (k : Nat) (v : Int32) : Nat → Int32 := fun i => if i = k then v else f i
def own_put (f : Nat → Int32) (s n : Nat) (g : Nat → Int32) : Nat → Int32 := fun i => if s ≤ i ∧ i < s + n then g (i - s) else f i
def own_cut (f : Nat → Int32) (L : Nat) : Nat → Int32 := fun i => if i < L then f i else 0
theorem own_arr_at (L : Nat) (f : Nat → Int32) (i : Nat) : (own_arr L f)[i]? = if i < L then some (Value.int (f i)) else none := by
  unfold own_arr
  by_cases h : i < L <;> simp [h]
theorem own_arr_length (L : Nat) (f : Nat → Int32) : (own_arr L f).length = L := by simp [own_arr]
theorem own_arr_get {L : Nat} {f : Nat → Int32} {q : Nat} {v : Int32} (h : q < L) (e : f q = v) : (own_arr L f)[q]? = some (Value.int v) := by rw [own_arr_at, if_pos h, e]
theorem own_arr_len {L : Nat} {f : Nat → Int32} {w : Int32} (h : Int32.ofNat L = w) : (own_arr L f).length.toInt32 = w := by rw [own_arr_length]; exact h
theorem own_arr_set {L : Nat} {f : Nat → Int32} {k : Nat} {v : Int32} : (own_arr L f).set k (Value.int v) = own_arr L (own_upd f k v) := by
  apply List.ext_getElem?
  intro i
  rw [List.getElem?_set, own_arr_at, own_arr_at, own_arr_length]
  unfold own_upd
  by_cases h : k = i
  · subst h; simp
  · have h' : ¬ i = k := fun e => h e.symm
    simp [h, h']
theorem own_arr_new (L : Nat) : own_arr L own_zero = List.replicate L (Value.int 0) := by
  apply List.ext_getElem?
  intro i
  rw [own_arr_at, List.getElem?_replicate]
  rfl
theorem own_arr_new' {n : Int32} {L : Nat} (h : n.toNatClampNeg = L) : own_arr L own_zero = List.replicate n.toNatClampNeg (defaultValue .byte) := by rw [h]; exact own_arr_new L
theorem own_arr_copy {L L' : Nat} {f g : Nat → Int32} {d n : Nat} (h1 : n ≤ L) (h2 : d + n ≤ L') : own_arr L' (own_put g d n f) = (own_arr L' g).take d ++ ((own_arr L f).drop 0).take n ++ (own_arr L' g).drop (d + n) := by
  apply List.ext_getElem?
  intro i
  rw [List.drop_zero]
  rw [List.append_assoc, List.getElem?_append, List.getElem?_append, own_arr_at]
  simp only [List.length_take, own_arr_length, List.getElem?_take, List.getElem?_drop, own_arr_at]
  unfold own_put
  by_cases a : i < d
  · have : i < L' := by omega
    have q : ¬ (d ≤ i ∧ i < d + n) := by omega
    have q2 : i < min d L' := by omega
    simp [a, this, q, q2]
  · by_cases b : i < d + n
    · have e7 : min d L' = d := by omega
      have e2 : i - d < min n L := by omega
      have e3 : i - d < n := by omega
      have e4 : i - d < L := by omega
      have e5 : i < L' := by omega
      have e6 : d ≤ i ∧ i < d + n := by omega
      rw [e7, if_pos e5, if_pos e6, if_neg a, if_pos e2, if_pos e3, if_pos e4]
    · have e1 : ¬ i < min d L' := by omega
      have e2 : ¬ i - min d L' < min n L := by omega
      have e6 : ¬ (d ≤ i ∧ i < d + n) := by omega
      have e7 : d + n + (i - min d L' - min n L) = i := by omega
      simp only [e1, e2, e6, if_false, e7]
theorem own_shr (N : Nat) (f : Nat → Int32) : own_arr N (own_put own_zero 0 N f) = own_arr N f := by
  apply List.ext_getElem?
  intro i
  rw [own_arr_at, own_arr_at]
  unfold own_put
  by_cases h : i < N
  · simp [h]
  · simp [h]
theorem own_grw (N L : Nat) (f : Nat → Int32) : own_arr N (own_put own_zero 0 L f) = own_arr N (own_cut f L) := by
  apply List.ext_getElem?
  intro i
  rw [own_arr_at, own_arr_at]
  unfold own_put own_cut
  by_cases h : i < L
  · simp [h]
  · simp [h, own_zero]
theorem own_succ (k : Nat) : Int32.ofNat k + (1 : Int32) = Int32.ofNat (k + 1) := by
  rw [Int32.ofNat_add]; rfl
theorem own_nn {k : Nat} (h : k < 2147483648) : ¬ (Int32.ofNat k < (0 : Int32)) := by
  rw [Int32.lt_iff_toInt_lt, Int32.toInt_ofNat_small h]
  have z : (0 : Int32).toInt = 0 := by decide
  omega
theorem own_clamp {k : Nat} (h : k < 2147483648) : (Int32.ofNat k).toNatClampNeg = k := by
  have q : (Int32.ofNat k).toInt = k := Int32.toInt_ofNat_small h
  show (Int32.ofNat k).toInt.toNat = k
  omega
theorem own_tI {k : Nat} (h : k ≤ 1000) : (Int32.ofNat k).toInt = k := Int32.toInt_ofNat_small (by omega)
theorem own_e1 {p1 : Int32} {L k p : Nat} (e1 : p1 = Int32.ofNat p) (hk : k + p ≤ L) (hL : L ≤ 128) : p1 ≤ ((Int32.ofNat L) - (Int32.ofNat k)) := by
  have a := c_isub (Int32.ofNat L) (Int32.ofNat k)
  have r := rng32 ((Int32.ofNat L) - (Int32.ofNat k))
  rw [own_tI (by omega), own_tI (by omega)] at a
  rw [e1, Int32.le_iff_toInt_le, own_tI (by omega)]
  omega
theorem own_e2 {p1 : Int32} {k p : Nat} (e1 : p1 = Int32.ofNat p) (h1 : 64 < k + p) (h2 : k + p ≤ 128) (h0 : k ≤ 64) : ¬ (p1 ≤ ((64 : Int32) - (Int32.ofNat k))) := by
  have a := c_isub (64 : Int32) (Int32.ofNat k)
  have r := rng32 ((64 : Int32) - (Int32.ofNat k))
  have o : (64 : Int32).toInt = 64 := by decide
  rw [o, own_tI (by omega)] at a
  rw [e1, Int32.le_iff_toInt_le, own_tI (by omega)]
  omega
theorem own_mx {p1 c : Int32} {k p : Nat} (e1 : p1 = Int32.ofNat p) (h2 : k + p ≤ 128) (h : (((128 : Int32) < ((Int32.ofNat k) + p1)) ∧ c = ((Int32.ofNat k) + p1)) ∨ ((¬ ((128 : Int32) < ((Int32.ofNat k) + p1))) ∧ c = (128 : Int32))) : c = (128 : Int32) := by
  subst e1
  rcases h with ⟨q, -⟩ | ⟨-, q⟩
  · exfalso
    have a := c_iadd (Int32.ofNat k) (Int32.ofNat p)
    have r := rng32 ((Int32.ofNat k) + (Int32.ofNat p))
    have o : (128 : Int32).toInt = 128 := by decide
    rw [Int32.lt_iff_toInt_lt, o] at q
    rw [own_tI (by omega), own_tI (by omega)] at a
    omega
  · exact q
theorem own_ne {p1 : Int32} {N L : Nat} (e1 : p1 = Int32.ofNat N) (h : N ≠ L) (hN : N ≤ 128) (hL : L ≤ 128) : p1 ≠ (Int32.ofNat L) := by
  intro e
  rw [e1] at e
  have q := congrArg Int32.toInt e
  rw [own_tI (by omega), own_tI (by omega)] at q
  omega
theorem own_mn1 {c : Int32} {N L : Nat} (h : N < L) (hL : L ≤ 128) (hc : (((Int32.ofNat N) < (Int32.ofNat L)) ∧ c = (Int32.ofNat N)) ∨ ((¬ ((Int32.ofNat N) < (Int32.ofNat L))) ∧ c = (Int32.ofNat L))) : c = Int32.ofNat N := by
  rcases hc with ⟨-, q⟩ | ⟨q, -⟩
  · exact q
  · exfalso
    rw [Int32.lt_iff_toInt_lt, own_tI (by omega), own_tI (by omega)] at q
    omega
theorem own_mn2 {c : Int32} {N L : Nat} (h : L < N) (hN : N ≤ 128) (hc : (((Int32.ofNat N) < (Int32.ofNat L)) ∧ c = (Int32.ofNat N)) ∨ ((¬ ((Int32.ofNat N) < (Int32.ofNat L))) ∧ c = (Int32.ofNat L))) : c = Int32.ofNat L := by
  rcases hc with ⟨q, -⟩ | ⟨-, q⟩
  · exfalso
    rw [Int32.lt_iff_toInt_lt, own_tI (by omega), own_tI (by omega)] at q
    omega
  · exact q
theorem own_idem (x : Int32) : (x.toInt8.toInt32).toInt8.toInt32 = x.toInt8.toInt32 := by rw [Int8.toInt8_toInt32]
theorem own_127 (p : Int32) : ∃ n : Fin 128, (p &&& (127 : Int32)) = Int32.ofNat n.val := by
  have m := c_mask p (127 : Int32) 7 (by decide) (by decide)
  refine ⟨⟨(p &&& (127 : Int32)).toInt.toNat, by omega⟩, ?_⟩
  apply Int32.toInt_inj.mp
  show _ = (Int32.ofNat (p &&& (127 : Int32)).toInt.toNat).toInt
  rw [Int32.toInt_ofNat_small (by omega)]
  omega
theorem own_tab1 : ∀ n : Fin 128, ((((Int32.ofNat n.val)).toInt64 &&& (4294967295 : Int64)) &&& (-128 : Int64)) = (0 : Int64) := by decide +kernel
theorem own_tab2 : ∀ n : Fin 128, ((((((Int32.ofNat n.val)).toInt64 &&& (4294967295 : Int64)).toInt32).toInt8.toInt32).toInt8.toInt32) = (Int32.ofNat n.val).toInt8.toInt32 := by decide +kernel
theorem own_last (p : Int32) : ((((p &&& (127 : Int32))).toInt64 &&& (4294967295 : Int64)) &&& (-128 : Int64)) = (0 : Int64) := by
  obtain ⟨n, h⟩ := own_127 p
  rw [h]; exact own_tab1 n
theorem own_lastv (p : Int32) : ((((((p &&& (127 : Int32))).toInt64 &&& (4294967295 : Int64)).toInt32).toInt8.toInt32).toInt8.toInt32) = (p &&& (127 : Int32)).toInt8.toInt32 := by
  obtain ⟨n, h⟩ := own_127 p
  rw [h]; exact own_tab2 n

theorem d1_0 : decode prog_8_method_1_code 0 = .ok (.aload_n 0, 1) := by decide +kernel
theorem d1_1 : decode prog_8_method_1_code 1 = .ok (.invokespecial 1, 3) := by decide +kernel
theorem d1_4 : decode prog_8_method_1_code 4 = .ok (.aload_n 0, 1) := by decide +kernel
theorem d1_5 : decode prog_8_method_1_code 5 = .ok (.bipush 64, 2) := by decide +kernel
theorem d1_7 : decode prog_8_method_1_code 7 = .ok (.newarray .byte, 2) := by decide +kernel
theorem d1_9 : decode prog_8_method_1_code 9 = .ok (.putfield 7, 3) := by decide +kernel
theorem d1_12 : decode prog_8_method_1_code 12 = .ok (.return_, 1) := by decide +kernel
theorem pn_0 : plainName "com/example/efcor/efcor/io/RecordWriter" = true := by first | (simp [plainName, overriddenIn]; done) | decide +kernel
set_option maxRecDepth 65536 in
set_option maxHeartbeats 40000000 in
theorem rm1 (l : Launch) (Z : State) (a0 : Array Value) (n0 : Nat) (hw : ∀ d ∈ tables_1, d.before a0 Z = true) (ws : List Jvm.Cond) (a1 : Addr) (a1_bytes : Value) (a1_size : Int32) (Ob : List OObj) (Ax : List OArr) : Con l Z a0 n0 ws (⟨"com/example/efcor/efcor/io/RecordWriter", "<init>", "()V"⟩ : MethodName) prog_8_method_1_code 1 none ({ frames := 1, cells := 1, slots := 64, locals := 12 } : Room) #[(.ref a1)] ((a1, "com/example/efcor/efcor/io/RecordWriter", [("com/example/efcor/efcor/io/RecordWriter", "bytes", "[B", a1_bytes), ("com/example/efcor/efcor/io/RecordWriter", "size", "I", (.int a1_size))]) :: Ob, Ax) (fun vq Dq => ∃ (r1 : Addr), vq = none ∧ Dq = ((a1, "com/example/efcor/efcor/io/RecordWriter", [("com/example/efcor/efcor/io/RecordWriter", "bytes", "[B", (.ref r1)), ("com/example/efcor/efcor/io/RecordWriter", "size", "I", (.int a1_size))]) :: Ob, (r1, .byte, (own_arr 64 own_zero)) :: Ax)) := by
  refine Con.of_run (plainFor_of_name pn_0) (L0 := #[.val (.ref a1)]) (fun m => by first | (simp [entryFrame, mkF, argsToLocals, Value.category]; done) | rfl) ?_
  intro p e s m below meth c K
  refine Run.aloadN K d1_0 (pc' := 1) rfl rfl rfl ?_
  refine Run.initO K d1_1 (pc' := 4) rfl (hw _ (List.mem_of_getElem? (i := 7) rfl)) (hw _ (List.mem_of_getElem? (i := 8) rfl)) (hw _ (List.mem_of_getElem? (i := 9) rfl)) rfl (by decide) (W := 0) rfl (by decide) ?_
  refine Run.aloadN K d1_4 (pc' := 5) rfl rfl rfl ?_
  refine Run.bipush K d1_5 (pc' := 7) rfl (v := (64 : Int32)) rfl ?_
  refine Run.newA K d1_7 (pc' := 9) rfl (ty := .byte) rfl (hw _ (List.mem_of_getElem? (i := 0) rfl)) (by decide) (vs := (own_arr 64 own_zero)) (own_arr_new' (by decide)) (cap := 64) (by decide) (by decide) (cells' := 1) (slots' := 64) rfl rfl (by decide) (by decide) rfl (fun r2 => ?_)
  refine Run.as (D' := ((a1, "com/example/efcor/efcor/io/RecordWriter", [("com/example/efcor/efcor/io/RecordWriter", "bytes", "[B", a1_bytes), ("com/example/efcor/efcor/io/RecordWriter", "size", "I", (.int a1_size))]) :: Ob, (r2, .byte, (own_arr 64 own_zero)) :: Ax)) rfl ?_
  refine Run.putF K d1_9 (pc' := 12) rfl (hw _ (List.mem_of_getElem? (i := 10) rfl)) (Or.inl (hw _ (List.mem_of_getElem? (i := 11) rfl))) (hw _ (List.mem_of_getElem? (i := 2) rfl)) (ty := (.array .byte)) (by decide) rfl rfl (i := 0) (j := 0) rfl rfl (D' := ((a1, "com/example/efcor/efcor/io/RecordWriter", [("com/example/efcor/efcor/io/RecordWriter", "bytes", "[B", (.ref r2)), ("com/example/efcor/efcor/io/RecordWriter", "size", "I", (.int a1_size))]) :: Ob, (r2, .byte, (own_arr 64 own_zero)) :: Ax)) rfl ?_
  exact Run.retV K d1_12 rfl (by decide) (by decide) ⟨r2, rfl, rfl⟩
theorem d5_0 : decode jdk_29_method_69_code 0 = .ok (.iload_n 0, 1) := by decide +kernel
theorem d5_1 : decode jdk_29_method_69_code 1 = .ok (.iload_n 1, 1) := by decide +kernel
theorem d5_2 : decode jdk_29_method_69_code 2 = .ok (.if_icmp .gt 7, 3) := by decide +kernel
theorem d5_5 : decode jdk_29_method_69_code 5 = .ok (.iload_n 0, 1) := by decide +kernel
theorem d5_6 : decode jdk_29_method_69_code 6 = .ok (.goto 4, 3) := by decide +kernel
theorem d5_9 : decode jdk_29_method_69_code 9 = .ok (.iload_n 1, 1) := by decide +kernel
theorem d5_10 : decode jdk_29_method_69_code 10 = .ok (.ireturn, 1) := by decide +kernel
set_option maxRecDepth 65536 in
set_option maxHeartbeats 40000000 in
theorem rm5 (l : Launch) (Z : State) (a0 : Array Value) (n0 : Nat) (hw : ∀ d ∈ tables_1, d.before a0 Z = true) (ws : List Jvm.Cond) (q1 : Int32) (q2 : Int32) (Ob : List OObj) (Ax : List OArr) : Con l Z a0 n0 ws (⟨"java/lang/Math", "min", "(II)I"⟩ : MethodName) jdk_29_method_69_code 2 (some .int) ({ frames := 0, cells := 0, slots := 0, locals := 0 } : Room) #[(.int q1), (.int q2)] (Ob, Ax) (fun vq Dq => ∃ (j5 : Int32), ((((q2 < q1) ∧ j5 = q2) ∨ ((¬ (q2 < q1)) ∧ j5 = q1))) ∧ vq = (some (.int j5)) ∧ Dq = (Ob, Ax)) := by
  refine Con.of_run (Jvm.Free.JP.mathPlain rfl (by decide +kernel)) (L0 := #[.val (.int q1), .val (.int q2)]) (fun m => by first | (simp [entryFrame, mkF, argsToLocals, Value.category]; done) | rfl) ?_
  intro p e s m below meth c K
  refine Run.iloadN K d5_0 (pc' := 1) rfl rfl ?_
  refine Run.iloadN K d5_1 (pc' := 2) rfl rfl ?_
  refine Run.join1 (F := fun (j9 : Int32) => ((q2 < q1) ∧ j9 = q2) ∨ ((¬ (q2 < q1)) ∧ j9 = q1)) (D' := fun (j9 : Int32) => (Ob, Ax)) (cells' := 0) (slots' := 0) (pc' := 10) (L' := fun (j9 : Int32) => #[.val (.int q1), .val (.int q2)]) (S' := fun (j9 : Int32) => [(.int j9)]) ?_ (fun J2 => ?_)
  · intro j9 hjj9
    exact Run.retI K d5_10 rfl (by decide) (by decide) ⟨j9, hjj9, rfl, rfl⟩
  · skip
    refine Run.icmp K d5_2 (pT := 9) (pF := 5) (by decide) (by decide) rfl (fun (h2_9 : q2 < q1) => ?_) (fun (h2_9 : ¬ (q2 < q1)) => ?_)
    · skip
      refine Run.iloadN K d5_9 (pc' := 10) rfl rfl ?_
      exact J2 _ (Or.inl ⟨h2_9, rfl⟩)
    · skip
      refine Run.iloadN K d5_5 (pc' := 6) rfl rfl ?_
      refine Run.goto K d5_6 (pc' := 10) (by decide) (by decide) ?_
      exact J2 _ (Or.inr (⟨h2_9, rfl⟩))
theorem d12_0 : decode jdk_29_method_65_code 0 = .ok (.iload_n 0, 1) := by decide +kernel
theorem d12_1 : decode jdk_29_method_65_code 1 = .ok (.iload_n 1, 1) := by decide +kernel
theorem d12_2 : decode jdk_29_method_65_code 2 = .ok (.if_icmp .lt 7, 3) := by decide +kernel
theorem d12_5 : decode jdk_29_method_65_code 5 = .ok (.iload_n 0, 1) := by decide +kernel
theorem d12_6 : decode jdk_29_method_65_code 6 = .ok (.goto 4, 3) := by decide +kernel
theorem d12_9 : decode jdk_29_method_65_code 9 = .ok (.iload_n 1, 1) := by decide +kernel
theorem d12_10 : decode jdk_29_method_65_code 10 = .ok (.ireturn, 1) := by decide +kernel
set_option maxRecDepth 65536 in
set_option maxHeartbeats 40000000 in
theorem rm12 (l : Launch) (Z : State) (a0 : Array Value) (n0 : Nat) (hw : ∀ d ∈ tables_1, d.before a0 Z = true) (ws : List Jvm.Cond) (q1 : Int32) (q2 : Int32) (Ob : List OObj) (Ax : List OArr) : Con l Z a0 n0 ws (⟨"java/lang/Math", "max", "(II)I"⟩ : MethodName) jdk_29_method_65_code 2 (some .int) ({ frames := 0, cells := 0, slots := 0, locals := 0 } : Room) #[(.int q1), (.int q2)] (Ob, Ax) (fun vq Dq => ∃ (j13 : Int32), ((((q1 < q2) ∧ j13 = q2) ∨ ((¬ (q1 < q2)) ∧ j13 = q1))) ∧ vq = (some (.int j13)) ∧ Dq = (Ob, Ax)) := by
  refine Con.of_run (Jvm.Free.JP.mathPlain rfl (by decide +kernel)) (L0 := #[.val (.int q1), .val (.int q2)]) (fun m => by first | (simp [entryFrame, mkF, argsToLocals, Value.category]; done) | rfl) ?_
  intro p e s m below meth c K
  refine Run.iloadN K d12_0 (pc' := 1) rfl rfl ?_
  refine Run.iloadN K d12_1 (pc' := 2) rfl rfl ?_
  refine Run.join1 (F := fun (j17 : Int32) => ((q1 < q2) ∧ j17 = q2) ∨ ((¬ (q1 < q2)) ∧ j17 = q1)) (D' := fun (j17 : Int32) => (Ob, Ax)) (cells' := 0) (slots' := 0) (pc' := 10) (L' := fun (j17 : Int32) => #[.val (.int q1), .val (.int q2)]) (S' := fun (j17 : Int32) => [(.int j17)]) ?_ (fun J2 => ?_)
  · intro j17 hjj17
    exact Run.retI K d12_10 rfl (by decide) (by decide) ⟨j17, hjj17, rfl, rfl⟩
  · skip
    refine Run.icmp K d12_2 (pT := 9) (pF := 5) (by decide) (by decide) rfl (fun (h2_17 : q1 < q2) => ?_) (fun (h2_17 : ¬ (q1 < q2)) => ?_)
    · skip
      refine Run.iloadN K d12_9 (pc' := 10) rfl rfl ?_
      exact J2 _ (Or.inl ⟨h2_17, rfl⟩)
    · skip
      refine Run.iloadN K d12_5 (pc' := 6) rfl rfl ?_
      refine Run.goto K d12_6 (pc' := 10) (by decide) (by decide) ?_
      exact J2 _ (Or.inr (⟨h2_17, rfl⟩))
theorem d4_0 : decode jdk_65_method_121_code 0 = .ok (.iload_n 1, 1) := by decide +kernel
theorem d4_1 : decode jdk_65_method_121_code 1 = .ok (.aload_n 0, 1) := by decide +kernel
theorem d4_2 : decode jdk_65_method_121_code 2 = .ok (.arraylength, 1) := by decide +kernel
theorem d4_3 : decode jdk_65_method_121_code 3 = .ok (.if_icmp .ne 11, 3) := by decide +kernel
theorem d4_6 : decode jdk_65_method_121_code 6 = .ok (.aload_n 0, 1) := by decide +kernel
theorem d4_7 : decode jdk_65_method_121_code 7 = .ok (.invokevirtual 310, 3) := by decide +kernel
theorem d4_10 : decode jdk_65_method_121_code 10 = .ok (.checkcast 311, 3) := by decide +kernel
theorem d4_13 : decode jdk_65_method_121_code 13 = .ok (.areturn, 1) := by decide +kernel
theorem d4_14 : decode jdk_65_method_121_code 14 = .ok (.iload_n 1, 1) := by decide +kernel
theorem d4_15 : decode jdk_65_method_121_code 15 = .ok (.newarray .byte, 2) := by decide +kernel
theorem d4_17 : decode jdk_65_method_121_code 17 = .ok (.astore_n 2, 1) := by decide +kernel
theorem d4_18 : decode jdk_65_method_121_code 18 = .ok (.aload_n 0, 1) := by decide +kernel
theorem d4_19 : decode jdk_65_method_121_code 19 = .ok (.iconst 0, 1) := by decide +kernel
theorem d4_20 : decode jdk_65_method_121_code 20 = .ok (.aload_n 2, 1) := by decide +kernel
theorem d4_21 : decode jdk_65_method_121_code 21 = .ok (.iconst 0, 1) := by decide +kernel
theorem d4_22 : decode jdk_65_method_121_code 22 = .ok (.aload_n 0, 1) := by decide +kernel
theorem d4_23 : decode jdk_65_method_121_code 23 = .ok (.arraylength, 1) := by decide +kernel
theorem d4_24 : decode jdk_65_method_121_code 24 = .ok (.iload_n 1, 1) := by decide +kernel
theorem d4_25 : decode jdk_65_method_121_code 25 = .ok (.invokestatic 304, 3) := by decide +kernel
theorem d4_28 : decode jdk_65_method_121_code 28 = .ok (.invokestatic 150, 3) := by decide +kernel
theorem d4_31 : decode jdk_65_method_121_code 31 = .ok (.aload_n 2, 1) := by decide +kernel
theorem d4_32 : decode jdk_65_method_121_code 32 = .ok (.areturn, 1) := by decide +kernel
theorem pd_0 : parseMethodDescriptor "(II)I" = some ⟨[.int, .int], some .int⟩ := by decide +kernel
theorem pn_1 : plainName "java/util/Arrays" = true := by first | (simp [plainName, overriddenIn]; done) | decide +kernel
set_option maxRecDepth 65536 in
set_option maxHeartbeats 40000000 in
theorem cp_shr (l : Launch) (Z : State) (a0 : Array Value) (n0 : Nat) (hw : ∀ d ∈ tables_1, d.before a0 Z = true) (ws : List Jvm.Cond) (a1 : Addr) (p1 : Int32) (L : Nat) (f : Nat → Int32) (N : Nat) (Ob : List OObj) (Ax : List OArr) (e1 : p1 = Int32.ofNat N) (hN : N < L) (hL : L ≤ 128) : Con l Z a0 n0 ws (⟨"java/util/Arrays", "copyOf", "([BI)[B"⟩ : MethodName) jdk_65_method_121_code 3 (some (.array .byte)) ({ frames := 1, cells := 1, slots := 128, locals := 18 } : Room) #[(.ref a1), (.int p1)] (Ob, (a1, .byte, (own_arr L f)) :: Ax) (fun vq Dq => ∃ (r19 : Addr), vq = (some (.ref r19)) ∧ Dq = (Ob, (r19, .byte, (own_arr N f)) :: (a1, .byte, (own_arr L f)) :: Ax)) := by
  refine Con.of_run (plainFor_of_name pn_1) (L0 := #[.val (.ref a1), .val (.int p1), .unset]) (fun m => by first | (simp [entryFrame, mkF, argsToLocals, Value.category]; done) | rfl) ?_
  intro p e s m below meth c K
  subst e1
  refine Run.iloadN K d4_0 (pc' := 1) rfl rfl ?_
  refine Run.aloadN K d4_1 (pc' := 2) rfl rfl rfl ?_
  refine Run.alen K d4_2 (pc' := 3) rfl (i := 0) rfl (w := (Int32.ofNat L)) (own_arr_len rfl) ?_
  refine Run.icmpT K d4_3 (pT := 14) (pF := 6) (by decide) (by decide) rfl (show (Int32.ofNat N) ≠ (Int32.ofNat L) from own_ne rfl (by omega) (by omega) (by omega)) ?_
  refine Run.iloadN K d4_14 (pc' := 15) rfl rfl ?_
  refine Run.newA K d4_15 (pc' := 17) rfl (ty := .byte) rfl (hw _ (List.mem_of_getElem? (i := 0) rfl)) (own_nn (by omega)) (vs := (own_arr N own_zero)) (own_arr_new' (own_clamp (by omega))) (cap := 128) (by rw [own_clamp (by omega)]; omega) (by decide) (cells' := 1) (slots' := 128) rfl rfl (by decide) (by decide) rfl (fun r22 => ?_)
  refine Run.as (D' := (Ob, (r22, .byte, (own_arr N own_zero)) :: (a1, .byte, (own_arr L f)) :: Ax)) rfl ?_
  refine Run.astoreN K d4_17 (pc' := 18) rfl rfl (L' := #[.val (.ref a1), .val (.int (Int32.ofNat N)), .val (.ref r22)]) rfl ?_
  refine Run.aloadN K d4_18 (pc' := 19) rfl rfl rfl ?_
  refine Run.iconst K d4_19 (pc' := 20) rfl (v := (0 : Int32)) rfl ?_
  refine Run.aloadN K d4_20 (pc' := 21) rfl rfl rfl ?_
  refine Run.iconst K d4_21 (pc' := 22) rfl (v := (0 : Int32)) rfl ?_
  refine Run.aloadN K d4_22 (pc' := 23) rfl rfl rfl ?_
  refine Run.alen K d4_23 (pc' := 24) rfl (i := 1) rfl (w := (Int32.ofNat L)) (own_arr_len rfl) ?_
  refine Run.iloadN K d4_24 (pc' := 25) rfl rfl ?_
  refine Run.callS K d4_25 (pc' := 28) rfl (hw _ (List.mem_of_getElem? (i := 23) rfl)) (hw _ (List.mem_of_getElem? (i := 24) rfl)) (hw _ (List.mem_of_getElem? (i := 25) rfl)) (hw _ (List.mem_of_getElem? (i := 26) rfl)) (by decide) (rm5 l Z a0 n0 hw [] ((Int32.ofNat L)) ((Int32.ofNat N)) (Ob) ((r22, .byte, (own_arr N own_zero)) :: (a1, .byte, (own_arr L f)) :: Ax) ) (argsL := [(.int (Int32.ofNat L)), (.int (Int32.ofNat N))]) (rest := [(.int (0 : Int32)), (.ref r22), (.int (0 : Int32)), (.ref a1)]) rfl rfl pd_0 rfl (W := 4) rfl (by decide) (by decide) (cells' := 1) (slots' := 128) rfl rfl (by decide) (by decide) ?_
  intro vq Dq hq
  obtain ⟨c23, hc24, rfl, rfl⟩ := hq
  refine Run.as2 (D' := (Ob, (r22, .byte, (own_arr N own_zero)) :: (a1, .byte, (own_arr L f)) :: Ax)) (S' := [(.int c23), (.int (0 : Int32)), (.ref r22), (.int (0 : Int32)), (.ref a1)]) rfl rfl ?_
  obtain rfl : c23 = (Int32.ofNat N) := own_mn1 hN hL hc24
  refine Run.acopy K d4_28 (pc' := 31) rfl (hw _ (List.mem_of_getElem? (i := 27) rfl)) (hw _ (List.mem_of_getElem? (i := 30) rfl)) (hw _ (List.mem_of_getElem? (i := 28) rfl)) (hw _ (List.mem_of_getElem? (i := 29) rfl)) (i := 1) (j := 0) rfl rfl rfl (by decide) (by decide) (own_nn (by omega)) (k1 := 0) (k2 := 0) (k3 := N) (by decide) (by decide) (own_clamp (by omega)) (by rw [own_arr_length]; omega) (by rw [own_arr_length]; omega) (vd' := (own_arr N (own_put own_zero 0 N f))) (own_arr_copy (by omega) (by omega)) (D' := (Ob, (r22, .byte, (own_arr N (own_put own_zero 0 N f))) :: (a1, .byte, (own_arr L f)) :: Ax)) rfl rfl (by decide) (W := 0) rfl (by decide) ?_
  refine Run.as (D' := (Ob, (r22, .byte, (own_arr N f)) :: (a1, .byte, (own_arr L f)) :: Ax)) (by rw [own_shr]) ?_
  refine Run.aloadN K d4_31 (pc' := 32) rfl rfl rfl ?_
  exact Run.retA K d4_32 rfl rfl rfl (by decide) (by decide) ⟨r22, rfl, rfl⟩
set_option maxRecDepth 65536 in
set_option maxHeartbeats 40000000 in
theorem cp_grw (l : Launch) (Z : State) (a0 : Array Value) (n0 : Nat) (hw : ∀ d ∈ tables_1, d.before a0 Z = true) (ws : List Jvm.Cond) (a1 : Addr) (p1 : Int32) (L : Nat) (f : Nat → Int32) (N : Nat) (Ob : List OObj) (Ax : List OArr) (e1 : p1 = Int32.ofNat N) (hN : L < N) (hL : N ≤ 128) : Con l Z a0 n0 ws (⟨"java/util/Arrays", "copyOf", "([BI)[B"⟩ : MethodName) jdk_65_method_121_code 3 (some (.array .byte)) ({ frames := 1, cells := 1, slots := 128, locals := 18 } : Room) #[(.ref a1), (.int p1)] (Ob, (a1, .byte, (own_arr L f)) :: Ax) (fun vq Dq => ∃ (r25 : Addr), vq = (some (.ref r25)) ∧ Dq = (Ob, (r25, .byte, (own_arr N (own_cut f L))) :: (a1, .byte, (own_arr L f)) :: Ax)) := by
  refine Con.of_run (plainFor_of_name pn_1) (L0 := #[.val (.ref a1), .val (.int p1), .unset]) (fun m => by first | (simp [entryFrame, mkF, argsToLocals, Value.category]; done) | rfl) ?_
  intro p e s m below meth c K
  subst e1
  refine Run.iloadN K d4_0 (pc' := 1) rfl rfl ?_
  refine Run.aloadN K d4_1 (pc' := 2) rfl rfl rfl ?_
  refine Run.alen K d4_2 (pc' := 3) rfl (i := 0) rfl (w := (Int32.ofNat L)) (own_arr_len rfl) ?_
  refine Run.icmpT K d4_3 (pT := 14) (pF := 6) (by decide) (by decide) rfl (show (Int32.ofNat N) ≠ (Int32.ofNat L) from own_ne rfl (by omega) (by omega) (by omega)) ?_
  refine Run.iloadN K d4_14 (pc' := 15) rfl rfl ?_
  refine Run.newA K d4_15 (pc' := 17) rfl (ty := .byte) rfl (hw _ (List.mem_of_getElem? (i := 0) rfl)) (own_nn (by omega)) (vs := (own_arr N own_zero)) (own_arr_new' (own_clamp (by omega))) (cap := 128) (by rw [own_clamp (by omega)]; omega) (by decide) (cells' := 1) (slots' := 128) rfl rfl (by decide) (by decide) rfl (fun r28 => ?_)
  refine Run.as (D' := (Ob, (r28, .byte, (own_arr N own_zero)) :: (a1, .byte, (own_arr L f)) :: Ax)) rfl ?_
  refine Run.astoreN K d4_17 (pc' := 18) rfl rfl (L' := #[.val (.ref a1), .val (.int (Int32.ofNat N)), .val (.ref r28)]) rfl ?_
  refine Run.aloadN K d4_18 (pc' := 19) rfl rfl rfl ?_
  refine Run.iconst K d4_19 (pc' := 20) rfl (v := (0 : Int32)) rfl ?_
  refine Run.aloadN K d4_20 (pc' := 21) rfl rfl rfl ?_
  refine Run.iconst K d4_21 (pc' := 22) rfl (v := (0 : Int32)) rfl ?_
  refine Run.aloadN K d4_22 (pc' := 23) rfl rfl rfl ?_
  refine Run.alen K d4_23 (pc' := 24) rfl (i := 1) rfl (w := (Int32.ofNat L)) (own_arr_len rfl) ?_
  refine Run.iloadN K d4_24 (pc' := 25) rfl rfl ?_
  refine Run.callS K d4_25 (pc' := 28) rfl (hw _ (List.mem_of_getElem? (i := 23) rfl)) (hw _ (List.mem_of_getElem? (i := 24) rfl)) (hw _ (List.mem_of_getElem? (i := 25) rfl)) (hw _ (List.mem_of_getElem? (i := 26) rfl)) (by decide) (rm5 l Z a0 n0 hw [] ((Int32.ofNat L)) ((Int32.ofNat N)) (Ob) ((r28, .byte, (own_arr N own_zero)) :: (a1, .byte, (own_arr L f)) :: Ax) ) (argsL := [(.int (Int32.ofNat L)), (.int (Int32.ofNat N))]) (rest := [(.int (0 : Int32)), (.ref r28), (.int (0 : Int32)), (.ref a1)]) rfl rfl pd_0 rfl (W := 4) rfl (by decide) (by decide) (cells' := 1) (slots' := 128) rfl rfl (by decide) (by decide) ?_
  intro vq Dq hq
  obtain ⟨c29, hc30, rfl, rfl⟩ := hq
  refine Run.as2 (D' := (Ob, (r28, .byte, (own_arr N own_zero)) :: (a1, .byte, (own_arr L f)) :: Ax)) (S' := [(.int c29), (.int (0 : Int32)), (.ref r28), (.int (0 : Int32)), (.ref a1)]) rfl rfl ?_
  obtain rfl : c29 = (Int32.ofNat L) := own_mn2 hN hL hc30
  refine Run.acopy K d4_28 (pc' := 31) rfl (hw _ (List.mem_of_getElem? (i := 27) rfl)) (hw _ (List.mem_of_getElem? (i := 30) rfl)) (hw _ (List.mem_of_getElem? (i := 28) rfl)) (hw _ (List.mem_of_getElem? (i := 29) rfl)) (i := 1) (j := 0) rfl rfl rfl (by decide) (by decide) (own_nn (by omega)) (k1 := 0) (k2 := 0) (k3 := L) (by decide) (by decide) (own_clamp (by omega)) (by rw [own_arr_length]; omega) (by rw [own_arr_length]; omega) (vd' := (own_arr N (own_put own_zero 0 L f))) (own_arr_copy (by omega) (by omega)) (D' := (Ob, (r28, .byte, (own_arr N (own_put own_zero 0 L f))) :: (a1, .byte, (own_arr L f)) :: Ax)) rfl rfl (by decide) (W := 0) rfl (by decide) ?_
  refine Run.as (D' := (Ob, (r28, .byte, (own_arr N (own_cut f L))) :: (a1, .byte, (own_arr L f)) :: Ax)) (by rw [own_grw]) ?_
  refine Run.aloadN K d4_31 (pc' := 32) rfl rfl rfl ?_
  exact Run.retA K d4_32 rfl rfl rfl (by decide) (by decide) ⟨r28, rfl, rfl⟩
set_option maxRecDepth 65536 in
set_option maxHeartbeats 40000000 in
theorem cp_cln (l : Launch) (Z : State) (a0 : Array Value) (n0 : Nat) (hw : ∀ d ∈ tables_1, d.before a0 Z = true) (ws : List Jvm.Cond) (a1 : Addr) (p1 : Int32) (L : Nat) (f : Nat → Int32) (Ob : List OObj) (Ax : List OArr) (e1 : p1 = Int32.ofNat L) (hL : L ≤ 128) : Con l Z a0 n0 ws (⟨"java/util/Arrays", "copyOf", "([BI)[B"⟩ : MethodName) jdk_65_method_121_code 3 (some (.array .byte)) ({ frames := 1, cells := 1, slots := 128, locals := 14 } : Room) #[(.ref a1), (.int p1)] (Ob, (a1, .byte, (own_arr L f)) :: Ax) (fun vq Dq => ∃ (r31 : Addr), vq = (some (.ref r31)) ∧ Dq = (Ob, (r31, .byte, (own_arr L f)) :: (a1, .byte, (own_arr L f)) :: Ax)) := by
  refine Con.of_run (plainFor_of_name pn_1) (L0 := #[.val (.ref a1), .val (.int p1), .unset]) (fun m => by first | (simp [entryFrame, mkF, argsToLocals, Value.category]; done) | rfl) ?_
  intro p e s m below meth c K
  subst e1
  refine Run.iloadN K d4_0 (pc' := 1) rfl rfl ?_
  refine Run.aloadN K d4_1 (pc' := 2) rfl rfl rfl ?_
  refine Run.alen K d4_2 (pc' := 3) rfl (i := 0) rfl (w := (Int32.ofNat L)) (own_arr_len rfl) ?_
  refine Run.icmpF K d4_3 (pT := 14) (pF := 6) (by decide) (by decide) rfl (show ¬ ((Int32.ofNat L) ≠ (Int32.ofNat L)) from fun h => h rfl) ?_
  refine Run.aloadN K d4_6 (pc' := 7) rfl rfl rfl ?_
  refine Run.clone K d4_7 (pc' := 10) rfl (ty := .byte) (ad := "[B") (by decide) (hw _ (List.mem_of_getElem? (i := 63) rfl)) (hw _ (List.mem_of_getElem? (i := 64) rfl)) (hw _ (List.mem_of_getElem? (i := 68) rfl)) (hw _ (List.mem_of_getElem? (i := 66) rfl)) (hw _ (List.mem_of_getElem? (i := 67) rfl)) (hw _ (List.mem_of_getElem? (i := 69) rfl)) (i := 0) rfl (cap := 128) (by rw [own_arr_length]; exact hL) rfl (by decide) (W := 0) rfl (by decide) (cells' := 1) (slots' := 128) rfl rfl (by decide) (by decide) (fun r32 => ?_)
  refine Run.as (D' := (Ob, (r32, .byte, (own_arr L f)) :: (a1, .byte, (own_arr L f)) :: Ax)) rfl ?_
  refine Run.castA K d4_10 (pc' := 13) rfl (ty := .byte) (ad := "[B") (by decide) (hw _ (List.mem_of_getElem? (i := 70) rfl)) (i := 0) rfl ?_
  exact Run.retA K d4_13 rfl rfl rfl (by decide) (by decide) ⟨r32, rfl, rfl⟩
theorem d3_0 : decode prog_8_method_12_code 0 = .ok (.aload_n 0, 1) := by decide +kernel
theorem d3_1 : decode prog_8_method_12_code 1 = .ok (.getfield 7, 3) := by decide +kernel
theorem d3_4 : decode prog_8_method_12_code 4 = .ok (.aload_n 0, 1) := by decide +kernel
theorem d3_5 : decode prog_8_method_12_code 5 = .ok (.getfield 65, 3) := by decide +kernel
theorem d3_8 : decode prog_8_method_12_code 8 = .ok (.invokestatic 145, 3) := by decide +kernel
theorem d3_11 : decode prog_8_method_12_code 11 = .ok (.areturn, 1) := by decide +kernel
theorem pd_1 : parseMethodDescriptor "([BI)[B" = some ⟨[(.array .byte), .int], some (.array .byte)⟩ := by decide +kernel
set_option maxRecDepth 65536 in
set_option maxHeartbeats 40000000 in
theorem tb_shr (l : Launch) (Z : State) (a0 : Array Value) (n0 : Nat) (hw : ∀ d ∈ tables_1, d.before a0 Z = true) (ws : List Jvm.Cond) (a1 : Addr) (r1 : Addr) (L : Nat) (f : Nat → Int32) (k : Nat) (Ob : List OObj) (Ax : List OArr) (hN : k < L) (hL : L ≤ 128) : Con l Z a0 n0 ws (⟨"com/example/efcor/efcor/io/RecordWriter", "toBytes", "()[B"⟩ : MethodName) prog_8_method_12_code 1 (some (.array .byte)) ({ frames := 2, cells := 1, slots := 128, locals := 32 } : Room) #[(.ref a1)] ((a1, "com/example/efcor/efcor/io/RecordWriter", [("com/example/efcor/efcor/io/RecordWriter", "bytes", "[B", (.ref r1)), ("com/example/efcor/efcor/io/RecordWriter", "size", "I", (.int (Int32.ofNat k)))]) :: Ob, (r1, .byte, (own_arr L f)) :: Ax) (fun vq Dq => ∃ (c33 : Addr), vq = (some (.ref c33)) ∧ Dq = ((a1, "com/example/efcor/efcor/io/RecordWriter", [("com/example/efcor/efcor/io/RecordWriter", "bytes", "[B", (.ref r1)), ("com/example/efcor/efcor/io/RecordWriter", "size", "I", (.int (Int32.ofNat k)))]) :: Ob, (c33, .byte, (own_arr k f)) :: (r1, .byte, (own_arr L f)) :: Ax)) := by
  refine Con.of_run (plainFor_of_name pn_0) (L0 := #[.val (.ref a1)]) (fun m => by first | (simp [entryFrame, mkF, argsToLocals, Value.category]; done) | rfl) ?_
  intro p e s m below meth c K
  refine Run.aloadN K d3_0 (pc' := 1) rfl rfl rfl ?_
  refine Run.getF K d3_1 (pc' := 4) rfl (hw _ (List.mem_of_getElem? (i := 10) rfl)) (i := 0) (j := 0) rfl rfl ?_
  refine Run.aloadN K d3_4 (pc' := 5) rfl rfl rfl ?_
  refine Run.getF K d3_5 (pc' := 8) rfl (hw _ (List.mem_of_getElem? (i := 17) rfl)) (i := 0) (j := 1) rfl rfl ?_
  refine Run.callS K d3_8 (pc' := 11) rfl (hw _ (List.mem_of_getElem? (i := 19) rfl)) (hw _ (List.mem_of_getElem? (i := 20) rfl)) (hw _ (List.mem_of_getElem? (i := 21) rfl)) (hw _ (List.mem_of_getElem? (i := 22) rfl)) (by decide) (cp_shr l Z a0 n0 hw [] (r1) ((Int32.ofNat k)) (L) (f) (k) ((a1, "com/example/efcor/efcor/io/RecordWriter", [("com/example/efcor/efcor/io/RecordWriter", "bytes", "[B", (.ref r1)), ("com/example/efcor/efcor/io/RecordWriter", "size", "I", (.int (Int32.ofNat k)))]) :: Ob) (Ax) (rfl) (hN) (hL)) (argsL := [(.ref r1), (.int (Int32.ofNat k))]) (rest := []) rfl rfl pd_1 rfl (W := 0) rfl (by decide) (by decide) (cells' := 1) (slots' := 128) rfl rfl (by decide) (by decide) ?_
  intro vq Dq hq
  obtain ⟨c35, rfl, rfl⟩ := hq
  refine Run.as2 (D' := ((a1, "com/example/efcor/efcor/io/RecordWriter", [("com/example/efcor/efcor/io/RecordWriter", "bytes", "[B", (.ref r1)), ("com/example/efcor/efcor/io/RecordWriter", "size", "I", (.int (Int32.ofNat k)))]) :: Ob, (c35, .byte, (own_arr k f)) :: (r1, .byte, (own_arr L f)) :: Ax)) (S' := [(.ref c35)]) rfl rfl ?_
  exact Run.retA K d3_11 rfl rfl rfl (by decide) (by decide) ⟨c35, rfl, rfl⟩
set_option maxRecDepth 65536 in
set_option maxHeartbeats 40000000 in
theorem tb_cln (l : Launch) (Z : State) (a0 : Array Value) (n0 : Nat) (hw : ∀ d ∈ tables_1, d.before a0 Z = true) (ws : List Jvm.Cond) (a1 : Addr) (r1 : Addr) (L : Nat) (f : Nat → Int32) (k : Nat) (Ob : List OObj) (Ax : List OArr) (hN : k = L) (hL : L ≤ 128) : Con l Z a0 n0 ws (⟨"com/example/efcor/efcor/io/RecordWriter", "toBytes", "()[B"⟩ : MethodName) prog_8_method_12_code 1 (some (.array .byte)) ({ frames := 2, cells := 1, slots := 128, locals := 28 } : Room) #[(.ref a1)] ((a1, "com/example/efcor/efcor/io/RecordWriter", [("com/example/efcor/efcor/io/RecordWriter", "bytes", "[B", (.ref r1)), ("com/example/efcor/efcor/io/RecordWriter", "size", "I", (.int (Int32.ofNat k)))]) :: Ob, (r1, .byte, (own_arr L f)) :: Ax) (fun vq Dq => ∃ (c37 : Addr), vq = (some (.ref c37)) ∧ Dq = ((a1, "com/example/efcor/efcor/io/RecordWriter", [("com/example/efcor/efcor/io/RecordWriter", "bytes", "[B", (.ref r1)), ("com/example/efcor/efcor/io/RecordWriter", "size", "I", (.int (Int32.ofNat k)))]) :: Ob, (c37, .byte, (own_arr k f)) :: (r1, .byte, (own_arr k f)) :: Ax)) := by
  refine Con.of_run (plainFor_of_name pn_0) (L0 := #[.val (.ref a1)]) (fun m => by first | (simp [entryFrame, mkF, argsToLocals, Value.category]; done) | rfl) ?_
  intro p e s m below meth c K
  subst hN
  refine Run.aloadN K d3_0 (pc' := 1) rfl rfl rfl ?_
  refine Run.getF K d3_1 (pc' := 4) rfl (hw _ (List.mem_of_getElem? (i := 10) rfl)) (i := 0) (j := 0) rfl rfl ?_
  refine Run.aloadN K d3_4 (pc' := 5) rfl rfl rfl ?_
  refine Run.getF K d3_5 (pc' := 8) rfl (hw _ (List.mem_of_getElem? (i := 17) rfl)) (i := 0) (j := 1) rfl rfl ?_
  refine Run.callS K d3_8 (pc' := 11) rfl (hw _ (List.mem_of_getElem? (i := 19) rfl)) (hw _ (List.mem_of_getElem? (i := 20) rfl)) (hw _ (List.mem_of_getElem? (i := 21) rfl)) (hw _ (List.mem_of_getElem? (i := 22) rfl)) (by decide) (cp_cln l Z a0 n0 hw [] (r1) ((Int32.ofNat k)) (k) (f) ((a1, "com/example/efcor/efcor/io/RecordWriter", [("com/example/efcor/efcor/io/RecordWriter", "bytes", "[B", (.ref r1)), ("com/example/efcor/efcor/io/RecordWriter", "size", "I", (.int (Int32.ofNat k)))]) :: Ob) (Ax) (rfl) (hL)) (argsL := [(.ref r1), (.int (Int32.ofNat k))]) (rest := []) rfl rfl pd_1 rfl (W := 0) rfl (by decide) (by decide) (cells' := 1) (slots' := 128) rfl rfl (by decide) (by decide) ?_
  intro vq Dq hq
  obtain ⟨c39, rfl, rfl⟩ := hq
  refine Run.as2 (D' := ((a1, "com/example/efcor/efcor/io/RecordWriter", [("com/example/efcor/efcor/io/RecordWriter", "bytes", "[B", (.ref r1)), ("com/example/efcor/efcor/io/RecordWriter", "size", "I", (.int (Int32.ofNat k)))]) :: Ob, (c39, .byte, (own_arr k f)) :: (r1, .byte, (own_arr k f)) :: Ax)) (S' := [(.ref c39)]) rfl rfl ?_
  exact Run.retA K d3_11 rfl rfl rfl (by decide) (by decide) ⟨c39, rfl, rfl⟩
theorem d8_0 : decode prog_8_method_15_code 0 = .ok (.aload_n 0, 1) := by decide +kernel
theorem d8_1 : decode prog_8_method_15_code 1 = .ok (.getfield 7, 3) := by decide +kernel
theorem d8_4 : decode prog_8_method_15_code 4 = .ok (.arraylength, 1) := by decide +kernel
theorem d8_5 : decode prog_8_method_15_code 5 = .ok (.aload_n 0, 1) := by decide +kernel
theorem d8_6 : decode prog_8_method_15_code 6 = .ok (.getfield 65, 3) := by decide +kernel
theorem d8_9 : decode prog_8_method_15_code 9 = .ok (.isub, 1) := by decide +kernel
theorem d8_10 : decode prog_8_method_15_code 10 = .ok (.iload_n 1, 1) := by decide +kernel
theorem d8_11 : decode prog_8_method_15_code 11 = .ok (.if_icmp .ge 30, 3) := by decide +kernel
theorem d8_14 : decode prog_8_method_15_code 14 = .ok (.aload_n 0, 1) := by decide +kernel
theorem d8_15 : decode prog_8_method_15_code 15 = .ok (.aload_n 0, 1) := by decide +kernel
theorem d8_16 : decode prog_8_method_15_code 16 = .ok (.getfield 7, 3) := by decide +kernel
theorem d8_19 : decode prog_8_method_15_code 19 = .ok (.aload_n 0, 1) := by decide +kernel
theorem d8_20 : decode prog_8_method_15_code 20 = .ok (.getfield 7, 3) := by decide +kernel
theorem d8_23 : decode prog_8_method_15_code 23 = .ok (.arraylength, 1) := by decide +kernel
theorem d8_24 : decode prog_8_method_15_code 24 = .ok (.iconst 2, 1) := by decide +kernel
theorem d8_25 : decode prog_8_method_15_code 25 = .ok (.imul, 1) := by decide +kernel
theorem d8_26 : decode prog_8_method_15_code 26 = .ok (.aload_n 0, 1) := by decide +kernel
theorem d8_27 : decode prog_8_method_15_code 27 = .ok (.getfield 65, 3) := by decide +kernel
theorem d8_30 : decode prog_8_method_15_code 30 = .ok (.iload_n 1, 1) := by decide +kernel
theorem d8_31 : decode prog_8_method_15_code 31 = .ok (.iadd, 1) := by decide +kernel
theorem d8_32 : decode prog_8_method_15_code 32 = .ok (.invokestatic 161, 3) := by decide +kernel
theorem d8_35 : decode prog_8_method_15_code 35 = .ok (.invokestatic 145, 3) := by decide +kernel
theorem d8_38 : decode prog_8_method_15_code 38 = .ok (.putfield 7, 3) := by decide +kernel
theorem d8_41 : decode prog_8_method_15_code 41 = .ok (.return_, 1) := by decide +kernel
set_option maxRecDepth 65536 in
set_option maxHeartbeats 40000000 in
theorem ens_no (l : Launch) (Z : State) (a0 : Array Value) (n0 : Nat) (hw : ∀ d ∈ tables_1, d.before a0 Z = true) (ws : List Jvm.Cond) (a1 : Addr) (p1 : Int32) (r1 : Addr) (L : Nat) (f : Nat → Int32) (k : Nat) (p : Nat) (Ob : List OObj) (Ax : List OArr) (e1 : p1 = Int32.ofNat p) (hk : k + p ≤ L) (hL : L ≤ 128) : Con l Z a0 n0 ws (⟨"com/example/efcor/efcor/io/RecordWriter", "ensure", "(I)V"⟩ : MethodName) prog_8_method_15_code 2 none ({ frames := 0, cells := 0, slots := 0, locals := 0 } : Room) #[(.ref a1), (.int p1)] ((a1, "com/example/efcor/efcor/io/RecordWriter", [("com/example/efcor/efcor/io/RecordWriter", "bytes", "[B", (.ref r1)), ("com/example/efcor/efcor/io/RecordWriter", "size", "I", (.int (Int32.ofNat k)))]) :: Ob, (r1, .byte, (own_arr L f)) :: Ax) (Ret none ((a1, "com/example/efcor/efcor/io/RecordWriter", [("com/example/efcor/efcor/io/RecordWriter", "bytes", "[B", (.ref r1)), ("com/example/efcor/efcor/io/RecordWriter", "size", "I", (.int (Int32.ofNat k)))]) :: Ob, (r1, .byte, (own_arr L f)) :: Ax)) := by
  refine Con.of_run (plainFor_of_name pn_0) (L0 := #[.val (.ref a1), .val (.int p1)]) (fun m => by first | (simp [entryFrame, mkF, argsToLocals, Value.category]; done) | rfl) ?_
  intro p e s m below meth c K
  refine Run.aloadN K d8_0 (pc' := 1) rfl rfl rfl ?_
  refine Run.getF K d8_1 (pc' := 4) rfl (hw _ (List.mem_of_getElem? (i := 10) rfl)) (i := 0) (j := 0) rfl rfl ?_
  refine Run.alen K d8_4 (pc' := 5) rfl (i := 0) rfl (w := (Int32.ofNat L)) (own_arr_len rfl) ?_
  refine Run.aloadN K d8_5 (pc' := 6) rfl rfl rfl ?_
  refine Run.getF K d8_6 (pc' := 9) rfl (hw _ (List.mem_of_getElem? (i := 17) rfl)) (i := 0) (j := 1) rfl rfl ?_
  refine Run.isub K d8_9 (pc' := 10) rfl ?_
  refine Run.iloadN K d8_10 (pc' := 11) rfl rfl ?_
  refine Run.icmpT K d8_11 (pT := 41) (pF := 14) (by decide) (by decide) rfl (show p1 ≤ ((Int32.ofNat L) - (Int32.ofNat k)) from own_e1 e1 hk hL) ?_
  exact Run.retV K d8_41 rfl (by decide) (by decide) ⟨rfl, rfl⟩
set_option maxRecDepth 65536 in
set_option maxHeartbeats 40000000 in
theorem ens_grow (l : Launch) (Z : State) (a0 : Array Value) (n0 : Nat) (hw : ∀ d ∈ tables_1, d.before a0 Z = true) (ws : List Jvm.Cond) (a1 : Addr) (p1 : Int32) (r1 : Addr) (f : Nat → Int32) (k : Nat) (p : Nat) (Ob : List OObj) (Ax : List OArr) (e1 : p1 = Int32.ofNat p) (h1 : 64 < k + p) (h2 : k + p ≤ 128) (h0 : k ≤ 64) : Con l Z a0 n0 ws (⟨"com/example/efcor/efcor/io/RecordWriter", "ensure", "(I)V"⟩ : MethodName) prog_8_method_15_code 2 none ({ frames := 2, cells := 1, slots := 128, locals := 33 } : Room) #[(.ref a1), (.int p1)] ((a1, "com/example/efcor/efcor/io/RecordWriter", [("com/example/efcor/efcor/io/RecordWriter", "bytes", "[B", (.ref r1)), ("com/example/efcor/efcor/io/RecordWriter", "size", "I", (.int (Int32.ofNat k)))]) :: Ob, (r1, .byte, (own_arr 64 f)) :: Ax) (fun vq Dq => ∃ (c43 : Addr), vq = none ∧ Dq = ((a1, "com/example/efcor/efcor/io/RecordWriter", [("com/example/efcor/efcor/io/RecordWriter", "bytes", "[B", (.ref c43)), ("com/example/efcor/efcor/io/RecordWriter", "size", "I", (.int (Int32.ofNat k)))]) :: Ob, (c43, .byte, (own_arr 128 (own_cut f 64))) :: (r1, .byte, (own_arr 64 f)) :: Ax)) := by
  refine Con.of_run (plainFor_of_name pn_0) (L0 := #[.val (.ref a1), .val (.int p1)]) (fun m => by first | (simp [entryFrame, mkF, argsToLocals, Value.category]; done) | rfl) ?_
  intro p e s m below meth c K
  refine Run.aloadN K d8_0 (pc' := 1) rfl rfl rfl ?_
  refine Run.getF K d8_1 (pc' := 4) rfl (hw _ (List.mem_of_getElem? (i := 10) rfl)) (i := 0) (j := 0) rfl rfl ?_
  refine Run.alen K d8_4 (pc' := 5) rfl (i := 0) rfl (w := (64 : Int32)) (own_arr_len rfl) ?_
  refine Run.aloadN K d8_5 (pc' := 6) rfl rfl rfl ?_
  refine Run.getF K d8_6 (pc' := 9) rfl (hw _ (List.mem_of_getElem? (i := 17) rfl)) (i := 0) (j := 1) rfl rfl ?_
  refine Run.isub K d8_9 (pc' := 10) rfl ?_
  refine Run.iloadN K d8_10 (pc' := 11) rfl rfl ?_
  refine Run.icmpF K d8_11 (pT := 41) (pF := 14) (by decide) (by decide) rfl (show ¬ (p1 ≤ ((64 : Int32) - (Int32.ofNat k))) from own_e2 e1 h1 h2 h0) ?_
  refine Run.aloadN K d8_14 (pc' := 15) rfl rfl rfl ?_
  refine Run.aloadN K d8_15 (pc' := 16) rfl rfl rfl ?_
  refine Run.getF K d8_16 (pc' := 19) rfl (hw _ (List.mem_of_getElem? (i := 10) rfl)) (i := 0) (j := 0) rfl rfl ?_
  refine Run.aloadN K d8_19 (pc' := 20) rfl rfl rfl ?_
  refine Run.getF K d8_20 (pc' := 23) rfl (hw _ (List.mem_of_getElem? (i := 10) rfl)) (i := 0) (j := 0) rfl rfl ?_
  refine Run.alen K d8_23 (pc' := 24) rfl (i := 0) rfl (w := (64 : Int32)) (own_arr_len rfl) ?_
  refine Run.iconst K d8_24 (pc' := 25) rfl (v := (2 : Int32)) rfl ?_
  refine Run.imulV K d8_25 (pc' := 26) rfl (v := (128 : Int32)) (by decide) ?_
  refine Run.aloadN K d8_26 (pc' := 27) rfl rfl rfl ?_
  refine Run.getF K d8_27 (pc' := 30) rfl (hw _ (List.mem_of_getElem? (i := 17) rfl)) (i := 0) (j := 1) rfl rfl ?_
  refine Run.iloadN K d8_30 (pc' := 31) rfl rfl ?_
  refine Run.iadd K d8_31 (pc' := 32) rfl ?_
  refine Run.callS K d8_32 (pc' := 35) rfl (hw _ (List.mem_of_getElem? (i := 72) rfl)) (hw _ (List.mem_of_getElem? (i := 73) rfl)) (hw _ (List.mem_of_getElem? (i := 25) rfl)) (hw _ (List.mem_of_getElem? (i := 74) rfl)) (by decide) (rm12 l Z a0 n0 hw [] ((128 : Int32)) (((Int32.ofNat k) + p1)) ((a1, "com/example/efcor/efcor/io/RecordWriter", [("com/example/efcor/efcor/io/RecordWriter", "bytes", "[B", (.ref r1)), ("com/example/efcor/efcor/io/RecordWriter", "size", "I", (.int (Int32.ofNat k)))]) :: Ob) ((r1, .byte, (own_arr 64 f)) :: Ax) ) (argsL := [(.int (128 : Int32)), (.int ((Int32.ofNat k) + p1))]) (rest := [(.ref r1), (.ref a1)]) rfl rfl pd_0 rfl (W := 2) rfl (by decide) (by decide) (cells' := 0) (slots' := 0) rfl rfl (by decide) (by decide) ?_
  intro vq Dq hq
  obtain ⟨c45, hc46, rfl, rfl⟩ := hq
  refine Run.as2 (D' := ((a1, "com/example/efcor/efcor/io/RecordWriter", [("com/example/efcor/efcor/io/RecordWriter", "bytes", "[B", (.ref r1)), ("com/example/efcor/efcor/io/RecordWriter", "size", "I", (.int (Int32.ofNat k)))]) :: Ob, (r1, .byte, (own_arr 64 f)) :: Ax)) (S' := [(.int c45), (.ref r1), (.ref a1)]) rfl rfl ?_
  obtain rfl : c45 = (128 : Int32) := own_mx e1 h2 hc46
  refine Run.callS K d8_35 (pc' := 38) rfl (hw _ (List.mem_of_getElem? (i := 19) rfl)) (hw _ (List.mem_of_getElem? (i := 20) rfl)) (hw _ (List.mem_of_getElem? (i := 21) rfl)) (hw _ (List.mem_of_getElem? (i := 22) rfl)) (by decide) (cp_grw l Z a0 n0 hw [] (r1) ((128 : Int32)) (64) (f) (128) ((a1, "com/example/efcor/efcor/io/RecordWriter", [("com/example/efcor/efcor/io/RecordWriter", "bytes", "[B", (.ref r1)), ("com/example/efcor/efcor/io/RecordWriter", "size", "I", (.int (Int32.ofNat k)))]) :: Ob) (Ax) (rfl) (by decide) (by decide)) (argsL := [(.ref r1), (.int (128 : Int32))]) (rest := [(.ref a1)]) rfl rfl pd_1 rfl (W := 1) rfl (by decide) (by decide) (cells' := 1) (slots' := 128) rfl rfl (by decide) (by decide) ?_
  intro vq Dq hq
  obtain ⟨c47, rfl, rfl⟩ := hq
  refine Run.as2 (D' := ((a1, "com/example/efcor/efcor/io/RecordWriter", [("com/example/efcor/efcor/io/RecordWriter", "bytes", "[B", (.ref r1)), ("com/example/efcor/efcor/io/RecordWriter", "size", "I", (.int (Int32.ofNat k)))]) :: Ob, (c47, .byte, (own_arr 128 (own_cut f 64))) :: (r1, .byte, (own_arr 64 f)) :: Ax)) (S' := [(.ref c47), (.ref a1)]) rfl rfl ?_
  refine Run.putF K d8_38 (pc' := 41) rfl (hw _ (List.mem_of_getElem? (i := 10) rfl)) (Or.inl (hw _ (List.mem_of_getElem? (i := 11) rfl))) (hw _ (List.mem_of_getElem? (i := 2) rfl)) (ty := (.array .byte)) (by decide) rfl rfl (i := 0) (j := 0) rfl rfl (D' := ((a1, "com/example/efcor/efcor/io/RecordWriter", [("com/example/efcor/efcor/io/RecordWriter", "bytes", "[B", (.ref c47)), ("com/example/efcor/efcor/io/RecordWriter", "size", "I", (.int (Int32.ofNat k)))]) :: Ob, (c47, .byte, (own_arr 128 (own_cut f 64))) :: (r1, .byte, (own_arr 64 f)) :: Ax)) rfl ?_
  exact Run.retV K d8_41 rfl (by decide) (by decide) ⟨c47, rfl, rfl⟩
theorem d7_0 : decode prog_8_method_14_code 0 = .ok (.aload_n 0, 1) := by decide +kernel
theorem d7_1 : decode prog_8_method_14_code 1 = .ok (.iconst 1, 1) := by decide +kernel
theorem d7_2 : decode prog_8_method_14_code 2 = .ok (.invokevirtual 61, 3) := by decide +kernel
theorem d7_5 : decode prog_8_method_14_code 5 = .ok (.aload_n 0, 1) := by decide +kernel
theorem d7_6 : decode prog_8_method_14_code 6 = .ok (.getfield 7, 3) := by decide +kernel
theorem d7_9 : decode prog_8_method_14_code 9 = .ok (.aload_n 0, 1) := by decide +kernel
theorem d7_10 : decode prog_8_method_14_code 10 = .ok (.dup, 1) := by decide +kernel
theorem d7_11 : decode prog_8_method_14_code 11 = .ok (.getfield 65, 3) := by decide +kernel
theorem d7_14 : decode prog_8_method_14_code 14 = .ok (.dup_x1, 1) := by decide +kernel
theorem d7_15 : decode prog_8_method_14_code 15 = .ok (.iconst 1, 1) := by decide +kernel
theorem d7_16 : decode prog_8_method_14_code 16 = .ok (.iadd, 1) := by decide +kernel
theorem d7_17 : decode prog_8_method_14_code 17 = .ok (.putfield 65, 3) := by decide +kernel
theorem d7_20 : decode prog_8_method_14_code 20 = .ok (.iload_n 1, 1) := by decide +kernel
theorem d7_21 : decode prog_8_method_14_code 21 = .ok (.bastore, 1) := by decide +kernel
theorem d7_22 : decode prog_8_method_14_code 22 = .ok (.return_, 1) := by decide +kernel
theorem pd_2 : parseMethodDescriptor "(I)V" = some ⟨[.int], none⟩ := by decide +kernel
set_option maxRecDepth 65536 in
set_option maxHeartbeats 40000000 in
theorem put_no (l : Launch) (Z : State) (a0 : Array Value) (n0 : Nat) (hw : ∀ d ∈ tables_1, d.before a0 Z = true) (ws : List Jvm.Cond) (a1 : Addr) (p1 : Int32) (r1 : Addr) (L : Nat) (f : Nat → Int32) (k : Nat) (Ob : List OObj) (Ax : List OArr) (hk : k < L) (hL : L ≤ 128) : Con l Z a0 n0 ws (⟨"com/example/efcor/efcor/io/RecordWriter", "put", "(B)V"⟩ : MethodName) prog_8_method_14_code 2 none ({ frames := 1, cells := 0, slots := 0, locals := 13 } : Room) #[(.ref a1), (.int p1)] ((a1, "com/example/efcor/efcor/io/RecordWriter", [("com/example/efcor/efcor/io/RecordWriter", "bytes", "[B", (.ref r1)), ("com/example/efcor/efcor/io/RecordWriter", "size", "I", (.int (Int32.ofNat k)))]) :: Ob, (r1, .byte, (own_arr L f)) :: Ax) (Ret none ((a1, "com/example/efcor/efcor/io/RecordWriter", [("com/example/efcor/efcor/io/RecordWriter", "bytes", "[B", (.ref r1)), ("com/example/efcor/efcor/io/RecordWriter", "size", "I", (.int (Int32.ofNat (k + 1))))]) :: Ob, (r1, .byte, (own_arr L (own_upd f k (p1.toInt8.toInt32)))) :: Ax)) := by
  refine Con.of_run (plainFor_of_name pn_0) (L0 := #[.val (.ref a1), .val (.int p1)]) (fun m => by first | (simp [entryFrame, mkF, argsToLocals, Value.category]; done) | rfl) ?_
  intro p e s m below meth c K
  refine Run.aloadN K d7_0 (pc' := 1) rfl rfl rfl ?_
  refine Run.iconst K d7_1 (pc' := 2) rfl (v := (1 : Int32)) rfl ?_
  refine Run.callP K d7_2 (pc' := 5) rfl (a := a1) (z := (⟨"com/example/efcor/efcor/io/RecordWriter", "ensure", "(I)V"⟩ : MethodName)) (Cn := "com/example/efcor/efcor/io/RecordWriter") (i := 0) (hw _ (List.mem_of_getElem? (i := 40) rfl)) (hw _ (List.mem_of_getElem? (i := 42) rfl)) (hw _ (List.mem_of_getElem? (i := 15) rfl)) rfl (hw _ (List.mem_of_getElem? (i := 41) rfl)) (hw _ (List.mem_of_getElem? (i := 3) rfl)) (hw _ (List.mem_of_getElem? (i := 43) rfl)) (by decide) rfl (ens_no l Z a0 n0 hw [] (a1) ((1 : Int32)) (r1) (L) (f) (k) (1) (Ob) (Ax) (rfl) (by omega) (hL)) (argsL := [(.int (1 : Int32))]) (rest := []) rfl rfl pd_2 rfl (W := 0) rfl (by decide) (by decide) (cells' := 0) (slots' := 0) rfl rfl (by decide) (by decide) (Ret.k (S' := []) rfl ?_)
  refine Run.as (D' := ((a1, "com/example/efcor/efcor/io/RecordWriter", [("com/example/efcor/efcor/io/RecordWriter", "bytes", "[B", (.ref r1)), ("com/example/efcor/efcor/io/RecordWriter", "size", "I", (.int (Int32.ofNat k)))]) :: Ob, (r1, .byte, (own_arr L f)) :: Ax)) rfl ?_
  refine Run.aloadN K d7_5 (pc' := 6) rfl rfl rfl ?_
  refine Run.getF K d7_6 (pc' := 9) rfl (hw _ (List.mem_of_getElem? (i := 10) rfl)) (i := 0) (j := 0) rfl rfl ?_
  refine Run.aloadN K d7_9 (pc' := 10) rfl rfl rfl ?_
  refine Run.dup K d7_10 (pc' := 11) rfl rfl ?_
  refine Run.getF K d7_11 (pc' := 14) rfl (hw _ (List.mem_of_getElem? (i := 17) rfl)) (i := 0) (j := 1) rfl rfl ?_
  refine Run.dupX1 K d7_14 (pc' := 15) rfl rfl rfl ?_
  refine Run.iconst K d7_15 (pc' := 16) rfl (v := (1 : Int32)) rfl ?_
  refine Run.iadd K d7_16 (pc' := 17) rfl ?_
  refine Run.putF K d7_17 (pc' := 20) rfl (hw _ (List.mem_of_getElem? (i := 17) rfl)) (Or.inl (hw _ (List.mem_of_getElem? (i := 18) rfl))) (hw _ (List.mem_of_getElem? (i := 2) rfl)) (ty := .int) (by decide) rfl rfl (i := 0) (j := 1) rfl rfl (D' := ((a1, "com/example/efcor/efcor/io/RecordWriter", [("com/example/efcor/efcor/io/RecordWriter", "bytes", "[B", (.ref r1)), ("com/example/efcor/efcor/io/RecordWriter", "size", "I", (.int ((Int32.ofNat k) + (1 : Int32))))]) :: Ob, (r1, .byte, (own_arr L f)) :: Ax)) rfl ?_
  refine Run.as (D' := ((a1, "com/example/efcor/efcor/io/RecordWriter", [("com/example/efcor/efcor/io/RecordWriter", "bytes", "[B", (.ref r1)), ("com/example/efcor/efcor/io/RecordWriter", "size", "I", (.int (Int32.ofNat (k + 1))))]) :: Ob, (r1, .byte, (own_arr L f)) :: Ax)) (by rw [own_succ]) ?_
  refine Run.iloadN K d7_20 (pc' := 21) rfl rfl ?_
  refine Run.bastore K d7_21 (pc' := 22) rfl (i := 0) (q := k) rfl (own_nn (by omega)) (own_clamp (by omega)) (v := (.int (f k))) (own_arr_get hk rfl) (D' := ((a1, "com/example/efcor/efcor/io/RecordWriter", [("com/example/efcor/efcor/io/RecordWriter", "bytes", "[B", (.ref r1)), ("com/example/efcor/efcor/io/RecordWriter", "size", "I", (.int (Int32.ofNat (k + 1))))]) :: Ob, (r1, .byte, ((own_arr L f).set k (.int p1.toInt8.toInt32))) :: Ax)) rfl ?_
  refine Run.as (D' := ((a1, "com/example/efcor/efcor/io/RecordWriter", [("com/example/efcor/efcor/io/RecordWriter", "bytes", "[B", (.ref r1)), ("com/example/efcor/efcor/io/RecordWriter", "size", "I", (.int (Int32.ofNat (k + 1))))]) :: Ob, (r1, .byte, (own_arr L (own_upd f k (p1.toInt8.toInt32)))) :: Ax)) (by rw [own_arr_set]) ?_
  exact Run.retV K d7_22 rfl (by decide) (by decide) ⟨rfl, rfl⟩
set_option maxRecDepth 65536 in
set_option maxHeartbeats 40000000 in
theorem put_grow (l : Launch) (Z : State) (a0 : Array Value) (n0 : Nat) (hw : ∀ d ∈ tables_1, d.before a0 Z = true) (ws : List Jvm.Cond) (a1 : Addr) (p1 : Int32) (r1 : Addr) (f : Nat → Int32) (Ob : List OObj) (Ax : List OArr) : Con l Z a0 n0 ws (⟨"com/example/efcor/efcor/io/RecordWriter", "put", "(B)V"⟩ : MethodName) prog_8_method_14_code 2 none ({ frames := 3, cells := 1, slots := 128, locals := 46 } : Room) #[(.ref a1), (.int p1)] ((a1, "com/example/efcor/efcor/io/RecordWriter", [("com/example/efcor/efcor/io/RecordWriter", "bytes", "[B", (.ref r1)), ("com/example/efcor/efcor/io/RecordWriter", "size", "I", (.int (64 : Int32)))]) :: Ob, (r1, .byte, (own_arr 64 f)) :: Ax) (fun vq Dq => ∃ (c49 : Addr), vq = none ∧ Dq = ((a1, "com/example/efcor/efcor/io/RecordWriter", [("com/example/efcor/efcor/io/RecordWriter", "bytes", "[B", (.ref c49)), ("com/example/efcor/efcor/io/RecordWriter", "size", "I", (.int (65 : Int32)))]) :: Ob, (c49, .byte, (own_arr 128 (own_upd (own_cut f 64) 64 (p1.toInt8.toInt32)))) :: (r1, .byte, (own_arr 64 f)) :: Ax)) := by
  refine Con.of_run (plainFor_of_name pn_0) (L0 := #[.val (.ref a1), .val (.int p1)]) (fun m => by first | (simp [entryFrame, mkF, argsToLocals, Value.category]; done) | rfl) ?_
  intro p e s m below meth c K
  refine Run.aloadN K d7_0 (pc' := 1) rfl rfl rfl ?_
  refine Run.iconst K d7_1 (pc' := 2) rfl (v := (1 : Int32)) rfl ?_
  refine Run.callP K d7_2 (pc' := 5) rfl (a := a1) (z := (⟨"com/example/efcor/efcor/io/RecordWriter", "ensure", "(I)V"⟩ : MethodName)) (Cn := "com/example/efcor/efcor/io/RecordWriter") (i := 0) (hw _ (List.mem_of_getElem? (i := 40) rfl)) (hw _ (List.mem_of_getElem? (i := 42) rfl)) (hw _ (List.mem_of_getElem? (i := 15) rfl)) rfl (hw _ (List.mem_of_getElem? (i := 41) rfl)) (hw _ (List.mem_of_getElem? (i := 3) rfl)) (hw _ (List.mem_of_getElem? (i := 43) rfl)) (by decide) rfl (ens_grow l Z a0 n0 hw [] (a1) ((1 : Int32)) (r1) (f) (64) (1) (Ob) (Ax) (rfl) (by decide) (by decide) (by decide)) (argsL := [(.int (1 : Int32))]) (rest := []) rfl rfl pd_2 rfl (W := 0) rfl (by decide) (by decide) (cells' := 1) (slots' := 128) rfl rfl (by decide) (by decide) ?_
  intro vq Dq hq
  obtain ⟨c51, rfl, rfl⟩ := hq
  refine Run.as2 (D' := ((a1, "com/example/efcor/efcor/io/RecordWriter", [("com/example/efcor/efcor/io/RecordWriter", "bytes", "[B", (.ref c51)), ("com/example/efcor/efcor/io/RecordWriter", "size", "I", (.int (64 : Int32)))]) :: Ob, (c51, .byte, (own_arr 128 (own_cut f 64))) :: (r1, .byte, (own_arr 64 f)) :: Ax)) (S' := []) rfl rfl ?_
  refine Run.aloadN K d7_5 (pc' := 6) rfl rfl rfl ?_
  refine Run.getF K d7_6 (pc' := 9) rfl (hw _ (List.mem_of_getElem? (i := 10) rfl)) (i := 0) (j := 0) rfl rfl ?_
  refine Run.aloadN K d7_9 (pc' := 10) rfl rfl rfl ?_
  refine Run.dup K d7_10 (pc' := 11) rfl rfl ?_
  refine Run.getF K d7_11 (pc' := 14) rfl (hw _ (List.mem_of_getElem? (i := 17) rfl)) (i := 0) (j := 1) rfl rfl ?_
  refine Run.dupX1 K d7_14 (pc' := 15) rfl rfl rfl ?_
  refine Run.iconst K d7_15 (pc' := 16) rfl (v := (1 : Int32)) rfl ?_
  refine Run.iaddV K d7_16 (pc' := 17) rfl (v := (65 : Int32)) (by decide) ?_
  refine Run.putF K d7_17 (pc' := 20) rfl (hw _ (List.mem_of_getElem? (i := 17) rfl)) (Or.inl (hw _ (List.mem_of_getElem? (i := 18) rfl))) (hw _ (List.mem_of_getElem? (i := 2) rfl)) (ty := .int) (by decide) rfl rfl (i := 0) (j := 1) rfl rfl (D' := ((a1, "com/example/efcor/efcor/io/RecordWriter", [("com/example/efcor/efcor/io/RecordWriter", "bytes", "[B", (.ref c51)), ("com/example/efcor/efcor/io/RecordWriter", "size", "I", (.int (65 : Int32)))]) :: Ob, (c51, .byte, (own_arr 128 (own_cut f 64))) :: (r1, .byte, (own_arr 64 f)) :: Ax)) rfl ?_
  refine Run.iloadN K d7_20 (pc' := 21) rfl rfl ?_
  refine Run.bastore K d7_21 (pc' := 22) rfl (i := 0) (q := 64) rfl (by decide) (by decide) (v := (.int (0 : Int32))) (own_arr_get (by decide) (v := (0 : Int32)) rfl) (D' := ((a1, "com/example/efcor/efcor/io/RecordWriter", [("com/example/efcor/efcor/io/RecordWriter", "bytes", "[B", (.ref c51)), ("com/example/efcor/efcor/io/RecordWriter", "size", "I", (.int (65 : Int32)))]) :: Ob, (c51, .byte, ((own_arr 128 (own_cut f 64)).set 64 (.int p1.toInt8.toInt32))) :: (r1, .byte, (own_arr 64 f)) :: Ax)) rfl ?_
  refine Run.as (D' := ((a1, "com/example/efcor/efcor/io/RecordWriter", [("com/example/efcor/efcor/io/RecordWriter", "bytes", "[B", (.ref c51)), ("com/example/efcor/efcor/io/RecordWriter", "size", "I", (.int (65 : Int32)))]) :: Ob, (c51, .byte, (own_arr 128 (own_upd (own_cut f 64) 64 (p1.toInt8.toInt32)))) :: (r1, .byte, (own_arr 64 f)) :: Ax)) (by rw [own_arr_set]) ?_
  exact Run.retV K d7_22 rfl (by decide) (by decide) ⟨c51, rfl, rfl⟩
theorem d6_0 : decode prog_8_method_4_code 0 = .ok (.aload_n 0, 1) := by decide +kernel
theorem d6_1 : decode prog_8_method_4_code 1 = .ok (.iload_n 1, 1) := by decide +kernel
theorem d6_2 : decode prog_8_method_4_code 2 = .ok (.ifCond .eq 7, 3) := by decide +kernel
theorem d6_5 : decode prog_8_method_4_code 5 = .ok (.iconst 1, 1) := by decide +kernel
theorem d6_6 : decode prog_8_method_4_code 6 = .ok (.goto 4, 3) := by decide +kernel
theorem d6_9 : decode prog_8_method_4_code 9 = .ok (.iconst 0, 1) := by decide +kernel
theorem d6_10 : decode prog_8_method_4_code 10 = .ok (.i2b, 1) := by decide +kernel
theorem d6_11 : decode prog_8_method_4_code 11 = .ok (.invokevirtual 25, 3) := by decide +kernel
theorem d6_14 : decode prog_8_method_4_code 14 = .ok (.aload_n 0, 1) := by decide +kernel
theorem d6_15 : decode prog_8_method_4_code 15 = .ok (.areturn, 1) := by decide +kernel
theorem pd_3 : parseMethodDescriptor "(B)V" = some ⟨[.byte], none⟩ := by decide +kernel
set_option maxRecDepth 65536 in
set_option maxHeartbeats 40000000 in
theorem wbool (l : Launch) (Z : State) (a0 : Array Value) (n0 : Nat) (hw : ∀ d ∈ tables_1, d.before a0 Z = true) (ws : List Jvm.Cond) (a1 : Addr) (p1 : Int32) (r1 : Addr) (L : Nat) (f : Nat → Int32) (k : Nat) (Ob : List OObj) (Ax : List OArr) (hk : k < L) (hL : L ≤ 128) : Con l Z a0 n0 ws (⟨"com/example/efcor/efcor/io/RecordWriter", "writeBoolean", "(Z)Lcom/example/efcor/efcor/io/RecordWriter;"⟩ : MethodName) prog_8_method_4_code 2 (some (.object "com/example/efcor/efcor/io/RecordWriter")) ({ frames := 2, cells := 0, slots := 0, locals := 26 } : Room) #[(.ref a1), (.int p1)] ((a1, "com/example/efcor/efcor/io/RecordWriter", [("com/example/efcor/efcor/io/RecordWriter", "bytes", "[B", (.ref r1)), ("com/example/efcor/efcor/io/RecordWriter", "size", "I", (.int (Int32.ofNat k)))]) :: Ob, (r1, .byte, (own_arr L f)) :: Ax) (fun vq Dq => ∃ (j55 : Int32), ((((p1 = (0 : Int32)) ∧ j55 = (0 : Int32)) ∨ ((¬ (p1 = (0 : Int32))) ∧ j55 = (1 : Int32)))) ∧ vq = (some (.ref a1)) ∧ Dq = ((a1, "com/example/efcor/efcor/io/RecordWriter", [("com/example/efcor/efcor/io/RecordWriter", "bytes", "[B", (.ref r1)), ("com/example/efcor/efcor/io/RecordWriter", "size", "I", (.int (Int32.ofNat (k + 1))))]) :: Ob, (r1, .byte, (own_arr L (own_upd f k ((j55.toInt8.toInt32).toInt8.toInt32)))) :: Ax)) := by
  refine Con.of_run (plainFor_of_name pn_0) (L0 := #[.val (.ref a1), .val (.int p1)]) (fun m => by first | (simp [entryFrame, mkF, argsToLocals, Value.category]; done) | rfl) ?_
  intro p e s m below meth c K
  refine Run.aloadN K d6_0 (pc' := 1) rfl rfl rfl ?_
  refine Run.iloadN K d6_1 (pc' := 2) rfl rfl ?_
  refine Run.join1 (F := fun (j59 : Int32) => ((p1 = (0 : Int32)) ∧ j59 = (0 : Int32)) ∨ ((¬ (p1 = (0 : Int32))) ∧ j59 = (1 : Int32))) (D' := fun (j59 : Int32) => ((a1, "com/example/efcor/efcor/io/RecordWriter", [("com/example/efcor/efcor/io/RecordWriter", "bytes", "[B", (.ref r1)), ("com/example/efcor/efcor/io/RecordWriter", "size", "I", (.int (Int32.ofNat k)))]) :: Ob, (r1, .byte, (own_arr L f)) :: Ax)) (cells' := 0) (slots' := 0) (pc' := 10) (L' := fun (j59 : Int32) => #[.val (.ref a1), .val (.int p1)]) (S' := fun (j59 : Int32) => [(.int j59), (.ref a1)]) ?_ (fun J2 => ?_)
  · intro j59 hjj59
    refine Run.i2b K d6_10 (pc' := 11) rfl ?_
    refine Run.callP K d6_11 (pc' := 14) rfl (a := a1) (z := (⟨"com/example/efcor/efcor/io/RecordWriter", "put", "(B)V"⟩ : MethodName)) (Cn := "com/example/efcor/efcor/io/RecordWriter") (i := 0) (hw _ (List.mem_of_getElem? (i := 36) rfl)) (hw _ (List.mem_of_getElem? (i := 38) rfl)) (hw _ (List.mem_of_getElem? (i := 15) rfl)) rfl (hw _ (List.mem_of_getElem? (i := 37) rfl)) (hw _ (List.mem_of_getElem? (i := 3) rfl)) (hw _ (List.mem_of_getElem? (i := 39) rfl)) (by decide) rfl (put_no l Z a0 n0 hw [] (a1) ((j59.toInt8.toInt32)) (r1) (L) (f) (k) (Ob) (Ax) (hk) (hL)) (argsL := [(.int (j59.toInt8.toInt32))]) (rest := []) rfl rfl pd_3 rfl (W := 0) rfl (by decide) (by decide) (cells' := 0) (slots' := 0) rfl rfl (by decide) (by decide) (Ret.k (S' := []) rfl ?_)
    refine Run.as (D' := ((a1, "com/example/efcor/efcor/io/RecordWriter", [("com/example/efcor/efcor/io/RecordWriter", "bytes", "[B", (.ref r1)), ("com/example/efcor/efcor/io/RecordWriter", "size", "I", (.int (Int32.ofNat (k + 1))))]) :: Ob, (r1, .byte, (own_arr L (own_upd f k ((j59.toInt8.toInt32).toInt8.toInt32)))) :: Ax)) rfl ?_
    refine Run.aloadN K d6_14 (pc' := 15) rfl rfl rfl ?_
    exact Run.retA K d6_15 rfl rfl rfl (by decide) (by decide) ⟨j59, hjj59, rfl, rfl⟩
  · skip
    refine Run.ifc K d6_2 (pT := 9) (pF := 5) (by decide) (by decide) rfl (fun (h2_59 : p1 = (0 : Int32)) => ?_) (fun (h2_59 : ¬ (p1 = (0 : Int32))) => ?_)
    · skip
      refine Run.iconst K d6_9 (pc' := 10) rfl (v := (0 : Int32)) rfl ?_
      exact J2 _ (Or.inl ⟨h2_59, rfl⟩)
    · skip
      refine Run.iconst K d6_5 (pc' := 6) rfl (v := (1 : Int32)) rfl ?_
      refine Run.goto K d6_6 (pc' := 10) (by decide) (by decide) ?_
      exact J2 _ (Or.inr (⟨h2_59, rfl⟩))
theorem d11_0 : decode prog_8_method_3_code 0 = .ok (.lload_n 1, 1) := by decide +kernel
theorem d11_1 : decode prog_8_method_3_code 1 = .ok (.lstore_n 3, 1) := by decide +kernel
theorem d11_2 : decode prog_8_method_3_code 2 = .ok (.lload_n 3, 1) := by decide +kernel
theorem d11_3 : decode prog_8_method_3_code 3 = .ok (.ldc2_w 19, 3) := by decide +kernel
theorem d11_6 : decode prog_8_method_3_code 6 = .ok (.land, 1) := by decide +kernel
theorem d11_7 : decode prog_8_method_3_code 7 = .ok (.lconst 0, 1) := by decide +kernel
theorem d11_8 : decode prog_8_method_3_code 8 = .ok (.lcmp, 1) := by decide +kernel
theorem d11_9 : decode prog_8_method_3_code 9 = .ok (.ifCond .eq 26, 3) := by decide +kernel
theorem d11_12 : decode prog_8_method_3_code 12 = .ok (.aload_n 0, 1) := by decide +kernel
theorem d11_13 : decode prog_8_method_3_code 13 = .ok (.lload_n 3, 1) := by decide +kernel
theorem d11_14 : decode prog_8_method_3_code 14 = .ok (.ldc2_w 21, 3) := by decide +kernel
theorem d11_17 : decode prog_8_method_3_code 17 = .ok (.land, 1) := by decide +kernel
theorem d11_18 : decode prog_8_method_3_code 18 = .ok (.ldc2_w 23, 3) := by decide +kernel
theorem d11_21 : decode prog_8_method_3_code 21 = .ok (.lor, 1) := by decide +kernel
theorem d11_22 : decode prog_8_method_3_code 22 = .ok (.l2i, 1) := by decide +kernel
theorem d11_23 : decode prog_8_method_3_code 23 = .ok (.i2b, 1) := by decide +kernel
theorem d11_24 : decode prog_8_method_3_code 24 = .ok (.invokevirtual 25, 3) := by decide +kernel
theorem d11_27 : decode prog_8_method_3_code 27 = .ok (.lload_n 3, 1) := by decide +kernel
theorem d11_28 : decode prog_8_method_3_code 28 = .ok (.bipush 7, 2) := by decide +kernel
theorem d11_30 : decode prog_8_method_3_code 30 = .ok (.lushr, 1) := by decide +kernel
theorem d11_31 : decode prog_8_method_3_code 31 = .ok (.lstore_n 3, 1) := by decide +kernel
theorem d11_32 : decode prog_8_method_3_code 32 = .ok (.goto (-30), 3) := by decide +kernel
theorem d11_35 : decode prog_8_method_3_code 35 = .ok (.aload_n 0, 1) := by decide +kernel
theorem d11_36 : decode prog_8_method_3_code 36 = .ok (.lload_n 3, 1) := by decide +kernel
theorem d11_37 : decode prog_8_method_3_code 37 = .ok (.l2i, 1) := by decide +kernel
theorem d11_38 : decode prog_8_method_3_code 38 = .ok (.i2b, 1) := by decide +kernel
theorem d11_39 : decode prog_8_method_3_code 39 = .ok (.invokevirtual 25, 3) := by decide +kernel
theorem d11_42 : decode prog_8_method_3_code 42 = .ok (.aload_n 0, 1) := by decide +kernel
theorem d11_43 : decode prog_8_method_3_code 43 = .ok (.areturn, 1) := by decide +kernel
set_option maxRecDepth 65536 in
set_option maxHeartbeats 40000000 in
theorem wl_no (l : Launch) (Z : State) (a0 : Array Value) (n0 : Nat) (hw : ∀ d ∈ tables_1, d.before a0 Z = true) (ws : List Jvm.Cond) (a1 : Addr) (p1 : Int64) (r1 : Addr) (L : Nat) (f : Nat → Int32) (k : Nat) (Ob : List OObj) (Ax : List OArr) (hv : (p1 &&& (-128 : Int64)) = (0 : Int64)) (hk : k < L) (hL : L ≤ 128) : Con l Z a0 n0 ws (⟨"com/example/efcor/efcor/io/RecordWriter", "writeLong", "(J)Lcom/example/efcor/efcor/io/RecordWriter;"⟩ : MethodName) prog_8_method_3_code 5 (some (.object "com/example/efcor/efcor/io/RecordWriter")) ({ frames := 2, cells := 0, slots := 0, locals := 26 } : Room) #[(.ref a1), (.long p1)] ((a1, "com/example/efcor/efcor/io/RecordWriter", [("com/example/efcor/efcor/io/RecordWriter", "bytes", "[B", (.ref r1)), ("com/example/efcor/efcor/io/RecordWriter", "size", "I", (.int (Int32.ofNat k)))]) :: Ob, (r1, .byte, (own_arr L f)) :: Ax) (Ret (some (.ref a1)) ((a1, "com/example/efcor/efcor/io/RecordWriter", [("com/example/efcor/efcor/io/RecordWriter", "bytes", "[B", (.ref r1)), ("com/example/efcor/efcor/io/RecordWriter", "size", "I", (.int (Int32.ofNat (k + 1))))]) :: Ob, (r1, .byte, (own_arr L (own_upd f k (((p1.toInt32).toInt8.toInt32).toInt8.toInt32)))) :: Ax)) := by
  refine Con.of_run (plainFor_of_name pn_0) (L0 := #[.val (.ref a1), .val (.long p1), .second, .unset, .unset]) (fun m => by first | (simp [entryFrame, mkF, argsToLocals, Value.category]; done) | rfl) ?_
  intro p e s m below meth c K
  refine Run.lloadN K d11_0 (pc' := 1) rfl rfl ?_
  refine Run.lstoreN K d11_1 (pc' := 2) rfl (L' := #[.val (.ref a1), .val (.long p1), .second, .val (.long p1), .second]) rfl ?_
  refine Run.lloadN K d11_2 (pc' := 3) rfl rfl ?_
  refine Run.ldcJ K d11_3 (pc' := 6) rfl (v := (-128 : Int64)) (hw _ (List.mem_of_getElem? (i := 60) rfl)) ?_
  refine Run.land K d11_6 (pc' := 7) rfl ?_
  refine Run.lconst K d11_7 (pc' := 8) rfl (v := (0 : Int64)) rfl ?_
  refine Run.lcmp K d11_8 (pc' := 9) rfl ?_
  refine Run.ifLT K d11_9 (pT := 35) (pF := 12) (by decide) (by decide) rfl (show (p1 &&& (-128 : Int64)) = (0 : Int64) from hv) ?_
  refine Run.aloadN K d11_35 (pc' := 36) rfl rfl rfl ?_
  refine Run.lloadN K d11_36 (pc' := 37) rfl rfl ?_
  refine Run.l2i K d11_37 (pc' := 38) rfl ?_
  refine Run.i2b K d11_38 (pc' := 39) rfl ?_
  refine Run.callP K d11_39 (pc' := 42) rfl (a := a1) (z := (⟨"com/example/efcor/efcor/io/RecordWriter", "put", "(B)V"⟩ : MethodName)) (Cn := "com/example/efcor/efcor/io/RecordWriter") (i := 0) (hw _ (List.mem_of_getElem? (i := 36) rfl)) (hw _ (List.mem_of_getElem? (i := 38) rfl)) (hw _ (List.mem_of_getElem? (i := 15) rfl)) rfl (hw _ (List.mem_of_getElem? (i := 37) rfl)) (hw _ (List.mem_of_getElem? (i := 3) rfl)) (hw _ (List.mem_of_getElem? (i := 39) rfl)) (by decide) rfl (put_no l Z a0 n0 hw [] (a1) (((p1.toInt32).toInt8.toInt32)) (r1) (L) (f) (k) (Ob) (Ax) (hk) (hL)) (argsL := [(.int ((p1.toInt32).toInt8.toInt32))]) (rest := []) rfl rfl pd_3 rfl (W := 0) rfl (by decide) (by decide) (cells' := 0) (slots' := 0) rfl rfl (by decide) (by decide) (Ret.k (S' := []) rfl ?_)
  refine Run.as (D' := ((a1, "com/example/efcor/efcor/io/RecordWriter", [("com/example/efcor/efcor/io/RecordWriter", "bytes", "[B", (.ref r1)), ("com/example/efcor/efcor/io/RecordWriter", "size", "I", (.int (Int32.ofNat (k + 1))))]) :: Ob, (r1, .byte, (own_arr L (own_upd f k (((p1.toInt32).toInt8.toInt32).toInt8.toInt32)))) :: Ax)) rfl ?_
  refine Run.aloadN K d11_42 (pc' := 43) rfl rfl rfl ?_
  exact Run.retA K d11_43 rfl rfl rfl (by decide) (by decide) ⟨rfl, rfl⟩
set_option maxRecDepth 65536 in
set_option maxHeartbeats 40000000 in
theorem wl_grow (l : Launch) (Z : State) (a0 : Array Value) (n0 : Nat) (hw : ∀ d ∈ tables_1, d.before a0 Z = true) (ws : List Jvm.Cond) (a1 : Addr) (p1 : Int64) (r1 : Addr) (f : Nat → Int32) (Ob : List OObj) (Ax : List OArr) (hv : (p1 &&& (-128 : Int64)) = (0 : Int64)) : Con l Z a0 n0 ws (⟨"com/example/efcor/efcor/io/RecordWriter", "writeLong", "(J)Lcom/example/efcor/efcor/io/RecordWriter;"⟩ : MethodName) prog_8_method_3_code 5 (some (.object "com/example/efcor/efcor/io/RecordWriter")) ({ frames := 4, cells := 1, slots := 128, locals := 59 } : Room) #[(.ref a1), (.long p1)] ((a1, "com/example/efcor/efcor/io/RecordWriter", [("com/example/efcor/efcor/io/RecordWriter", "bytes", "[B", (.ref r1)), ("com/example/efcor/efcor/io/RecordWriter", "size", "I", (.int (64 : Int32)))]) :: Ob, (r1, .byte, (own_arr 64 f)) :: Ax) (fun vq Dq => ∃ (c61 : Addr), vq = (some (.ref a1)) ∧ Dq = ((a1, "com/example/efcor/efcor/io/RecordWriter", [("com/example/efcor/efcor/io/RecordWriter", "bytes", "[B", (.ref c61)), ("com/example/efcor/efcor/io/RecordWriter", "size", "I", (.int (65 : Int32)))]) :: Ob, (c61, .byte, (own_arr 128 (own_upd (own_cut f 64) 64 (((p1.toInt32).toInt8.toInt32).toInt8.toInt32)))) :: (r1, .byte, (own_arr 64 f)) :: Ax)) := by
  refine Con.of_run (plainFor_of_name pn_0) (L0 := #[.val (.ref a1), .val (.long p1), .second, .unset, .unset]) (fun m => by first | (simp [entryFrame, mkF, argsToLocals, Value.category]; done) | rfl) ?_
  intro p e s m below meth c K
  refine Run.lloadN K d11_0 (pc' := 1) rfl rfl ?_
  refine Run.lstoreN K d11_1 (pc' := 2) rfl (L' := #[.val (.ref a1), .val (.long p1), .second, .val (.long p1), .second]) rfl ?_
  refine Run.lloadN K d11_2 (pc' := 3) rfl rfl ?_
  refine Run.ldcJ K d11_3 (pc' := 6) rfl (v := (-128 : Int64)) (hw _ (List.mem_of_getElem? (i := 60) rfl)) ?_
  refine Run.land K d11_6 (pc' := 7) rfl ?_
  refine Run.lconst K d11_7 (pc' := 8) rfl (v := (0 : Int64)) rfl ?_
  refine Run.lcmp K d11_8 (pc' := 9) rfl ?_
  refine Run.ifLT K d11_9 (pT := 35) (pF := 12) (by decide) (by decide) rfl (show (p1 &&& (-128 : Int64)) = (0 : Int64) from hv) ?_
  refine Run.aloadN K d11_35 (pc' := 36) rfl rfl rfl ?_
  refine Run.lloadN K d11_36 (pc' := 37) rfl rfl ?_
  refine Run.l2i K d11_37 (pc' := 38) rfl ?_
  refine Run.i2b K d11_38 (pc' := 39) rfl ?_
  refine Run.callP K d11_39 (pc' := 42) rfl (a := a1) (z := (⟨"com/example/efcor/efcor/io/RecordWriter", "put", "(B)V"⟩ : MethodName)) (Cn := "com/example/efcor/efcor/io/RecordWriter") (i := 0) (hw _ (List.mem_of_getElem? (i := 36) rfl)) (hw _ (List.mem_of_getElem? (i := 38) rfl)) (hw _ (List.mem_of_getElem? (i := 15) rfl)) rfl (hw _ (List.mem_of_getElem? (i := 37) rfl)) (hw _ (List.mem_of_getElem? (i := 3) rfl)) (hw _ (List.mem_of_getElem? (i := 39) rfl)) (by decide) rfl (put_grow l Z a0 n0 hw [] (a1) (((p1.toInt32).toInt8.toInt32)) (r1) (f) (Ob) (Ax) ) (argsL := [(.int ((p1.toInt32).toInt8.toInt32))]) (rest := []) rfl rfl pd_3 rfl (W := 0) rfl (by decide) (by decide) (cells' := 1) (slots' := 128) rfl rfl (by decide) (by decide) ?_
  intro vq Dq hq
  obtain ⟨c63, rfl, rfl⟩ := hq
  refine Run.as2 (D' := ((a1, "com/example/efcor/efcor/io/RecordWriter", [("com/example/efcor/efcor/io/RecordWriter", "bytes", "[B", (.ref c63)), ("com/example/efcor/efcor/io/RecordWriter", "size", "I", (.int (65 : Int32)))]) :: Ob, (c63, .byte, (own_arr 128 (own_upd (own_cut f 64) 64 (((p1.toInt32).toInt8.toInt32).toInt8.toInt32)))) :: (r1, .byte, (own_arr 64 f)) :: Ax)) (S' := []) rfl rfl ?_
  refine Run.aloadN K d11_42 (pc' := 43) rfl rfl rfl ?_
  exact Run.retA K d11_43 rfl rfl rfl (by decide) (by decide) ⟨c63, rfl, rfl⟩
theorem d10_0 : decode prog_8_method_2_code 0 = .ok (.aload_n 0, 1) := by decide +kernel
theorem d10_1 : decode prog_8_method_2_code 1 = .ok (.iload_n 1, 1) := by decide +kernel
theorem d10_2 : decode prog_8_method_2_code 2 = .ok (.i2l, 1) := by decide +kernel
theorem d10_3 : decode prog_8_method_2_code 3 = .ok (.ldc2_w 13, 3) := by decide +kernel
theorem d10_6 : decode prog_8_method_2_code 6 = .ok (.land, 1) := by decide +kernel
theorem d10_7 : decode prog_8_method_2_code 7 = .ok (.invokevirtual 15, 3) := by decide +kernel
theorem d10_10 : decode prog_8_method_2_code 10 = .ok (.areturn, 1) := by decide +kernel
theorem pd_4 : parseMethodDescriptor "(J)Lcom/example/efcor/efcor/io/RecordWriter;" = some ⟨[.long], some (.object "com/example/efcor/efcor/io/RecordWriter")⟩ := by decide +kernel
set_option maxRecDepth 65536 in
set_option maxHeartbeats 40000000 in
theorem wi_no (l : Launch) (Z : State) (a0 : Array Value) (n0 : Nat) (hw : ∀ d ∈ tables_1, d.before a0 Z = true) (ws : List Jvm.Cond) (a1 : Addr) (p1 : Int32) (r1 : Addr) (L : Nat) (f : Nat → Int32) (k : Nat) (Ob : List OObj) (Ax : List OArr) (hv : ((((p1).toInt64) &&& (4294967295 : Int64)) &&& (-128 : Int64)) = (0 : Int64)) (hk : k < L) (hL : L ≤ 128) : Con l Z a0 n0 ws (⟨"com/example/efcor/efcor/io/RecordWriter", "writeInt", "(I)Lcom/example/efcor/efcor/io/RecordWriter;"⟩ : MethodName) prog_8_method_2_code 2 (some (.object "com/example/efcor/efcor/io/RecordWriter")) ({ frames := 3, cells := 0, slots := 0, locals := 42 } : Room) #[(.ref a1), (.int p1)] ((a1, "com/example/efcor/efcor/io/RecordWriter", [("com/example/efcor/efcor/io/RecordWriter", "bytes", "[B", (.ref r1)), ("com/example/efcor/efcor/io/RecordWriter", "size", "I", (.int (Int32.ofNat k)))]) :: Ob, (r1, .byte, (own_arr L f)) :: Ax) (Ret (some (.ref a1)) ((a1, "com/example/efcor/efcor/io/RecordWriter", [("com/example/efcor/efcor/io/RecordWriter", "bytes", "[B", (.ref r1)), ("com/example/efcor/efcor/io/RecordWriter", "size", "I", (.int (Int32.ofNat (k + 1))))]) :: Ob, (r1, .byte, (own_arr L (own_upd f k (((((p1.toInt64) &&& (4294967295 : Int64)).toInt32).toInt8.toInt32).toInt8.toInt32)))) :: Ax)) := by
  refine Con.of_run (plainFor_of_name pn_0) (L0 := #[.val (.ref a1), .val (.int p1)]) (fun m => by first | (simp [entryFrame, mkF, argsToLocals, Value.category]; done) | rfl) ?_
  intro p e s m below meth c K
  refine Run.aloadN K d10_0 (pc' := 1) rfl rfl rfl ?_
  refine Run.iloadN K d10_1 (pc' := 2) rfl rfl ?_
  refine Run.i2l K d10_2 (pc' := 3) rfl ?_
  refine Run.ldcJ K d10_3 (pc' := 6) rfl (v := (4294967295 : Int64)) (hw _ (List.mem_of_getElem? (i := 54) rfl)) ?_
  refine Run.land K d10_6 (pc' := 7) rfl ?_
  refine Run.callV K d10_7 (pc' := 10) rfl (a := a1) (z := (⟨"com/example/efcor/efcor/io/RecordWriter", "writeLong", "(J)Lcom/example/efcor/efcor/io/RecordWriter;"⟩ : MethodName)) (Cn := "com/example/efcor/efcor/io/RecordWriter") (i := 0) (hw _ (List.mem_of_getElem? (i := 55) rfl)) (hw _ (List.mem_of_getElem? (i := 56) rfl)) (hw _ (List.mem_of_getElem? (i := 58) rfl)) (hw _ (List.mem_of_getElem? (i := 57) rfl)) (hw _ (List.mem_of_getElem? (i := 3) rfl)) (hw _ (List.mem_of_getElem? (i := 59) rfl)) (by decide) rfl (wl_no l Z a0 n0 hw [] (a1) (((p1.toInt64) &&& (4294967295 : Int64))) (r1) (L) (f) (k) (Ob) (Ax) (hv) (hk) (hL)) (argsL := [(.long ((p1.toInt64) &&& (4294967295 : Int64)))]) (rest := []) rfl rfl pd_4 rfl (W := 0) rfl (by decide) (by decide) (cells' := 0) (slots' := 0) rfl rfl (by decide) (by decide) (Ret.k (S' := [(.ref a1)]) rfl ?_)
  refine Run.as (D' := ((a1, "com/example/efcor/efcor/io/RecordWriter", [("com/example/efcor/efcor/io/RecordWriter", "bytes", "[B", (.ref r1)), ("com/example/efcor/efcor/io/RecordWriter", "size", "I", (.int (Int32.ofNat (k + 1))))]) :: Ob, (r1, .byte, (own_arr L (own_upd f k (((((p1.toInt64) &&& (4294967295 : Int64)).toInt32).toInt8.toInt32).toInt8.toInt32)))) :: Ax)) rfl ?_
  exact Run.retA K d10_10 rfl rfl rfl (by decide) (by decide) ⟨rfl, rfl⟩
set_option maxRecDepth 65536 in
set_option maxHeartbeats 40000000 in
theorem wi_grow (l : Launch) (Z : State) (a0 : Array Value) (n0 : Nat) (hw : ∀ d ∈ tables_1, d.before a0 Z = true) (ws : List Jvm.Cond) (a1 : Addr) (p1 : Int32) (r1 : Addr) (f : Nat → Int32) (Ob : List OObj) (Ax : List OArr) (hv : ((((p1).toInt64) &&& (4294967295 : Int64)) &&& (-128 : Int64)) = (0 : Int64)) : Con l Z a0 n0 ws (⟨"com/example/efcor/efcor/io/RecordWriter", "writeInt", "(I)Lcom/example/efcor/efcor/io/RecordWriter;"⟩ : MethodName) prog_8_method_2_code 2 (some (.object "com/example/efcor/efcor/io/RecordWriter")) ({ frames := 5, cells := 1, slots := 128, locals := 75 } : Room) #[(.ref a1), (.int p1)] ((a1, "com/example/efcor/efcor/io/RecordWriter", [("com/example/efcor/efcor/io/RecordWriter", "bytes", "[B", (.ref r1)), ("com/example/efcor/efcor/io/RecordWriter", "size", "I", (.int (64 : Int32)))]) :: Ob, (r1, .byte, (own_arr 64 f)) :: Ax) (fun vq Dq => ∃ (c65 : Addr), vq = (some (.ref a1)) ∧ Dq = ((a1, "com/example/efcor/efcor/io/RecordWriter", [("com/example/efcor/efcor/io/RecordWriter", "bytes", "[B", (.ref c65)), ("com/example/efcor/efcor/io/RecordWriter", "size", "I", (.int (65 : Int32)))]) :: Ob, (c65, .byte, (own_arr 128 (own_upd (own_cut f 64) 64 (((((p1.toInt64) &&& (4294967295 : Int64)).toInt32).toInt8.toInt32).toInt8.toInt32)))) :: (r1, .byte, (own_arr 64 f)) :: Ax)) := by
  refine Con.of_run (plainFor_of_name pn_0) (L0 := #[.val (.ref a1), .val (.int p1)]) (fun m => by first | (simp [entryFrame, mkF, argsToLocals, Value.category]; done) | rfl) ?_
  intro p e s m below meth c K
  refine Run.aloadN K d10_0 (pc' := 1) rfl rfl rfl ?_
  refine Run.iloadN K d10_1 (pc' := 2) rfl rfl ?_
  refine Run.i2l K d10_2 (pc' := 3) rfl ?_
  refine Run.ldcJ K d10_3 (pc' := 6) rfl (v := (4294967295 : Int64)) (hw _ (List.mem_of_getElem? (i := 54) rfl)) ?_
  refine Run.land K d10_6 (pc' := 7) rfl ?_
  refine Run.callV K d10_7 (pc' := 10) rfl (a := a1) (z := (⟨"com/example/efcor/efcor/io/RecordWriter", "writeLong", "(J)Lcom/example/efcor/efcor/io/RecordWriter;"⟩ : MethodName)) (Cn := "com/example/efcor/efcor/io/RecordWriter") (i := 0) (hw _ (List.mem_of_getElem? (i := 55) rfl)) (hw _ (List.mem_of_getElem? (i := 56) rfl)) (hw _ (List.mem_of_getElem? (i := 58) rfl)) (hw _ (List.mem_of_getElem? (i := 57) rfl)) (hw _ (List.mem_of_getElem? (i := 3) rfl)) (hw _ (List.mem_of_getElem? (i := 59) rfl)) (by decide) rfl (wl_grow l Z a0 n0 hw [] (a1) (((p1.toInt64) &&& (4294967295 : Int64))) (r1) (f) (Ob) (Ax) (hv)) (argsL := [(.long ((p1.toInt64) &&& (4294967295 : Int64)))]) (rest := []) rfl rfl pd_4 rfl (W := 0) rfl (by decide) (by decide) (cells' := 1) (slots' := 128) rfl rfl (by decide) (by decide) ?_
  intro vq Dq hq
  obtain ⟨c67, rfl, rfl⟩ := hq
  refine Run.as2 (D' := ((a1, "com/example/efcor/efcor/io/RecordWriter", [("com/example/efcor/efcor/io/RecordWriter", "bytes", "[B", (.ref c67)), ("com/example/efcor/efcor/io/RecordWriter", "size", "I", (.int (65 : Int32)))]) :: Ob, (c67, .byte, (own_arr 128 (own_upd (own_cut f 64) 64 (((((p1.toInt64) &&& (4294967295 : Int64)).toInt32).toInt8.toInt32).toInt8.toInt32)))) :: (r1, .byte, (own_arr 64 f)) :: Ax)) (S' := [(.ref a1)]) rfl rfl ?_
  exact Run.retA K d10_10 rfl rfl rfl (by decide) (by decide) ⟨c67, rfl, rfl⟩
theorem d9_0 : decode prog_8_method_8_code 0 = .ok (.aload_n 0, 1) := by decide +kernel
theorem d9_1 : decode prog_8_method_8_code 1 = .ok (.aload_n 1, 1) := by decide +kernel
theorem d9_2 : decode prog_8_method_8_code 2 = .ok (.arraylength, 1) := by decide +kernel
theorem d9_3 : decode prog_8_method_8_code 3 = .ok (.invokevirtual 83, 3) := by decide +kernel
theorem d9_6 : decode prog_8_method_8_code 6 = .ok (.pop, 1) := by decide +kernel
theorem d9_7 : decode prog_8_method_8_code 7 = .ok (.aload_n 0, 1) := by decide +kernel
theorem d9_8 : decode prog_8_method_8_code 8 = .ok (.aload_n 1, 1) := by decide +kernel
theorem d9_9 : decode prog_8_method_8_code 9 = .ok (.arraylength, 1) := by decide +kernel
theorem d9_10 : decode prog_8_method_8_code 10 = .ok (.invokevirtual 61, 3) := by decide +kernel
theorem d9_13 : decode prog_8_method_8_code 13 = .ok (.aload_n 1, 1) := by decide +kernel
theorem d9_14 : decode prog_8_method_8_code 14 = .ok (.iconst 0, 1) := by decide +kernel
theorem d9_15 : decode prog_8_method_8_code 15 = .ok (.aload_n 0, 1) := by decide +kernel
theorem d9_16 : decode prog_8_method_8_code 16 = .ok (.getfield 7, 3) := by decide +kernel
theorem d9_19 : decode prog_8_method_8_code 19 = .ok (.aload_n 0, 1) := by decide +kernel
theorem d9_20 : decode prog_8_method_8_code 20 = .ok (.getfield 65, 3) := by decide +kernel
theorem d9_23 : decode prog_8_method_8_code 23 = .ok (.aload_n 1, 1) := by decide +kernel
theorem d9_24 : decode prog_8_method_8_code 24 = .ok (.arraylength, 1) := by decide +kernel
theorem d9_25 : decode prog_8_method_8_code 25 = .ok (.invokestatic 69, 3) := by decide +kernel
theorem d9_28 : decode prog_8_method_8_code 28 = .ok (.aload_n 0, 1) := by decide +kernel
theorem d9_29 : decode prog_8_method_8_code 29 = .ok (.dup, 1) := by decide +kernel
theorem d9_30 : decode prog_8_method_8_code 30 = .ok (.getfield 65, 3) := by decide +kernel
theorem d9_33 : decode prog_8_method_8_code 33 = .ok (.aload_n 1, 1) := by decide +kernel
theorem d9_34 : decode prog_8_method_8_code 34 = .ok (.arraylength, 1) := by decide +kernel
theorem d9_35 : decode prog_8_method_8_code 35 = .ok (.iadd, 1) := by decide +kernel
theorem d9_36 : decode prog_8_method_8_code 36 = .ok (.putfield 65, 3) := by decide +kernel
theorem d9_39 : decode prog_8_method_8_code 39 = .ok (.aload_n 0, 1) := by decide +kernel
theorem d9_40 : decode prog_8_method_8_code 40 = .ok (.areturn, 1) := by decide +kernel
theorem pd_5 : parseMethodDescriptor "(I)Lcom/example/efcor/efcor/io/RecordWriter;" = some ⟨[.int], some (.object "com/example/efcor/efcor/io/RecordWriter")⟩ := by decide +kernel
set_option maxRecDepth 65536 in
set_option maxHeartbeats 40000000 in
theorem wb_61 (l : Launch) (Z : State) (a0 : Array Value) (n0 : Nat) (hw : ∀ d ∈ tables_1, d.before a0 Z = true) (ws : List Jvm.Cond) (a1 : Addr) (a2 : Addr) (r1 : Addr) (f : Nat → Int32) (g : Nat → Int32) (Ob : List OObj) (Ax : List OArr) : Con l Z a0 n0 ws (⟨"com/example/efcor/efcor/io/RecordWriter", "writeBytes", "([B)Lcom/example/efcor/efcor/io/RecordWriter;"⟩ : MethodName) prog_8_method_8_code 2 (some (.object "com/example/efcor/efcor/io/RecordWriter")) ({ frames := 4, cells := 0, slots := 0, locals := 55 } : Room) #[(.ref a1), (.ref a2)] ((a1, "com/example/efcor/efcor/io/RecordWriter", [("com/example/efcor/efcor/io/RecordWriter", "bytes", "[B", (.ref r1)), ("com/example/efcor/efcor/io/RecordWriter", "size", "I", (.int (1 : Int32)))]) :: Ob, (r1, .byte, (own_arr 64 f)) :: (a2, .byte, (own_arr 61 g)) :: Ax) (Ret (some (.ref a1)) ((a1, "com/example/efcor/efcor/io/RecordWriter", [("com/example/efcor/efcor/io/RecordWriter", "bytes", "[B", (.ref r1)), ("com/example/efcor/efcor/io/RecordWriter", "size", "I", (.int (63 : Int32)))]) :: Ob, (r1, .byte, (own_arr 64 (own_put (own_upd f 1 ((((((61 : Int32).toInt64) &&& (4294967295 : Int64)).toInt32).toInt8.toInt32).toInt8.toInt32)) 2 61 g))) :: (a2, .byte, (own_arr 61 g)) :: Ax)) := by
  refine Con.of_run (plainFor_of_name pn_0) (L0 := #[.val (.ref a1), .val (.ref a2)]) (fun m => by first | (simp [entryFrame, mkF, argsToLocals, Value.category]; done) | rfl) ?_
  intro p e s m below meth c K
  refine Run.aloadN K d9_0 (pc' := 1) rfl rfl rfl ?_
  refine Run.aloadN K d9_1 (pc' := 2) rfl rfl rfl ?_
  refine Run.alen K d9_2 (pc' := 3) rfl (i := 1) rfl (w := (61 : Int32)) (own_arr_len rfl) ?_
  refine Run.callV K d9_3 (pc' := 6) rfl (a := a1) (z := (⟨"com/example/efcor/efcor/io/RecordWriter", "writeInt", "(I)Lcom/example/efcor/efcor/io/RecordWriter;"⟩ : MethodName)) (Cn := "com/example/efcor/efcor/io/RecordWriter") (i := 0) (hw _ (List.mem_of_getElem? (i := 49) rfl)) (hw _ (List.mem_of_getElem? (i := 50) rfl)) (hw _ (List.mem_of_getElem? (i := 52) rfl)) (hw _ (List.mem_of_getElem? (i := 51) rfl)) (hw _ (List.mem_of_getElem? (i := 3) rfl)) (hw _ (List.mem_of_getElem? (i := 53) rfl)) (by decide) rfl (wi_no l Z a0 n0 hw [] (a1) ((61 : Int32)) (r1) (64) (f) (1) (Ob) ((a2, .byte, (own_arr 61 g)) :: Ax) (by decide) (by decide) (by decide)) (argsL := [(.int (61 : Int32))]) (rest := []) rfl rfl pd_5 rfl (W := 0) rfl (by decide) (by decide) (cells' := 0) (slots' := 0) rfl rfl (by decide) (by decide) (Ret.k (S' := [(.ref a1)]) rfl ?_)
  refine Run.as (D' := ((a1, "com/example/efcor/efcor/io/RecordWriter", [("com/example/efcor/efcor/io/RecordWriter", "bytes", "[B", (.ref r1)), ("com/example/efcor/efcor/io/RecordWriter", "size", "I", (.int (2 : Int32)))]) :: Ob, (r1, .byte, (own_arr 64 (own_upd f 1 ((((((61 : Int32).toInt64) &&& (4294967295 : Int64)).toInt32).toInt8.toInt32).toInt8.toInt32)))) :: (a2, .byte, (own_arr 61 g)) :: Ax)) rfl ?_
  refine Run.pop K d9_6 (pc' := 7) rfl rfl ?_
  refine Run.aloadN K d9_7 (pc' := 8) rfl rfl rfl ?_
  refine Run.aloadN K d9_8 (pc' := 9) rfl rfl rfl ?_
  refine Run.alen K d9_9 (pc' := 10) rfl (i := 1) rfl (w := (61 : Int32)) (own_arr_len rfl) ?_
  refine Run.callP K d9_10 (pc' := 13) rfl (a := a1) (z := (⟨"com/example/efcor/efcor/io/RecordWriter", "ensure", "(I)V"⟩ : MethodName)) (Cn := "com/example/efcor/efcor/io/RecordWriter") (i := 0) (hw _ (List.mem_of_getElem? (i := 40) rfl)) (hw _ (List.mem_of_getElem? (i := 42) rfl)) (hw _ (List.mem_of_getElem? (i := 15) rfl)) rfl (hw _ (List.mem_of_getElem? (i := 41) rfl)) (hw _ (List.mem_of_getElem? (i := 3) rfl)) (hw _ (List.mem_of_getElem? (i := 43) rfl)) (by decide) rfl (ens_no l Z a0 n0 hw [] (a1) ((61 : Int32)) (r1) (64) ((own_upd f 1 ((((((61 : Int32).toInt64) &&& (4294967295 : Int64)).toInt32).toInt8.toInt32).toInt8.toInt32))) (2) (61) (Ob) ((a2, .byte, (own_arr 61 g)) :: Ax) (rfl) (by decide) (by decide)) (argsL := [(.int (61 : Int32))]) (rest := []) rfl rfl pd_2 rfl (W := 0) rfl (by decide) (by decide) (cells' := 0) (slots' := 0) rfl rfl (by decide) (by decide) (Ret.k (S' := []) rfl ?_)
  refine Run.as (D' := ((a1, "com/example/efcor/efcor/io/RecordWriter", [("com/example/efcor/efcor/io/RecordWriter", "bytes", "[B", (.ref r1)), ("com/example/efcor/efcor/io/RecordWriter", "size", "I", (.int (2 : Int32)))]) :: Ob, (r1, .byte, (own_arr 64 (own_upd f 1 ((((((61 : Int32).toInt64) &&& (4294967295 : Int64)).toInt32).toInt8.toInt32).toInt8.toInt32)))) :: (a2, .byte, (own_arr 61 g)) :: Ax)) rfl ?_
  refine Run.aloadN K d9_13 (pc' := 14) rfl rfl rfl ?_
  refine Run.iconst K d9_14 (pc' := 15) rfl (v := (0 : Int32)) rfl ?_
  refine Run.aloadN K d9_15 (pc' := 16) rfl rfl rfl ?_
  refine Run.getF K d9_16 (pc' := 19) rfl (hw _ (List.mem_of_getElem? (i := 10) rfl)) (i := 0) (j := 0) rfl rfl ?_
  refine Run.aloadN K d9_19 (pc' := 20) rfl rfl rfl ?_
  refine Run.getF K d9_20 (pc' := 23) rfl (hw _ (List.mem_of_getElem? (i := 17) rfl)) (i := 0) (j := 1) rfl rfl ?_
  refine Run.aloadN K d9_23 (pc' := 24) rfl rfl rfl ?_
  refine Run.alen K d9_24 (pc' := 25) rfl (i := 1) rfl (w := (61 : Int32)) (own_arr_len rfl) ?_
  refine Run.acopy K d9_25 (pc' := 28) rfl (hw _ (List.mem_of_getElem? (i := 61) rfl)) (hw _ (List.mem_of_getElem? (i := 30) rfl)) (hw _ (List.mem_of_getElem? (i := 28) rfl)) (hw _ (List.mem_of_getElem? (i := 29) rfl)) (i := 1) (j := 0) rfl rfl rfl (by decide) (by decide) (by decide) (k1 := 0) (k2 := 2) (k3 := 61) (by decide) (by decide) (by decide) (by rw [own_arr_length]; decide) (by rw [own_arr_length]; decide) (vd' := (own_arr 64 (own_put (own_upd f 1 ((((((61 : Int32).toInt64) &&& (4294967295 : Int64)).toInt32).toInt8.toInt32).toInt8.toInt32)) 2 61 g))) (own_arr_copy (by decide) (by decide)) (D' := ((a1, "com/example/efcor/efcor/io/RecordWriter", [("com/example/efcor/efcor/io/RecordWriter", "bytes", "[B", (.ref r1)), ("com/example/efcor/efcor/io/RecordWriter", "size", "I", (.int (2 : Int32)))]) :: Ob, (r1, .byte, (own_arr 64 (own_put (own_upd f 1 ((((((61 : Int32).toInt64) &&& (4294967295 : Int64)).toInt32).toInt8.toInt32).toInt8.toInt32)) 2 61 g))) :: (a2, .byte, (own_arr 61 g)) :: Ax)) rfl rfl (by decide) (W := 0) rfl (by decide) ?_
  refine Run.aloadN K d9_28 (pc' := 29) rfl rfl rfl ?_
  refine Run.dup K d9_29 (pc' := 30) rfl rfl ?_
  refine Run.getF K d9_30 (pc' := 33) rfl (hw _ (List.mem_of_getElem? (i := 17) rfl)) (i := 0) (j := 1) rfl rfl ?_
  refine Run.aloadN K d9_33 (pc' := 34) rfl rfl rfl ?_
  refine Run.alen K d9_34 (pc' := 35) rfl (i := 1) rfl (w := (61 : Int32)) (own_arr_len rfl) ?_
  refine Run.iaddV K d9_35 (pc' := 36) rfl (v := (63 : Int32)) (by decide) ?_
  refine Run.putF K d9_36 (pc' := 39) rfl (hw _ (List.mem_of_getElem? (i := 17) rfl)) (Or.inl (hw _ (List.mem_of_getElem? (i := 18) rfl))) (hw _ (List.mem_of_getElem? (i := 2) rfl)) (ty := .int) (by decide) rfl rfl (i := 0) (j := 1) rfl rfl (D' := ((a1, "com/example/efcor/efcor/io/RecordWriter", [("com/example/efcor/efcor/io/RecordWriter", "bytes", "[B", (.ref r1)), ("com/example/efcor/efcor/io/RecordWriter", "size", "I", (.int (63 : Int32)))]) :: Ob, (r1, .byte, (own_arr 64 (own_put (own_upd f 1 ((((((61 : Int32).toInt64) &&& (4294967295 : Int64)).toInt32).toInt8.toInt32).toInt8.toInt32)) 2 61 g))) :: (a2, .byte, (own_arr 61 g)) :: Ax)) rfl ?_
  refine Run.aloadN K d9_39 (pc' := 40) rfl rfl rfl ?_
  exact Run.retA K d9_40 rfl rfl rfl (by decide) (by decide) ⟨rfl, rfl⟩
set_option maxRecDepth 65536 in
set_option maxHeartbeats 40000000 in
theorem wb_62 (l : Launch) (Z : State) (a0 : Array Value) (n0 : Nat) (hw : ∀ d ∈ tables_1, d.before a0 Z = true) (ws : List Jvm.Cond) (a1 : Addr) (a2 : Addr) (r1 : Addr) (f : Nat → Int32) (g : Nat → Int32) (Ob : List OObj) (Ax : List OArr) : Con l Z a0 n0 ws (⟨"com/example/efcor/efcor/io/RecordWriter", "writeBytes", "([B)Lcom/example/efcor/efcor/io/RecordWriter;"⟩ : MethodName) prog_8_method_8_code 2 (some (.object "com/example/efcor/efcor/io/RecordWriter")) ({ frames := 4, cells := 0, slots := 0, locals := 55 } : Room) #[(.ref a1), (.ref a2)] ((a1, "com/example/efcor/efcor/io/RecordWriter", [("com/example/efcor/efcor/io/RecordWriter", "bytes", "[B", (.ref r1)), ("com/example/efcor/efcor/io/RecordWriter", "size", "I", (.int (1 : Int32)))]) :: Ob, (r1, .byte, (own_arr 64 f)) :: (a2, .byte, (own_arr 62 g)) :: Ax) (Ret (some (.ref a1)) ((a1, "com/example/efcor/efcor/io/RecordWriter", [("com/example/efcor/efcor/io/RecordWriter", "bytes", "[B", (.ref r1)), ("com/example/efcor/efcor/io/RecordWriter", "size", "I", (.int (64 : Int32)))]) :: Ob, (r1, .byte, (own_arr 64 (own_put (own_upd f 1 ((((((62 : Int32).toInt64) &&& (4294967295 : Int64)).toInt32).toInt8.toInt32).toInt8.toInt32)) 2 62 g))) :: (a2, .byte, (own_arr 62 g)) :: Ax)) := by
  refine Con.of_run (plainFor_of_name pn_0) (L0 := #[.val (.ref a1), .val (.ref a2)]) (fun m => by first | (simp [entryFrame, mkF, argsToLocals, Value.category]; done) | rfl) ?_
  intro p e s m below meth c K
  refine Run.aloadN K d9_0 (pc' := 1) rfl rfl rfl ?_
  refine Run.aloadN K d9_1 (pc' := 2) rfl rfl rfl ?_
  refine Run.alen K d9_2 (pc' := 3) rfl (i := 1) rfl (w := (62 : Int32)) (own_arr_len rfl) ?_
  refine Run.callV K d9_3 (pc' := 6) rfl (a := a1) (z := (⟨"com/example/efcor/efcor/io/RecordWriter", "writeInt", "(I)Lcom/example/efcor/efcor/io/RecordWriter;"⟩ : MethodName)) (Cn := "com/example/efcor/efcor/io/RecordWriter") (i := 0) (hw _ (List.mem_of_getElem? (i := 49) rfl)) (hw _ (List.mem_of_getElem? (i := 50) rfl)) (hw _ (List.mem_of_getElem? (i := 52) rfl)) (hw _ (List.mem_of_getElem? (i := 51) rfl)) (hw _ (List.mem_of_getElem? (i := 3) rfl)) (hw _ (List.mem_of_getElem? (i := 53) rfl)) (by decide) rfl (wi_no l Z a0 n0 hw [] (a1) ((62 : Int32)) (r1) (64) (f) (1) (Ob) ((a2, .byte, (own_arr 62 g)) :: Ax) (by decide) (by decide) (by decide)) (argsL := [(.int (62 : Int32))]) (rest := []) rfl rfl pd_5 rfl (W := 0) rfl (by decide) (by decide) (cells' := 0) (slots' := 0) rfl rfl (by decide) (by decide) (Ret.k (S' := [(.ref a1)]) rfl ?_)
  refine Run.as (D' := ((a1, "com/example/efcor/efcor/io/RecordWriter", [("com/example/efcor/efcor/io/RecordWriter", "bytes", "[B", (.ref r1)), ("com/example/efcor/efcor/io/RecordWriter", "size", "I", (.int (2 : Int32)))]) :: Ob, (r1, .byte, (own_arr 64 (own_upd f 1 ((((((62 : Int32).toInt64) &&& (4294967295 : Int64)).toInt32).toInt8.toInt32).toInt8.toInt32)))) :: (a2, .byte, (own_arr 62 g)) :: Ax)) rfl ?_
  refine Run.pop K d9_6 (pc' := 7) rfl rfl ?_
  refine Run.aloadN K d9_7 (pc' := 8) rfl rfl rfl ?_
  refine Run.aloadN K d9_8 (pc' := 9) rfl rfl rfl ?_
  refine Run.alen K d9_9 (pc' := 10) rfl (i := 1) rfl (w := (62 : Int32)) (own_arr_len rfl) ?_
  refine Run.callP K d9_10 (pc' := 13) rfl (a := a1) (z := (⟨"com/example/efcor/efcor/io/RecordWriter", "ensure", "(I)V"⟩ : MethodName)) (Cn := "com/example/efcor/efcor/io/RecordWriter") (i := 0) (hw _ (List.mem_of_getElem? (i := 40) rfl)) (hw _ (List.mem_of_getElem? (i := 42) rfl)) (hw _ (List.mem_of_getElem? (i := 15) rfl)) rfl (hw _ (List.mem_of_getElem? (i := 41) rfl)) (hw _ (List.mem_of_getElem? (i := 3) rfl)) (hw _ (List.mem_of_getElem? (i := 43) rfl)) (by decide) rfl (ens_no l Z a0 n0 hw [] (a1) ((62 : Int32)) (r1) (64) ((own_upd f 1 ((((((62 : Int32).toInt64) &&& (4294967295 : Int64)).toInt32).toInt8.toInt32).toInt8.toInt32))) (2) (62) (Ob) ((a2, .byte, (own_arr 62 g)) :: Ax) (rfl) (by decide) (by decide)) (argsL := [(.int (62 : Int32))]) (rest := []) rfl rfl pd_2 rfl (W := 0) rfl (by decide) (by decide) (cells' := 0) (slots' := 0) rfl rfl (by decide) (by decide) (Ret.k (S' := []) rfl ?_)
  refine Run.as (D' := ((a1, "com/example/efcor/efcor/io/RecordWriter", [("com/example/efcor/efcor/io/RecordWriter", "bytes", "[B", (.ref r1)), ("com/example/efcor/efcor/io/RecordWriter", "size", "I", (.int (2 : Int32)))]) :: Ob, (r1, .byte, (own_arr 64 (own_upd f 1 ((((((62 : Int32).toInt64) &&& (4294967295 : Int64)).toInt32).toInt8.toInt32).toInt8.toInt32)))) :: (a2, .byte, (own_arr 62 g)) :: Ax)) rfl ?_
  refine Run.aloadN K d9_13 (pc' := 14) rfl rfl rfl ?_
  refine Run.iconst K d9_14 (pc' := 15) rfl (v := (0 : Int32)) rfl ?_
  refine Run.aloadN K d9_15 (pc' := 16) rfl rfl rfl ?_
  refine Run.getF K d9_16 (pc' := 19) rfl (hw _ (List.mem_of_getElem? (i := 10) rfl)) (i := 0) (j := 0) rfl rfl ?_
  refine Run.aloadN K d9_19 (pc' := 20) rfl rfl rfl ?_
  refine Run.getF K d9_20 (pc' := 23) rfl (hw _ (List.mem_of_getElem? (i := 17) rfl)) (i := 0) (j := 1) rfl rfl ?_
  refine Run.aloadN K d9_23 (pc' := 24) rfl rfl rfl ?_
  refine Run.alen K d9_24 (pc' := 25) rfl (i := 1) rfl (w := (62 : Int32)) (own_arr_len rfl) ?_
  refine Run.acopy K d9_25 (pc' := 28) rfl (hw _ (List.mem_of_getElem? (i := 61) rfl)) (hw _ (List.mem_of_getElem? (i := 30) rfl)) (hw _ (List.mem_of_getElem? (i := 28) rfl)) (hw _ (List.mem_of_getElem? (i := 29) rfl)) (i := 1) (j := 0) rfl rfl rfl (by decide) (by decide) (by decide) (k1 := 0) (k2 := 2) (k3 := 62) (by decide) (by decide) (by decide) (by rw [own_arr_length]; decide) (by rw [own_arr_length]; decide) (vd' := (own_arr 64 (own_put (own_upd f 1 ((((((62 : Int32).toInt64) &&& (4294967295 : Int64)).toInt32).toInt8.toInt32).toInt8.toInt32)) 2 62 g))) (own_arr_copy (by decide) (by decide)) (D' := ((a1, "com/example/efcor/efcor/io/RecordWriter", [("com/example/efcor/efcor/io/RecordWriter", "bytes", "[B", (.ref r1)), ("com/example/efcor/efcor/io/RecordWriter", "size", "I", (.int (2 : Int32)))]) :: Ob, (r1, .byte, (own_arr 64 (own_put (own_upd f 1 ((((((62 : Int32).toInt64) &&& (4294967295 : Int64)).toInt32).toInt8.toInt32).toInt8.toInt32)) 2 62 g))) :: (a2, .byte, (own_arr 62 g)) :: Ax)) rfl rfl (by decide) (W := 0) rfl (by decide) ?_
  refine Run.aloadN K d9_28 (pc' := 29) rfl rfl rfl ?_
  refine Run.dup K d9_29 (pc' := 30) rfl rfl ?_
  refine Run.getF K d9_30 (pc' := 33) rfl (hw _ (List.mem_of_getElem? (i := 17) rfl)) (i := 0) (j := 1) rfl rfl ?_
  refine Run.aloadN K d9_33 (pc' := 34) rfl rfl rfl ?_
  refine Run.alen K d9_34 (pc' := 35) rfl (i := 1) rfl (w := (62 : Int32)) (own_arr_len rfl) ?_
  refine Run.iaddV K d9_35 (pc' := 36) rfl (v := (64 : Int32)) (by decide) ?_
  refine Run.putF K d9_36 (pc' := 39) rfl (hw _ (List.mem_of_getElem? (i := 17) rfl)) (Or.inl (hw _ (List.mem_of_getElem? (i := 18) rfl))) (hw _ (List.mem_of_getElem? (i := 2) rfl)) (ty := .int) (by decide) rfl rfl (i := 0) (j := 1) rfl rfl (D' := ((a1, "com/example/efcor/efcor/io/RecordWriter", [("com/example/efcor/efcor/io/RecordWriter", "bytes", "[B", (.ref r1)), ("com/example/efcor/efcor/io/RecordWriter", "size", "I", (.int (64 : Int32)))]) :: Ob, (r1, .byte, (own_arr 64 (own_put (own_upd f 1 ((((((62 : Int32).toInt64) &&& (4294967295 : Int64)).toInt32).toInt8.toInt32).toInt8.toInt32)) 2 62 g))) :: (a2, .byte, (own_arr 62 g)) :: Ax)) rfl ?_
  refine Run.aloadN K d9_39 (pc' := 40) rfl rfl rfl ?_
  exact Run.retA K d9_40 rfl rfl rfl (by decide) (by decide) ⟨rfl, rfl⟩
set_option maxRecDepth 65536 in
set_option maxHeartbeats 40000000 in
theorem wb_100 (l : Launch) (Z : State) (a0 : Array Value) (n0 : Nat) (hw : ∀ d ∈ tables_1, d.before a0 Z = true) (ws : List Jvm.Cond) (a1 : Addr) (a2 : Addr) (r1 : Addr) (f : Nat → Int32) (g : Nat → Int32) (Ob : List OObj) (Ax : List OArr) : Con l Z a0 n0 ws (⟨"com/example/efcor/efcor/io/RecordWriter", "writeBytes", "([B)Lcom/example/efcor/efcor/io/RecordWriter;"⟩ : MethodName) prog_8_method_8_code 2 (some (.object "com/example/efcor/efcor/io/RecordWriter")) ({ frames := 4, cells := 1, slots := 128, locals := 55 } : Room) #[(.ref a1), (.ref a2)] ((a1, "com/example/efcor/efcor/io/RecordWriter", [("com/example/efcor/efcor/io/RecordWriter", "bytes", "[B", (.ref r1)), ("com/example/efcor/efcor/io/RecordWriter", "size", "I", (.int (1 : Int32)))]) :: Ob, (r1, .byte, (own_arr 64 f)) :: (a2, .byte, (own_arr 100 g)) :: Ax) (fun vq Dq => ∃ (c69 : Addr), vq = (some (.ref a1)) ∧ Dq = ((a1, "com/example/efcor/efcor/io/RecordWriter", [("com/example/efcor/efcor/io/RecordWriter", "bytes", "[B", (.ref c69)), ("com/example/efcor/efcor/io/RecordWriter", "size", "I", (.int (102 : Int32)))]) :: Ob, (c69, .byte, (own_arr 128 (own_put (own_cut (own_upd f 1 ((((((100 : Int32).toInt64) &&& (4294967295 : Int64)).toInt32).toInt8.toInt32).toInt8.toInt32)) 64) 2 100 g))) :: (r1, .byte, (own_arr 64 (own_upd f 1 ((((((100 : Int32).toInt64) &&& (4294967295 : Int64)).toInt32).toInt8.toInt32).toInt8.toInt32)))) :: (a2, .byte, (own_arr 100 g)) :: Ax)) := by
  refine Con.of_run (plainFor_of_name pn_0) (L0 := #[.val (.ref a1), .val (.ref a2)]) (fun m => by first | (simp [entryFrame, mkF, argsToLocals, Value.category]; done) | rfl) ?_
  intro p e s m below meth c K
  refine Run.aloadN K d9_0 (pc' := 1) rfl rfl rfl ?_
  refine Run.aloadN K d9_1 (pc' := 2) rfl rfl rfl ?_
  refine Run.alen K d9_2 (pc' := 3) rfl (i := 1) rfl (w := (100 : Int32)) (own_arr_len rfl) ?_
  refine Run.callV K d9_3 (pc' := 6) rfl (a := a1) (z := (⟨"com/example/efcor/efcor/io/RecordWriter", "writeInt", "(I)Lcom/example/efcor/efcor/io/RecordWriter;"⟩ : MethodName)) (Cn := "com/example/efcor/efcor/io/RecordWriter") (i := 0) (hw _ (List.mem_of_getElem? (i := 49) rfl)) (hw _ (List.mem_of_getElem? (i := 50) rfl)) (hw _ (List.mem_of_getElem? (i := 52) rfl)) (hw _ (List.mem_of_getElem? (i := 51) rfl)) (hw _ (List.mem_of_getElem? (i := 3) rfl)) (hw _ (List.mem_of_getElem? (i := 53) rfl)) (by decide) rfl (wi_no l Z a0 n0 hw [] (a1) ((100 : Int32)) (r1) (64) (f) (1) (Ob) ((a2, .byte, (own_arr 100 g)) :: Ax) (by decide) (by decide) (by decide)) (argsL := [(.int (100 : Int32))]) (rest := []) rfl rfl pd_5 rfl (W := 0) rfl (by decide) (by decide) (cells' := 0) (slots' := 0) rfl rfl (by decide) (by decide) (Ret.k (S' := [(.ref a1)]) rfl ?_)
  refine Run.as (D' := ((a1, "com/example/efcor/efcor/io/RecordWriter", [("com/example/efcor/efcor/io/RecordWriter", "bytes", "[B", (.ref r1)), ("com/example/efcor/efcor/io/RecordWriter", "size", "I", (.int (2 : Int32)))]) :: Ob, (r1, .byte, (own_arr 64 (own_upd f 1 ((((((100 : Int32).toInt64) &&& (4294967295 : Int64)).toInt32).toInt8.toInt32).toInt8.toInt32)))) :: (a2, .byte, (own_arr 100 g)) :: Ax)) rfl ?_
  refine Run.pop K d9_6 (pc' := 7) rfl rfl ?_
  refine Run.aloadN K d9_7 (pc' := 8) rfl rfl rfl ?_
  refine Run.aloadN K d9_8 (pc' := 9) rfl rfl rfl ?_
  refine Run.alen K d9_9 (pc' := 10) rfl (i := 1) rfl (w := (100 : Int32)) (own_arr_len rfl) ?_
  refine Run.callP K d9_10 (pc' := 13) rfl (a := a1) (z := (⟨"com/example/efcor/efcor/io/RecordWriter", "ensure", "(I)V"⟩ : MethodName)) (Cn := "com/example/efcor/efcor/io/RecordWriter") (i := 0) (hw _ (List.mem_of_getElem? (i := 40) rfl)) (hw _ (List.mem_of_getElem? (i := 42) rfl)) (hw _ (List.mem_of_getElem? (i := 15) rfl)) rfl (hw _ (List.mem_of_getElem? (i := 41) rfl)) (hw _ (List.mem_of_getElem? (i := 3) rfl)) (hw _ (List.mem_of_getElem? (i := 43) rfl)) (by decide) rfl (ens_grow l Z a0 n0 hw [] (a1) ((100 : Int32)) (r1) ((own_upd f 1 ((((((100 : Int32).toInt64) &&& (4294967295 : Int64)).toInt32).toInt8.toInt32).toInt8.toInt32))) (2) (100) (Ob) ((a2, .byte, (own_arr 100 g)) :: Ax) (rfl) (by decide) (by decide) (by decide)) (argsL := [(.int (100 : Int32))]) (rest := []) rfl rfl pd_2 rfl (W := 0) rfl (by decide) (by decide) (cells' := 1) (slots' := 128) rfl rfl (by decide) (by decide) ?_
  intro vq Dq hq
  obtain ⟨c71, rfl, rfl⟩ := hq
  refine Run.as2 (D' := ((a1, "com/example/efcor/efcor/io/RecordWriter", [("com/example/efcor/efcor/io/RecordWriter", "bytes", "[B", (.ref c71)), ("com/example/efcor/efcor/io/RecordWriter", "size", "I", (.int (2 : Int32)))]) :: Ob, (c71, .byte, (own_arr 128 (own_cut (own_upd f 1 ((((((100 : Int32).toInt64) &&& (4294967295 : Int64)).toInt32).toInt8.toInt32).toInt8.toInt32)) 64))) :: (r1, .byte, (own_arr 64 (own_upd f 1 ((((((100 : Int32).toInt64) &&& (4294967295 : Int64)).toInt32).toInt8.toInt32).toInt8.toInt32)))) :: (a2, .byte, (own_arr 100 g)) :: Ax)) (S' := []) rfl rfl ?_
  refine Run.aloadN K d9_13 (pc' := 14) rfl rfl rfl ?_
  refine Run.iconst K d9_14 (pc' := 15) rfl (v := (0 : Int32)) rfl ?_
  refine Run.aloadN K d9_15 (pc' := 16) rfl rfl rfl ?_
  refine Run.getF K d9_16 (pc' := 19) rfl (hw _ (List.mem_of_getElem? (i := 10) rfl)) (i := 0) (j := 0) rfl rfl ?_
  refine Run.aloadN K d9_19 (pc' := 20) rfl rfl rfl ?_
  refine Run.getF K d9_20 (pc' := 23) rfl (hw _ (List.mem_of_getElem? (i := 17) rfl)) (i := 0) (j := 1) rfl rfl ?_
  refine Run.aloadN K d9_23 (pc' := 24) rfl rfl rfl ?_
  refine Run.alen K d9_24 (pc' := 25) rfl (i := 2) rfl (w := (100 : Int32)) (own_arr_len rfl) ?_
  refine Run.acopy K d9_25 (pc' := 28) rfl (hw _ (List.mem_of_getElem? (i := 61) rfl)) (hw _ (List.mem_of_getElem? (i := 30) rfl)) (hw _ (List.mem_of_getElem? (i := 28) rfl)) (hw _ (List.mem_of_getElem? (i := 29) rfl)) (i := 2) (j := 0) rfl rfl rfl (by decide) (by decide) (by decide) (k1 := 0) (k2 := 2) (k3 := 100) (by decide) (by decide) (by decide) (by rw [own_arr_length]; decide) (by rw [own_arr_length]; decide) (vd' := (own_arr 128 (own_put (own_cut (own_upd f 1 ((((((100 : Int32).toInt64) &&& (4294967295 : Int64)).toInt32).toInt8.toInt32).toInt8.toInt32)) 64) 2 100 g))) (own_arr_copy (by decide) (by decide)) (D' := ((a1, "com/example/efcor/efcor/io/RecordWriter", [("com/example/efcor/efcor/io/RecordWriter", "bytes", "[B", (.ref c71)), ("com/example/efcor/efcor/io/RecordWriter", "size", "I", (.int (2 : Int32)))]) :: Ob, (c71, .byte, (own_arr 128 (own_put (own_cut (own_upd f 1 ((((((100 : Int32).toInt64) &&& (4294967295 : Int64)).toInt32).toInt8.toInt32).toInt8.toInt32)) 64) 2 100 g))) :: (r1, .byte, (own_arr 64 (own_upd f 1 ((((((100 : Int32).toInt64) &&& (4294967295 : Int64)).toInt32).toInt8.toInt32).toInt8.toInt32)))) :: (a2, .byte, (own_arr 100 g)) :: Ax)) rfl rfl (by decide) (W := 0) rfl (by decide) ?_
  refine Run.aloadN K d9_28 (pc' := 29) rfl rfl rfl ?_
  refine Run.dup K d9_29 (pc' := 30) rfl rfl ?_
  refine Run.getF K d9_30 (pc' := 33) rfl (hw _ (List.mem_of_getElem? (i := 17) rfl)) (i := 0) (j := 1) rfl rfl ?_
  refine Run.aloadN K d9_33 (pc' := 34) rfl rfl rfl ?_
  refine Run.alen K d9_34 (pc' := 35) rfl (i := 2) rfl (w := (100 : Int32)) (own_arr_len rfl) ?_
  refine Run.iaddV K d9_35 (pc' := 36) rfl (v := (102 : Int32)) (by decide) ?_
  refine Run.putF K d9_36 (pc' := 39) rfl (hw _ (List.mem_of_getElem? (i := 17) rfl)) (Or.inl (hw _ (List.mem_of_getElem? (i := 18) rfl))) (hw _ (List.mem_of_getElem? (i := 2) rfl)) (ty := .int) (by decide) rfl rfl (i := 0) (j := 1) rfl rfl (D' := ((a1, "com/example/efcor/efcor/io/RecordWriter", [("com/example/efcor/efcor/io/RecordWriter", "bytes", "[B", (.ref c71)), ("com/example/efcor/efcor/io/RecordWriter", "size", "I", (.int (102 : Int32)))]) :: Ob, (c71, .byte, (own_arr 128 (own_put (own_cut (own_upd f 1 ((((((100 : Int32).toInt64) &&& (4294967295 : Int64)).toInt32).toInt8.toInt32).toInt8.toInt32)) 64) 2 100 g))) :: (r1, .byte, (own_arr 64 (own_upd f 1 ((((((100 : Int32).toInt64) &&& (4294967295 : Int64)).toInt32).toInt8.toInt32).toInt8.toInt32)))) :: (a2, .byte, (own_arr 100 g)) :: Ax)) rfl ?_
  refine Run.aloadN K d9_39 (pc' := 40) rfl rfl rfl ?_
  exact Run.retA K d9_40 rfl rfl rfl (by decide) (by decide) ⟨c71, rfl, rfl⟩
theorem fs_0 {Z : State} {a0 : Array Value} (hw : ∀ d ∈ tables_1, d.before a0 Z = true) : FieldsOk Z a0 "com/example/efcor/efcor/io/RecordWriter" [("com/example/efcor/efcor/io/RecordWriter", "bytes", "[B", .null), ("com/example/efcor/efcor/io/RecordWriter", "size", "I", (.int (0 : Int32)))] := (FieldsOk.cons (Or.inl (hw _ (List.mem_of_getElem? (i := 11) rfl))) (ty := (.array .byte)) (by decide) rfl (by decide) (FieldsOk.cons (Or.inl (hw _ (List.mem_of_getElem? (i := 18) rfl))) (ty := .int) (by decide) rfl (by decide) (FieldsOk.nil _)))
theorem pd_6 : parseMethodDescriptor "()V" = some ⟨[], none⟩ := by decide +kernel
theorem pd_7 : parseMethodDescriptor "()[B" = some ⟨[], some (.array .byte)⟩ := by decide +kernel
theorem pd_8 : parseMethodDescriptor "(Z)Lcom/example/efcor/efcor/io/RecordWriter;" = some ⟨[.boolean], some (.object "com/example/efcor/efcor/io/RecordWriter")⟩ := by decide +kernel
theorem pd_9 : parseMethodDescriptor "([B)Lcom/example/efcor/efcor/io/RecordWriter;" = some ⟨[(.array .byte)], some (.object "com/example/efcor/efcor/io/RecordWriter")⟩ := by decide +kernel
theorem pn_2 : plainName "com/example/efcor/efcor/io/RecordWriterToBytesPinLaw" = true := by first | (simp [plainName, overriddenIn]; done) | decide +kernel
set_option maxRecDepth 65536 in
set_option maxHeartbeats 40000000 in
theorem rm0 (l : Launch) (Z : State) (a0 : Array Value) (n0 : Nat) (hw : ∀ d ∈ tables_1, d.before a0 Z = true) (ws : List Jvm.Cond) (p1 : Int32) (p2 : Int32) (p3 : Int32) (p4 : Int32) (p5 : Int32) : Con l Z a0 n0 ws x code maxLocals ret room_1 #[(.int p1), (.int p2), (.int p3), (.int p4), (.int p5)] ([], []) (fun vq _ => vq = some (.int 1)) := by
  refine Con.of_run (plainFor_of_name pn_2) (L0 := #[.val (.int p1), .val (.int p2), .val (.int p3), .val (.int p4), .val (.int p5), .unset, .unset, .unset, .unset, .unset, .unset, .unset, .unset, .unset, .unset, .unset, .unset]) (fun m => by first | (simp [entryFrame, mkF, argsToLocals, Value.category, maxLocals]; done) | rfl) ?_
  intro p e s m below meth c K
  refine Run.iloadN K at_0 (pc' := 1) rfl rfl ?_
  refine Run.iconst K at_1 (pc' := 2) rfl (v := (1 : Int32)) rfl ?_
  refine Run.iand K at_2 (pc' := 3) rfl ?_
  refine Run.ifc K at_3 (pT := 10) (pF := 6) (by decide) (by decide) rfl (fun (h3_72 : (p1 &&& (1 : Int32)) = (0 : Int32)) => ?_) (fun (h3_72 : ¬ ((p1 &&& (1 : Int32)) = (0 : Int32))) => ?_)
  · skip
    refine Run.iconst K at_10 (pc' := 11) rfl (v := (0 : Int32)) rfl ?_
    refine Run.istore K at_11 (pc' := 13) rfl (L' := #[.val (.int p1), .val (.int p2), .val (.int p3), .val (.int p4), .val (.int p5), .val (.int (0 : Int32)), .unset, .unset, .unset, .unset, .unset, .unset, .unset, .unset, .unset, .unset, .unset]) rfl ?_
    refine Run.iloadN K at_13 (pc' := 14) rfl rfl ?_
    refine Run.iconst K at_14 (pc' := 15) rfl (v := (1 : Int32)) rfl ?_
    refine Run.iushr K at_15 (pc' := 16) rfl ?_
    refine Run.iconst K at_16 (pc' := 17) rfl (v := (3 : Int32)) rfl ?_
    refine Run.irem K at_17 (pc' := 18) rfl (by decide) ?_
    refine Run.istore K at_18 (pc' := 20) rfl (L' := #[.val (.int p1), .val (.int p2), .val (.int p3), .val (.int p4), .val (.int p5), .val (.int (0 : Int32)), .val (.int (((p1.toUInt32 >>> ((1 : Int32) &&& 31).toUInt32).toInt32) % (3 : Int32))), .unset, .unset, .unset, .unset, .unset, .unset, .unset, .unset, .unset, .unset]) rfl ?_
    refine Run.iload K at_20 (pc' := 22) rfl rfl ?_
    refine Run.ifc K at_22 (pT := 38) (pF := 25) (by decide) (by decide) rfl (fun (h22_73 : (((p1.toUInt32 >>> ((1 : Int32) &&& 31).toUInt32).toInt32) % (3 : Int32)) ≠ (0 : Int32)) => ?_) (fun (h22_73 : ¬ ((((p1.toUInt32 >>> ((1 : Int32) &&& 31).toUInt32).toInt32) % (3 : Int32)) ≠ (0 : Int32))) => ?_)
    · skip
      refine Run.iload K at_38 (pc' := 40) rfl rfl ?_
      refine Run.iconst K at_40 (pc' := 41) rfl (v := (1 : Int32)) rfl ?_
      refine Run.icmp K at_41 (pT := 57) (pF := 44) (by decide) (by decide) rfl (fun (h41_79 : (((p1.toUInt32 >>> ((1 : Int32) &&& 31).toUInt32).toInt32) % (3 : Int32)) ≠ (1 : Int32)) => ?_) (fun (h41_79 : ¬ ((((p1.toUInt32 >>> ((1 : Int32) &&& 31).toUInt32).toInt32) % (3 : Int32)) ≠ (1 : Int32))) => ?_)
      · skip
        refine Run.bipush K at_57 (pc' := 59) rfl (v := (100 : Int32)) rfl ?_
        refine Run.istore K at_59 (pc' := 61) rfl (L' := #[.val (.int p1), .val (.int p2), .val (.int p3), .val (.int p4), .val (.int p5), .val (.int (0 : Int32)), .val (.int (((p1.toUInt32 >>> ((1 : Int32) &&& 31).toUInt32).toInt32) % (3 : Int32))), .val (.int (100 : Int32)), .unset, .unset, .unset, .unset, .unset, .unset, .unset, .unset, .unset]) rfl ?_
        refine Run.bipush K at_61 (pc' := 63) rfl (v := (100 : Int32)) rfl ?_
        refine Run.newA K at_63 (pc' := 65) rfl (ty := .byte) rfl (hw _ (List.mem_of_getElem? (i := 0) rfl)) (by decide) (vs := (own_arr 100 own_zero)) (own_arr_new' (by decide)) (cap := 100) (by decide) (by decide) (cells' := 1) (slots' := 100) rfl rfl (by decide) (by decide) rfl (fun r84 => ?_)
        refine Run.as (D' := ([], [(r84, .byte, (own_arr 100 own_zero))])) rfl ?_
        refine Run.astore K at_65 (pc' := 67) rfl rfl (L' := #[.val (.int p1), .val (.int p2), .val (.int p3), .val (.int p4), .val (.int p5), .val (.int (0 : Int32)), .val (.int (((p1.toUInt32 >>> ((1 : Int32) &&& 31).toUInt32).toInt32) % (3 : Int32))), .val (.int (100 : Int32)), .val (.ref r84), .unset, .unset, .unset, .unset, .unset, .unset, .unset, .unset]) rfl ?_
        refine Run.aload K at_67 (pc' := 69) rfl rfl rfl ?_
        refine Run.iconst K at_69 (pc' := 70) rfl (v := (0 : Int32)) rfl ?_
        refine Run.iloadN K at_70 (pc' := 71) rfl rfl ?_
        refine Run.i2b K at_71 (pc' := 72) rfl ?_
        refine Run.bastore K at_72 (pc' := 73) rfl (i := 0) (q := 0) rfl (by decide) (by decide) (v := (.int (0 : Int32))) (own_arr_get (by decide) (v := (0 : Int32)) rfl) (D' := ([], [(r84, .byte, ((own_arr 100 own_zero).set 0 (.int (p2.toInt8.toInt32).toInt8.toInt32)))])) rfl ?_
        refine Run.as (D' := ([], [(r84, .byte, (own_arr 100 (own_upd own_zero 0 ((p2.toInt8.toInt32).toInt8.toInt32))))])) (by rw [own_arr_set]) ?_
        refine Run.aload K at_73 (pc' := 75) rfl rfl rfl ?_
        refine Run.iload K at_75 (pc' := 77) rfl rfl ?_
        refine Run.iconst K at_77 (pc' := 78) rfl (v := (2 : Int32)) rfl ?_
        refine Run.idivV K at_78 (pc' := 79) rfl (by decide) (v := (50 : Int32)) (by decide) ?_
        refine Run.iloadN K at_79 (pc' := 80) rfl rfl ?_
        refine Run.i2b K at_80 (pc' := 81) rfl ?_
        refine Run.bastore K at_81 (pc' := 82) rfl (i := 0) (q := 50) rfl (by decide) (by decide) (v := (.int (0 : Int32))) (own_arr_get (by decide) (v := (0 : Int32)) rfl) (D' := ([], [(r84, .byte, ((own_arr 100 (own_upd own_zero 0 ((p2.toInt8.toInt32).toInt8.toInt32))).set 50 (.int (p3.toInt8.toInt32).toInt8.toInt32)))])) rfl ?_
        refine Run.as (D' := ([], [(r84, .byte, (own_arr 100 (own_upd (own_upd own_zero 0 ((p2.toInt8.toInt32).toInt8.toInt32)) 50 ((p3.toInt8.toInt32).toInt8.toInt32))))])) (by rw [own_arr_set]) ?_
        refine Run.aload K at_82 (pc' := 84) rfl rfl rfl ?_
        refine Run.iload K at_84 (pc' := 86) rfl rfl ?_
        refine Run.iconst K at_86 (pc' := 87) rfl (v := (1 : Int32)) rfl ?_
        refine Run.isubV K at_87 (pc' := 88) rfl (v := (99 : Int32)) (by decide) ?_
        refine Run.iloadN K at_88 (pc' := 89) rfl rfl ?_
        refine Run.i2b K at_89 (pc' := 90) rfl ?_
        refine Run.bastore K at_90 (pc' := 91) rfl (i := 0) (q := 99) rfl (by decide) (by decide) (v := (.int (0 : Int32))) (own_arr_get (by decide) (v := (0 : Int32)) rfl) (D' := ([], [(r84, .byte, ((own_arr 100 (own_upd (own_upd own_zero 0 ((p2.toInt8.toInt32).toInt8.toInt32)) 50 ((p3.toInt8.toInt32).toInt8.toInt32))).set 99 (.int (p4.toInt8.toInt32).toInt8.toInt32)))])) rfl ?_
        refine Run.as (D' := ([], [(r84, .byte, (own_arr 100 (own_upd (own_upd (own_upd own_zero 0 ((p2.toInt8.toInt32).toInt8.toInt32)) 50 ((p3.toInt8.toInt32).toInt8.toInt32)) 99 ((p4.toInt8.toInt32).toInt8.toInt32))))])) (by rw [own_arr_set]) ?_
        refine Run.iload K at_91 (pc' := 93) rfl rfl ?_
        refine Run.bipush K at_93 (pc' := 95) rfl (v := (127 : Int32)) rfl ?_
        refine Run.iand K at_95 (pc' := 96) rfl ?_
        refine Run.istore K at_96 (pc' := 98) rfl (L' := #[.val (.int p1), .val (.int p2), .val (.int p3), .val (.int p4), .val (.int p5), .val (.int (0 : Int32)), .val (.int (((p1.toUInt32 >>> ((1 : Int32) &&& 31).toUInt32).toInt32) % (3 : Int32))), .val (.int (100 : Int32)), .val (.ref r84), .val (.int (p5 &&& (127 : Int32))), .unset, .unset, .unset, .unset, .unset, .unset, .unset]) rfl ?_
        refine Run.iload K at_98 (pc' := 100) rfl rfl ?_
        refine Run.ifcT K at_100 (pT := 107) (pF := 103) (by decide) (by decide) rfl (show (0 : Int32) = (0 : Int32) from by decide) ?_
        refine Run.iconst K at_107 (pc' := 108) rfl (v := (0 : Int32)) rfl ?_
        refine Run.istore K at_108 (pc' := 110) rfl (L' := #[.val (.int p1), .val (.int p2), .val (.int p3), .val (.int p4), .val (.int p5), .val (.int (0 : Int32)), .val (.int (((p1.toUInt32 >>> ((1 : Int32) &&& 31).toUInt32).toInt32) % (3 : Int32))), .val (.int (100 : Int32)), .val (.ref r84), .val (.int (p5 &&& (127 : Int32))), .val (.int (0 : Int32)), .unset, .unset, .unset, .unset, .unset, .unset]) rfl ?_
        refine Run.newO K at_110 (pc' := 113) rfl (hw _ (List.mem_of_getElem? (i := 1) rfl)) (hw _ (List.mem_of_getElem? (i := 2) rfl)) (hw _ (List.mem_of_getElem? (i := 3) rfl)) (fs_0 hw) (cells' := 2) (slots' := 102) rfl rfl (by decide) (by decide) (fun n85 => ?_)
        refine Run.as (D' := ([(n85, "com/example/efcor/efcor/io/RecordWriter", [("com/example/efcor/efcor/io/RecordWriter", "bytes", "[B", .null), ("com/example/efcor/efcor/io/RecordWriter", "size", "I", (.int (0 : Int32)))])], [(r84, .byte, (own_arr 100 (own_upd (own_upd (own_upd own_zero 0 ((p2.toInt8.toInt32).toInt8.toInt32)) 50 ((p3.toInt8.toInt32).toInt8.toInt32)) 99 ((p4.toInt8.toInt32).toInt8.toInt32))))])) rfl ?_
        refine Run.dup K at_113 (pc' := 114) rfl rfl ?_
        refine Run.callI K at_114 (pc' := 117) rfl rfl (hw _ (List.mem_of_getElem? (i := 4) rfl)) (hw _ (List.mem_of_getElem? (i := 5) rfl)) (hw _ (List.mem_of_getElem? (i := 3) rfl)) (hw _ (List.mem_of_getElem? (i := 6) rfl)) (by decide) (a := n85) (rm1 l Z a0 n0 hw [] (n85) (.null) ((0 : Int32)) ([]) ([(r84, .byte, (own_arr 100 (own_upd (own_upd (own_upd own_zero 0 ((p2.toInt8.toInt32).toInt8.toInt32)) 50 ((p3.toInt8.toInt32).toInt8.toInt32)) 99 ((p4.toInt8.toInt32).toInt8.toInt32))))]) ) (argsL := []) (rest := [(.ref n85)]) rfl rfl pd_6 rfl (W := 1) rfl (by decide) (by decide) (cells' := 3) (slots' := 166) rfl rfl (by decide) (by decide) ?_
        intro vq Dq hq
        obtain ⟨c86, rfl, rfl⟩ := hq
        refine Run.as2 (D' := ([(n85, "com/example/efcor/efcor/io/RecordWriter", [("com/example/efcor/efcor/io/RecordWriter", "bytes", "[B", (.ref c86)), ("com/example/efcor/efcor/io/RecordWriter", "size", "I", (.int (0 : Int32)))])], [(c86, .byte, (own_arr 64 own_zero)), (r84, .byte, (own_arr 100 (own_upd (own_upd (own_upd own_zero 0 ((p2.toInt8.toInt32).toInt8.toInt32)) 50 ((p3.toInt8.toInt32).toInt8.toInt32)) 99 ((p4.toInt8.toInt32).toInt8.toInt32))))])) (S' := [(.ref n85)]) rfl rfl ?_
        refine Run.astore K at_117 (pc' := 119) rfl rfl (L' := #[.val (.int p1), .val (.int p2), .val (.int p3), .val (.int p4), .val (.int p5), .val (.int (0 : Int32)), .val (.int (((p1.toUInt32 >>> ((1 : Int32) &&& 31).toUInt32).toInt32) % (3 : Int32))), .val (.int (100 : Int32)), .val (.ref r84), .val (.int (p5 &&& (127 : Int32))), .val (.int (0 : Int32)), .val (.ref n85), .unset, .unset, .unset, .unset, .unset]) rfl ?_
        refine Run.aload K at_119 (pc' := 121) rfl rfl rfl ?_
        refine Run.callV K at_121 (pc' := 124) rfl (a := n85) (z := (⟨"com/example/efcor/efcor/io/RecordWriter", "toBytes", "()[B"⟩ : MethodName)) (Cn := "com/example/efcor/efcor/io/RecordWriter") (i := 0) (hw _ (List.mem_of_getElem? (i := 12) rfl)) (hw _ (List.mem_of_getElem? (i := 13) rfl)) (hw _ (List.mem_of_getElem? (i := 15) rfl)) (hw _ (List.mem_of_getElem? (i := 14) rfl)) (hw _ (List.mem_of_getElem? (i := 3) rfl)) (hw _ (List.mem_of_getElem? (i := 16) rfl)) (by decide) rfl (tb_shr l Z a0 n0 hw [] (n85) (c86) (64) (own_zero) (0) ([]) ([(r84, .byte, (own_arr 100 (own_upd (own_upd (own_upd own_zero 0 ((p2.toInt8.toInt32).toInt8.toInt32)) 50 ((p3.toInt8.toInt32).toInt8.toInt32)) 99 ((p4.toInt8.toInt32).toInt8.toInt32))))]) (by decide) (by decide)) (argsL := []) (rest := []) rfl rfl pd_7 rfl (W := 0) rfl (by decide) (by decide) (cells' := 4) (slots' := 294) rfl rfl (by decide) (by decide) ?_
        intro vq Dq hq
        obtain ⟨c88, rfl, rfl⟩ := hq
        refine Run.as2 (D' := ([(n85, "com/example/efcor/efcor/io/RecordWriter", [("com/example/efcor/efcor/io/RecordWriter", "bytes", "[B", (.ref c86)), ("com/example/efcor/efcor/io/RecordWriter", "size", "I", (.int (0 : Int32)))])], [(c88, .byte, (own_arr 0 own_zero)), (c86, .byte, (own_arr 64 own_zero)), (r84, .byte, (own_arr 100 (own_upd (own_upd (own_upd own_zero 0 ((p2.toInt8.toInt32).toInt8.toInt32)) 50 ((p3.toInt8.toInt32).toInt8.toInt32)) 99 ((p4.toInt8.toInt32).toInt8.toInt32))))])) (S' := [(.ref c88)]) rfl rfl ?_
        refine Run.astore K at_124 (pc' := 126) rfl rfl (L' := #[.val (.int p1), .val (.int p2), .val (.int p3), .val (.int p4), .val (.int p5), .val (.int (0 : Int32)), .val (.int (((p1.toUInt32 >>> ((1 : Int32) &&& 31).toUInt32).toInt32) % (3 : Int32))), .val (.int (100 : Int32)), .val (.ref r84), .val (.int (p5 &&& (127 : Int32))), .val (.int (0 : Int32)), .val (.ref n85), .val (.ref c88), .unset, .unset, .unset, .unset]) rfl ?_
        refine Run.aload K at_126 (pc' := 128) rfl rfl rfl ?_
        refine Run.iload K at_128 (pc' := 130) rfl rfl ?_
        refine Run.bring 0 1 (D' := ([(n85, "com/example/efcor/efcor/io/RecordWriter", [("com/example/efcor/efcor/io/RecordWriter", "bytes", "[B", (.ref c86)), ("com/example/efcor/efcor/io/RecordWriter", "size", "I", (.int (0 : Int32)))])], [(c86, .byte, (own_arr 64 own_zero)), (c88, .byte, (own_arr 0 own_zero)), (r84, .byte, (own_arr 100 (own_upd (own_upd (own_upd own_zero 0 ((p2.toInt8.toInt32).toInt8.toInt32)) 50 ((p3.toInt8.toInt32).toInt8.toInt32)) 99 ((p4.toInt8.toInt32).toInt8.toInt32))))])) rfl ?_
        refine Run.callV K at_130 (pc' := 133) rfl (a := n85) (z := (⟨"com/example/efcor/efcor/io/RecordWriter", "writeBoolean", "(Z)Lcom/example/efcor/efcor/io/RecordWriter;"⟩ : MethodName)) (Cn := "com/example/efcor/efcor/io/RecordWriter") (i := 0) (hw _ (List.mem_of_getElem? (i := 31) rfl)) (hw _ (List.mem_of_getElem? (i := 32) rfl)) (hw _ (List.mem_of_getElem? (i := 34) rfl)) (hw _ (List.mem_of_getElem? (i := 33) rfl)) (hw _ (List.mem_of_getElem? (i := 3) rfl)) (hw _ (List.mem_of_getElem? (i := 35) rfl)) (by decide) rfl (wbool l Z a0 n0 hw [] (n85) ((0 : Int32)) (c86) (64) (own_zero) (0) ([]) ([(c88, .byte, (own_arr 0 own_zero)), (r84, .byte, (own_arr 100 (own_upd (own_upd (own_upd own_zero 0 ((p2.toInt8.toInt32).toInt8.toInt32)) 50 ((p3.toInt8.toInt32).toInt8.toInt32)) 99 ((p4.toInt8.toInt32).toInt8.toInt32))))]) (by decide) (by decide)) (argsL := [(.int (0 : Int32))]) (rest := []) rfl rfl pd_8 rfl (W := 0) rfl (by decide) (by decide) (cells' := 4) (slots' := 294) rfl rfl (by decide) (by decide) ?_
        intro vq Dq hq
        obtain ⟨c90, hc91, rfl, rfl⟩ := hq
        refine Run.as2 (D' := ([(n85, "com/example/efcor/efcor/io/RecordWriter", [("com/example/efcor/efcor/io/RecordWriter", "bytes", "[B", (.ref c86)), ("com/example/efcor/efcor/io/RecordWriter", "size", "I", (.int (1 : Int32)))])], [(c86, .byte, (own_arr 64 (own_upd own_zero 0 ((c90.toInt8.toInt32).toInt8.toInt32)))), (c88, .byte, (own_arr 0 own_zero)), (r84, .byte, (own_arr 100 (own_upd (own_upd (own_upd own_zero 0 ((p2.toInt8.toInt32).toInt8.toInt32)) 50 ((p3.toInt8.toInt32).toInt8.toInt32)) 99 ((p4.toInt8.toInt32).toInt8.toInt32))))])) (S' := [(.ref n85)]) rfl rfl ?_
        obtain rfl : c90 = (0 : Int32) := by rcases hc91 with ⟨q0, q⟩ | ⟨q0, q⟩ <;> first | exact q | exact absurd q0 (by decide)
        refine Run.pop K at_133 (pc' := 134) rfl rfl ?_
        refine Run.aload K at_134 (pc' := 136) rfl rfl rfl ?_
        refine Run.callV K at_136 (pc' := 139) rfl (a := n85) (z := (⟨"com/example/efcor/efcor/io/RecordWriter", "toBytes", "()[B"⟩ : MethodName)) (Cn := "com/example/efcor/efcor/io/RecordWriter") (i := 0) (hw _ (List.mem_of_getElem? (i := 12) rfl)) (hw _ (List.mem_of_getElem? (i := 13) rfl)) (hw _ (List.mem_of_getElem? (i := 15) rfl)) (hw _ (List.mem_of_getElem? (i := 14) rfl)) (hw _ (List.mem_of_getElem? (i := 3) rfl)) (hw _ (List.mem_of_getElem? (i := 16) rfl)) (by decide) rfl (tb_shr l Z a0 n0 hw [] (n85) (c86) (64) ((own_upd own_zero 0 (((0 : Int32).toInt8.toInt32).toInt8.toInt32))) (1) ([]) ([(c88, .byte, (own_arr 0 own_zero)), (r84, .byte, (own_arr 100 (own_upd (own_upd (own_upd own_zero 0 ((p2.toInt8.toInt32).toInt8.toInt32)) 50 ((p3.toInt8.toInt32).toInt8.toInt32)) 99 ((p4.toInt8.toInt32).toInt8.toInt32))))]) (by decide) (by decide)) (argsL := []) (rest := []) rfl rfl pd_7 rfl (W := 0) rfl (by decide) (by decide) (cells' := 5) (slots' := 422) rfl rfl (by decide) (by decide) ?_
        intro vq Dq hq
        obtain ⟨c92, rfl, rfl⟩ := hq
        refine Run.as2 (D' := ([(n85, "com/example/efcor/efcor/io/RecordWriter", [("com/example/efcor/efcor/io/RecordWriter", "bytes", "[B", (.ref c86)), ("com/example/efcor/efcor/io/RecordWriter", "size", "I", (.int (1 : Int32)))])], [(c92, .byte, (own_arr 1 (own_upd own_zero 0 (((0 : Int32).toInt8.toInt32).toInt8.toInt32)))), (c86, .byte, (own_arr 64 (own_upd own_zero 0 (((0 : Int32).toInt8.toInt32).toInt8.toInt32)))), (c88, .byte, (own_arr 0 own_zero)), (r84, .byte, (own_arr 100 (own_upd (own_upd (own_upd own_zero 0 ((p2.toInt8.toInt32).toInt8.toInt32)) 50 ((p3.toInt8.toInt32).toInt8.toInt32)) 99 ((p4.toInt8.toInt32).toInt8.toInt32))))])) (S' := [(.ref c92)]) rfl rfl ?_
        refine Run.astore K at_139 (pc' := 141) rfl rfl (L' := #[.val (.int p1), .val (.int p2), .val (.int p3), .val (.int p4), .val (.int p5), .val (.int (0 : Int32)), .val (.int (((p1.toUInt32 >>> ((1 : Int32) &&& 31).toUInt32).toInt32) % (3 : Int32))), .val (.int (100 : Int32)), .val (.ref r84), .val (.int (p5 &&& (127 : Int32))), .val (.int (0 : Int32)), .val (.ref n85), .val (.ref c88), .val (.ref c92), .unset, .unset, .unset]) rfl ?_
        refine Run.aload K at_141 (pc' := 143) rfl rfl rfl ?_
        refine Run.alen K at_143 (pc' := 144) rfl (i := 2) rfl (w := (0 : Int32)) (own_arr_len rfl) ?_
        refine Run.ifcF K at_144 (pT := 167) (pF := 147) (by decide) (by decide) rfl (show ¬ ((0 : Int32) ≠ (0 : Int32)) from by decide) ?_
        refine Run.aload K at_147 (pc' := 149) rfl rfl rfl ?_
        refine Run.alen K at_149 (pc' := 150) rfl (i := 0) rfl (w := (1 : Int32)) (own_arr_len rfl) ?_
        refine Run.iconst K at_150 (pc' := 151) rfl (v := (1 : Int32)) rfl ?_
        refine Run.icmpF K at_151 (pT := 167) (pF := 154) (by decide) (by decide) rfl (show ¬ ((1 : Int32) ≠ (1 : Int32)) from by decide) ?_
        refine Run.aload K at_154 (pc' := 156) rfl rfl rfl ?_
        refine Run.iconst K at_156 (pc' := 157) rfl (v := (0 : Int32)) rfl ?_
        refine Run.baload K at_157 (pc' := 158) rfl (i := 0) (q := 0) rfl (by decide) (by decide) (v := (.int (((0 : Int32).toInt8.toInt32).toInt8.toInt32))) (own_arr_get (by decide) (v := (((0 : Int32).toInt8.toInt32).toInt8.toInt32)) rfl) ?_
        refine Run.iload K at_158 (pc' := 160) rfl rfl ?_
        refine Run.icmpF K at_160 (pT := 167) (pF := 163) (by decide) (by decide) rfl (show ¬ ((((0 : Int32).toInt8.toInt32).toInt8.toInt32) ≠ (0 : Int32)) from fun h => h (by first | decide | exact own_idem _ | exact own_lastv _)) ?_
        refine Run.iconst K at_163 (pc' := 164) rfl (v := (1 : Int32)) rfl ?_
        refine Run.goto K at_164 (pc' := 168) (by decide) (by decide) ?_
        refine Run.istore K at_168 (pc' := 170) rfl (L' := #[.val (.int p1), .val (.int p2), .val (.int p3), .val (.int p4), .val (.int p5), .val (.int (0 : Int32)), .val (.int (((p1.toUInt32 >>> ((1 : Int32) &&& 31).toUInt32).toInt32) % (3 : Int32))), .val (.int (100 : Int32)), .val (.ref r84), .val (.int (p5 &&& (127 : Int32))), .val (.int (0 : Int32)), .val (.ref n85), .val (.ref c88), .val (.ref c92), .val (.int (1 : Int32)), .unset, .unset]) rfl ?_
        refine Run.iload K at_170 (pc' := 172) rfl rfl ?_
        refine Run.ifcF K at_172 (pT := 187) (pF := 175) (by decide) (by decide) rfl (show ¬ ((1 : Int32) = (0 : Int32)) from by decide) ?_
        refine Run.aload K at_175 (pc' := 177) rfl rfl rfl ?_
        refine Run.iconst K at_177 (pc' := 178) rfl (v := (0 : Int32)) rfl ?_
        refine Run.aload K at_178 (pc' := 180) rfl rfl rfl ?_
        refine Run.iconst K at_180 (pc' := 181) rfl (v := (0 : Int32)) rfl ?_
        refine Run.baload K at_181 (pc' := 182) rfl (i := 0) (q := 0) rfl (by decide) (by decide) (v := (.int (((0 : Int32).toInt8.toInt32).toInt8.toInt32))) (own_arr_get (by decide) (v := (((0 : Int32).toInt8.toInt32).toInt8.toInt32)) rfl) ?_
        refine Run.bipush K at_182 (pc' := 184) rfl (v := (85 : Int32)) rfl ?_
        refine Run.ixor K at_184 (pc' := 185) rfl ?_
        refine Run.i2b K at_185 (pc' := 186) rfl ?_
        refine Run.bastore K at_186 (pc' := 187) rfl (i := 0) (q := 0) rfl (by decide) (by decide) (v := (.int (((0 : Int32).toInt8.toInt32).toInt8.toInt32))) (own_arr_get (by decide) (v := (((0 : Int32).toInt8.toInt32).toInt8.toInt32)) rfl) (D' := ([(n85, "com/example/efcor/efcor/io/RecordWriter", [("com/example/efcor/efcor/io/RecordWriter", "bytes", "[B", (.ref c86)), ("com/example/efcor/efcor/io/RecordWriter", "size", "I", (.int (1 : Int32)))])], [(c92, .byte, ((own_arr 1 (own_upd own_zero 0 (((0 : Int32).toInt8.toInt32).toInt8.toInt32))).set 0 (.int (((((0 : Int32).toInt8.toInt32).toInt8.toInt32) ^^^ (85 : Int32)).toInt8.toInt32).toInt8.toInt32))), (c86, .byte, (own_arr 64 (own_upd own_zero 0 (((0 : Int32).toInt8.toInt32).toInt8.toInt32)))), (c88, .byte, (own_arr 0 own_zero)), (r84, .byte, (own_arr 100 (own_upd (own_upd (own_upd own_zero 0 ((p2.toInt8.toInt32).toInt8.toInt32)) 50 ((p3.toInt8.toInt32).toInt8.toInt32)) 99 ((p4.toInt8.toInt32).toInt8.toInt32))))])) rfl ?_
        refine Run.as (D' := ([(n85, "com/example/efcor/efcor/io/RecordWriter", [("com/example/efcor/efcor/io/RecordWriter", "bytes", "[B", (.ref c86)), ("com/example/efcor/efcor/io/RecordWriter", "size", "I", (.int (1 : Int32)))])], [(c92, .byte, (own_arr 1 (own_upd (own_upd own_zero 0 (((0 : Int32).toInt8.toInt32).toInt8.toInt32)) 0 ((((((0 : Int32).toInt8.toInt32).toInt8.toInt32) ^^^ (85 : Int32)).toInt8.toInt32).toInt8.toInt32)))), (c86, .byte, (own_arr 64 (own_upd own_zero 0 (((0 : Int32).toInt8.toInt32).toInt8.toInt32)))), (c88, .byte, (own_arr 0 own_zero)), (r84, .byte, (own_arr 100 (own_upd (own_upd (own_upd own_zero 0 ((p2.toInt8.toInt32).toInt8.toInt32)) 50 ((p3.toInt8.toInt32).toInt8.toInt32)) 99 ((p4.toInt8.toInt32).toInt8.toInt32))))])) (by rw [own_arr_set]) ?_
        refine Run.aload K at_187 (pc' := 189) rfl rfl rfl ?_
        refine Run.aload K at_189 (pc' := 191) rfl rfl rfl ?_
        refine Run.bring 0 3 (D' := ([(n85, "com/example/efcor/efcor/io/RecordWriter", [("com/example/efcor/efcor/io/RecordWriter", "bytes", "[B", (.ref c86)), ("com/example/efcor/efcor/io/RecordWriter", "size", "I", (.int (1 : Int32)))])], [(r84, .byte, (own_arr 100 (own_upd (own_upd (own_upd own_zero 0 ((p2.toInt8.toInt32).toInt8.toInt32)) 50 ((p3.toInt8.toInt32).toInt8.toInt32)) 99 ((p4.toInt8.toInt32).toInt8.toInt32)))), (c92, .byte, (own_arr 1 (own_upd (own_upd own_zero 0 (((0 : Int32).toInt8.toInt32).toInt8.toInt32)) 0 ((((((0 : Int32).toInt8.toInt32).toInt8.toInt32) ^^^ (85 : Int32)).toInt8.toInt32).toInt8.toInt32)))), (c86, .byte, (own_arr 64 (own_upd own_zero 0 (((0 : Int32).toInt8.toInt32).toInt8.toInt32)))), (c88, .byte, (own_arr 0 own_zero))])) rfl ?_
        refine Run.bring 0 2 (D' := ([(n85, "com/example/efcor/efcor/io/RecordWriter", [("com/example/efcor/efcor/io/RecordWriter", "bytes", "[B", (.ref c86)), ("com/example/efcor/efcor/io/RecordWriter", "size", "I", (.int (1 : Int32)))])], [(c86, .byte, (own_arr 64 (own_upd own_zero 0 (((0 : Int32).toInt8.toInt32).toInt8.toInt32)))), (r84, .byte, (own_arr 100 (own_upd (own_upd (own_upd own_zero 0 ((p2.toInt8.toInt32).toInt8.toInt32)) 50 ((p3.toInt8.toInt32).toInt8.toInt32)) 99 ((p4.toInt8.toInt32).toInt8.toInt32)))), (c92, .byte, (own_arr 1 (own_upd (own_upd own_zero 0 (((0 : Int32).toInt8.toInt32).toInt8.toInt32)) 0 ((((((0 : Int32).toInt8.toInt32).toInt8.toInt32) ^^^ (85 : Int32)).toInt8.toInt32).toInt8.toInt32)))), (c88, .byte, (own_arr 0 own_zero))])) rfl ?_
        refine Run.callV K at_191 (pc' := 194) rfl (a := n85) (z := (⟨"com/example/efcor/efcor/io/RecordWriter", "writeBytes", "([B)Lcom/example/efcor/efcor/io/RecordWriter;"⟩ : MethodName)) (Cn := "com/example/efcor/efcor/io/RecordWriter") (i := 0) (hw _ (List.mem_of_getElem? (i := 44) rfl)) (hw _ (List.mem_of_getElem? (i := 45) rfl)) (hw _ (List.mem_of_getElem? (i := 47) rfl)) (hw _ (List.mem_of_getElem? (i := 46) rfl)) (hw _ (List.mem_of_getElem? (i := 3) rfl)) (hw _ (List.mem_of_getElem? (i := 48) rfl)) (by decide) rfl (wb_100 l Z a0 n0 hw [] (n85) (r84) (c86) ((own_upd own_zero 0 (((0 : Int32).toInt8.toInt32).toInt8.toInt32))) ((own_upd (own_upd (own_upd own_zero 0 ((p2.toInt8.toInt32).toInt8.toInt32)) 50 ((p3.toInt8.toInt32).toInt8.toInt32)) 99 ((p4.toInt8.toInt32).toInt8.toInt32))) ([]) ([(c92, .byte, (own_arr 1 (own_upd (own_upd own_zero 0 (((0 : Int32).toInt8.toInt32).toInt8.toInt32)) 0 ((((((0 : Int32).toInt8.toInt32).toInt8.toInt32) ^^^ (85 : Int32)).toInt8.toInt32).toInt8.toInt32)))), (c88, .byte, (own_arr 0 own_zero))]) ) (argsL := [(.ref r84)]) (rest := []) rfl rfl pd_9 rfl (W := 0) rfl (by decide) (by decide) (cells' := 6) (slots' := 550) rfl rfl (by decide) (by decide) ?_
        intro vq Dq hq
        obtain ⟨c94, rfl, rfl⟩ := hq
        refine Run.as2 (D' := ([(n85, "com/example/efcor/efcor/io/RecordWriter", [("com/example/efcor/efcor/io/RecordWriter", "bytes", "[B", (.ref c94)), ("com/example/efcor/efcor/io/RecordWriter", "size", "I", (.int (102 : Int32)))])], [(c94, .byte, (own_arr 128 (own_put (own_cut (own_upd (own_upd own_zero 0 (((0 : Int32).toInt8.toInt32).toInt8.toInt32)) 1 ((((((100 : Int32).toInt64) &&& (4294967295 : Int64)).toInt32).toInt8.toInt32).toInt8.toInt32)) 64) 2 100 (own_upd (own_upd (own_upd own_zero 0 ((p2.toInt8.toInt32).toInt8.toInt32)) 50 ((p3.toInt8.toInt32).toInt8.toInt32)) 99 ((p4.toInt8.toInt32).toInt8.toInt32))))), (c86, .byte, (own_arr 64 (own_upd (own_upd own_zero 0 (((0 : Int32).toInt8.toInt32).toInt8.toInt32)) 1 ((((((100 : Int32).toInt64) &&& (4294967295 : Int64)).toInt32).toInt8.toInt32).toInt8.toInt32)))), (r84, .byte, (own_arr 100 (own_upd (own_upd (own_upd own_zero 0 ((p2.toInt8.toInt32).toInt8.toInt32)) 50 ((p3.toInt8.toInt32).toInt8.toInt32)) 99 ((p4.toInt8.toInt32).toInt8.toInt32)))), (c92, .byte, (own_arr 1 (own_upd (own_upd own_zero 0 (((0 : Int32).toInt8.toInt32).toInt8.toInt32)) 0 ((((((0 : Int32).toInt8.toInt32).toInt8.toInt32) ^^^ (85 : Int32)).toInt8.toInt32).toInt8.toInt32)))), (c88, .byte, (own_arr 0 own_zero))])) (S' := [(.ref n85)]) rfl rfl ?_
        refine Run.pop K at_194 (pc' := 195) rfl rfl ?_
        refine Run.aload K at_195 (pc' := 197) rfl rfl rfl ?_
        refine Run.iload K at_197 (pc' := 199) rfl rfl ?_
        refine Run.callV K at_199 (pc' := 202) rfl (a := n85) (z := (⟨"com/example/efcor/efcor/io/RecordWriter", "writeInt", "(I)Lcom/example/efcor/efcor/io/RecordWriter;"⟩ : MethodName)) (Cn := "com/example/efcor/efcor/io/RecordWriter") (i := 0) (hw _ (List.mem_of_getElem? (i := 62) rfl)) (hw _ (List.mem_of_getElem? (i := 50) rfl)) (hw _ (List.mem_of_getElem? (i := 52) rfl)) (hw _ (List.mem_of_getElem? (i := 51) rfl)) (hw _ (List.mem_of_getElem? (i := 3) rfl)) (hw _ (List.mem_of_getElem? (i := 53) rfl)) (by decide) rfl (wi_no l Z a0 n0 hw [] (n85) ((p5 &&& (127 : Int32))) (c94) (128) ((own_put (own_cut (own_upd (own_upd own_zero 0 (((0 : Int32).toInt8.toInt32).toInt8.toInt32)) 1 ((((((100 : Int32).toInt64) &&& (4294967295 : Int64)).toInt32).toInt8.toInt32).toInt8.toInt32)) 64) 2 100 (own_upd (own_upd (own_upd own_zero 0 ((p2.toInt8.toInt32).toInt8.toInt32)) 50 ((p3.toInt8.toInt32).toInt8.toInt32)) 99 ((p4.toInt8.toInt32).toInt8.toInt32)))) (102) ([]) ([(c86, .byte, (own_arr 64 (own_upd (own_upd own_zero 0 (((0 : Int32).toInt8.toInt32).toInt8.toInt32)) 1 ((((((100 : Int32).toInt64) &&& (4294967295 : Int64)).toInt32).toInt8.toInt32).toInt8.toInt32)))), (r84, .byte, (own_arr 100 (own_upd (own_upd (own_upd own_zero 0 ((p2.toInt8.toInt32).toInt8.toInt32)) 50 ((p3.toInt8.toInt32).toInt8.toInt32)) 99 ((p4.toInt8.toInt32).toInt8.toInt32)))), (c92, .byte, (own_arr 1 (own_upd (own_upd own_zero 0 (((0 : Int32).toInt8.toInt32).toInt8.toInt32)) 0 ((((((0 : Int32).toInt8.toInt32).toInt8.toInt32) ^^^ (85 : Int32)).toInt8.toInt32).toInt8.toInt32)))), (c88, .byte, (own_arr 0 own_zero))]) (own_last p5) (by decide) (by decide)) (argsL := [(.int (p5 &&& (127 : Int32)))]) (rest := []) rfl rfl pd_5 rfl (W := 0) rfl (by decide) (by decide) (cells' := 6) (slots' := 550) rfl rfl (by decide) (by decide) (Ret.k (S' := [(.ref n85)]) rfl ?_)
        refine Run.as (D' := ([(n85, "com/example/efcor/efcor/io/RecordWriter", [("com/example/efcor/efcor/io/RecordWriter", "bytes", "[B", (.ref c94)), ("com/example/efcor/efcor/io/RecordWriter", "size", "I", (.int (103 : Int32)))])], [(c94, .byte, (own_arr 128 (own_upd (own_put (own_cut (own_upd (own_upd own_zero 0 (((0 : Int32).toInt8.toInt32).toInt8.toInt32)) 1 ((((((100 : Int32).toInt64) &&& (4294967295 : Int64)).toInt32).toInt8.toInt32).toInt8.toInt32)) 64) 2 100 (own_upd (own_upd (own_upd own_zero 0 ((p2.toInt8.toInt32).toInt8.toInt32)) 50 ((p3.toInt8.toInt32).toInt8.toInt32)) 99 ((p4.toInt8.toInt32).toInt8.toInt32))) 102 ((((((p5 &&& (127 : Int32)).toInt64) &&& (4294967295 : Int64)).toInt32).toInt8.toInt32).toInt8.toInt32)))), (c86, .byte, (own_arr 64 (own_upd (own_upd own_zero 0 (((0 : Int32).toInt8.toInt32).toInt8.toInt32)) 1 ((((((100 : Int32).toInt64) &&& (4294967295 : Int64)).toInt32).toInt8.toInt32).toInt8.toInt32)))), (r84, .byte, (own_arr 100 (own_upd (own_upd (own_upd own_zero 0 ((p2.toInt8.toInt32).toInt8.toInt32)) 50 ((p3.toInt8.toInt32).toInt8.toInt32)) 99 ((p4.toInt8.toInt32).toInt8.toInt32)))), (c92, .byte, (own_arr 1 (own_upd (own_upd own_zero 0 (((0 : Int32).toInt8.toInt32).toInt8.toInt32)) 0 ((((((0 : Int32).toInt8.toInt32).toInt8.toInt32) ^^^ (85 : Int32)).toInt8.toInt32).toInt8.toInt32)))), (c88, .byte, (own_arr 0 own_zero))])) rfl ?_
        refine Run.pop K at_202 (pc' := 203) rfl rfl ?_
        refine Run.aload K at_203 (pc' := 205) rfl rfl rfl ?_
        refine Run.callV K at_205 (pc' := 208) rfl (a := n85) (z := (⟨"com/example/efcor/efcor/io/RecordWriter", "toBytes", "()[B"⟩ : MethodName)) (Cn := "com/example/efcor/efcor/io/RecordWriter") (i := 0) (hw _ (List.mem_of_getElem? (i := 12) rfl)) (hw _ (List.mem_of_getElem? (i := 13) rfl)) (hw _ (List.mem_of_getElem? (i := 15) rfl)) (hw _ (List.mem_of_getElem? (i := 14) rfl)) (hw _ (List.mem_of_getElem? (i := 3) rfl)) (hw _ (List.mem_of_getElem? (i := 16) rfl)) (by decide) rfl (tb_shr l Z a0 n0 hw [] (n85) (c94) (128) ((own_upd (own_put (own_cut (own_upd (own_upd own_zero 0 (((0 : Int32).toInt8.toInt32).toInt8.toInt32)) 1 ((((((100 : Int32).toInt64) &&& (4294967295 : Int64)).toInt32).toInt8.toInt32).toInt8.toInt32)) 64) 2 100 (own_upd (own_upd (own_upd own_zero 0 ((p2.toInt8.toInt32).toInt8.toInt32)) 50 ((p3.toInt8.toInt32).toInt8.toInt32)) 99 ((p4.toInt8.toInt32).toInt8.toInt32))) 102 ((((((p5 &&& (127 : Int32)).toInt64) &&& (4294967295 : Int64)).toInt32).toInt8.toInt32).toInt8.toInt32))) (103) ([]) ([(c86, .byte, (own_arr 64 (own_upd (own_upd own_zero 0 (((0 : Int32).toInt8.toInt32).toInt8.toInt32)) 1 ((((((100 : Int32).toInt64) &&& (4294967295 : Int64)).toInt32).toInt8.toInt32).toInt8.toInt32)))), (r84, .byte, (own_arr 100 (own_upd (own_upd (own_upd own_zero 0 ((p2.toInt8.toInt32).toInt8.toInt32)) 50 ((p3.toInt8.toInt32).toInt8.toInt32)) 99 ((p4.toInt8.toInt32).toInt8.toInt32)))), (c92, .byte, (own_arr 1 (own_upd (own_upd own_zero 0 (((0 : Int32).toInt8.toInt32).toInt8.toInt32)) 0 ((((((0 : Int32).toInt8.toInt32).toInt8.toInt32) ^^^ (85 : Int32)).toInt8.toInt32).toInt8.toInt32)))), (c88, .byte, (own_arr 0 own_zero))]) (by decide) (by decide)) (argsL := []) (rest := []) rfl rfl pd_7 rfl (W := 0) rfl (by decide) (by decide) (cells' := 7) (slots' := 678) rfl rfl (by decide) (by decide) ?_
        intro vq Dq hq
        obtain ⟨c96, rfl, rfl⟩ := hq
        refine Run.as2 (D' := ([(n85, "com/example/efcor/efcor/io/RecordWriter", [("com/example/efcor/efcor/io/RecordWriter", "bytes", "[B", (.ref c94)), ("com/example/efcor/efcor/io/RecordWriter", "size", "I", (.int (103 : Int32)))])], [(c96, .byte, (own_arr 103 (own_upd (own_put (own_cut (own_upd (own_upd own_zero 0 (((0 : Int32).toInt8.toInt32).toInt8.toInt32)) 1 ((((((100 : Int32).toInt64) &&& (4294967295 : Int64)).toInt32).toInt8.toInt32).toInt8.toInt32)) 64) 2 100 (own_upd (own_upd (own_upd own_zero 0 ((p2.toInt8.toInt32).toInt8.toInt32)) 50 ((p3.toInt8.toInt32).toInt8.toInt32)) 99 ((p4.toInt8.toInt32).toInt8.toInt32))) 102 ((((((p5 &&& (127 : Int32)).toInt64) &&& (4294967295 : Int64)).toInt32).toInt8.toInt32).toInt8.toInt32)))), (c94, .byte, (own_arr 128 (own_upd (own_put (own_cut (own_upd (own_upd own_zero 0 (((0 : Int32).toInt8.toInt32).toInt8.toInt32)) 1 ((((((100 : Int32).toInt64) &&& (4294967295 : Int64)).toInt32).toInt8.toInt32).toInt8.toInt32)) 64) 2 100 (own_upd (own_upd (own_upd own_zero 0 ((p2.toInt8.toInt32).toInt8.toInt32)) 50 ((p3.toInt8.toInt32).toInt8.toInt32)) 99 ((p4.toInt8.toInt32).toInt8.toInt32))) 102 ((((((p5 &&& (127 : Int32)).toInt64) &&& (4294967295 : Int64)).toInt32).toInt8.toInt32).toInt8.toInt32)))), (c86, .byte, (own_arr 64 (own_upd (own_upd own_zero 0 (((0 : Int32).toInt8.toInt32).toInt8.toInt32)) 1 ((((((100 : Int32).toInt64) &&& (4294967295 : Int64)).toInt32).toInt8.toInt32).toInt8.toInt32)))), (r84, .byte, (own_arr 100 (own_upd (own_upd (own_upd own_zero 0 ((p2.toInt8.toInt32).toInt8.toInt32)) 50 ((p3.toInt8.toInt32).toInt8.toInt32)) 99 ((p4.toInt8.toInt32).toInt8.toInt32)))), (c92, .byte, (own_arr 1 (own_upd (own_upd own_zero 0 (((0 : Int32).toInt8.toInt32).toInt8.toInt32)) 0 ((((((0 : Int32).toInt8.toInt32).toInt8.toInt32) ^^^ (85 : Int32)).toInt8.toInt32).toInt8.toInt32)))), (c88, .byte, (own_arr 0 own_zero))])) (S' := [(.ref c96)]) rfl rfl ?_
        refine Run.astore K at_208 (pc' := 210) rfl rfl (L' := #[.val (.int p1), .val (.int p2), .val (.int p3), .val (.int p4), .val (.int p5), .val (.int (0 : Int32)), .val (.int (((p1.toUInt32 >>> ((1 : Int32) &&& 31).toUInt32).toInt32) % (3 : Int32))), .val (.int (100 : Int32)), .val (.ref r84), .val (.int (p5 &&& (127 : Int32))), .val (.int (0 : Int32)), .val (.ref n85), .val (.ref c88), .val (.ref c92), .val (.int (1 : Int32)), .val (.ref c96), .unset]) rfl ?_
        refine Run.iload K at_210 (pc' := 212) rfl rfl ?_
        refine Run.ifcF K at_212 (pT := 303) (pF := 215) (by decide) (by decide) rfl (show ¬ ((1 : Int32) = (0 : Int32)) from by decide) ?_
        refine Run.aload K at_215 (pc' := 217) rfl rfl rfl ?_
        refine Run.alen K at_217 (pc' := 218) rfl (i := 0) rfl (w := (103 : Int32)) (own_arr_len rfl) ?_
        refine Run.iload K at_218 (pc' := 220) rfl rfl ?_
        refine Run.iconst K at_220 (pc' := 221) rfl (v := (3 : Int32)) rfl ?_
        refine Run.iaddV K at_221 (pc' := 222) rfl (v := (103 : Int32)) (by decide) ?_
        refine Run.icmpF K at_222 (pT := 303) (pF := 225) (by decide) (by decide) rfl (show ¬ ((103 : Int32) ≠ (103 : Int32)) from by decide) ?_
        refine Run.aload K at_225 (pc' := 227) rfl rfl rfl ?_
        refine Run.iconst K at_227 (pc' := 228) rfl (v := (0 : Int32)) rfl ?_
        refine Run.baload K at_228 (pc' := 229) rfl (i := 0) (q := 0) rfl (by decide) (by decide) (v := (.int (((0 : Int32).toInt8.toInt32).toInt8.toInt32))) (own_arr_get (by decide) (v := (((0 : Int32).toInt8.toInt32).toInt8.toInt32)) rfl) ?_
        refine Run.iload K at_229 (pc' := 231) rfl rfl ?_
        refine Run.icmpF K at_231 (pT := 303) (pF := 234) (by decide) (by decide) rfl (show ¬ ((((0 : Int32).toInt8.toInt32).toInt8.toInt32) ≠ (0 : Int32)) from fun h => h (by first | decide | exact own_idem _ | exact own_lastv _)) ?_
        refine Run.aload K at_234 (pc' := 236) rfl rfl rfl ?_
        refine Run.iconst K at_236 (pc' := 237) rfl (v := (1 : Int32)) rfl ?_
        refine Run.baload K at_237 (pc' := 238) rfl (i := 0) (q := 1) rfl (by decide) (by decide) (v := (.int ((((((100 : Int32).toInt64) &&& (4294967295 : Int64)).toInt32).toInt8.toInt32).toInt8.toInt32))) (own_arr_get (by decide) (v := ((((((100 : Int32).toInt64) &&& (4294967295 : Int64)).toInt32).toInt8.toInt32).toInt8.toInt32)) rfl) ?_
        refine Run.iload K at_238 (pc' := 240) rfl rfl ?_
        refine Run.i2bV K at_240 (pc' := 241) rfl (v := (100 : Int32)) (by decide) ?_
        refine Run.icmpF K at_241 (pT := 303) (pF := 244) (by decide) (by decide) rfl (show ¬ (((((((100 : Int32).toInt64) &&& (4294967295 : Int64)).toInt32).toInt8.toInt32).toInt8.toInt32) ≠ (100 : Int32)) from fun h => h (by first | decide | exact own_idem _ | exact own_lastv _)) ?_
        refine Run.aload K at_244 (pc' := 246) rfl rfl rfl ?_
        refine Run.iconst K at_246 (pc' := 247) rfl (v := (2 : Int32)) rfl ?_
        refine Run.baload K at_247 (pc' := 248) rfl (i := 0) (q := 2) rfl (by decide) (by decide) (v := (.int ((p2.toInt8.toInt32).toInt8.toInt32))) (own_arr_get (by decide) (v := ((p2.toInt8.toInt32).toInt8.toInt32)) rfl) ?_
        refine Run.iloadN K at_248 (pc' := 249) rfl rfl ?_
        refine Run.i2b K at_249 (pc' := 250) rfl ?_
        refine Run.icmpF K at_250 (pT := 303) (pF := 253) (by decide) (by decide) rfl (show ¬ (((p2.toInt8.toInt32).toInt8.toInt32) ≠ (p2.toInt8.toInt32)) from fun h => h (by first | decide | exact own_idem _ | exact own_lastv _)) ?_
        refine Run.aload K at_253 (pc' := 255) rfl rfl rfl ?_
        refine Run.iconst K at_255 (pc' := 256) rfl (v := (3 : Int32)) rfl ?_
        refine Run.baload K at_256 (pc' := 257) rfl (i := 0) (q := 3) rfl (by decide) (by decide) (v := (.int (0 : Int32))) (own_arr_get (by decide) (v := (0 : Int32)) rfl) ?_
        refine Run.ifcF K at_257 (pT := 303) (pF := 260) (by decide) (by decide) rfl (show ¬ ((0 : Int32) ≠ (0 : Int32)) from by decide) ?_
        refine Run.aload K at_260 (pc' := 262) rfl rfl rfl ?_
        refine Run.iconst K at_262 (pc' := 263) rfl (v := (2 : Int32)) rfl ?_
        refine Run.iload K at_263 (pc' := 265) rfl rfl ?_
        refine Run.iconst K at_265 (pc' := 266) rfl (v := (2 : Int32)) rfl ?_
        refine Run.idivV K at_266 (pc' := 267) rfl (by decide) (v := (50 : Int32)) (by decide) ?_
        refine Run.iaddV K at_267 (pc' := 268) rfl (v := (52 : Int32)) (by decide) ?_
        refine Run.baload K at_268 (pc' := 269) rfl (i := 0) (q := 52) rfl (by decide) (by decide) (v := (.int ((p3.toInt8.toInt32).toInt8.toInt32))) (own_arr_get (by decide) (v := ((p3.toInt8.toInt32).toInt8.toInt32)) rfl) ?_
        refine Run.iloadN K at_269 (pc' := 270) rfl rfl ?_
        refine Run.i2b K at_270 (pc' := 271) rfl ?_
        refine Run.icmpF K at_271 (pT := 303) (pF := 274) (by decide) (by decide) rfl (show ¬ (((p3.toInt8.toInt32).toInt8.toInt32) ≠ (p3.toInt8.toInt32)) from fun h => h (by first | decide | exact own_idem _ | exact own_lastv _)) ?_
        refine Run.aload K at_274 (pc' := 276) rfl rfl rfl ?_
        refine Run.iconst K at_276 (pc' := 277) rfl (v := (1 : Int32)) rfl ?_
        refine Run.iload K at_277 (pc' := 279) rfl rfl ?_
        refine Run.iaddV K at_279 (pc' := 280) rfl (v := (101 : Int32)) (by decide) ?_
        refine Run.baload K at_280 (pc' := 281) rfl (i := 0) (q := 101) rfl (by decide) (by decide) (v := (.int ((p4.toInt8.toInt32).toInt8.toInt32))) (own_arr_get (by decide) (v := ((p4.toInt8.toInt32).toInt8.toInt32)) rfl) ?_
        refine Run.iloadN K at_281 (pc' := 282) rfl rfl ?_
        refine Run.i2b K at_282 (pc' := 283) rfl ?_
        refine Run.icmpF K at_283 (pT := 303) (pF := 286) (by decide) (by decide) rfl (show ¬ (((p4.toInt8.toInt32).toInt8.toInt32) ≠ (p4.toInt8.toInt32)) from fun h => h (by first | decide | exact own_idem _ | exact own_lastv _)) ?_
        refine Run.aload K at_286 (pc' := 288) rfl rfl rfl ?_
        refine Run.iconst K at_288 (pc' := 289) rfl (v := (2 : Int32)) rfl ?_
        refine Run.iload K at_289 (pc' := 291) rfl rfl ?_
        refine Run.iaddV K at_291 (pc' := 292) rfl (v := (102 : Int32)) (by decide) ?_
        refine Run.baload K at_292 (pc' := 293) rfl (i := 0) (q := 102) rfl (by decide) (by decide) (v := (.int ((((((p5 &&& (127 : Int32)).toInt64) &&& (4294967295 : Int64)).toInt32).toInt8.toInt32).toInt8.toInt32))) (own_arr_get (by decide) (v := ((((((p5 &&& (127 : Int32)).toInt64) &&& (4294967295 : Int64)).toInt32).toInt8.toInt32).toInt8.toInt32)) rfl) ?_
        refine Run.iload K at_293 (pc' := 295) rfl rfl ?_
        refine Run.i2b K at_295 (pc' := 296) rfl ?_
        refine Run.icmpF K at_296 (pT := 303) (pF := 299) (by decide) (by decide) rfl (show ¬ (((((((p5 &&& (127 : Int32)).toInt64) &&& (4294967295 : Int64)).toInt32).toInt8.toInt32).toInt8.toInt32) ≠ ((p5 &&& (127 : Int32)).toInt8.toInt32)) from fun h => h (by first | decide | exact own_idem _ | exact own_lastv _)) ?_
        refine Run.iconst K at_299 (pc' := 300) rfl (v := (1 : Int32)) rfl ?_
        refine Run.goto K at_300 (pc' := 304) (by decide) (by decide) ?_
        refine Run.istore K at_304 (pc' := 306) rfl (L' := #[.val (.int p1), .val (.int p2), .val (.int p3), .val (.int p4), .val (.int p5), .val (.int (0 : Int32)), .val (.int (((p1.toUInt32 >>> ((1 : Int32) &&& 31).toUInt32).toInt32) % (3 : Int32))), .val (.int (100 : Int32)), .val (.ref r84), .val (.int (p5 &&& (127 : Int32))), .val (.int (0 : Int32)), .val (.ref n85), .val (.ref c88), .val (.ref c92), .val (.int (1 : Int32)), .val (.ref c96), .unset]) rfl ?_
        refine Run.iload K at_306 (pc' := 308) rfl rfl ?_
        refine Run.ifcF K at_308 (pT := 329) (pF := 311) (by decide) (by decide) rfl (show ¬ ((1 : Int32) = (0 : Int32)) from by decide) ?_
        refine Run.aload K at_311 (pc' := 313) rfl rfl rfl ?_
        refine Run.iconst K at_313 (pc' := 314) rfl (v := (2 : Int32)) rfl ?_
        refine Run.iload K at_314 (pc' := 316) rfl rfl ?_
        refine Run.iaddV K at_316 (pc' := 317) rfl (v := (102 : Int32)) (by decide) ?_
        refine Run.aload K at_317 (pc' := 319) rfl rfl rfl ?_
        refine Run.iconst K at_319 (pc' := 320) rfl (v := (2 : Int32)) rfl ?_
        refine Run.iload K at_320 (pc' := 322) rfl rfl ?_
        refine Run.iaddV K at_322 (pc' := 323) rfl (v := (102 : Int32)) (by decide) ?_
        refine Run.baload K at_323 (pc' := 324) rfl (i := 0) (q := 102) rfl (by decide) (by decide) (v := (.int ((((((p5 &&& (127 : Int32)).toInt64) &&& (4294967295 : Int64)).toInt32).toInt8.toInt32).toInt8.toInt32))) (own_arr_get (by decide) (v := ((((((p5 &&& (127 : Int32)).toInt64) &&& (4294967295 : Int64)).toInt32).toInt8.toInt32).toInt8.toInt32)) rfl) ?_
        refine Run.bipush K at_324 (pc' := 326) rfl (v := (85 : Int32)) rfl ?_
        refine Run.ixor K at_326 (pc' := 327) rfl ?_
        refine Run.i2b K at_327 (pc' := 328) rfl ?_
        refine Run.bastore K at_328 (pc' := 329) rfl (i := 0) (q := 102) rfl (by decide) (by decide) (v := (.int ((((((p5 &&& (127 : Int32)).toInt64) &&& (4294967295 : Int64)).toInt32).toInt8.toInt32).toInt8.toInt32))) (own_arr_get (by decide) (v := ((((((p5 &&& (127 : Int32)).toInt64) &&& (4294967295 : Int64)).toInt32).toInt8.toInt32).toInt8.toInt32)) rfl) (D' := ([(n85, "com/example/efcor/efcor/io/RecordWriter", [("com/example/efcor/efcor/io/RecordWriter", "bytes", "[B", (.ref c94)), ("com/example/efcor/efcor/io/RecordWriter", "size", "I", (.int (103 : Int32)))])], [(c96, .byte, ((own_arr 103 (own_upd (own_put (own_cut (own_upd (own_upd own_zero 0 (((0 : Int32).toInt8.toInt32).toInt8.toInt32)) 1 ((((((100 : Int32).toInt64) &&& (4294967295 : Int64)).toInt32).toInt8.toInt32).toInt8.toInt32)) 64) 2 100 (own_upd (own_upd (own_upd own_zero 0 ((p2.toInt8.toInt32).toInt8.toInt32)) 50 ((p3.toInt8.toInt32).toInt8.toInt32)) 99 ((p4.toInt8.toInt32).toInt8.toInt32))) 102 ((((((p5 &&& (127 : Int32)).toInt64) &&& (4294967295 : Int64)).toInt32).toInt8.toInt32).toInt8.toInt32))).set 102 (.int ((((((((p5 &&& (127 : Int32)).toInt64) &&& (4294967295 : Int64)).toInt32).toInt8.toInt32).toInt8.toInt32) ^^^ (85 : Int32)).toInt8.toInt32).toInt8.toInt32))), (c94, .byte, (own_arr 128 (own_upd (own_put (own_cut (own_upd (own_upd own_zero 0 (((0 : Int32).toInt8.toInt32).toInt8.toInt32)) 1 ((((((100 : Int32).toInt64) &&& (4294967295 : Int64)).toInt32).toInt8.toInt32).toInt8.toInt32)) 64) 2 100 (own_upd (own_upd (own_upd own_zero 0 ((p2.toInt8.toInt32).toInt8.toInt32)) 50 ((p3.toInt8.toInt32).toInt8.toInt32)) 99 ((p4.toInt8.toInt32).toInt8.toInt32))) 102 ((((((p5 &&& (127 : Int32)).toInt64) &&& (4294967295 : Int64)).toInt32).toInt8.toInt32).toInt8.toInt32)))), (c86, .byte, (own_arr 64 (own_upd (own_upd own_zero 0 (((0 : Int32).toInt8.toInt32).toInt8.toInt32)) 1 ((((((100 : Int32).toInt64) &&& (4294967295 : Int64)).toInt32).toInt8.toInt32).toInt8.toInt32)))), (r84, .byte, (own_arr 100 (own_upd (own_upd (own_upd own_zero 0 ((p2.toInt8.toInt32).toInt8.toInt32)) 50 ((p3.toInt8.toInt32).toInt8.toInt32)) 99 ((p4.toInt8.toInt32).toInt8.toInt32)))), (c92, .byte, (own_arr 1 (own_upd (own_upd own_zero 0 (((0 : Int32).toInt8.toInt32).toInt8.toInt32)) 0 ((((((0 : Int32).toInt8.toInt32).toInt8.toInt32) ^^^ (85 : Int32)).toInt8.toInt32).toInt8.toInt32)))), (c88, .byte, (own_arr 0 own_zero))])) rfl ?_
        refine Run.as (D' := ([(n85, "com/example/efcor/efcor/io/RecordWriter", [("com/example/efcor/efcor/io/RecordWriter", "bytes", "[B", (.ref c94)), ("com/example/efcor/efcor/io/RecordWriter", "size", "I", (.int (103 : Int32)))])], [(c96, .byte, (own_arr 103 (own_upd (own_upd (own_put (own_cut (own_upd (own_upd own_zero 0 (((0 : Int32).toInt8.toInt32).toInt8.toInt32)) 1 ((((((100 : Int32).toInt64) &&& (4294967295 : Int64)).toInt32).toInt8.toInt32).toInt8.toInt32)) 64) 2 100 (own_upd (own_upd (own_upd own_zero 0 ((p2.toInt8.toInt32).toInt8.toInt32)) 50 ((p3.toInt8.toInt32).toInt8.toInt32)) 99 ((p4.toInt8.toInt32).toInt8.toInt32))) 102 ((((((p5 &&& (127 : Int32)).toInt64) &&& (4294967295 : Int64)).toInt32).toInt8.toInt32).toInt8.toInt32)) 102 (((((((((p5 &&& (127 : Int32)).toInt64) &&& (4294967295 : Int64)).toInt32).toInt8.toInt32).toInt8.toInt32) ^^^ (85 : Int32)).toInt8.toInt32).toInt8.toInt32)))), (c94, .byte, (own_arr 128 (own_upd (own_put (own_cut (own_upd (own_upd own_zero 0 (((0 : Int32).toInt8.toInt32).toInt8.toInt32)) 1 ((((((100 : Int32).toInt64) &&& (4294967295 : Int64)).toInt32).toInt8.toInt32).toInt8.toInt32)) 64) 2 100 (own_upd (own_upd (own_upd own_zero 0 ((p2.toInt8.toInt32).toInt8.toInt32)) 50 ((p3.toInt8.toInt32).toInt8.toInt32)) 99 ((p4.toInt8.toInt32).toInt8.toInt32))) 102 ((((((p5 &&& (127 : Int32)).toInt64) &&& (4294967295 : Int64)).toInt32).toInt8.toInt32).toInt8.toInt32)))), (c86, .byte, (own_arr 64 (own_upd (own_upd own_zero 0 (((0 : Int32).toInt8.toInt32).toInt8.toInt32)) 1 ((((((100 : Int32).toInt64) &&& (4294967295 : Int64)).toInt32).toInt8.toInt32).toInt8.toInt32)))), (r84, .byte, (own_arr 100 (own_upd (own_upd (own_upd own_zero 0 ((p2.toInt8.toInt32).toInt8.toInt32)) 50 ((p3.toInt8.toInt32).toInt8.toInt32)) 99 ((p4.toInt8.toInt32).toInt8.toInt32)))), (c92, .byte, (own_arr 1 (own_upd (own_upd own_zero 0 (((0 : Int32).toInt8.toInt32).toInt8.toInt32)) 0 ((((((0 : Int32).toInt8.toInt32).toInt8.toInt32) ^^^ (85 : Int32)).toInt8.toInt32).toInt8.toInt32)))), (c88, .byte, (own_arr 0 own_zero))])) (by rw [own_arr_set]) ?_
        refine Run.aload K at_329 (pc' := 331) rfl rfl rfl ?_
        refine Run.bring 0 1 (D' := ([(n85, "com/example/efcor/efcor/io/RecordWriter", [("com/example/efcor/efcor/io/RecordWriter", "bytes", "[B", (.ref c94)), ("com/example/efcor/efcor/io/RecordWriter", "size", "I", (.int (103 : Int32)))])], [(c94, .byte, (own_arr 128 (own_upd (own_put (own_cut (own_upd (own_upd own_zero 0 (((0 : Int32).toInt8.toInt32).toInt8.toInt32)) 1 ((((((100 : Int32).toInt64) &&& (4294967295 : Int64)).toInt32).toInt8.toInt32).toInt8.toInt32)) 64) 2 100 (own_upd (own_upd (own_upd own_zero 0 ((p2.toInt8.toInt32).toInt8.toInt32)) 50 ((p3.toInt8.toInt32).toInt8.toInt32)) 99 ((p4.toInt8.toInt32).toInt8.toInt32))) 102 ((((((p5 &&& (127 : Int32)).toInt64) &&& (4294967295 : Int64)).toInt32).toInt8.toInt32).toInt8.toInt32)))), (c96, .byte, (own_arr 103 (own_upd (own_upd (own_put (own_cut (own_upd (own_upd own_zero 0 (((0 : Int32).toInt8.toInt32).toInt8.toInt32)) 1 ((((((100 : Int32).toInt64) &&& (4294967295 : Int64)).toInt32).toInt8.toInt32).toInt8.toInt32)) 64) 2 100 (own_upd (own_upd (own_upd own_zero 0 ((p2.toInt8.toInt32).toInt8.toInt32)) 50 ((p3.toInt8.toInt32).toInt8.toInt32)) 99 ((p4.toInt8.toInt32).toInt8.toInt32))) 102 ((((((p5 &&& (127 : Int32)).toInt64) &&& (4294967295 : Int64)).toInt32).toInt8.toInt32).toInt8.toInt32)) 102 (((((((((p5 &&& (127 : Int32)).toInt64) &&& (4294967295 : Int64)).toInt32).toInt8.toInt32).toInt8.toInt32) ^^^ (85 : Int32)).toInt8.toInt32).toInt8.toInt32)))), (c86, .byte, (own_arr 64 (own_upd (own_upd own_zero 0 (((0 : Int32).toInt8.toInt32).toInt8.toInt32)) 1 ((((((100 : Int32).toInt64) &&& (4294967295 : Int64)).toInt32).toInt8.toInt32).toInt8.toInt32)))), (r84, .byte, (own_arr 100 (own_upd (own_upd (own_upd own_zero 0 ((p2.toInt8.toInt32).toInt8.toInt32)) 50 ((p3.toInt8.toInt32).toInt8.toInt32)) 99 ((p4.toInt8.toInt32).toInt8.toInt32)))), (c92, .byte, (own_arr 1 (own_upd (own_upd own_zero 0 (((0 : Int32).toInt8.toInt32).toInt8.toInt32)) 0 ((((((0 : Int32).toInt8.toInt32).toInt8.toInt32) ^^^ (85 : Int32)).toInt8.toInt32).toInt8.toInt32)))), (c88, .byte, (own_arr 0 own_zero))])) rfl ?_
        refine Run.callV K at_331 (pc' := 334) rfl (a := n85) (z := (⟨"com/example/efcor/efcor/io/RecordWriter", "toBytes", "()[B"⟩ : MethodName)) (Cn := "com/example/efcor/efcor/io/RecordWriter") (i := 0) (hw _ (List.mem_of_getElem? (i := 12) rfl)) (hw _ (List.mem_of_getElem? (i := 13) rfl)) (hw _ (List.mem_of_getElem? (i := 15) rfl)) (hw _ (List.mem_of_getElem? (i := 14) rfl)) (hw _ (List.mem_of_getElem? (i := 3) rfl)) (hw _ (List.mem_of_getElem? (i := 16) rfl)) (by decide) rfl (tb_shr l Z a0 n0 hw [] (n85) (c94) (128) ((own_upd (own_put (own_cut (own_upd (own_upd own_zero 0 (((0 : Int32).toInt8.toInt32).toInt8.toInt32)) 1 ((((((100 : Int32).toInt64) &&& (4294967295 : Int64)).toInt32).toInt8.toInt32).toInt8.toInt32)) 64) 2 100 (own_upd (own_upd (own_upd own_zero 0 ((p2.toInt8.toInt32).toInt8.toInt32)) 50 ((p3.toInt8.toInt32).toInt8.toInt32)) 99 ((p4.toInt8.toInt32).toInt8.toInt32))) 102 ((((((p5 &&& (127 : Int32)).toInt64) &&& (4294967295 : Int64)).toInt32).toInt8.toInt32).toInt8.toInt32))) (103) ([]) ([(c96, .byte, (own_arr 103 (own_upd (own_upd (own_put (own_cut (own_upd (own_upd own_zero 0 (((0 : Int32).toInt8.toInt32).toInt8.toInt32)) 1 ((((((100 : Int32).toInt64) &&& (4294967295 : Int64)).toInt32).toInt8.toInt32).toInt8.toInt32)) 64) 2 100 (own_upd (own_upd (own_upd own_zero 0 ((p2.toInt8.toInt32).toInt8.toInt32)) 50 ((p3.toInt8.toInt32).toInt8.toInt32)) 99 ((p4.toInt8.toInt32).toInt8.toInt32))) 102 ((((((p5 &&& (127 : Int32)).toInt64) &&& (4294967295 : Int64)).toInt32).toInt8.toInt32).toInt8.toInt32)) 102 (((((((((p5 &&& (127 : Int32)).toInt64) &&& (4294967295 : Int64)).toInt32).toInt8.toInt32).toInt8.toInt32) ^^^ (85 : Int32)).toInt8.toInt32).toInt8.toInt32)))), (c86, .byte, (own_arr 64 (own_upd (own_upd own_zero 0 (((0 : Int32).toInt8.toInt32).toInt8.toInt32)) 1 ((((((100 : Int32).toInt64) &&& (4294967295 : Int64)).toInt32).toInt8.toInt32).toInt8.toInt32)))), (r84, .byte, (own_arr 100 (own_upd (own_upd (own_upd own_zero 0 ((p2.toInt8.toInt32).toInt8.toInt32)) 50 ((p3.toInt8.toInt32).toInt8.toInt32)) 99 ((p4.toInt8.toInt32).toInt8.toInt32)))), (c92, .byte, (own_arr 1 (own_upd (own_upd own_zero 0 (((0 : Int32).toInt8.toInt32).toInt8.toInt32)) 0 ((((((0 : Int32).toInt8.toInt32).toInt8.toInt32) ^^^ (85 : Int32)).toInt8.toInt32).toInt8.toInt32)))), (c88, .byte, (own_arr 0 own_zero))]) (by decide) (by decide)) (argsL := []) (rest := []) rfl rfl pd_7 rfl (W := 0) rfl (by decide) (by decide) (cells' := 8) (slots' := 806) rfl rfl (by decide) (by decide) ?_
        intro vq Dq hq
        obtain ⟨c98, rfl, rfl⟩ := hq
        refine Run.as2 (D' := ([(n85, "com/example/efcor/efcor/io/RecordWriter", [("com/example/efcor/efcor/io/RecordWriter", "bytes", "[B", (.ref c94)), ("com/example/efcor/efcor/io/RecordWriter", "size", "I", (.int (103 : Int32)))])], [(c98, .byte, (own_arr 103 (own_upd (own_put (own_cut (own_upd (own_upd own_zero 0 (((0 : Int32).toInt8.toInt32).toInt8.toInt32)) 1 ((((((100 : Int32).toInt64) &&& (4294967295 : Int64)).toInt32).toInt8.toInt32).toInt8.toInt32)) 64) 2 100 (own_upd (own_upd (own_upd own_zero 0 ((p2.toInt8.toInt32).toInt8.toInt32)) 50 ((p3.toInt8.toInt32).toInt8.toInt32)) 99 ((p4.toInt8.toInt32).toInt8.toInt32))) 102 ((((((p5 &&& (127 : Int32)).toInt64) &&& (4294967295 : Int64)).toInt32).toInt8.toInt32).toInt8.toInt32)))), (c94, .byte, (own_arr 128 (own_upd (own_put (own_cut (own_upd (own_upd own_zero 0 (((0 : Int32).toInt8.toInt32).toInt8.toInt32)) 1 ((((((100 : Int32).toInt64) &&& (4294967295 : Int64)).toInt32).toInt8.toInt32).toInt8.toInt32)) 64) 2 100 (own_upd (own_upd (own_upd own_zero 0 ((p2.toInt8.toInt32).toInt8.toInt32)) 50 ((p3.toInt8.toInt32).toInt8.toInt32)) 99 ((p4.toInt8.toInt32).toInt8.toInt32))) 102 ((((((p5 &&& (127 : Int32)).toInt64) &&& (4294967295 : Int64)).toInt32).toInt8.toInt32).toInt8.toInt32)))), (c96, .byte, (own_arr 103 (own_upd (own_upd (own_put (own_cut (own_upd (own_upd own_zero 0 (((0 : Int32).toInt8.toInt32).toInt8.toInt32)) 1 ((((((100 : Int32).toInt64) &&& (4294967295 : Int64)).toInt32).toInt8.toInt32).toInt8.toInt32)) 64) 2 100 (own_upd (own_upd (own_upd own_zero 0 ((p2.toInt8.toInt32).toInt8.toInt32)) 50 ((p3.toInt8.toInt32).toInt8.toInt32)) 99 ((p4.toInt8.toInt32).toInt8.toInt32))) 102 ((((((p5 &&& (127 : Int32)).toInt64) &&& (4294967295 : Int64)).toInt32).toInt8.toInt32).toInt8.toInt32)) 102 (((((((((p5 &&& (127 : Int32)).toInt64) &&& (4294967295 : Int64)).toInt32).toInt8.toInt32).toInt8.toInt32) ^^^ (85 : Int32)).toInt8.toInt32).toInt8.toInt32)))), (c86, .byte, (own_arr 64 (own_upd (own_upd own_zero 0 (((0 : Int32).toInt8.toInt32).toInt8.toInt32)) 1 ((((((100 : Int32).toInt64) &&& (4294967295 : Int64)).toInt32).toInt8.toInt32).toInt8.toInt32)))), (r84, .byte, (own_arr 100 (own_upd (own_upd (own_upd own_zero 0 ((p2.toInt8.toInt32).toInt8.toInt32)) 50 ((p3.toInt8.toInt32).toInt8.toInt32)) 99 ((p4.toInt8.toInt32).toInt8.toInt32)))), (c92, .byte, (own_arr 1 (own_upd (own_upd own_zero 0 (((0 : Int32).toInt8.toInt32).toInt8.toInt32)) 0 ((((((0 : Int32).toInt8.toInt32).toInt8.toInt32) ^^^ (85 : Int32)).toInt8.toInt32).toInt8.toInt32)))), (c88, .byte, (own_arr 0 own_zero))])) (S' := [(.ref c98)]) rfl rfl ?_
        refine Run.astore K at_334 (pc' := 336) rfl rfl (L' := #[.val (.int p1), .val (.int p2), .val (.int p3), .val (.int p4), .val (.int p5), .val (.int (0 : Int32)), .val (.int (((p1.toUInt32 >>> ((1 : Int32) &&& 31).toUInt32).toInt32) % (3 : Int32))), .val (.int (100 : Int32)), .val (.ref r84), .val (.int (p5 &&& (127 : Int32))), .val (.int (0 : Int32)), .val (.ref n85), .val (.ref c88), .val (.ref c92), .val (.int (1 : Int32)), .val (.ref c96), .val (.ref c98)]) rfl ?_
        refine Run.iload K at_336 (pc' := 338) rfl rfl ?_
        refine Run.ifcF K at_338 (pT := 384) (pF := 341) (by decide) (by decide) rfl (show ¬ ((1 : Int32) = (0 : Int32)) from by decide) ?_
        refine Run.aload K at_341 (pc' := 343) rfl rfl rfl ?_
        refine Run.aload K at_343 (pc' := 345) rfl rfl rfl ?_
        refine Run.acmpF K at_345 (pF := 348) rfl (i := 0) (j := 2) rfl rfl rfl rfl (by decide) ?_
        refine Run.aload K at_348 (pc' := 350) rfl rfl rfl ?_
        refine Run.alen K at_350 (pc' := 351) rfl (i := 0) rfl (w := (103 : Int32)) (own_arr_len rfl) ?_
        refine Run.iload K at_351 (pc' := 353) rfl rfl ?_
        refine Run.iconst K at_353 (pc' := 354) rfl (v := (3 : Int32)) rfl ?_
        refine Run.iaddV K at_354 (pc' := 355) rfl (v := (103 : Int32)) (by decide) ?_
        refine Run.icmpF K at_355 (pT := 384) (pF := 358) (by decide) (by decide) rfl (show ¬ ((103 : Int32) ≠ (103 : Int32)) from by decide) ?_
        refine Run.aload K at_358 (pc' := 360) rfl rfl rfl ?_
        refine Run.iconst K at_360 (pc' := 361) rfl (v := (0 : Int32)) rfl ?_
        refine Run.baload K at_361 (pc' := 362) rfl (i := 0) (q := 0) rfl (by decide) (by decide) (v := (.int (((0 : Int32).toInt8.toInt32).toInt8.toInt32))) (own_arr_get (by decide) (v := (((0 : Int32).toInt8.toInt32).toInt8.toInt32)) rfl) ?_
        refine Run.iload K at_362 (pc' := 364) rfl rfl ?_
        refine Run.icmpF K at_364 (pT := 384) (pF := 367) (by decide) (by decide) rfl (show ¬ ((((0 : Int32).toInt8.toInt32).toInt8.toInt32) ≠ (0 : Int32)) from fun h => h (by first | decide | exact own_idem _ | exact own_lastv _)) ?_
        refine Run.aload K at_367 (pc' := 369) rfl rfl rfl ?_
        refine Run.iconst K at_369 (pc' := 370) rfl (v := (2 : Int32)) rfl ?_
        refine Run.iload K at_370 (pc' := 372) rfl rfl ?_
        refine Run.iaddV K at_372 (pc' := 373) rfl (v := (102 : Int32)) (by decide) ?_
        refine Run.baload K at_373 (pc' := 374) rfl (i := 0) (q := 102) rfl (by decide) (by decide) (v := (.int ((((((p5 &&& (127 : Int32)).toInt64) &&& (4294967295 : Int64)).toInt32).toInt8.toInt32).toInt8.toInt32))) (own_arr_get (by decide) (v := ((((((p5 &&& (127 : Int32)).toInt64) &&& (4294967295 : Int64)).toInt32).toInt8.toInt32).toInt8.toInt32)) rfl) ?_
        refine Run.iload K at_374 (pc' := 376) rfl rfl ?_
        refine Run.i2b K at_376 (pc' := 377) rfl ?_
        refine Run.icmpF K at_377 (pT := 384) (pF := 380) (by decide) (by decide) rfl (show ¬ (((((((p5 &&& (127 : Int32)).toInt64) &&& (4294967295 : Int64)).toInt32).toInt8.toInt32).toInt8.toInt32) ≠ ((p5 &&& (127 : Int32)).toInt8.toInt32)) from fun h => h (by first | decide | exact own_idem _ | exact own_lastv _)) ?_
        refine Run.iconst K at_380 (pc' := 381) rfl (v := (1 : Int32)) rfl ?_
        refine Run.goto K at_381 (pc' := 385) (by decide) (by decide) ?_
        refine Run.istore K at_385 (pc' := 387) rfl (L' := #[.val (.int p1), .val (.int p2), .val (.int p3), .val (.int p4), .val (.int p5), .val (.int (0 : Int32)), .val (.int (((p1.toUInt32 >>> ((1 : Int32) &&& 31).toUInt32).toInt32) % (3 : Int32))), .val (.int (100 : Int32)), .val (.ref r84), .val (.int (p5 &&& (127 : Int32))), .val (.int (0 : Int32)), .val (.ref n85), .val (.ref c88), .val (.ref c92), .val (.int (1 : Int32)), .val (.ref c96), .val (.ref c98)]) rfl ?_
        refine Run.iload K at_387 (pc' := 389) rfl rfl ?_
        exact Run.retN K at_389 (w := (1 : Int32)) rfl (by decide) (by decide) (by decide) (by decide) rfl
      · skip
        refine Run.bipush K at_44 (pc' := 46) rfl (v := (62 : Int32)) rfl ?_
        refine Run.istore K at_46 (pc' := 48) rfl (L' := #[.val (.int p1), .val (.int p2), .val (.int p3), .val (.int p4), .val (.int p5), .val (.int (0 : Int32)), .val (.int (((p1.toUInt32 >>> ((1 : Int32) &&& 31).toUInt32).toInt32) % (3 : Int32))), .val (.int (62 : Int32)), .unset, .unset, .unset, .unset, .unset, .unset, .unset, .unset, .unset]) rfl ?_
        refine Run.bipush K at_48 (pc' := 50) rfl (v := (62 : Int32)) rfl ?_
        refine Run.newA K at_50 (pc' := 52) rfl (ty := .byte) rfl (hw _ (List.mem_of_getElem? (i := 0) rfl)) (by decide) (vs := (own_arr 62 own_zero)) (own_arr_new' (by decide)) (cap := 62) (by decide) (by decide) (cells' := 1) (slots' := 62) rfl rfl (by decide) (by decide) rfl (fun r100 => ?_)
        refine Run.as (D' := ([], [(r100, .byte, (own_arr 62 own_zero))])) rfl ?_
        refine Run.astore K at_52 (pc' := 54) rfl rfl (L' := #[.val (.int p1), .val (.int p2), .val (.int p3), .val (.int p4), .val (.int p5), .val (.int (0 : Int32)), .val (.int (((p1.toUInt32 >>> ((1 : Int32) &&& 31).toUInt32).toInt32) % (3 : Int32))), .val (.int (62 : Int32)), .val (.ref r100), .unset, .unset, .unset, .unset, .unset, .unset, .unset, .unset]) rfl ?_
        refine Run.goto K at_54 (pc' := 67) (by decide) (by decide) ?_
        refine Run.aload K at_67 (pc' := 69) rfl rfl rfl ?_
        refine Run.iconst K at_69 (pc' := 70) rfl (v := (0 : Int32)) rfl ?_
        refine Run.iloadN K at_70 (pc' := 71) rfl rfl ?_
        refine Run.i2b K at_71 (pc' := 72) rfl ?_
        refine Run.bastore K at_72 (pc' := 73) rfl (i := 0) (q := 0) rfl (by decide) (by decide) (v := (.int (0 : Int32))) (own_arr_get (by decide) (v := (0 : Int32)) rfl) (D' := ([], [(r100, .byte, ((own_arr 62 own_zero).set 0 (.int (p2.toInt8.toInt32).toInt8.toInt32)))])) rfl ?_
        refine Run.as (D' := ([], [(r100, .byte, (own_arr 62 (own_upd own_zero 0 ((p2.toInt8.toInt32).toInt8.toInt32))))])) (by rw [own_arr_set]) ?_
        refine Run.aload K at_73 (pc' := 75) rfl rfl rfl ?_
        refine Run.iload K at_75 (pc' := 77) rfl rfl ?_
        refine Run.iconst K at_77 (pc' := 78) rfl (v := (2 : Int32)) rfl ?_
        refine Run.idivV K at_78 (pc' := 79) rfl (by decide) (v := (31 : Int32)) (by decide) ?_
        refine Run.iloadN K at_79 (pc' := 80) rfl rfl ?_
        refine Run.i2b K at_80 (pc' := 81) rfl ?_
        refine Run.bastore K at_81 (pc' := 82) rfl (i := 0) (q := 31) rfl (by decide) (by decide) (v := (.int (0 : Int32))) (own_arr_get (by decide) (v := (0 : Int32)) rfl) (D' := ([], [(r100, .byte, ((own_arr 62 (own_upd own_zero 0 ((p2.toInt8.toInt32).toInt8.toInt32))).set 31 (.int (p3.toInt8.toInt32).toInt8.toInt32)))])) rfl ?_
        refine Run.as (D' := ([], [(r100, .byte, (own_arr 62 (own_upd (own_upd own_zero 0 ((p2.toInt8.toInt32).toInt8.toInt32)) 31 ((p3.toInt8.toInt32).toInt8.toInt32))))])) (by rw [own_arr_set]) ?_
        refine Run.aload K at_82 (pc' := 84) rfl rfl rfl ?_
        refine Run.iload K at_84 (pc' := 86) rfl rfl ?_
        refine Run.iconst K at_86 (pc' := 87) rfl (v := (1 : Int32)) rfl ?_
        refine Run.isubV K at_87 (pc' := 88) rfl (v := (61 : Int32)) (by decide) ?_
        refine Run.iloadN K at_88 (pc' := 89) rfl rfl ?_
        refine Run.i2b K at_89 (pc' := 90) rfl ?_
        refine Run.bastore K at_90 (pc' := 91) rfl (i := 0) (q := 61) rfl (by decide) (by decide) (v := (.int (0 : Int32))) (own_arr_get (by decide) (v := (0 : Int32)) rfl) (D' := ([], [(r100, .byte, ((own_arr 62 (own_upd (own_upd own_zero 0 ((p2.toInt8.toInt32).toInt8.toInt32)) 31 ((p3.toInt8.toInt32).toInt8.toInt32))).set 61 (.int (p4.toInt8.toInt32).toInt8.toInt32)))])) rfl ?_
        refine Run.as (D' := ([], [(r100, .byte, (own_arr 62 (own_upd (own_upd (own_upd own_zero 0 ((p2.toInt8.toInt32).toInt8.toInt32)) 31 ((p3.toInt8.toInt32).toInt8.toInt32)) 61 ((p4.toInt8.toInt32).toInt8.toInt32))))])) (by rw [own_arr_set]) ?_
        refine Run.iload K at_91 (pc' := 93) rfl rfl ?_
        refine Run.bipush K at_93 (pc' := 95) rfl (v := (127 : Int32)) rfl ?_
        refine Run.iand K at_95 (pc' := 96) rfl ?_
        refine Run.istore K at_96 (pc' := 98) rfl (L' := #[.val (.int p1), .val (.int p2), .val (.int p3), .val (.int p4), .val (.int p5), .val (.int (0 : Int32)), .val (.int (((p1.toUInt32 >>> ((1 : Int32) &&& 31).toUInt32).toInt32) % (3 : Int32))), .val (.int (62 : Int32)), .val (.ref r100), .val (.int (p5 &&& (127 : Int32))), .unset, .unset, .unset, .unset, .unset, .unset, .unset]) rfl ?_
        refine Run.iload K at_98 (pc' := 100) rfl rfl ?_
        refine Run.ifcT K at_100 (pT := 107) (pF := 103) (by decide) (by decide) rfl (show (0 : Int32) = (0 : Int32) from by decide) ?_
        refine Run.iconst K at_107 (pc' := 108) rfl (v := (0 : Int32)) rfl ?_
        refine Run.istore K at_108 (pc' := 110) rfl (L' := #[.val (.int p1), .val (.int p2), .val (.int p3), .val (.int p4), .val (.int p5), .val (.int (0 : Int32)), .val (.int (((p1.toUInt32 >>> ((1 : Int32) &&& 31).toUInt32).toInt32) % (3 : Int32))), .val (.int (62 : Int32)), .val (.ref r100), .val (.int (p5 &&& (127 : Int32))), .val (.int (0 : Int32)), .unset, .unset, .unset, .unset, .unset, .unset]) rfl ?_
        refine Run.newO K at_110 (pc' := 113) rfl (hw _ (List.mem_of_getElem? (i := 1) rfl)) (hw _ (List.mem_of_getElem? (i := 2) rfl)) (hw _ (List.mem_of_getElem? (i := 3) rfl)) (fs_0 hw) (cells' := 2) (slots' := 64) rfl rfl (by decide) (by decide) (fun n101 => ?_)
        refine Run.as (D' := ([(n101, "com/example/efcor/efcor/io/RecordWriter", [("com/example/efcor/efcor/io/RecordWriter", "bytes", "[B", .null), ("com/example/efcor/efcor/io/RecordWriter", "size", "I", (.int (0 : Int32)))])], [(r100, .byte, (own_arr 62 (own_upd (own_upd (own_upd own_zero 0 ((p2.toInt8.toInt32).toInt8.toInt32)) 31 ((p3.toInt8.toInt32).toInt8.toInt32)) 61 ((p4.toInt8.toInt32).toInt8.toInt32))))])) rfl ?_
        refine Run.dup K at_113 (pc' := 114) rfl rfl ?_
        refine Run.callI K at_114 (pc' := 117) rfl rfl (hw _ (List.mem_of_getElem? (i := 4) rfl)) (hw _ (List.mem_of_getElem? (i := 5) rfl)) (hw _ (List.mem_of_getElem? (i := 3) rfl)) (hw _ (List.mem_of_getElem? (i := 6) rfl)) (by decide) (a := n101) (rm1 l Z a0 n0 hw [] (n101) (.null) ((0 : Int32)) ([]) ([(r100, .byte, (own_arr 62 (own_upd (own_upd (own_upd own_zero 0 ((p2.toInt8.toInt32).toInt8.toInt32)) 31 ((p3.toInt8.toInt32).toInt8.toInt32)) 61 ((p4.toInt8.toInt32).toInt8.toInt32))))]) ) (argsL := []) (rest := [(.ref n101)]) rfl rfl pd_6 rfl (W := 1) rfl (by decide) (by decide) (cells' := 3) (slots' := 128) rfl rfl (by decide) (by decide) ?_
        intro vq Dq hq
        obtain ⟨c102, rfl, rfl⟩ := hq
        refine Run.as2 (D' := ([(n101, "com/example/efcor/efcor/io/RecordWriter", [("com/example/efcor/efcor/io/RecordWriter", "bytes", "[B", (.ref c102)), ("com/example/efcor/efcor/io/RecordWriter", "size", "I", (.int (0 : Int32)))])], [(c102, .byte, (own_arr 64 own_zero)), (r100, .byte, (own_arr 62 (own_upd (own_upd (own_upd own_zero 0 ((p2.toInt8.toInt32).toInt8.toInt32)) 31 ((p3.toInt8.toInt32).toInt8.toInt32)) 61 ((p4.toInt8.toInt32).toInt8.toInt32))))])) (S' := [(.ref n101)]) rfl rfl ?_
        refine Run.astore K at_117 (pc' := 119) rfl rfl (L' := #[.val (.int p1), .val (.int p2), .val (.int p3), .val (.int p4), .val (.int p5), .val (.int (0 : Int32)), .val (.int (((p1.toUInt32 >>> ((1 : Int32) &&& 31).toUInt32).toInt32) % (3 : Int32))), .val (.int (62 : Int32)), .val (.ref r100), .val (.int (p5 &&& (127 : Int32))), .val (.int (0 : Int32)), .val (.ref n101), .unset, .unset, .unset, .unset, .unset]) rfl ?_
        refine Run.aload K at_119 (pc' := 121) rfl rfl rfl ?_
        refine Run.callV K at_121 (pc' := 124) rfl (a := n101) (z := (⟨"com/example/efcor/efcor/io/RecordWriter", "toBytes", "()[B"⟩ : MethodName)) (Cn := "com/example/efcor/efcor/io/RecordWriter") (i := 0) (hw _ (List.mem_of_getElem? (i := 12) rfl)) (hw _ (List.mem_of_getElem? (i := 13) rfl)) (hw _ (List.mem_of_getElem? (i := 15) rfl)) (hw _ (List.mem_of_getElem? (i := 14) rfl)) (hw _ (List.mem_of_getElem? (i := 3) rfl)) (hw _ (List.mem_of_getElem? (i := 16) rfl)) (by decide) rfl (tb_shr l Z a0 n0 hw [] (n101) (c102) (64) (own_zero) (0) ([]) ([(r100, .byte, (own_arr 62 (own_upd (own_upd (own_upd own_zero 0 ((p2.toInt8.toInt32).toInt8.toInt32)) 31 ((p3.toInt8.toInt32).toInt8.toInt32)) 61 ((p4.toInt8.toInt32).toInt8.toInt32))))]) (by decide) (by decide)) (argsL := []) (rest := []) rfl rfl pd_7 rfl (W := 0) rfl (by decide) (by decide) (cells' := 4) (slots' := 256) rfl rfl (by decide) (by decide) ?_
        intro vq Dq hq
        obtain ⟨c104, rfl, rfl⟩ := hq
        refine Run.as2 (D' := ([(n101, "com/example/efcor/efcor/io/RecordWriter", [("com/example/efcor/efcor/io/RecordWriter", "bytes", "[B", (.ref c102)), ("com/example/efcor/efcor/io/RecordWriter", "size", "I", (.int (0 : Int32)))])], [(c104, .byte, (own_arr 0 own_zero)), (c102, .byte, (own_arr 64 own_zero)), (r100, .byte, (own_arr 62 (own_upd (own_upd (own_upd own_zero 0 ((p2.toInt8.toInt32).toInt8.toInt32)) 31 ((p3.toInt8.toInt32).toInt8.toInt32)) 61 ((p4.toInt8.toInt32).toInt8.toInt32))))])) (S' := [(.ref c104)]) rfl rfl ?_
        refine Run.astore K at_124 (pc' := 126) rfl rfl (L' := #[.val (.int p1), .val (.int p2), .val (.int p3), .val (.int p4), .val (.int p5), .val (.int (0 : Int32)), .val (.int (((p1.toUInt32 >>> ((1 : Int32) &&& 31).toUInt32).toInt32) % (3 : Int32))), .val (.int (62 : Int32)), .val (.ref r100), .val (.int (p5 &&& (127 : Int32))), .val (.int (0 : Int32)), .val (.ref n101), .val (.ref c104), .unset, .unset, .unset, .unset]) rfl ?_
        refine Run.aload K at_126 (pc' := 128) rfl rfl rfl ?_
        refine Run.iload K at_128 (pc' := 130) rfl rfl ?_
        refine Run.bring 0 1 (D' := ([(n101, "com/example/efcor/efcor/io/RecordWriter", [("com/example/efcor/efcor/io/RecordWriter", "bytes", "[B", (.ref c102)), ("com/example/efcor/efcor/io/RecordWriter", "size", "I", (.int (0 : Int32)))])], [(c102, .byte, (own_arr 64 own_zero)), (c104, .byte, (own_arr 0 own_zero)), (r100, .byte, (own_arr 62 (own_upd (own_upd (own_upd own_zero 0 ((p2.toInt8.toInt32).toInt8.toInt32)) 31 ((p3.toInt8.toInt32).toInt8.toInt32)) 61 ((p4.toInt8.toInt32).toInt8.toInt32))))])) rfl ?_
        refine Run.callV K at_130 (pc' := 133) rfl (a := n101) (z := (⟨"com/example/efcor/efcor/io/RecordWriter", "writeBoolean", "(Z)Lcom/example/efcor/efcor/io/RecordWriter;"⟩ : MethodName)) (Cn := "com/example/efcor/efcor/io/RecordWriter") (i := 0) (hw _ (List.mem_of_getElem? (i := 31) rfl)) (hw _ (List.mem_of_getElem? (i := 32) rfl)) (hw _ (List.mem_of_getElem? (i := 34) rfl)) (hw _ (List.mem_of_getElem? (i := 33) rfl)) (hw _ (List.mem_of_getElem? (i := 3) rfl)) (hw _ (List.mem_of_getElem? (i := 35) rfl)) (by decide) rfl (wbool l Z a0 n0 hw [] (n101) ((0 : Int32)) (c102) (64) (own_zero) (0) ([]) ([(c104, .byte, (own_arr 0 own_zero)), (r100, .byte, (own_arr 62 (own_upd (own_upd (own_upd own_zero 0 ((p2.toInt8.toInt32).toInt8.toInt32)) 31 ((p3.toInt8.toInt32).toInt8.toInt32)) 61 ((p4.toInt8.toInt32).toInt8.toInt32))))]) (by decide) (by decide)) (argsL := [(.int (0 : Int32))]) (rest := []) rfl rfl pd_8 rfl (W := 0) rfl (by decide) (by decide) (cells' := 4) (slots' := 256) rfl rfl (by decide) (by decide) ?_
        intro vq Dq hq
        obtain ⟨c106, hc107, rfl, rfl⟩ := hq
        refine Run.as2 (D' := ([(n101, "com/example/efcor/efcor/io/RecordWriter", [("com/example/efcor/efcor/io/RecordWriter", "bytes", "[B", (.ref c102)), ("com/example/efcor/efcor/io/RecordWriter", "size", "I", (.int (1 : Int32)))])], [(c102, .byte, (own_arr 64 (own_upd own_zero 0 ((c106.toInt8.toInt32).toInt8.toInt32)))), (c104, .byte, (own_arr 0 own_zero)), (r100, .byte, (own_arr 62 (own_upd (own_upd (own_upd own_zero 0 ((p2.toInt8.toInt32).toInt8.toInt32)) 31 ((p3.toInt8.toInt32).toInt8.toInt32)) 61 ((p4.toInt8.toInt32).toInt8.toInt32))))])) (S' := [(.ref n101)]) rfl rfl ?_
        obtain rfl : c106 = (0 : Int32) := by rcases hc107 with ⟨q0, q⟩ | ⟨q0, q⟩ <;> first | exact q | exact absurd q0 (by decide)
        refine Run.pop K at_133 (pc' := 134) rfl rfl ?_
        refine Run.aload K at_134 (pc' := 136) rfl rfl rfl ?_
        refine Run.callV K at_136 (pc' := 139) rfl (a := n101) (z := (⟨"com/example/efcor/efcor/io/RecordWriter", "toBytes", "()[B"⟩ : MethodName)) (Cn := "com/example/efcor/efcor/io/RecordWriter") (i := 0) (hw _ (List.mem_of_getElem? (i := 12) rfl)) (hw _ (List.mem_of_getElem? (i := 13) rfl)) (hw _ (List.mem_of_getElem? (i := 15) rfl)) (hw _ (List.mem_of_getElem? (i := 14) rfl)) (hw _ (List.mem_of_getElem? (i := 3) rfl)) (hw _ (List.mem_of_getElem? (i := 16) rfl)) (by decide) rfl (tb_shr l Z a0 n0 hw [] (n101) (c102) (64) ((own_upd own_zero 0 (((0 : Int32).toInt8.toInt32).toInt8.toInt32))) (1) ([]) ([(c104, .byte, (own_arr 0 own_zero)), (r100, .byte, (own_arr 62 (own_upd (own_upd (own_upd own_zero 0 ((p2.toInt8.toInt32).toInt8.toInt32)) 31 ((p3.toInt8.toInt32).toInt8.toInt32)) 61 ((p4.toInt8.toInt32).toInt8.toInt32))))]) (by decide) (by decide)) (argsL := []) (rest := []) rfl rfl pd_7 rfl (W := 0) rfl (by decide) (by decide) (cells' := 5) (slots' := 384) rfl rfl (by decide) (by decide) ?_
        intro vq Dq hq
        obtain ⟨c108, rfl, rfl⟩ := hq
        refine Run.as2 (D' := ([(n101, "com/example/efcor/efcor/io/RecordWriter", [("com/example/efcor/efcor/io/RecordWriter", "bytes", "[B", (.ref c102)), ("com/example/efcor/efcor/io/RecordWriter", "size", "I", (.int (1 : Int32)))])], [(c108, .byte, (own_arr 1 (own_upd own_zero 0 (((0 : Int32).toInt8.toInt32).toInt8.toInt32)))), (c102, .byte, (own_arr 64 (own_upd own_zero 0 (((0 : Int32).toInt8.toInt32).toInt8.toInt32)))), (c104, .byte, (own_arr 0 own_zero)), (r100, .byte, (own_arr 62 (own_upd (own_upd (own_upd own_zero 0 ((p2.toInt8.toInt32).toInt8.toInt32)) 31 ((p3.toInt8.toInt32).toInt8.toInt32)) 61 ((p4.toInt8.toInt32).toInt8.toInt32))))])) (S' := [(.ref c108)]) rfl rfl ?_
        refine Run.astore K at_139 (pc' := 141) rfl rfl (L' := #[.val (.int p1), .val (.int p2), .val (.int p3), .val (.int p4), .val (.int p5), .val (.int (0 : Int32)), .val (.int (((p1.toUInt32 >>> ((1 : Int32) &&& 31).toUInt32).toInt32) % (3 : Int32))), .val (.int (62 : Int32)), .val (.ref r100), .val (.int (p5 &&& (127 : Int32))), .val (.int (0 : Int32)), .val (.ref n101), .val (.ref c104), .val (.ref c108), .unset, .unset, .unset]) rfl ?_
        refine Run.aload K at_141 (pc' := 143) rfl rfl rfl ?_
        refine Run.alen K at_143 (pc' := 144) rfl (i := 2) rfl (w := (0 : Int32)) (own_arr_len rfl) ?_
        refine Run.ifcF K at_144 (pT := 167) (pF := 147) (by decide) (by decide) rfl (show ¬ ((0 : Int32) ≠ (0 : Int32)) from by decide) ?_
        refine Run.aload K at_147 (pc' := 149) rfl rfl rfl ?_
        refine Run.alen K at_149 (pc' := 150) rfl (i := 0) rfl (w := (1 : Int32)) (own_arr_len rfl) ?_
        refine Run.iconst K at_150 (pc' := 151) rfl (v := (1 : Int32)) rfl ?_
        refine Run.icmpF K at_151 (pT := 167) (pF := 154) (by decide) (by decide) rfl (show ¬ ((1 : Int32) ≠ (1 : Int32)) from by decide) ?_
        refine Run.aload K at_154 (pc' := 156) rfl rfl rfl ?_
        refine Run.iconst K at_156 (pc' := 157) rfl (v := (0 : Int32)) rfl ?_
        refine Run.baload K at_157 (pc' := 158) rfl (i := 0) (q := 0) rfl (by decide) (by decide) (v := (.int (((0 : Int32).toInt8.toInt32).toInt8.toInt32))) (own_arr_get (by decide) (v := (((0 : Int32).toInt8.toInt32).toInt8.toInt32)) rfl) ?_
        refine Run.iload K at_158 (pc' := 160) rfl rfl ?_
        refine Run.icmpF K at_160 (pT := 167) (pF := 163) (by decide) (by decide) rfl (show ¬ ((((0 : Int32).toInt8.toInt32).toInt8.toInt32) ≠ (0 : Int32)) from fun h => h (by first | decide | exact own_idem _ | exact own_lastv _)) ?_
        refine Run.iconst K at_163 (pc' := 164) rfl (v := (1 : Int32)) rfl ?_
        refine Run.goto K at_164 (pc' := 168) (by decide) (by decide) ?_
        refine Run.istore K at_168 (pc' := 170) rfl (L' := #[.val (.int p1), .val (.int p2), .val (.int p3), .val (.int p4), .val (.int p5), .val (.int (0 : Int32)), .val (.int (((p1.toUInt32 >>> ((1 : Int32) &&& 31).toUInt32).toInt32) % (3 : Int32))), .val (.int (62 : Int32)), .val (.ref r100), .val (.int (p5 &&& (127 : Int32))), .val (.int (0 : Int32)), .val (.ref n101), .val (.ref c104), .val (.ref c108), .val (.int (1 : Int32)), .unset, .unset]) rfl ?_
        refine Run.iload K at_170 (pc' := 172) rfl rfl ?_
        refine Run.ifcF K at_172 (pT := 187) (pF := 175) (by decide) (by decide) rfl (show ¬ ((1 : Int32) = (0 : Int32)) from by decide) ?_
        refine Run.aload K at_175 (pc' := 177) rfl rfl rfl ?_
        refine Run.iconst K at_177 (pc' := 178) rfl (v := (0 : Int32)) rfl ?_
        refine Run.aload K at_178 (pc' := 180) rfl rfl rfl ?_
        refine Run.iconst K at_180 (pc' := 181) rfl (v := (0 : Int32)) rfl ?_
        refine Run.baload K at_181 (pc' := 182) rfl (i := 0) (q := 0) rfl (by decide) (by decide) (v := (.int (((0 : Int32).toInt8.toInt32).toInt8.toInt32))) (own_arr_get (by decide) (v := (((0 : Int32).toInt8.toInt32).toInt8.toInt32)) rfl) ?_
        refine Run.bipush K at_182 (pc' := 184) rfl (v := (85 : Int32)) rfl ?_
        refine Run.ixor K at_184 (pc' := 185) rfl ?_
        refine Run.i2b K at_185 (pc' := 186) rfl ?_
        refine Run.bastore K at_186 (pc' := 187) rfl (i := 0) (q := 0) rfl (by decide) (by decide) (v := (.int (((0 : Int32).toInt8.toInt32).toInt8.toInt32))) (own_arr_get (by decide) (v := (((0 : Int32).toInt8.toInt32).toInt8.toInt32)) rfl) (D' := ([(n101, "com/example/efcor/efcor/io/RecordWriter", [("com/example/efcor/efcor/io/RecordWriter", "bytes", "[B", (.ref c102)), ("com/example/efcor/efcor/io/RecordWriter", "size", "I", (.int (1 : Int32)))])], [(c108, .byte, ((own_arr 1 (own_upd own_zero 0 (((0 : Int32).toInt8.toInt32).toInt8.toInt32))).set 0 (.int (((((0 : Int32).toInt8.toInt32).toInt8.toInt32) ^^^ (85 : Int32)).toInt8.toInt32).toInt8.toInt32))), (c102, .byte, (own_arr 64 (own_upd own_zero 0 (((0 : Int32).toInt8.toInt32).toInt8.toInt32)))), (c104, .byte, (own_arr 0 own_zero)), (r100, .byte, (own_arr 62 (own_upd (own_upd (own_upd own_zero 0 ((p2.toInt8.toInt32).toInt8.toInt32)) 31 ((p3.toInt8.toInt32).toInt8.toInt32)) 61 ((p4.toInt8.toInt32).toInt8.toInt32))))])) rfl ?_
        refine Run.as (D' := ([(n101, "com/example/efcor/efcor/io/RecordWriter", [("com/example/efcor/efcor/io/RecordWriter", "bytes", "[B", (.ref c102)), ("com/example/efcor/efcor/io/RecordWriter", "size", "I", (.int (1 : Int32)))])], [(c108, .byte, (own_arr 1 (own_upd (own_upd own_zero 0 (((0 : Int32).toInt8.toInt32).toInt8.toInt32)) 0 ((((((0 : Int32).toInt8.toInt32).toInt8.toInt32) ^^^ (85 : Int32)).toInt8.toInt32).toInt8.toInt32)))), (c102, .byte, (own_arr 64 (own_upd own_zero 0 (((0 : Int32).toInt8.toInt32).toInt8.toInt32)))), (c104, .byte, (own_arr 0 own_zero)), (r100, .byte, (own_arr 62 (own_upd (own_upd (own_upd own_zero 0 ((p2.toInt8.toInt32).toInt8.toInt32)) 31 ((p3.toInt8.toInt32).toInt8.toInt32)) 61 ((p4.toInt8.toInt32).toInt8.toInt32))))])) (by rw [own_arr_set]) ?_
        refine Run.aload K at_187 (pc' := 189) rfl rfl rfl ?_
        refine Run.aload K at_189 (pc' := 191) rfl rfl rfl ?_
        refine Run.bring 0 3 (D' := ([(n101, "com/example/efcor/efcor/io/RecordWriter", [("com/example/efcor/efcor/io/RecordWriter", "bytes", "[B", (.ref c102)), ("com/example/efcor/efcor/io/RecordWriter", "size", "I", (.int (1 : Int32)))])], [(r100, .byte, (own_arr 62 (own_upd (own_upd (own_upd own_zero 0 ((p2.toInt8.toInt32).toInt8.toInt32)) 31 ((p3.toInt8.toInt32).toInt8.toInt32)) 61 ((p4.toInt8.toInt32).toInt8.toInt32)))), (c108, .byte, (own_arr 1 (own_upd (own_upd own_zero 0 (((0 : Int32).toInt8.toInt32).toInt8.toInt32)) 0 ((((((0 : Int32).toInt8.toInt32).toInt8.toInt32) ^^^ (85 : Int32)).toInt8.toInt32).toInt8.toInt32)))), (c102, .byte, (own_arr 64 (own_upd own_zero 0 (((0 : Int32).toInt8.toInt32).toInt8.toInt32)))), (c104, .byte, (own_arr 0 own_zero))])) rfl ?_
        refine Run.bring 0 2 (D' := ([(n101, "com/example/efcor/efcor/io/RecordWriter", [("com/example/efcor/efcor/io/RecordWriter", "bytes", "[B", (.ref c102)), ("com/example/efcor/efcor/io/RecordWriter", "size", "I", (.int (1 : Int32)))])], [(c102, .byte, (own_arr 64 (own_upd own_zero 0 (((0 : Int32).toInt8.toInt32).toInt8.toInt32)))), (r100, .byte, (own_arr 62 (own_upd (own_upd (own_upd own_zero 0 ((p2.toInt8.toInt32).toInt8.toInt32)) 31 ((p3.toInt8.toInt32).toInt8.toInt32)) 61 ((p4.toInt8.toInt32).toInt8.toInt32)))), (c108, .byte, (own_arr 1 (own_upd (own_upd own_zero 0 (((0 : Int32).toInt8.toInt32).toInt8.toInt32)) 0 ((((((0 : Int32).toInt8.toInt32).toInt8.toInt32) ^^^ (85 : Int32)).toInt8.toInt32).toInt8.toInt32)))), (c104, .byte, (own_arr 0 own_zero))])) rfl ?_
        refine Run.callV K at_191 (pc' := 194) rfl (a := n101) (z := (⟨"com/example/efcor/efcor/io/RecordWriter", "writeBytes", "([B)Lcom/example/efcor/efcor/io/RecordWriter;"⟩ : MethodName)) (Cn := "com/example/efcor/efcor/io/RecordWriter") (i := 0) (hw _ (List.mem_of_getElem? (i := 44) rfl)) (hw _ (List.mem_of_getElem? (i := 45) rfl)) (hw _ (List.mem_of_getElem? (i := 47) rfl)) (hw _ (List.mem_of_getElem? (i := 46) rfl)) (hw _ (List.mem_of_getElem? (i := 3) rfl)) (hw _ (List.mem_of_getElem? (i := 48) rfl)) (by decide) rfl (wb_62 l Z a0 n0 hw [] (n101) (r100) (c102) ((own_upd own_zero 0 (((0 : Int32).toInt8.toInt32).toInt8.toInt32))) ((own_upd (own_upd (own_upd own_zero 0 ((p2.toInt8.toInt32).toInt8.toInt32)) 31 ((p3.toInt8.toInt32).toInt8.toInt32)) 61 ((p4.toInt8.toInt32).toInt8.toInt32))) ([]) ([(c108, .byte, (own_arr 1 (own_upd (own_upd own_zero 0 (((0 : Int32).toInt8.toInt32).toInt8.toInt32)) 0 ((((((0 : Int32).toInt8.toInt32).toInt8.toInt32) ^^^ (85 : Int32)).toInt8.toInt32).toInt8.toInt32)))), (c104, .byte, (own_arr 0 own_zero))]) ) (argsL := [(.ref r100)]) (rest := []) rfl rfl pd_9 rfl (W := 0) rfl (by decide) (by decide) (cells' := 5) (slots' := 384) rfl rfl (by decide) (by decide) (Ret.k (S' := [(.ref n101)]) rfl ?_)
        refine Run.as (D' := ([(n101, "com/example/efcor/efcor/io/RecordWriter", [("com/example/efcor/efcor/io/RecordWriter", "bytes", "[B", (.ref c102)), ("com/example/efcor/efcor/io/RecordWriter", "size", "I", (.int (64 : Int32)))])], [(c102, .byte, (own_arr 64 (own_put (own_upd (own_upd own_zero 0 (((0 : Int32).toInt8.toInt32).toInt8.toInt32)) 1 ((((((62 : Int32).toInt64) &&& (4294967295 : Int64)).toInt32).toInt8.toInt32).toInt8.toInt32)) 2 62 (own_upd (own_upd (own_upd own_zero 0 ((p2.toInt8.toInt32).toInt8.toInt32)) 31 ((p3.toInt8.toInt32).toInt8.toInt32)) 61 ((p4.toInt8.toInt32).toInt8.toInt32))))), (r100, .byte, (own_arr 62 (own_upd (own_upd (own_upd own_zero 0 ((p2.toInt8.toInt32).toInt8.toInt32)) 31 ((p3.toInt8.toInt32).toInt8.toInt32)) 61 ((p4.toInt8.toInt32).toInt8.toInt32)))), (c108, .byte, (own_arr 1 (own_upd (own_upd own_zero 0 (((0 : Int32).toInt8.toInt32).toInt8.toInt32)) 0 ((((((0 : Int32).toInt8.toInt32).toInt8.toInt32) ^^^ (85 : Int32)).toInt8.toInt32).toInt8.toInt32)))), (c104, .byte, (own_arr 0 own_zero))])) rfl ?_
        refine Run.pop K at_194 (pc' := 195) rfl rfl ?_
        refine Run.aload K at_195 (pc' := 197) rfl rfl rfl ?_
        refine Run.iload K at_197 (pc' := 199) rfl rfl ?_
        refine Run.callV K at_199 (pc' := 202) rfl (a := n101) (z := (⟨"com/example/efcor/efcor/io/RecordWriter", "writeInt", "(I)Lcom/example/efcor/efcor/io/RecordWriter;"⟩ : MethodName)) (Cn := "com/example/efcor/efcor/io/RecordWriter") (i := 0) (hw _ (List.mem_of_getElem? (i := 62) rfl)) (hw _ (List.mem_of_getElem? (i := 50) rfl)) (hw _ (List.mem_of_getElem? (i := 52) rfl)) (hw _ (List.mem_of_getElem? (i := 51) rfl)) (hw _ (List.mem_of_getElem? (i := 3) rfl)) (hw _ (List.mem_of_getElem? (i := 53) rfl)) (by decide) rfl (wi_grow l Z a0 n0 hw [] (n101) ((p5 &&& (127 : Int32))) (c102) ((own_put (own_upd (own_upd own_zero 0 (((0 : Int32).toInt8.toInt32).toInt8.toInt32)) 1 ((((((62 : Int32).toInt64) &&& (4294967295 : Int64)).toInt32).toInt8.toInt32).toInt8.toInt32)) 2 62 (own_upd (own_upd (own_upd own_zero 0 ((p2.toInt8.toInt32).toInt8.toInt32)) 31 ((p3.toInt8.toInt32).toInt8.toInt32)) 61 ((p4.toInt8.toInt32).toInt8.toInt32)))) ([]) ([(r100, .byte, (own_arr 62 (own_upd (own_upd (own_upd own_zero 0 ((p2.toInt8.toInt32).toInt8.toInt32)) 31 ((p3.toInt8.toInt32).toInt8.toInt32)) 61 ((p4.toInt8.toInt32).toInt8.toInt32)))), (c108, .byte, (own_arr 1 (own_upd (own_upd own_zero 0 (((0 : Int32).toInt8.toInt32).toInt8.toInt32)) 0 ((((((0 : Int32).toInt8.toInt32).toInt8.toInt32) ^^^ (85 : Int32)).toInt8.toInt32).toInt8.toInt32)))), (c104, .byte, (own_arr 0 own_zero))]) (own_last p5)) (argsL := [(.int (p5 &&& (127 : Int32)))]) (rest := []) rfl rfl pd_5 rfl (W := 0) rfl (by decide) (by decide) (cells' := 6) (slots' := 512) rfl rfl (by decide) (by decide) ?_
        intro vq Dq hq
        obtain ⟨c110, rfl, rfl⟩ := hq
        refine Run.as2 (D' := ([(n101, "com/example/efcor/efcor/io/RecordWriter", [("com/example/efcor/efcor/io/RecordWriter", "bytes", "[B", (.ref c110)), ("com/example/efcor/efcor/io/RecordWriter", "size", "I", (.int (65 : Int32)))])], [(c110, .byte, (own_arr 128 (own_upd (own_cut (own_put (own_upd (own_upd own_zero 0 (((0 : Int32).toInt8.toInt32).toInt8.toInt32)) 1 ((((((62 : Int32).toInt64) &&& (4294967295 : Int64)).toInt32).toInt8.toInt32).toInt8.toInt32)) 2 62 (own_upd (own_upd (own_upd own_zero 0 ((p2.toInt8.toInt32).toInt8.toInt32)) 31 ((p3.toInt8.toInt32).toInt8.toInt32)) 61 ((p4.toInt8.toInt32).toInt8.toInt32))) 64) 64 ((((((p5 &&& (127 : Int32)).toInt64) &&& (4294967295 : Int64)).toInt32).toInt8.toInt32).toInt8.toInt32)))), (c102, .byte, (own_arr 64 (own_put (own_upd (own_upd own_zero 0 (((0 : Int32).toInt8.toInt32).toInt8.toInt32)) 1 ((((((62 : Int32).toInt64) &&& (4294967295 : Int64)).toInt32).toInt8.toInt32).toInt8.toInt32)) 2 62 (own_upd (own_upd (own_upd own_zero 0 ((p2.toInt8.toInt32).toInt8.toInt32)) 31 ((p3.toInt8.toInt32).toInt8.toInt32)) 61 ((p4.toInt8.toInt32).toInt8.toInt32))))), (r100, .byte, (own_arr 62 (own_upd (own_upd (own_upd own_zero 0 ((p2.toInt8.toInt32).toInt8.toInt32)) 31 ((p3.toInt8.toInt32).toInt8.toInt32)) 61 ((p4.toInt8.toInt32).toInt8.toInt32)))), (c108, .byte, (own_arr 1 (own_upd (own_upd own_zero 0 (((0 : Int32).toInt8.toInt32).toInt8.toInt32)) 0 ((((((0 : Int32).toInt8.toInt32).toInt8.toInt32) ^^^ (85 : Int32)).toInt8.toInt32).toInt8.toInt32)))), (c104, .byte, (own_arr 0 own_zero))])) (S' := [(.ref n101)]) rfl rfl ?_
        refine Run.pop K at_202 (pc' := 203) rfl rfl ?_
        refine Run.aload K at_203 (pc' := 205) rfl rfl rfl ?_
        refine Run.callV K at_205 (pc' := 208) rfl (a := n101) (z := (⟨"com/example/efcor/efcor/io/RecordWriter", "toBytes", "()[B"⟩ : MethodName)) (Cn := "com/example/efcor/efcor/io/RecordWriter") (i := 0) (hw _ (List.mem_of_getElem? (i := 12) rfl)) (hw _ (List.mem_of_getElem? (i := 13) rfl)) (hw _ (List.mem_of_getElem? (i := 15) rfl)) (hw _ (List.mem_of_getElem? (i := 14) rfl)) (hw _ (List.mem_of_getElem? (i := 3) rfl)) (hw _ (List.mem_of_getElem? (i := 16) rfl)) (by decide) rfl (tb_shr l Z a0 n0 hw [] (n101) (c110) (128) ((own_upd (own_cut (own_put (own_upd (own_upd own_zero 0 (((0 : Int32).toInt8.toInt32).toInt8.toInt32)) 1 ((((((62 : Int32).toInt64) &&& (4294967295 : Int64)).toInt32).toInt8.toInt32).toInt8.toInt32)) 2 62 (own_upd (own_upd (own_upd own_zero 0 ((p2.toInt8.toInt32).toInt8.toInt32)) 31 ((p3.toInt8.toInt32).toInt8.toInt32)) 61 ((p4.toInt8.toInt32).toInt8.toInt32))) 64) 64 ((((((p5 &&& (127 : Int32)).toInt64) &&& (4294967295 : Int64)).toInt32).toInt8.toInt32).toInt8.toInt32))) (65) ([]) ([(c102, .byte, (own_arr 64 (own_put (own_upd (own_upd own_zero 0 (((0 : Int32).toInt8.toInt32).toInt8.toInt32)) 1 ((((((62 : Int32).toInt64) &&& (4294967295 : Int64)).toInt32).toInt8.toInt32).toInt8.toInt32)) 2 62 (own_upd (own_upd (own_upd own_zero 0 ((p2.toInt8.toInt32).toInt8.toInt32)) 31 ((p3.toInt8.toInt32).toInt8.toInt32)) 61 ((p4.toInt8.toInt32).toInt8.toInt32))))), (r100, .byte, (own_arr 62 (own_upd (own_upd (own_upd own_zero 0 ((p2.toInt8.toInt32).toInt8.toInt32)) 31 ((p3.toInt8.toInt32).toInt8.toInt32)) 61 ((p4.toInt8.toInt32).toInt8.toInt32)))), (c108, .byte, (own_arr 1 (own_upd (own_upd own_zero 0 (((0 : Int32).toInt8.toInt32).toInt8.toInt32)) 0 ((((((0 : Int32).toInt8.toInt32).toInt8.toInt32) ^^^ (85 : Int32)).toInt8.toInt32).toInt8.toInt32)))), (c104, .byte, (own_arr 0 own_zero))]) (by decide) (by decide)) (argsL := []) (rest := []) rfl rfl pd_7 rfl (W := 0) rfl (by decide) (by decide) (cells' := 7) (slots' := 640) rfl rfl (by decide) (by decide) ?_
        intro vq Dq hq
        obtain ⟨c112, rfl, rfl⟩ := hq
        refine Run.as2 (D' := ([(n101, "com/example/efcor/efcor/io/RecordWriter", [("com/example/efcor/efcor/io/RecordWriter", "bytes", "[B", (.ref c110)), ("com/example/efcor/efcor/io/RecordWriter", "size", "I", (.int (65 : Int32)))])], [(c112, .byte, (own_arr 65 (own_upd (own_cut (own_put (own_upd (own_upd own_zero 0 (((0 : Int32).toInt8.toInt32).toInt8.toInt32)) 1 ((((((62 : Int32).toInt64) &&& (4294967295 : Int64)).toInt32).toInt8.toInt32).toInt8.toInt32)) 2 62 (own_upd (own_upd (own_upd own_zero 0 ((p2.toInt8.toInt32).toInt8.toInt32)) 31 ((p3.toInt8.toInt32).toInt8.toInt32)) 61 ((p4.toInt8.toInt32).toInt8.toInt32))) 64) 64 ((((((p5 &&& (127 : Int32)).toInt64) &&& (4294967295 : Int64)).toInt32).toInt8.toInt32).toInt8.toInt32)))), (c110, .byte, (own_arr 128 (own_upd (own_cut (own_put (own_upd (own_upd own_zero 0 (((0 : Int32).toInt8.toInt32).toInt8.toInt32)) 1 ((((((62 : Int32).toInt64) &&& (4294967295 : Int64)).toInt32).toInt8.toInt32).toInt8.toInt32)) 2 62 (own_upd (own_upd (own_upd own_zero 0 ((p2.toInt8.toInt32).toInt8.toInt32)) 31 ((p3.toInt8.toInt32).toInt8.toInt32)) 61 ((p4.toInt8.toInt32).toInt8.toInt32))) 64) 64 ((((((p5 &&& (127 : Int32)).toInt64) &&& (4294967295 : Int64)).toInt32).toInt8.toInt32).toInt8.toInt32)))), (c102, .byte, (own_arr 64 (own_put (own_upd (own_upd own_zero 0 (((0 : Int32).toInt8.toInt32).toInt8.toInt32)) 1 ((((((62 : Int32).toInt64) &&& (4294967295 : Int64)).toInt32).toInt8.toInt32).toInt8.toInt32)) 2 62 (own_upd (own_upd (own_upd own_zero 0 ((p2.toInt8.toInt32).toInt8.toInt32)) 31 ((p3.toInt8.toInt32).toInt8.toInt32)) 61 ((p4.toInt8.toInt32).toInt8.toInt32))))), (r100, .byte, (own_arr 62 (own_upd (own_upd (own_upd own_zero 0 ((p2.toInt8.toInt32).toInt8.toInt32)) 31 ((p3.toInt8.toInt32).toInt8.toInt32)) 61 ((p4.toInt8.toInt32).toInt8.toInt32)))), (c108, .byte, (own_arr 1 (own_upd (own_upd own_zero 0 (((0 : Int32).toInt8.toInt32).toInt8.toInt32)) 0 ((((((0 : Int32).toInt8.toInt32).toInt8.toInt32) ^^^ (85 : Int32)).toInt8.toInt32).toInt8.toInt32)))), (c104, .byte, (own_arr 0 own_zero))])) (S' := [(.ref c112)]) rfl rfl ?_
        refine Run.astore K at_208 (pc' := 210) rfl rfl (L' := #[.val (.int p1), .val (.int p2), .val (.int p3), .val (.int p4), .val (.int p5), .val (.int (0 : Int32)), .val (.int (((p1.toUInt32 >>> ((1 : Int32) &&& 31).toUInt32).toInt32) % (3 : Int32))), .val (.int (62 : Int32)), .val (.ref r100), .val (.int (p5 &&& (127 : Int32))), .val (.int (0 : Int32)), .val (.ref n101), .val (.ref c104), .val (.ref c108), .val (.int (1 : Int32)), .val (.ref c112), .unset]) rfl ?_
        refine Run.iload K at_210 (pc' := 212) rfl rfl ?_
        refine Run.ifcF K at_212 (pT := 303) (pF := 215) (by decide) (by decide) rfl (show ¬ ((1 : Int32) = (0 : Int32)) from by decide) ?_
        refine Run.aload K at_215 (pc' := 217) rfl rfl rfl ?_
        refine Run.alen K at_217 (pc' := 218) rfl (i := 0) rfl (w := (65 : Int32)) (own_arr_len rfl) ?_
        refine Run.iload K at_218 (pc' := 220) rfl rfl ?_
        refine Run.iconst K at_220 (pc' := 221) rfl (v := (3 : Int32)) rfl ?_
        refine Run.iaddV K at_221 (pc' := 222) rfl (v := (65 : Int32)) (by decide) ?_
        refine Run.icmpF K at_222 (pT := 303) (pF := 225) (by decide) (by decide) rfl (show ¬ ((65 : Int32) ≠ (65 : Int32)) from by decide) ?_
        refine Run.aload K at_225 (pc' := 227) rfl rfl rfl ?_
        refine Run.iconst K at_227 (pc' := 228) rfl (v := (0 : Int32)) rfl ?_
        refine Run.baload K at_228 (pc' := 229) rfl (i := 0) (q := 0) rfl (by decide) (by decide) (v := (.int (((0 : Int32).toInt8.toInt32).toInt8.toInt32))) (own_arr_get (by decide) (v := (((0 : Int32).toInt8.toInt32).toInt8.toInt32)) rfl) ?_
        refine Run.iload K at_229 (pc' := 231) rfl rfl ?_
        refine Run.icmpF K at_231 (pT := 303) (pF := 234) (by decide) (by decide) rfl (show ¬ ((((0 : Int32).toInt8.toInt32).toInt8.toInt32) ≠ (0 : Int32)) from fun h => h (by first | decide | exact own_idem _ | exact own_lastv _)) ?_
        refine Run.aload K at_234 (pc' := 236) rfl rfl rfl ?_
        refine Run.iconst K at_236 (pc' := 237) rfl (v := (1 : Int32)) rfl ?_
        refine Run.baload K at_237 (pc' := 238) rfl (i := 0) (q := 1) rfl (by decide) (by decide) (v := (.int ((((((62 : Int32).toInt64) &&& (4294967295 : Int64)).toInt32).toInt8.toInt32).toInt8.toInt32))) (own_arr_get (by decide) (v := ((((((62 : Int32).toInt64) &&& (4294967295 : Int64)).toInt32).toInt8.toInt32).toInt8.toInt32)) rfl) ?_
        refine Run.iload K at_238 (pc' := 240) rfl rfl ?_
        refine Run.i2bV K at_240 (pc' := 241) rfl (v := (62 : Int32)) (by decide) ?_
        refine Run.icmpF K at_241 (pT := 303) (pF := 244) (by decide) (by decide) rfl (show ¬ (((((((62 : Int32).toInt64) &&& (4294967295 : Int64)).toInt32).toInt8.toInt32).toInt8.toInt32) ≠ (62 : Int32)) from fun h => h (by first | decide | exact own_idem _ | exact own_lastv _)) ?_
        refine Run.aload K at_244 (pc' := 246) rfl rfl rfl ?_
        refine Run.iconst K at_246 (pc' := 247) rfl (v := (2 : Int32)) rfl ?_
        refine Run.baload K at_247 (pc' := 248) rfl (i := 0) (q := 2) rfl (by decide) (by decide) (v := (.int ((p2.toInt8.toInt32).toInt8.toInt32))) (own_arr_get (by decide) (v := ((p2.toInt8.toInt32).toInt8.toInt32)) rfl) ?_
        refine Run.iloadN K at_248 (pc' := 249) rfl rfl ?_
        refine Run.i2b K at_249 (pc' := 250) rfl ?_
        refine Run.icmpF K at_250 (pT := 303) (pF := 253) (by decide) (by decide) rfl (show ¬ (((p2.toInt8.toInt32).toInt8.toInt32) ≠ (p2.toInt8.toInt32)) from fun h => h (by first | decide | exact own_idem _ | exact own_lastv _)) ?_
        refine Run.aload K at_253 (pc' := 255) rfl rfl rfl ?_
        refine Run.iconst K at_255 (pc' := 256) rfl (v := (3 : Int32)) rfl ?_
        refine Run.baload K at_256 (pc' := 257) rfl (i := 0) (q := 3) rfl (by decide) (by decide) (v := (.int (0 : Int32))) (own_arr_get (by decide) (v := (0 : Int32)) rfl) ?_
        refine Run.ifcF K at_257 (pT := 303) (pF := 260) (by decide) (by decide) rfl (show ¬ ((0 : Int32) ≠ (0 : Int32)) from by decide) ?_
        refine Run.aload K at_260 (pc' := 262) rfl rfl rfl ?_
        refine Run.iconst K at_262 (pc' := 263) rfl (v := (2 : Int32)) rfl ?_
        refine Run.iload K at_263 (pc' := 265) rfl rfl ?_
        refine Run.iconst K at_265 (pc' := 266) rfl (v := (2 : Int32)) rfl ?_
        refine Run.idivV K at_266 (pc' := 267) rfl (by decide) (v := (31 : Int32)) (by decide) ?_
        refine Run.iaddV K at_267 (pc' := 268) rfl (v := (33 : Int32)) (by decide) ?_
        refine Run.baload K at_268 (pc' := 269) rfl (i := 0) (q := 33) rfl (by decide) (by decide) (v := (.int ((p3.toInt8.toInt32).toInt8.toInt32))) (own_arr_get (by decide) (v := ((p3.toInt8.toInt32).toInt8.toInt32)) rfl) ?_
        refine Run.iloadN K at_269 (pc' := 270) rfl rfl ?_
        refine Run.i2b K at_270 (pc' := 271) rfl ?_
        refine Run.icmpF K at_271 (pT := 303) (pF := 274) (by decide) (by decide) rfl (show ¬ (((p3.toInt8.toInt32).toInt8.toInt32) ≠ (p3.toInt8.toInt32)) from fun h => h (by first | decide | exact own_idem _ | exact own_lastv _)) ?_
        refine Run.aload K at_274 (pc' := 276) rfl rfl rfl ?_
        refine Run.iconst K at_276 (pc' := 277) rfl (v := (1 : Int32)) rfl ?_
        refine Run.iload K at_277 (pc' := 279) rfl rfl ?_
        refine Run.iaddV K at_279 (pc' := 280) rfl (v := (63 : Int32)) (by decide) ?_
        refine Run.baload K at_280 (pc' := 281) rfl (i := 0) (q := 63) rfl (by decide) (by decide) (v := (.int ((p4.toInt8.toInt32).toInt8.toInt32))) (own_arr_get (by decide) (v := ((p4.toInt8.toInt32).toInt8.toInt32)) rfl) ?_
        refine Run.iloadN K at_281 (pc' := 282) rfl rfl ?_
        refine Run.i2b K at_282 (pc' := 283) rfl ?_
        refine Run.icmpF K at_283 (pT := 303) (pF := 286) (by decide) (by decide) rfl (show ¬ (((p4.toInt8.toInt32).toInt8.toInt32) ≠ (p4.toInt8.toInt32)) from fun h => h (by first | decide | exact own_idem _ | exact own_lastv _)) ?_
        refine Run.aload K at_286 (pc' := 288) rfl rfl rfl ?_
        refine Run.iconst K at_288 (pc' := 289) rfl (v := (2 : Int32)) rfl ?_
        refine Run.iload K at_289 (pc' := 291) rfl rfl ?_
        refine Run.iaddV K at_291 (pc' := 292) rfl (v := (64 : Int32)) (by decide) ?_
        refine Run.baload K at_292 (pc' := 293) rfl (i := 0) (q := 64) rfl (by decide) (by decide) (v := (.int ((((((p5 &&& (127 : Int32)).toInt64) &&& (4294967295 : Int64)).toInt32).toInt8.toInt32).toInt8.toInt32))) (own_arr_get (by decide) (v := ((((((p5 &&& (127 : Int32)).toInt64) &&& (4294967295 : Int64)).toInt32).toInt8.toInt32).toInt8.toInt32)) rfl) ?_
        refine Run.iload K at_293 (pc' := 295) rfl rfl ?_
        refine Run.i2b K at_295 (pc' := 296) rfl ?_
        refine Run.icmpF K at_296 (pT := 303) (pF := 299) (by decide) (by decide) rfl (show ¬ (((((((p5 &&& (127 : Int32)).toInt64) &&& (4294967295 : Int64)).toInt32).toInt8.toInt32).toInt8.toInt32) ≠ ((p5 &&& (127 : Int32)).toInt8.toInt32)) from fun h => h (by first | decide | exact own_idem _ | exact own_lastv _)) ?_
        refine Run.iconst K at_299 (pc' := 300) rfl (v := (1 : Int32)) rfl ?_
        refine Run.goto K at_300 (pc' := 304) (by decide) (by decide) ?_
        refine Run.istore K at_304 (pc' := 306) rfl (L' := #[.val (.int p1), .val (.int p2), .val (.int p3), .val (.int p4), .val (.int p5), .val (.int (0 : Int32)), .val (.int (((p1.toUInt32 >>> ((1 : Int32) &&& 31).toUInt32).toInt32) % (3 : Int32))), .val (.int (62 : Int32)), .val (.ref r100), .val (.int (p5 &&& (127 : Int32))), .val (.int (0 : Int32)), .val (.ref n101), .val (.ref c104), .val (.ref c108), .val (.int (1 : Int32)), .val (.ref c112), .unset]) rfl ?_
        refine Run.iload K at_306 (pc' := 308) rfl rfl ?_
        refine Run.ifcF K at_308 (pT := 329) (pF := 311) (by decide) (by decide) rfl (show ¬ ((1 : Int32) = (0 : Int32)) from by decide) ?_
        refine Run.aload K at_311 (pc' := 313) rfl rfl rfl ?_
        refine Run.iconst K at_313 (pc' := 314) rfl (v := (2 : Int32)) rfl ?_
        refine Run.iload K at_314 (pc' := 316) rfl rfl ?_
        refine Run.iaddV K at_316 (pc' := 317) rfl (v := (64 : Int32)) (by decide) ?_
        refine Run.aload K at_317 (pc' := 319) rfl rfl rfl ?_
        refine Run.iconst K at_319 (pc' := 320) rfl (v := (2 : Int32)) rfl ?_
        refine Run.iload K at_320 (pc' := 322) rfl rfl ?_
        refine Run.iaddV K at_322 (pc' := 323) rfl (v := (64 : Int32)) (by decide) ?_
        refine Run.baload K at_323 (pc' := 324) rfl (i := 0) (q := 64) rfl (by decide) (by decide) (v := (.int ((((((p5 &&& (127 : Int32)).toInt64) &&& (4294967295 : Int64)).toInt32).toInt8.toInt32).toInt8.toInt32))) (own_arr_get (by decide) (v := ((((((p5 &&& (127 : Int32)).toInt64) &&& (4294967295 : Int64)).toInt32).toInt8.toInt32).toInt8.toInt32)) rfl) ?_
        refine Run.bipush K at_324 (pc' := 326) rfl (v := (85 : Int32)) rfl ?_
        refine Run.ixor K at_326 (pc' := 327) rfl ?_
        refine Run.i2b K at_327 (pc' := 328) rfl ?_
        refine Run.bastore K at_328 (pc' := 329) rfl (i := 0) (q := 64) rfl (by decide) (by decide) (v := (.int ((((((p5 &&& (127 : Int32)).toInt64) &&& (4294967295 : Int64)).toInt32).toInt8.toInt32).toInt8.toInt32))) (own_arr_get (by decide) (v := ((((((p5 &&& (127 : Int32)).toInt64) &&& (4294967295 : Int64)).toInt32).toInt8.toInt32).toInt8.toInt32)) rfl) (D' := ([(n101, "com/example/efcor/efcor/io/RecordWriter", [("com/example/efcor/efcor/io/RecordWriter", "bytes", "[B", (.ref c110)), ("com/example/efcor/efcor/io/RecordWriter", "size", "I", (.int (65 : Int32)))])], [(c112, .byte, ((own_arr 65 (own_upd (own_cut (own_put (own_upd (own_upd own_zero 0 (((0 : Int32).toInt8.toInt32).toInt8.toInt32)) 1 ((((((62 : Int32).toInt64) &&& (4294967295 : Int64)).toInt32).toInt8.toInt32).toInt8.toInt32)) 2 62 (own_upd (own_upd (own_upd own_zero 0 ((p2.toInt8.toInt32).toInt8.toInt32)) 31 ((p3.toInt8.toInt32).toInt8.toInt32)) 61 ((p4.toInt8.toInt32).toInt8.toInt32))) 64) 64 ((((((p5 &&& (127 : Int32)).toInt64) &&& (4294967295 : Int64)).toInt32).toInt8.toInt32).toInt8.toInt32))).set 64 (.int ((((((((p5 &&& (127 : Int32)).toInt64) &&& (4294967295 : Int64)).toInt32).toInt8.toInt32).toInt8.toInt32) ^^^ (85 : Int32)).toInt8.toInt32).toInt8.toInt32))), (c110, .byte, (own_arr 128 (own_upd (own_cut (own_put (own_upd (own_upd own_zero 0 (((0 : Int32).toInt8.toInt32).toInt8.toInt32)) 1 ((((((62 : Int32).toInt64) &&& (4294967295 : Int64)).toInt32).toInt8.toInt32).toInt8.toInt32)) 2 62 (own_upd (own_upd (own_upd own_zero 0 ((p2.toInt8.toInt32).toInt8.toInt32)) 31 ((p3.toInt8.toInt32).toInt8.toInt32)) 61 ((p4.toInt8.toInt32).toInt8.toInt32))) 64) 64 ((((((p5 &&& (127 : Int32)).toInt64) &&& (4294967295 : Int64)).toInt32).toInt8.toInt32).toInt8.toInt32)))), (c102, .byte, (own_arr 64 (own_put (own_upd (own_upd own_zero 0 (((0 : Int32).toInt8.toInt32).toInt8.toInt32)) 1 ((((((62 : Int32).toInt64) &&& (4294967295 : Int64)).toInt32).toInt8.toInt32).toInt8.toInt32)) 2 62 (own_upd (own_upd (own_upd own_zero 0 ((p2.toInt8.toInt32).toInt8.toInt32)) 31 ((p3.toInt8.toInt32).toInt8.toInt32)) 61 ((p4.toInt8.toInt32).toInt8.toInt32))))), (r100, .byte, (own_arr 62 (own_upd (own_upd (own_upd own_zero 0 ((p2.toInt8.toInt32).toInt8.toInt32)) 31 ((p3.toInt8.toInt32).toInt8.toInt32)) 61 ((p4.toInt8.toInt32).toInt8.toInt32)))), (c108, .byte, (own_arr 1 (own_upd (own_upd own_zero 0 (((0 : Int32).toInt8.toInt32).toInt8.toInt32)) 0 ((((((0 : Int32).toInt8.toInt32).toInt8.toInt32) ^^^ (85 : Int32)).toInt8.toInt32).toInt8.toInt32)))), (c104, .byte, (own_arr 0 own_zero))])) rfl ?_
        refine Run.as (D' := ([(n101, "com/example/efcor/efcor/io/RecordWriter", [("com/example/efcor/efcor/io/RecordWriter", "bytes", "[B", (.ref c110)), ("com/example/efcor/efcor/io/RecordWriter", "size", "I", (.int (65 : Int32)))])], [(c112, .byte, (own_arr 65 (own_upd (own_upd (own_cut (own_put (own_upd (own_upd own_zero 0 (((0 : Int32).toInt8.toInt32).toInt8.toInt32)) 1 ((((((62 : Int32).toInt64) &&& (4294967295 : Int64)).toInt32).toInt8.toInt32).toInt8.toInt32)) 2 62 (own_upd (own_upd (own_upd own_zero 0 ((p2.toInt8.toInt32).toInt8.toInt32)) 31 ((p3.toInt8.toInt32).toInt8.toInt32)) 61 ((p4.toInt8.toInt32).toInt8.toInt32))) 64) 64 ((((((p5 &&& (127 : Int32)).toInt64) &&& (4294967295 : Int64)).toInt32).toInt8.toInt32).toInt8.toInt32)) 64 (((((((((p5 &&& (127 : Int32)).toInt64) &&& (4294967295 : Int64)).toInt32).toInt8.toInt32).toInt8.toInt32) ^^^ (85 : Int32)).toInt8.toInt32).toInt8.toInt32)))), (c110, .byte, (own_arr 128 (own_upd (own_cut (own_put (own_upd (own_upd own_zero 0 (((0 : Int32).toInt8.toInt32).toInt8.toInt32)) 1 ((((((62 : Int32).toInt64) &&& (4294967295 : Int64)).toInt32).toInt8.toInt32).toInt8.toInt32)) 2 62 (own_upd (own_upd (own_upd own_zero 0 ((p2.toInt8.toInt32).toInt8.toInt32)) 31 ((p3.toInt8.toInt32).toInt8.toInt32)) 61 ((p4.toInt8.toInt32).toInt8.toInt32))) 64) 64 ((((((p5 &&& (127 : Int32)).toInt64) &&& (4294967295 : Int64)).toInt32).toInt8.toInt32).toInt8.toInt32)))), (c102, .byte, (own_arr 64 (own_put (own_upd (own_upd own_zero 0 (((0 : Int32).toInt8.toInt32).toInt8.toInt32)) 1 ((((((62 : Int32).toInt64) &&& (4294967295 : Int64)).toInt32).toInt8.toInt32).toInt8.toInt32)) 2 62 (own_upd (own_upd (own_upd own_zero 0 ((p2.toInt8.toInt32).toInt8.toInt32)) 31 ((p3.toInt8.toInt32).toInt8.toInt32)) 61 ((p4.toInt8.toInt32).toInt8.toInt32))))), (r100, .byte, (own_arr 62 (own_upd (own_upd (own_upd own_zero 0 ((p2.toInt8.toInt32).toInt8.toInt32)) 31 ((p3.toInt8.toInt32).toInt8.toInt32)) 61 ((p4.toInt8.toInt32).toInt8.toInt32)))), (c108, .byte, (own_arr 1 (own_upd (own_upd own_zero 0 (((0 : Int32).toInt8.toInt32).toInt8.toInt32)) 0 ((((((0 : Int32).toInt8.toInt32).toInt8.toInt32) ^^^ (85 : Int32)).toInt8.toInt32).toInt8.toInt32)))), (c104, .byte, (own_arr 0 own_zero))])) (by rw [own_arr_set]) ?_
        refine Run.aload K at_329 (pc' := 331) rfl rfl rfl ?_
        refine Run.bring 0 1 (D' := ([(n101, "com/example/efcor/efcor/io/RecordWriter", [("com/example/efcor/efcor/io/RecordWriter", "bytes", "[B", (.ref c110)), ("com/example/efcor/efcor/io/RecordWriter", "size", "I", (.int (65 : Int32)))])], [(c110, .byte, (own_arr 128 (own_upd (own_cut (own_put (own_upd (own_upd own_zero 0 (((0 : Int32).toInt8.toInt32).toInt8.toInt32)) 1 ((((((62 : Int32).toInt64) &&& (4294967295 : Int64)).toInt32).toInt8.toInt32).toInt8.toInt32)) 2 62 (own_upd (own_upd (own_upd own_zero 0 ((p2.toInt8.toInt32).toInt8.toInt32)) 31 ((p3.toInt8.toInt32).toInt8.toInt32)) 61 ((p4.toInt8.toInt32).toInt8.toInt32))) 64) 64 ((((((p5 &&& (127 : Int32)).toInt64) &&& (4294967295 : Int64)).toInt32).toInt8.toInt32).toInt8.toInt32)))), (c112, .byte, (own_arr 65 (own_upd (own_upd (own_cut (own_put (own_upd (own_upd own_zero 0 (((0 : Int32).toInt8.toInt32).toInt8.toInt32)) 1 ((((((62 : Int32).toInt64) &&& (4294967295 : Int64)).toInt32).toInt8.toInt32).toInt8.toInt32)) 2 62 (own_upd (own_upd (own_upd own_zero 0 ((p2.toInt8.toInt32).toInt8.toInt32)) 31 ((p3.toInt8.toInt32).toInt8.toInt32)) 61 ((p4.toInt8.toInt32).toInt8.toInt32))) 64) 64 ((((((p5 &&& (127 : Int32)).toInt64) &&& (4294967295 : Int64)).toInt32).toInt8.toInt32).toInt8.toInt32)) 64 (((((((((p5 &&& (127 : Int32)).toInt64) &&& (4294967295 : Int64)).toInt32).toInt8.toInt32).toInt8.toInt32) ^^^ (85 : Int32)).toInt8.toInt32).toInt8.toInt32)))), (c102, .byte, (own_arr 64 (own_put (own_upd (own_upd own_zero 0 (((0 : Int32).toInt8.toInt32).toInt8.toInt32)) 1 ((((((62 : Int32).toInt64) &&& (4294967295 : Int64)).toInt32).toInt8.toInt32).toInt8.toInt32)) 2 62 (own_upd (own_upd (own_upd own_zero 0 ((p2.toInt8.toInt32).toInt8.toInt32)) 31 ((p3.toInt8.toInt32).toInt8.toInt32)) 61 ((p4.toInt8.toInt32).toInt8.toInt32))))), (r100, .byte, (own_arr 62 (own_upd (own_upd (own_upd own_zero 0 ((p2.toInt8.toInt32).toInt8.toInt32)) 31 ((p3.toInt8.toInt32).toInt8.toInt32)) 61 ((p4.toInt8.toInt32).toInt8.toInt32)))), (c108, .byte, (own_arr 1 (own_upd (own_upd own_zero 0 (((0 : Int32).toInt8.toInt32).toInt8.toInt32)) 0 ((((((0 : Int32).toInt8.toInt32).toInt8.toInt32) ^^^ (85 : Int32)).toInt8.toInt32).toInt8.toInt32)))), (c104, .byte, (own_arr 0 own_zero))])) rfl ?_
        refine Run.callV K at_331 (pc' := 334) rfl (a := n101) (z := (⟨"com/example/efcor/efcor/io/RecordWriter", "toBytes", "()[B"⟩ : MethodName)) (Cn := "com/example/efcor/efcor/io/RecordWriter") (i := 0) (hw _ (List.mem_of_getElem? (i := 12) rfl)) (hw _ (List.mem_of_getElem? (i := 13) rfl)) (hw _ (List.mem_of_getElem? (i := 15) rfl)) (hw _ (List.mem_of_getElem? (i := 14) rfl)) (hw _ (List.mem_of_getElem? (i := 3) rfl)) (hw _ (List.mem_of_getElem? (i := 16) rfl)) (by decide) rfl (tb_shr l Z a0 n0 hw [] (n101) (c110) (128) ((own_upd (own_cut (own_put (own_upd (own_upd own_zero 0 (((0 : Int32).toInt8.toInt32).toInt8.toInt32)) 1 ((((((62 : Int32).toInt64) &&& (4294967295 : Int64)).toInt32).toInt8.toInt32).toInt8.toInt32)) 2 62 (own_upd (own_upd (own_upd own_zero 0 ((p2.toInt8.toInt32).toInt8.toInt32)) 31 ((p3.toInt8.toInt32).toInt8.toInt32)) 61 ((p4.toInt8.toInt32).toInt8.toInt32))) 64) 64 ((((((p5 &&& (127 : Int32)).toInt64) &&& (4294967295 : Int64)).toInt32).toInt8.toInt32).toInt8.toInt32))) (65) ([]) ([(c112, .byte, (own_arr 65 (own_upd (own_upd (own_cut (own_put (own_upd (own_upd own_zero 0 (((0 : Int32).toInt8.toInt32).toInt8.toInt32)) 1 ((((((62 : Int32).toInt64) &&& (4294967295 : Int64)).toInt32).toInt8.toInt32).toInt8.toInt32)) 2 62 (own_upd (own_upd (own_upd own_zero 0 ((p2.toInt8.toInt32).toInt8.toInt32)) 31 ((p3.toInt8.toInt32).toInt8.toInt32)) 61 ((p4.toInt8.toInt32).toInt8.toInt32))) 64) 64 ((((((p5 &&& (127 : Int32)).toInt64) &&& (4294967295 : Int64)).toInt32).toInt8.toInt32).toInt8.toInt32)) 64 (((((((((p5 &&& (127 : Int32)).toInt64) &&& (4294967295 : Int64)).toInt32).toInt8.toInt32).toInt8.toInt32) ^^^ (85 : Int32)).toInt8.toInt32).toInt8.toInt32)))), (c102, .byte, (own_arr 64 (own_put (own_upd (own_upd own_zero 0 (((0 : Int32).toInt8.toInt32).toInt8.toInt32)) 1 ((((((62 : Int32).toInt64) &&& (4294967295 : Int64)).toInt32).toInt8.toInt32).toInt8.toInt32)) 2 62 (own_upd (own_upd (own_upd own_zero 0 ((p2.toInt8.toInt32).toInt8.toInt32)) 31 ((p3.toInt8.toInt32).toInt8.toInt32)) 61 ((p4.toInt8.toInt32).toInt8.toInt32))))), (r100, .byte, (own_arr 62 (own_upd (own_upd (own_upd own_zero 0 ((p2.toInt8.toInt32).toInt8.toInt32)) 31 ((p3.toInt8.toInt32).toInt8.toInt32)) 61 ((p4.toInt8.toInt32).toInt8.toInt32)))), (c108, .byte, (own_arr 1 (own_upd (own_upd own_zero 0 (((0 : Int32).toInt8.toInt32).toInt8.toInt32)) 0 ((((((0 : Int32).toInt8.toInt32).toInt8.toInt32) ^^^ (85 : Int32)).toInt8.toInt32).toInt8.toInt32)))), (c104, .byte, (own_arr 0 own_zero))]) (by decide) (by decide)) (argsL := []) (rest := []) rfl rfl pd_7 rfl (W := 0) rfl (by decide) (by decide) (cells' := 8) (slots' := 768) rfl rfl (by decide) (by decide) ?_
        intro vq Dq hq
        obtain ⟨c114, rfl, rfl⟩ := hq
        refine Run.as2 (D' := ([(n101, "com/example/efcor/efcor/io/RecordWriter", [("com/example/efcor/efcor/io/RecordWriter", "bytes", "[B", (.ref c110)), ("com/example/efcor/efcor/io/RecordWriter", "size", "I", (.int (65 : Int32)))])], [(c114, .byte, (own_arr 65 (own_upd (own_cut (own_put (own_upd (own_upd own_zero 0 (((0 : Int32).toInt8.toInt32).toInt8.toInt32)) 1 ((((((62 : Int32).toInt64) &&& (4294967295 : Int64)).toInt32).toInt8.toInt32).toInt8.toInt32)) 2 62 (own_upd (own_upd (own_upd own_zero 0 ((p2.toInt8.toInt32).toInt8.toInt32)) 31 ((p3.toInt8.toInt32).toInt8.toInt32)) 61 ((p4.toInt8.toInt32).toInt8.toInt32))) 64) 64 ((((((p5 &&& (127 : Int32)).toInt64) &&& (4294967295 : Int64)).toInt32).toInt8.toInt32).toInt8.toInt32)))), (c110, .byte, (own_arr 128 (own_upd (own_cut (own_put (own_upd (own_upd own_zero 0 (((0 : Int32).toInt8.toInt32).toInt8.toInt32)) 1 ((((((62 : Int32).toInt64) &&& (4294967295 : Int64)).toInt32).toInt8.toInt32).toInt8.toInt32)) 2 62 (own_upd (own_upd (own_upd own_zero 0 ((p2.toInt8.toInt32).toInt8.toInt32)) 31 ((p3.toInt8.toInt32).toInt8.toInt32)) 61 ((p4.toInt8.toInt32).toInt8.toInt32))) 64) 64 ((((((p5 &&& (127 : Int32)).toInt64) &&& (4294967295 : Int64)).toInt32).toInt8.toInt32).toInt8.toInt32)))), (c112, .byte, (own_arr 65 (own_upd (own_upd (own_cut (own_put (own_upd (own_upd own_zero 0 (((0 : Int32).toInt8.toInt32).toInt8.toInt32)) 1 ((((((62 : Int32).toInt64) &&& (4294967295 : Int64)).toInt32).toInt8.toInt32).toInt8.toInt32)) 2 62 (own_upd (own_upd (own_upd own_zero 0 ((p2.toInt8.toInt32).toInt8.toInt32)) 31 ((p3.toInt8.toInt32).toInt8.toInt32)) 61 ((p4.toInt8.toInt32).toInt8.toInt32))) 64) 64 ((((((p5 &&& (127 : Int32)).toInt64) &&& (4294967295 : Int64)).toInt32).toInt8.toInt32).toInt8.toInt32)) 64 (((((((((p5 &&& (127 : Int32)).toInt64) &&& (4294967295 : Int64)).toInt32).toInt8.toInt32).toInt8.toInt32) ^^^ (85 : Int32)).toInt8.toInt32).toInt8.toInt32)))), (c102, .byte, (own_arr 64 (own_put (own_upd (own_upd own_zero 0 (((0 : Int32).toInt8.toInt32).toInt8.toInt32)) 1 ((((((62 : Int32).toInt64) &&& (4294967295 : Int64)).toInt32).toInt8.toInt32).toInt8.toInt32)) 2 62 (own_upd (own_upd (own_upd own_zero 0 ((p2.toInt8.toInt32).toInt8.toInt32)) 31 ((p3.toInt8.toInt32).toInt8.toInt32)) 61 ((p4.toInt8.toInt32).toInt8.toInt32))))), (r100, .byte, (own_arr 62 (own_upd (own_upd (own_upd own_zero 0 ((p2.toInt8.toInt32).toInt8.toInt32)) 31 ((p3.toInt8.toInt32).toInt8.toInt32)) 61 ((p4.toInt8.toInt32).toInt8.toInt32)))), (c108, .byte, (own_arr 1 (own_upd (own_upd own_zero 0 (((0 : Int32).toInt8.toInt32).toInt8.toInt32)) 0 ((((((0 : Int32).toInt8.toInt32).toInt8.toInt32) ^^^ (85 : Int32)).toInt8.toInt32).toInt8.toInt32)))), (c104, .byte, (own_arr 0 own_zero))])) (S' := [(.ref c114)]) rfl rfl ?_
        refine Run.astore K at_334 (pc' := 336) rfl rfl (L' := #[.val (.int p1), .val (.int p2), .val (.int p3), .val (.int p4), .val (.int p5), .val (.int (0 : Int32)), .val (.int (((p1.toUInt32 >>> ((1 : Int32) &&& 31).toUInt32).toInt32) % (3 : Int32))), .val (.int (62 : Int32)), .val (.ref r100), .val (.int (p5 &&& (127 : Int32))), .val (.int (0 : Int32)), .val (.ref n101), .val (.ref c104), .val (.ref c108), .val (.int (1 : Int32)), .val (.ref c112), .val (.ref c114)]) rfl ?_
        refine Run.iload K at_336 (pc' := 338) rfl rfl ?_
        refine Run.ifcF K at_338 (pT := 384) (pF := 341) (by decide) (by decide) rfl (show ¬ ((1 : Int32) = (0 : Int32)) from by decide) ?_
        refine Run.aload K at_341 (pc' := 343) rfl rfl rfl ?_
        refine Run.aload K at_343 (pc' := 345) rfl rfl rfl ?_
        refine Run.acmpF K at_345 (pF := 348) rfl (i := 0) (j := 2) rfl rfl rfl rfl (by decide) ?_
        refine Run.aload K at_348 (pc' := 350) rfl rfl rfl ?_
        refine Run.alen K at_350 (pc' := 351) rfl (i := 0) rfl (w := (65 : Int32)) (own_arr_len rfl) ?_
        refine Run.iload K at_351 (pc' := 353) rfl rfl ?_
        refine Run.iconst K at_353 (pc' := 354) rfl (v := (3 : Int32)) rfl ?_
        refine Run.iaddV K at_354 (pc' := 355) rfl (v := (65 : Int32)) (by decide) ?_
        refine Run.icmpF K at_355 (pT := 384) (pF := 358) (by decide) (by decide) rfl (show ¬ ((65 : Int32) ≠ (65 : Int32)) from by decide) ?_
        refine Run.aload K at_358 (pc' := 360) rfl rfl rfl ?_
        refine Run.iconst K at_360 (pc' := 361) rfl (v := (0 : Int32)) rfl ?_
        refine Run.baload K at_361 (pc' := 362) rfl (i := 0) (q := 0) rfl (by decide) (by decide) (v := (.int (((0 : Int32).toInt8.toInt32).toInt8.toInt32))) (own_arr_get (by decide) (v := (((0 : Int32).toInt8.toInt32).toInt8.toInt32)) rfl) ?_
        refine Run.iload K at_362 (pc' := 364) rfl rfl ?_
        refine Run.icmpF K at_364 (pT := 384) (pF := 367) (by decide) (by decide) rfl (show ¬ ((((0 : Int32).toInt8.toInt32).toInt8.toInt32) ≠ (0 : Int32)) from fun h => h (by first | decide | exact own_idem _ | exact own_lastv _)) ?_
        refine Run.aload K at_367 (pc' := 369) rfl rfl rfl ?_
        refine Run.iconst K at_369 (pc' := 370) rfl (v := (2 : Int32)) rfl ?_
        refine Run.iload K at_370 (pc' := 372) rfl rfl ?_
        refine Run.iaddV K at_372 (pc' := 373) rfl (v := (64 : Int32)) (by decide) ?_
        refine Run.baload K at_373 (pc' := 374) rfl (i := 0) (q := 64) rfl (by decide) (by decide) (v := (.int ((((((p5 &&& (127 : Int32)).toInt64) &&& (4294967295 : Int64)).toInt32).toInt8.toInt32).toInt8.toInt32))) (own_arr_get (by decide) (v := ((((((p5 &&& (127 : Int32)).toInt64) &&& (4294967295 : Int64)).toInt32).toInt8.toInt32).toInt8.toInt32)) rfl) ?_
        refine Run.iload K at_374 (pc' := 376) rfl rfl ?_
        refine Run.i2b K at_376 (pc' := 377) rfl ?_
        refine Run.icmpF K at_377 (pT := 384) (pF := 380) (by decide) (by decide) rfl (show ¬ (((((((p5 &&& (127 : Int32)).toInt64) &&& (4294967295 : Int64)).toInt32).toInt8.toInt32).toInt8.toInt32) ≠ ((p5 &&& (127 : Int32)).toInt8.toInt32)) from fun h => h (by first | decide | exact own_idem _ | exact own_lastv _)) ?_
        refine Run.iconst K at_380 (pc' := 381) rfl (v := (1 : Int32)) rfl ?_
        refine Run.goto K at_381 (pc' := 385) (by decide) (by decide) ?_
        refine Run.istore K at_385 (pc' := 387) rfl (L' := #[.val (.int p1), .val (.int p2), .val (.int p3), .val (.int p4), .val (.int p5), .val (.int (0 : Int32)), .val (.int (((p1.toUInt32 >>> ((1 : Int32) &&& 31).toUInt32).toInt32) % (3 : Int32))), .val (.int (62 : Int32)), .val (.ref r100), .val (.int (p5 &&& (127 : Int32))), .val (.int (0 : Int32)), .val (.ref n101), .val (.ref c104), .val (.ref c108), .val (.int (1 : Int32)), .val (.ref c112), .val (.ref c114)]) rfl ?_
        refine Run.iload K at_387 (pc' := 389) rfl rfl ?_
        exact Run.retN K at_389 (w := (1 : Int32)) rfl (by decide) (by decide) (by decide) (by decide) rfl
    · skip
      refine Run.bipush K at_25 (pc' := 27) rfl (v := (61 : Int32)) rfl ?_
      refine Run.istore K at_27 (pc' := 29) rfl (L' := #[.val (.int p1), .val (.int p2), .val (.int p3), .val (.int p4), .val (.int p5), .val (.int (0 : Int32)), .val (.int (((p1.toUInt32 >>> ((1 : Int32) &&& 31).toUInt32).toInt32) % (3 : Int32))), .val (.int (61 : Int32)), .unset, .unset, .unset, .unset, .unset, .unset, .unset, .unset, .unset]) rfl ?_
      refine Run.bipush K at_29 (pc' := 31) rfl (v := (61 : Int32)) rfl ?_
      refine Run.newA K at_31 (pc' := 33) rfl (ty := .byte) rfl (hw _ (List.mem_of_getElem? (i := 0) rfl)) (by decide) (vs := (own_arr 61 own_zero)) (own_arr_new' (by decide)) (cap := 61) (by decide) (by decide) (cells' := 1) (slots' := 61) rfl rfl (by decide) (by decide) rfl (fun r116 => ?_)
      refine Run.as (D' := ([], [(r116, .byte, (own_arr 61 own_zero))])) rfl ?_
      refine Run.astore K at_33 (pc' := 35) rfl rfl (L' := #[.val (.int p1), .val (.int p2), .val (.int p3), .val (.int p4), .val (.int p5), .val (.int (0 : Int32)), .val (.int (((p1.toUInt32 >>> ((1 : Int32) &&& 31).toUInt32).toInt32) % (3 : Int32))), .val (.int (61 : Int32)), .val (.ref r116), .unset, .unset, .unset, .unset, .unset, .unset, .unset, .unset]) rfl ?_
      refine Run.goto K at_35 (pc' := 67) (by decide) (by decide) ?_
      refine Run.aload K at_67 (pc' := 69) rfl rfl rfl ?_
      refine Run.iconst K at_69 (pc' := 70) rfl (v := (0 : Int32)) rfl ?_
      refine Run.iloadN K at_70 (pc' := 71) rfl rfl ?_
      refine Run.i2b K at_71 (pc' := 72) rfl ?_
      refine Run.bastore K at_72 (pc' := 73) rfl (i := 0) (q := 0) rfl (by decide) (by decide) (v := (.int (0 : Int32))) (own_arr_get (by decide) (v := (0 : Int32)) rfl) (D' := ([], [(r116, .byte, ((own_arr 61 own_zero).set 0 (.int (p2.toInt8.toInt32).toInt8.toInt32)))])) rfl ?_
      refine Run.as (D' := ([], [(r116, .byte, (own_arr 61 (own_upd own_zero 0 ((p2.toInt8.toInt32).toInt8.toInt32))))])) (by rw [own_arr_set]) ?_
      refine Run.aload K at_73 (pc' := 75) rfl rfl rfl ?_
      refine Run.iload K at_75 (pc' := 77) rfl rfl ?_
      refine Run.iconst K at_77 (pc' := 78) rfl (v := (2 : Int32)) rfl ?_
      refine Run.idivV K at_78 (pc' := 79) rfl (by decide) (v := (30 : Int32)) (by decide) ?_
      refine Run.iloadN K at_79 (pc' := 80) rfl rfl ?_
      refine Run.i2b K at_80 (pc' := 81) rfl ?_
      refine Run.bastore K at_81 (pc' := 82) rfl (i := 0) (q := 30) rfl (by decide) (by decide) (v := (.int (0 : Int32))) (own_arr_get (by decide) (v := (0 : Int32)) rfl) (D' := ([], [(r116, .byte, ((own_arr 61 (own_upd own_zero 0 ((p2.toInt8.toInt32).toInt8.toInt32))).set 30 (.int (p3.toInt8.toInt32).toInt8.toInt32)))])) rfl ?_
      refine Run.as (D' := ([], [(r116, .byte, (own_arr 61 (own_upd (own_upd own_zero 0 ((p2.toInt8.toInt32).toInt8.toInt32)) 30 ((p3.toInt8.toInt32).toInt8.toInt32))))])) (by rw [own_arr_set]) ?_
      refine Run.aload K at_82 (pc' := 84) rfl rfl rfl ?_
      refine Run.iload K at_84 (pc' := 86) rfl rfl ?_
      refine Run.iconst K at_86 (pc' := 87) rfl (v := (1 : Int32)) rfl ?_
      refine Run.isubV K at_87 (pc' := 88) rfl (v := (60 : Int32)) (by decide) ?_
      refine Run.iloadN K at_88 (pc' := 89) rfl rfl ?_
      refine Run.i2b K at_89 (pc' := 90) rfl ?_
      refine Run.bastore K at_90 (pc' := 91) rfl (i := 0) (q := 60) rfl (by decide) (by decide) (v := (.int (0 : Int32))) (own_arr_get (by decide) (v := (0 : Int32)) rfl) (D' := ([], [(r116, .byte, ((own_arr 61 (own_upd (own_upd own_zero 0 ((p2.toInt8.toInt32).toInt8.toInt32)) 30 ((p3.toInt8.toInt32).toInt8.toInt32))).set 60 (.int (p4.toInt8.toInt32).toInt8.toInt32)))])) rfl ?_
      refine Run.as (D' := ([], [(r116, .byte, (own_arr 61 (own_upd (own_upd (own_upd own_zero 0 ((p2.toInt8.toInt32).toInt8.toInt32)) 30 ((p3.toInt8.toInt32).toInt8.toInt32)) 60 ((p4.toInt8.toInt32).toInt8.toInt32))))])) (by rw [own_arr_set]) ?_
      refine Run.iload K at_91 (pc' := 93) rfl rfl ?_
      refine Run.bipush K at_93 (pc' := 95) rfl (v := (127 : Int32)) rfl ?_
      refine Run.iand K at_95 (pc' := 96) rfl ?_
      refine Run.istore K at_96 (pc' := 98) rfl (L' := #[.val (.int p1), .val (.int p2), .val (.int p3), .val (.int p4), .val (.int p5), .val (.int (0 : Int32)), .val (.int (((p1.toUInt32 >>> ((1 : Int32) &&& 31).toUInt32).toInt32) % (3 : Int32))), .val (.int (61 : Int32)), .val (.ref r116), .val (.int (p5 &&& (127 : Int32))), .unset, .unset, .unset, .unset, .unset, .unset, .unset]) rfl ?_
      refine Run.iload K at_98 (pc' := 100) rfl rfl ?_
      refine Run.ifcT K at_100 (pT := 107) (pF := 103) (by decide) (by decide) rfl (show (0 : Int32) = (0 : Int32) from by decide) ?_
      refine Run.iconst K at_107 (pc' := 108) rfl (v := (0 : Int32)) rfl ?_
      refine Run.istore K at_108 (pc' := 110) rfl (L' := #[.val (.int p1), .val (.int p2), .val (.int p3), .val (.int p4), .val (.int p5), .val (.int (0 : Int32)), .val (.int (((p1.toUInt32 >>> ((1 : Int32) &&& 31).toUInt32).toInt32) % (3 : Int32))), .val (.int (61 : Int32)), .val (.ref r116), .val (.int (p5 &&& (127 : Int32))), .val (.int (0 : Int32)), .unset, .unset, .unset, .unset, .unset, .unset]) rfl ?_
      refine Run.newO K at_110 (pc' := 113) rfl (hw _ (List.mem_of_getElem? (i := 1) rfl)) (hw _ (List.mem_of_getElem? (i := 2) rfl)) (hw _ (List.mem_of_getElem? (i := 3) rfl)) (fs_0 hw) (cells' := 2) (slots' := 63) rfl rfl (by decide) (by decide) (fun n117 => ?_)
      refine Run.as (D' := ([(n117, "com/example/efcor/efcor/io/RecordWriter", [("com/example/efcor/efcor/io/RecordWriter", "bytes", "[B", .null), ("com/example/efcor/efcor/io/RecordWriter", "size", "I", (.int (0 : Int32)))])], [(r116, .byte, (own_arr 61 (own_upd (own_upd (own_upd own_zero 0 ((p2.toInt8.toInt32).toInt8.toInt32)) 30 ((p3.toInt8.toInt32).toInt8.toInt32)) 60 ((p4.toInt8.toInt32).toInt8.toInt32))))])) rfl ?_
      refine Run.dup K at_113 (pc' := 114) rfl rfl ?_
      refine Run.callI K at_114 (pc' := 117) rfl rfl (hw _ (List.mem_of_getElem? (i := 4) rfl)) (hw _ (List.mem_of_getElem? (i := 5) rfl)) (hw _ (List.mem_of_getElem? (i := 3) rfl)) (hw _ (List.mem_of_getElem? (i := 6) rfl)) (by decide) (a := n117) (rm1 l Z a0 n0 hw [] (n117) (.null) ((0 : Int32)) ([]) ([(r116, .byte, (own_arr 61 (own_upd (own_upd (own_upd own_zero 0 ((p2.toInt8.toInt32).toInt8.toInt32)) 30 ((p3.toInt8.toInt32).toInt8.toInt32)) 60 ((p4.toInt8.toInt32).toInt8.toInt32))))]) ) (argsL := []) (rest := [(.ref n117)]) rfl rfl pd_6 rfl (W := 1) rfl (by decide) (by decide) (cells' := 3) (slots' := 127) rfl rfl (by decide) (by decide) ?_
      intro vq Dq hq
      obtain ⟨c118, rfl, rfl⟩ := hq
      refine Run.as2 (D' := ([(n117, "com/example/efcor/efcor/io/RecordWriter", [("com/example/efcor/efcor/io/RecordWriter", "bytes", "[B", (.ref c118)), ("com/example/efcor/efcor/io/RecordWriter", "size", "I", (.int (0 : Int32)))])], [(c118, .byte, (own_arr 64 own_zero)), (r116, .byte, (own_arr 61 (own_upd (own_upd (own_upd own_zero 0 ((p2.toInt8.toInt32).toInt8.toInt32)) 30 ((p3.toInt8.toInt32).toInt8.toInt32)) 60 ((p4.toInt8.toInt32).toInt8.toInt32))))])) (S' := [(.ref n117)]) rfl rfl ?_
      refine Run.astore K at_117 (pc' := 119) rfl rfl (L' := #[.val (.int p1), .val (.int p2), .val (.int p3), .val (.int p4), .val (.int p5), .val (.int (0 : Int32)), .val (.int (((p1.toUInt32 >>> ((1 : Int32) &&& 31).toUInt32).toInt32) % (3 : Int32))), .val (.int (61 : Int32)), .val (.ref r116), .val (.int (p5 &&& (127 : Int32))), .val (.int (0 : Int32)), .val (.ref n117), .unset, .unset, .unset, .unset, .unset]) rfl ?_
      refine Run.aload K at_119 (pc' := 121) rfl rfl rfl ?_
      refine Run.callV K at_121 (pc' := 124) rfl (a := n117) (z := (⟨"com/example/efcor/efcor/io/RecordWriter", "toBytes", "()[B"⟩ : MethodName)) (Cn := "com/example/efcor/efcor/io/RecordWriter") (i := 0) (hw _ (List.mem_of_getElem? (i := 12) rfl)) (hw _ (List.mem_of_getElem? (i := 13) rfl)) (hw _ (List.mem_of_getElem? (i := 15) rfl)) (hw _ (List.mem_of_getElem? (i := 14) rfl)) (hw _ (List.mem_of_getElem? (i := 3) rfl)) (hw _ (List.mem_of_getElem? (i := 16) rfl)) (by decide) rfl (tb_shr l Z a0 n0 hw [] (n117) (c118) (64) (own_zero) (0) ([]) ([(r116, .byte, (own_arr 61 (own_upd (own_upd (own_upd own_zero 0 ((p2.toInt8.toInt32).toInt8.toInt32)) 30 ((p3.toInt8.toInt32).toInt8.toInt32)) 60 ((p4.toInt8.toInt32).toInt8.toInt32))))]) (by decide) (by decide)) (argsL := []) (rest := []) rfl rfl pd_7 rfl (W := 0) rfl (by decide) (by decide) (cells' := 4) (slots' := 255) rfl rfl (by decide) (by decide) ?_
      intro vq Dq hq
      obtain ⟨c120, rfl, rfl⟩ := hq
      refine Run.as2 (D' := ([(n117, "com/example/efcor/efcor/io/RecordWriter", [("com/example/efcor/efcor/io/RecordWriter", "bytes", "[B", (.ref c118)), ("com/example/efcor/efcor/io/RecordWriter", "size", "I", (.int (0 : Int32)))])], [(c120, .byte, (own_arr 0 own_zero)), (c118, .byte, (own_arr 64 own_zero)), (r116, .byte, (own_arr 61 (own_upd (own_upd (own_upd own_zero 0 ((p2.toInt8.toInt32).toInt8.toInt32)) 30 ((p3.toInt8.toInt32).toInt8.toInt32)) 60 ((p4.toInt8.toInt32).toInt8.toInt32))))])) (S' := [(.ref c120)]) rfl rfl ?_
      refine Run.astore K at_124 (pc' := 126) rfl rfl (L' := #[.val (.int p1), .val (.int p2), .val (.int p3), .val (.int p4), .val (.int p5), .val (.int (0 : Int32)), .val (.int (((p1.toUInt32 >>> ((1 : Int32) &&& 31).toUInt32).toInt32) % (3 : Int32))), .val (.int (61 : Int32)), .val (.ref r116), .val (.int (p5 &&& (127 : Int32))), .val (.int (0 : Int32)), .val (.ref n117), .val (.ref c120), .unset, .unset, .unset, .unset]) rfl ?_
      refine Run.aload K at_126 (pc' := 128) rfl rfl rfl ?_
      refine Run.iload K at_128 (pc' := 130) rfl rfl ?_
      refine Run.bring 0 1 (D' := ([(n117, "com/example/efcor/efcor/io/RecordWriter", [("com/example/efcor/efcor/io/RecordWriter", "bytes", "[B", (.ref c118)), ("com/example/efcor/efcor/io/RecordWriter", "size", "I", (.int (0 : Int32)))])], [(c118, .byte, (own_arr 64 own_zero)), (c120, .byte, (own_arr 0 own_zero)), (r116, .byte, (own_arr 61 (own_upd (own_upd (own_upd own_zero 0 ((p2.toInt8.toInt32).toInt8.toInt32)) 30 ((p3.toInt8.toInt32).toInt8.toInt32)) 60 ((p4.toInt8.toInt32).toInt8.toInt32))))])) rfl ?_
      refine Run.callV K at_130 (pc' := 133) rfl (a := n117) (z := (⟨"com/example/efcor/efcor/io/RecordWriter", "writeBoolean", "(Z)Lcom/example/efcor/efcor/io/RecordWriter;"⟩ : MethodName)) (Cn := "com/example/efcor/efcor/io/RecordWriter") (i := 0) (hw _ (List.mem_of_getElem? (i := 31) rfl)) (hw _ (List.mem_of_getElem? (i := 32) rfl)) (hw _ (List.mem_of_getElem? (i := 34) rfl)) (hw _ (List.mem_of_getElem? (i := 33) rfl)) (hw _ (List.mem_of_getElem? (i := 3) rfl)) (hw _ (List.mem_of_getElem? (i := 35) rfl)) (by decide) rfl (wbool l Z a0 n0 hw [] (n117) ((0 : Int32)) (c118) (64) (own_zero) (0) ([]) ([(c120, .byte, (own_arr 0 own_zero)), (r116, .byte, (own_arr 61 (own_upd (own_upd (own_upd own_zero 0 ((p2.toInt8.toInt32).toInt8.toInt32)) 30 ((p3.toInt8.toInt32).toInt8.toInt32)) 60 ((p4.toInt8.toInt32).toInt8.toInt32))))]) (by decide) (by decide)) (argsL := [(.int (0 : Int32))]) (rest := []) rfl rfl pd_8 rfl (W := 0) rfl (by decide) (by decide) (cells' := 4) (slots' := 255) rfl rfl (by decide) (by decide) ?_
      intro vq Dq hq
      obtain ⟨c122, hc123, rfl, rfl⟩ := hq
      refine Run.as2 (D' := ([(n117, "com/example/efcor/efcor/io/RecordWriter", [("com/example/efcor/efcor/io/RecordWriter", "bytes", "[B", (.ref c118)), ("com/example/efcor/efcor/io/RecordWriter", "size", "I", (.int (1 : Int32)))])], [(c118, .byte, (own_arr 64 (own_upd own_zero 0 ((c122.toInt8.toInt32).toInt8.toInt32)))), (c120, .byte, (own_arr 0 own_zero)), (r116, .byte, (own_arr 61 (own_upd (own_upd (own_upd own_zero 0 ((p2.toInt8.toInt32).toInt8.toInt32)) 30 ((p3.toInt8.toInt32).toInt8.toInt32)) 60 ((p4.toInt8.toInt32).toInt8.toInt32))))])) (S' := [(.ref n117)]) rfl rfl ?_
      obtain rfl : c122 = (0 : Int32) := by rcases hc123 with ⟨q0, q⟩ | ⟨q0, q⟩ <;> first | exact q | exact absurd q0 (by decide)
      refine Run.pop K at_133 (pc' := 134) rfl rfl ?_
      refine Run.aload K at_134 (pc' := 136) rfl rfl rfl ?_
      refine Run.callV K at_136 (pc' := 139) rfl (a := n117) (z := (⟨"com/example/efcor/efcor/io/RecordWriter", "toBytes", "()[B"⟩ : MethodName)) (Cn := "com/example/efcor/efcor/io/RecordWriter") (i := 0) (hw _ (List.mem_of_getElem? (i := 12) rfl)) (hw _ (List.mem_of_getElem? (i := 13) rfl)) (hw _ (List.mem_of_getElem? (i := 15) rfl)) (hw _ (List.mem_of_getElem? (i := 14) rfl)) (hw _ (List.mem_of_getElem? (i := 3) rfl)) (hw _ (List.mem_of_getElem? (i := 16) rfl)) (by decide) rfl (tb_shr l Z a0 n0 hw [] (n117) (c118) (64) ((own_upd own_zero 0 (((0 : Int32).toInt8.toInt32).toInt8.toInt32))) (1) ([]) ([(c120, .byte, (own_arr 0 own_zero)), (r116, .byte, (own_arr 61 (own_upd (own_upd (own_upd own_zero 0 ((p2.toInt8.toInt32).toInt8.toInt32)) 30 ((p3.toInt8.toInt32).toInt8.toInt32)) 60 ((p4.toInt8.toInt32).toInt8.toInt32))))]) (by decide) (by decide)) (argsL := []) (rest := []) rfl rfl pd_7 rfl (W := 0) rfl (by decide) (by decide) (cells' := 5) (slots' := 383) rfl rfl (by decide) (by decide) ?_
      intro vq Dq hq
      obtain ⟨c124, rfl, rfl⟩ := hq
      refine Run.as2 (D' := ([(n117, "com/example/efcor/efcor/io/RecordWriter", [("com/example/efcor/efcor/io/RecordWriter", "bytes", "[B", (.ref c118)), ("com/example/efcor/efcor/io/RecordWriter", "size", "I", (.int (1 : Int32)))])], [(c124, .byte, (own_arr 1 (own_upd own_zero 0 (((0 : Int32).toInt8.toInt32).toInt8.toInt32)))), (c118, .byte, (own_arr 64 (own_upd own_zero 0 (((0 : Int32).toInt8.toInt32).toInt8.toInt32)))), (c120, .byte, (own_arr 0 own_zero)), (r116, .byte, (own_arr 61 (own_upd (own_upd (own_upd own_zero 0 ((p2.toInt8.toInt32).toInt8.toInt32)) 30 ((p3.toInt8.toInt32).toInt8.toInt32)) 60 ((p4.toInt8.toInt32).toInt8.toInt32))))])) (S' := [(.ref c124)]) rfl rfl ?_
      refine Run.astore K at_139 (pc' := 141) rfl rfl (L' := #[.val (.int p1), .val (.int p2), .val (.int p3), .val (.int p4), .val (.int p5), .val (.int (0 : Int32)), .val (.int (((p1.toUInt32 >>> ((1 : Int32) &&& 31).toUInt32).toInt32) % (3 : Int32))), .val (.int (61 : Int32)), .val (.ref r116), .val (.int (p5 &&& (127 : Int32))), .val (.int (0 : Int32)), .val (.ref n117), .val (.ref c120), .val (.ref c124), .unset, .unset, .unset]) rfl ?_
      refine Run.aload K at_141 (pc' := 143) rfl rfl rfl ?_
      refine Run.alen K at_143 (pc' := 144) rfl (i := 2) rfl (w := (0 : Int32)) (own_arr_len rfl) ?_
      refine Run.ifcF K at_144 (pT := 167) (pF := 147) (by decide) (by decide) rfl (show ¬ ((0 : Int32) ≠ (0 : Int32)) from by decide) ?_
      refine Run.aload K at_147 (pc' := 149) rfl rfl rfl ?_
      refine Run.alen K at_149 (pc' := 150) rfl (i := 0) rfl (w := (1 : Int32)) (own_arr_len rfl) ?_
      refine Run.iconst K at_150 (pc' := 151) rfl (v := (1 : Int32)) rfl ?_
      refine Run.icmpF K at_151 (pT := 167) (pF := 154) (by decide) (by decide) rfl (show ¬ ((1 : Int32) ≠ (1 : Int32)) from by decide) ?_
      refine Run.aload K at_154 (pc' := 156) rfl rfl rfl ?_
      refine Run.iconst K at_156 (pc' := 157) rfl (v := (0 : Int32)) rfl ?_
      refine Run.baload K at_157 (pc' := 158) rfl (i := 0) (q := 0) rfl (by decide) (by decide) (v := (.int (((0 : Int32).toInt8.toInt32).toInt8.toInt32))) (own_arr_get (by decide) (v := (((0 : Int32).toInt8.toInt32).toInt8.toInt32)) rfl) ?_
      refine Run.iload K at_158 (pc' := 160) rfl rfl ?_
      refine Run.icmpF K at_160 (pT := 167) (pF := 163) (by decide) (by decide) rfl (show ¬ ((((0 : Int32).toInt8.toInt32).toInt8.toInt32) ≠ (0 : Int32)) from fun h => h (by first | decide | exact own_idem _ | exact own_lastv _)) ?_
      refine Run.iconst K at_163 (pc' := 164) rfl (v := (1 : Int32)) rfl ?_
      refine Run.goto K at_164 (pc' := 168) (by decide) (by decide) ?_
      refine Run.istore K at_168 (pc' := 170) rfl (L' := #[.val (.int p1), .val (.int p2), .val (.int p3), .val (.int p4), .val (.int p5), .val (.int (0 : Int32)), .val (.int (((p1.toUInt32 >>> ((1 : Int32) &&& 31).toUInt32).toInt32) % (3 : Int32))), .val (.int (61 : Int32)), .val (.ref r116), .val (.int (p5 &&& (127 : Int32))), .val (.int (0 : Int32)), .val (.ref n117), .val (.ref c120), .val (.ref c124), .val (.int (1 : Int32)), .unset, .unset]) rfl ?_
      refine Run.iload K at_170 (pc' := 172) rfl rfl ?_
      refine Run.ifcF K at_172 (pT := 187) (pF := 175) (by decide) (by decide) rfl (show ¬ ((1 : Int32) = (0 : Int32)) from by decide) ?_
      refine Run.aload K at_175 (pc' := 177) rfl rfl rfl ?_
      refine Run.iconst K at_177 (pc' := 178) rfl (v := (0 : Int32)) rfl ?_
      refine Run.aload K at_178 (pc' := 180) rfl rfl rfl ?_
      refine Run.iconst K at_180 (pc' := 181) rfl (v := (0 : Int32)) rfl ?_
      refine Run.baload K at_181 (pc' := 182) rfl (i := 0) (q := 0) rfl (by decide) (by decide) (v := (.int (((0 : Int32).toInt8.toInt32).toInt8.toInt32))) (own_arr_get (by decide) (v := (((0 : Int32).toInt8.toInt32).toInt8.toInt32)) rfl) ?_
      refine Run.bipush K at_182 (pc' := 184) rfl (v := (85 : Int32)) rfl ?_
      refine Run.ixor K at_184 (pc' := 185) rfl ?_
      refine Run.i2b K at_185 (pc' := 186) rfl ?_
      refine Run.bastore K at_186 (pc' := 187) rfl (i := 0) (q := 0) rfl (by decide) (by decide) (v := (.int (((0 : Int32).toInt8.toInt32).toInt8.toInt32))) (own_arr_get (by decide) (v := (((0 : Int32).toInt8.toInt32).toInt8.toInt32)) rfl) (D' := ([(n117, "com/example/efcor/efcor/io/RecordWriter", [("com/example/efcor/efcor/io/RecordWriter", "bytes", "[B", (.ref c118)), ("com/example/efcor/efcor/io/RecordWriter", "size", "I", (.int (1 : Int32)))])], [(c124, .byte, ((own_arr 1 (own_upd own_zero 0 (((0 : Int32).toInt8.toInt32).toInt8.toInt32))).set 0 (.int (((((0 : Int32).toInt8.toInt32).toInt8.toInt32) ^^^ (85 : Int32)).toInt8.toInt32).toInt8.toInt32))), (c118, .byte, (own_arr 64 (own_upd own_zero 0 (((0 : Int32).toInt8.toInt32).toInt8.toInt32)))), (c120, .byte, (own_arr 0 own_zero)), (r116, .byte, (own_arr 61 (own_upd (own_upd (own_upd own_zero 0 ((p2.toInt8.toInt32).toInt8.toInt32)) 30 ((p3.toInt8.toInt32).toInt8.toInt32)) 60 ((p4.toInt8.toInt32).toInt8.toInt32))))])) rfl ?_
      refine Run.as (D' := ([(n117, "com/example/efcor/efcor/io/RecordWriter", [("com/example/efcor/efcor/io/RecordWriter", "bytes", "[B", (.ref c118)), ("com/example/efcor/efcor/io/RecordWriter", "size", "I", (.int (1 : Int32)))])], [(c124, .byte, (own_arr 1 (own_upd (own_upd own_zero 0 (((0 : Int32).toInt8.toInt32).toInt8.toInt32)) 0 ((((((0 : Int32).toInt8.toInt32).toInt8.toInt32) ^^^ (85 : Int32)).toInt8.toInt32).toInt8.toInt32)))), (c118, .byte, (own_arr 64 (own_upd own_zero 0 (((0 : Int32).toInt8.toInt32).toInt8.toInt32)))), (c120, .byte, (own_arr 0 own_zero)), (r116, .byte, (own_arr 61 (own_upd (own_upd (own_upd own_zero 0 ((p2.toInt8.toInt32).toInt8.toInt32)) 30 ((p3.toInt8.toInt32).toInt8.toInt32)) 60 ((p4.toInt8.toInt32).toInt8.toInt32))))])) (by rw [own_arr_set]) ?_
      refine Run.aload K at_187 (pc' := 189) rfl rfl rfl ?_
      refine Run.aload K at_189 (pc' := 191) rfl rfl rfl ?_
      refine Run.bring 0 3 (D' := ([(n117, "com/example/efcor/efcor/io/RecordWriter", [("com/example/efcor/efcor/io/RecordWriter", "bytes", "[B", (.ref c118)), ("com/example/efcor/efcor/io/RecordWriter", "size", "I", (.int (1 : Int32)))])], [(r116, .byte, (own_arr 61 (own_upd (own_upd (own_upd own_zero 0 ((p2.toInt8.toInt32).toInt8.toInt32)) 30 ((p3.toInt8.toInt32).toInt8.toInt32)) 60 ((p4.toInt8.toInt32).toInt8.toInt32)))), (c124, .byte, (own_arr 1 (own_upd (own_upd own_zero 0 (((0 : Int32).toInt8.toInt32).toInt8.toInt32)) 0 ((((((0 : Int32).toInt8.toInt32).toInt8.toInt32) ^^^ (85 : Int32)).toInt8.toInt32).toInt8.toInt32)))), (c118, .byte, (own_arr 64 (own_upd own_zero 0 (((0 : Int32).toInt8.toInt32).toInt8.toInt32)))), (c120, .byte, (own_arr 0 own_zero))])) rfl ?_
      refine Run.bring 0 2 (D' := ([(n117, "com/example/efcor/efcor/io/RecordWriter", [("com/example/efcor/efcor/io/RecordWriter", "bytes", "[B", (.ref c118)), ("com/example/efcor/efcor/io/RecordWriter", "size", "I", (.int (1 : Int32)))])], [(c118, .byte, (own_arr 64 (own_upd own_zero 0 (((0 : Int32).toInt8.toInt32).toInt8.toInt32)))), (r116, .byte, (own_arr 61 (own_upd (own_upd (own_upd own_zero 0 ((p2.toInt8.toInt32).toInt8.toInt32)) 30 ((p3.toInt8.toInt32).toInt8.toInt32)) 60 ((p4.toInt8.toInt32).toInt8.toInt32)))), (c124, .byte, (own_arr 1 (own_upd (own_upd own_zero 0 (((0 : Int32).toInt8.toInt32).toInt8.toInt32)) 0 ((((((0 : Int32).toInt8.toInt32).toInt8.toInt32) ^^^ (85 : Int32)).toInt8.toInt32).toInt8.toInt32)))), (c120, .byte, (own_arr 0 own_zero))])) rfl ?_
      refine Run.callV K at_191 (pc' := 194) rfl (a := n117) (z := (⟨"com/example/efcor/efcor/io/RecordWriter", "writeBytes", "([B)Lcom/example/efcor/efcor/io/RecordWriter;"⟩ : MethodName)) (Cn := "com/example/efcor/efcor/io/RecordWriter") (i := 0) (hw _ (List.mem_of_getElem? (i := 44) rfl)) (hw _ (List.mem_of_getElem? (i := 45) rfl)) (hw _ (List.mem_of_getElem? (i := 47) rfl)) (hw _ (List.mem_of_getElem? (i := 46) rfl)) (hw _ (List.mem_of_getElem? (i := 3) rfl)) (hw _ (List.mem_of_getElem? (i := 48) rfl)) (by decide) rfl (wb_61 l Z a0 n0 hw [] (n117) (r116) (c118) ((own_upd own_zero 0 (((0 : Int32).toInt8.toInt32).toInt8.toInt32))) ((own_upd (own_upd (own_upd own_zero 0 ((p2.toInt8.toInt32).toInt8.toInt32)) 30 ((p3.toInt8.toInt32).toInt8.toInt32)) 60 ((p4.toInt8.toInt32).toInt8.toInt32))) ([]) ([(c124, .byte, (own_arr 1 (own_upd (own_upd own_zero 0 (((0 : Int32).toInt8.toInt32).toInt8.toInt32)) 0 ((((((0 : Int32).toInt8.toInt32).toInt8.toInt32) ^^^ (85 : Int32)).toInt8.toInt32).toInt8.toInt32)))), (c120, .byte, (own_arr 0 own_zero))]) ) (argsL := [(.ref r116)]) (rest := []) rfl rfl pd_9 rfl (W := 0) rfl (by decide) (by decide) (cells' := 5) (slots' := 383) rfl rfl (by decide) (by decide) (Ret.k (S' := [(.ref n117)]) rfl ?_)
      refine Run.as (D' := ([(n117, "com/example/efcor/efcor/io/RecordWriter", [("com/example/efcor/efcor/io/RecordWriter", "bytes", "[B", (.ref c118)), ("com/example/efcor/efcor/io/RecordWriter", "size", "I", (.int (63 : Int32)))])], [(c118, .byte, (own_arr 64 (own_put (own_upd (own_upd own_zero 0 (((0 : Int32).toInt8.toInt32).toInt8.toInt32)) 1 ((((((61 : Int32).toInt64) &&& (4294967295 : Int64)).toInt32).toInt8.toInt32).toInt8.toInt32)) 2 61 (own_upd (own_upd (own_upd own_zero 0 ((p2.toInt8.toInt32).toInt8.toInt32)) 30 ((p3.toInt8.toInt32).toInt8.toInt32)) 60 ((p4.toInt8.toInt32).toInt8.toInt32))))), (r116, .byte, (own_arr 61 (own_upd (own_upd (own_upd own_zero 0 ((p2.toInt8.toInt32).toInt8.toInt32)) 30 ((p3.toInt8.toInt32).toInt8.toInt32)) 60 ((p4.toInt8.toInt32).toInt8.toInt32)))), (c124, .byte, (own_arr 1 (own_upd (own_upd own_zero 0 (((0 : Int32).toInt8.toInt32).toInt8.toInt32)) 0 ((((((0 : Int32).toInt8.toInt32).toInt8.toInt32) ^^^ (85 : Int32)).toInt8.toInt32).toInt8.toInt32)))), (c120, .byte, (own_arr 0 own_zero))])) rfl ?_
      refine Run.pop K at_194 (pc' := 195) rfl rfl ?_
      refine Run.aload K at_195 (pc' := 197) rfl rfl rfl ?_
      refine Run.iload K at_197 (pc' := 199) rfl rfl ?_
      refine Run.callV K at_199 (pc' := 202) rfl (a := n117) (z := (⟨"com/example/efcor/efcor/io/RecordWriter", "writeInt", "(I)Lcom/example/efcor/efcor/io/RecordWriter;"⟩ : MethodName)) (Cn := "com/example/efcor/efcor/io/RecordWriter") (i := 0) (hw _ (List.mem_of_getElem? (i := 62) rfl)) (hw _ (List.mem_of_getElem? (i := 50) rfl)) (hw _ (List.mem_of_getElem? (i := 52) rfl)) (hw _ (List.mem_of_getElem? (i := 51) rfl)) (hw _ (List.mem_of_getElem? (i := 3) rfl)) (hw _ (List.mem_of_getElem? (i := 53) rfl)) (by decide) rfl (wi_no l Z a0 n0 hw [] (n117) ((p5 &&& (127 : Int32))) (c118) (64) ((own_put (own_upd (own_upd own_zero 0 (((0 : Int32).toInt8.toInt32).toInt8.toInt32)) 1 ((((((61 : Int32).toInt64) &&& (4294967295 : Int64)).toInt32).toInt8.toInt32).toInt8.toInt32)) 2 61 (own_upd (own_upd (own_upd own_zero 0 ((p2.toInt8.toInt32).toInt8.toInt32)) 30 ((p3.toInt8.toInt32).toInt8.toInt32)) 60 ((p4.toInt8.toInt32).toInt8.toInt32)))) (63) ([]) ([(r116, .byte, (own_arr 61 (own_upd (own_upd (own_upd own_zero 0 ((p2.toInt8.toInt32).toInt8.toInt32)) 30 ((p3.toInt8.toInt32).toInt8.toInt32)) 60 ((p4.toInt8.toInt32).toInt8.toInt32)))), (c124, .byte, (own_arr 1 (own_upd (own_upd own_zero 0 (((0 : Int32).toInt8.toInt32).toInt8.toInt32)) 0 ((((((0 : Int32).toInt8.toInt32).toInt8.toInt32) ^^^ (85 : Int32)).toInt8.toInt32).toInt8.toInt32)))), (c120, .byte, (own_arr 0 own_zero))]) (own_last p5) (by decide) (by decide)) (argsL := [(.int (p5 &&& (127 : Int32)))]) (rest := []) rfl rfl pd_5 rfl (W := 0) rfl (by decide) (by decide) (cells' := 5) (slots' := 383) rfl rfl (by decide) (by decide) (Ret.k (S' := [(.ref n117)]) rfl ?_)
      refine Run.as (D' := ([(n117, "com/example/efcor/efcor/io/RecordWriter", [("com/example/efcor/efcor/io/RecordWriter", "bytes", "[B", (.ref c118)), ("com/example/efcor/efcor/io/RecordWriter", "size", "I", (.int (64 : Int32)))])], [(c118, .byte, (own_arr 64 (own_upd (own_put (own_upd (own_upd own_zero 0 (((0 : Int32).toInt8.toInt32).toInt8.toInt32)) 1 ((((((61 : Int32).toInt64) &&& (4294967295 : Int64)).toInt32).toInt8.toInt32).toInt8.toInt32)) 2 61 (own_upd (own_upd (own_upd own_zero 0 ((p2.toInt8.toInt32).toInt8.toInt32)) 30 ((p3.toInt8.toInt32).toInt8.toInt32)) 60 ((p4.toInt8.toInt32).toInt8.toInt32))) 63 ((((((p5 &&& (127 : Int32)).toInt64) &&& (4294967295 : Int64)).toInt32).toInt8.toInt32).toInt8.toInt32)))), (r116, .byte, (own_arr 61 (own_upd (own_upd (own_upd own_zero 0 ((p2.toInt8.toInt32).toInt8.toInt32)) 30 ((p3.toInt8.toInt32).toInt8.toInt32)) 60 ((p4.toInt8.toInt32).toInt8.toInt32)))), (c124, .byte, (own_arr 1 (own_upd (own_upd own_zero 0 (((0 : Int32).toInt8.toInt32).toInt8.toInt32)) 0 ((((((0 : Int32).toInt8.toInt32).toInt8.toInt32) ^^^ (85 : Int32)).toInt8.toInt32).toInt8.toInt32)))), (c120, .byte, (own_arr 0 own_zero))])) rfl ?_
      refine Run.pop K at_202 (pc' := 203) rfl rfl ?_
      refine Run.aload K at_203 (pc' := 205) rfl rfl rfl ?_
      refine Run.callV K at_205 (pc' := 208) rfl (a := n117) (z := (⟨"com/example/efcor/efcor/io/RecordWriter", "toBytes", "()[B"⟩ : MethodName)) (Cn := "com/example/efcor/efcor/io/RecordWriter") (i := 0) (hw _ (List.mem_of_getElem? (i := 12) rfl)) (hw _ (List.mem_of_getElem? (i := 13) rfl)) (hw _ (List.mem_of_getElem? (i := 15) rfl)) (hw _ (List.mem_of_getElem? (i := 14) rfl)) (hw _ (List.mem_of_getElem? (i := 3) rfl)) (hw _ (List.mem_of_getElem? (i := 16) rfl)) (by decide) rfl (tb_cln l Z a0 n0 hw [] (n117) (c118) (64) ((own_upd (own_put (own_upd (own_upd own_zero 0 (((0 : Int32).toInt8.toInt32).toInt8.toInt32)) 1 ((((((61 : Int32).toInt64) &&& (4294967295 : Int64)).toInt32).toInt8.toInt32).toInt8.toInt32)) 2 61 (own_upd (own_upd (own_upd own_zero 0 ((p2.toInt8.toInt32).toInt8.toInt32)) 30 ((p3.toInt8.toInt32).toInt8.toInt32)) 60 ((p4.toInt8.toInt32).toInt8.toInt32))) 63 ((((((p5 &&& (127 : Int32)).toInt64) &&& (4294967295 : Int64)).toInt32).toInt8.toInt32).toInt8.toInt32))) (64) ([]) ([(r116, .byte, (own_arr 61 (own_upd (own_upd (own_upd own_zero 0 ((p2.toInt8.toInt32).toInt8.toInt32)) 30 ((p3.toInt8.toInt32).toInt8.toInt32)) 60 ((p4.toInt8.toInt32).toInt8.toInt32)))), (c124, .byte, (own_arr 1 (own_upd (own_upd own_zero 0 (((0 : Int32).toInt8.toInt32).toInt8.toInt32)) 0 ((((((0 : Int32).toInt8.toInt32).toInt8.toInt32) ^^^ (85 : Int32)).toInt8.toInt32).toInt8.toInt32)))), (c120, .byte, (own_arr 0 own_zero))]) (by decide) (by decide)) (argsL := []) (rest := []) rfl rfl pd_7 rfl (W := 0) rfl (by decide) (by decide) (cells' := 6) (slots' := 511) rfl rfl (by decide) (by decide) ?_
      intro vq Dq hq
      obtain ⟨c126, rfl, rfl⟩ := hq
      refine Run.as2 (D' := ([(n117, "com/example/efcor/efcor/io/RecordWriter", [("com/example/efcor/efcor/io/RecordWriter", "bytes", "[B", (.ref c118)), ("com/example/efcor/efcor/io/RecordWriter", "size", "I", (.int (64 : Int32)))])], [(c126, .byte, (own_arr 64 (own_upd (own_put (own_upd (own_upd own_zero 0 (((0 : Int32).toInt8.toInt32).toInt8.toInt32)) 1 ((((((61 : Int32).toInt64) &&& (4294967295 : Int64)).toInt32).toInt8.toInt32).toInt8.toInt32)) 2 61 (own_upd (own_upd (own_upd own_zero 0 ((p2.toInt8.toInt32).toInt8.toInt32)) 30 ((p3.toInt8.toInt32).toInt8.toInt32)) 60 ((p4.toInt8.toInt32).toInt8.toInt32))) 63 ((((((p5 &&& (127 : Int32)).toInt64) &&& (4294967295 : Int64)).toInt32).toInt8.toInt32).toInt8.toInt32)))), (c118, .byte, (own_arr 64 (own_upd (own_put (own_upd (own_upd own_zero 0 (((0 : Int32).toInt8.toInt32).toInt8.toInt32)) 1 ((((((61 : Int32).toInt64) &&& (4294967295 : Int64)).toInt32).toInt8.toInt32).toInt8.toInt32)) 2 61 (own_upd (own_upd (own_upd own_zero 0 ((p2.toInt8.toInt32).toInt8.toInt32)) 30 ((p3.toInt8.toInt32).toInt8.toInt32)) 60 ((p4.toInt8.toInt32).toInt8.toInt32))) 63 ((((((p5 &&& (127 : Int32)).toInt64) &&& (4294967295 : Int64)).toInt32).toInt8.toInt32).toInt8.toInt32)))), (r116, .byte, (own_arr 61 (own_upd (own_upd (own_upd own_zero 0 ((p2.toInt8.toInt32).toInt8.toInt32)) 30 ((p3.toInt8.toInt32).toInt8.toInt32)) 60 ((p4.toInt8.toInt32).toInt8.toInt32)))), (c124, .byte, (own_arr 1 (own_upd (own_upd own_zero 0 (((0 : Int32).toInt8.toInt32).toInt8.toInt32)) 0 ((((((0 : Int32).toInt8.toInt32).toInt8.toInt32) ^^^ (85 : Int32)).toInt8.toInt32).toInt8.toInt32)))), (c120, .byte, (own_arr 0 own_zero))])) (S' := [(.ref c126)]) rfl rfl ?_
      refine Run.astore K at_208 (pc' := 210) rfl rfl (L' := #[.val (.int p1), .val (.int p2), .val (.int p3), .val (.int p4), .val (.int p5), .val (.int (0 : Int32)), .val (.int (((p1.toUInt32 >>> ((1 : Int32) &&& 31).toUInt32).toInt32) % (3 : Int32))), .val (.int (61 : Int32)), .val (.ref r116), .val (.int (p5 &&& (127 : Int32))), .val (.int (0 : Int32)), .val (.ref n117), .val (.ref c120), .val (.ref c124), .val (.int (1 : Int32)), .val (.ref c126), .unset]) rfl ?_
      refine Run.iload K at_210 (pc' := 212) rfl rfl ?_
      refine Run.ifcF K at_212 (pT := 303) (pF := 215) (by decide) (by decide) rfl (show ¬ ((1 : Int32) = (0 : Int32)) from by decide) ?_
      refine Run.aload K at_215 (pc' := 217) rfl rfl rfl ?_
      refine Run.alen K at_217 (pc' := 218) rfl (i := 0) rfl (w := (64 : Int32)) (own_arr_len rfl) ?_
      refine Run.iload K at_218 (pc' := 220) rfl rfl ?_
      refine Run.iconst K at_220 (pc' := 221) rfl (v := (3 : Int32)) rfl ?_
      refine Run.iaddV K at_221 (pc' := 222) rfl (v := (64 : Int32)) (by decide) ?_
      refine Run.icmpF K at_222 (pT := 303) (pF := 225) (by decide) (by decide) rfl (show ¬ ((64 : Int32) ≠ (64 : Int32)) from by decide) ?_
      refine Run.aload K at_225 (pc' := 227) rfl rfl rfl ?_
      refine Run.iconst K at_227 (pc' := 228) rfl (v := (0 : Int32)) rfl ?_
      refine Run.baload K at_228 (pc' := 229) rfl (i := 0) (q := 0) rfl (by decide) (by decide) (v := (.int (((0 : Int32).toInt8.toInt32).toInt8.toInt32))) (own_arr_get (by decide) (v := (((0 : Int32).toInt8.toInt32).toInt8.toInt32)) rfl) ?_
      refine Run.iload K at_229 (pc' := 231) rfl rfl ?_
      refine Run.icmpF K at_231 (pT := 303) (pF := 234) (by decide) (by decide) rfl (show ¬ ((((0 : Int32).toInt8.toInt32).toInt8.toInt32) ≠ (0 : Int32)) from fun h => h (by first | decide | exact own_idem _ | exact own_lastv _)) ?_
      refine Run.aload K at_234 (pc' := 236) rfl rfl rfl ?_
      refine Run.iconst K at_236 (pc' := 237) rfl (v := (1 : Int32)) rfl ?_
      refine Run.baload K at_237 (pc' := 238) rfl (i := 0) (q := 1) rfl (by decide) (by decide) (v := (.int ((((((61 : Int32).toInt64) &&& (4294967295 : Int64)).toInt32).toInt8.toInt32).toInt8.toInt32))) (own_arr_get (by decide) (v := ((((((61 : Int32).toInt64) &&& (4294967295 : Int64)).toInt32).toInt8.toInt32).toInt8.toInt32)) rfl) ?_
      refine Run.iload K at_238 (pc' := 240) rfl rfl ?_
      refine Run.i2bV K at_240 (pc' := 241) rfl (v := (61 : Int32)) (by decide) ?_
      refine Run.icmpF K at_241 (pT := 303) (pF := 244) (by decide) (by decide) rfl (show ¬ (((((((61 : Int32).toInt64) &&& (4294967295 : Int64)).toInt32).toInt8.toInt32).toInt8.toInt32) ≠ (61 : Int32)) from fun h => h (by first | decide | exact own_idem _ | exact own_lastv _)) ?_
      refine Run.aload K at_244 (pc' := 246) rfl rfl rfl ?_
      refine Run.iconst K at_246 (pc' := 247) rfl (v := (2 : Int32)) rfl ?_
      refine Run.baload K at_247 (pc' := 248) rfl (i := 0) (q := 2) rfl (by decide) (by decide) (v := (.int ((p2.toInt8.toInt32).toInt8.toInt32))) (own_arr_get (by decide) (v := ((p2.toInt8.toInt32).toInt8.toInt32)) rfl) ?_
      refine Run.iloadN K at_248 (pc' := 249) rfl rfl ?_
      refine Run.i2b K at_249 (pc' := 250) rfl ?_
      refine Run.icmpF K at_250 (pT := 303) (pF := 253) (by decide) (by decide) rfl (show ¬ (((p2.toInt8.toInt32).toInt8.toInt32) ≠ (p2.toInt8.toInt32)) from fun h => h (by first | decide | exact own_idem _ | exact own_lastv _)) ?_
      refine Run.aload K at_253 (pc' := 255) rfl rfl rfl ?_
      refine Run.iconst K at_255 (pc' := 256) rfl (v := (3 : Int32)) rfl ?_
      refine Run.baload K at_256 (pc' := 257) rfl (i := 0) (q := 3) rfl (by decide) (by decide) (v := (.int (0 : Int32))) (own_arr_get (by decide) (v := (0 : Int32)) rfl) ?_
      refine Run.ifcF K at_257 (pT := 303) (pF := 260) (by decide) (by decide) rfl (show ¬ ((0 : Int32) ≠ (0 : Int32)) from by decide) ?_
      refine Run.aload K at_260 (pc' := 262) rfl rfl rfl ?_
      refine Run.iconst K at_262 (pc' := 263) rfl (v := (2 : Int32)) rfl ?_
      refine Run.iload K at_263 (pc' := 265) rfl rfl ?_
      refine Run.iconst K at_265 (pc' := 266) rfl (v := (2 : Int32)) rfl ?_
      refine Run.idivV K at_266 (pc' := 267) rfl (by decide) (v := (30 : Int32)) (by decide) ?_
      refine Run.iaddV K at_267 (pc' := 268) rfl (v := (32 : Int32)) (by decide) ?_
      refine Run.baload K at_268 (pc' := 269) rfl (i := 0) (q := 32) rfl (by decide) (by decide) (v := (.int ((p3.toInt8.toInt32).toInt8.toInt32))) (own_arr_get (by decide) (v := ((p3.toInt8.toInt32).toInt8.toInt32)) rfl) ?_
      refine Run.iloadN K at_269 (pc' := 270) rfl rfl ?_
      refine Run.i2b K at_270 (pc' := 271) rfl ?_
      refine Run.icmpF K at_271 (pT := 303) (pF := 274) (by decide) (by decide) rfl (show ¬ (((p3.toInt8.toInt32).toInt8.toInt32) ≠ (p3.toInt8.toInt32)) from fun h => h (by first | decide | exact own_idem _ | exact own_lastv _)) ?_
      refine Run.aload K at_274 (pc' := 276) rfl rfl rfl ?_
      refine Run.iconst K at_276 (pc' := 277) rfl (v := (1 : Int32)) rfl ?_
      refine Run.iload K at_277 (pc' := 279) rfl rfl ?_
      refine Run.iaddV K at_279 (pc' := 280) rfl (v := (62 : Int32)) (by decide) ?_
      refine Run.baload K at_280 (pc' := 281) rfl (i := 0) (q := 62) rfl (by decide) (by decide) (v := (.int ((p4.toInt8.toInt32).toInt8.toInt32))) (own_arr_get (by decide) (v := ((p4.toInt8.toInt32).toInt8.toInt32)) rfl) ?_
      refine Run.iloadN K at_281 (pc' := 282) rfl rfl ?_
      refine Run.i2b K at_282 (pc' := 283) rfl ?_
      refine Run.icmpF K at_283 (pT := 303) (pF := 286) (by decide) (by decide) rfl (show ¬ (((p4.toInt8.toInt32).toInt8.toInt32) ≠ (p4.toInt8.toInt32)) from fun h => h (by first | decide | exact own_idem _ | exact own_lastv _)) ?_
      refine Run.aload K at_286 (pc' := 288) rfl rfl rfl ?_
      refine Run.iconst K at_288 (pc' := 289) rfl (v := (2 : Int32)) rfl ?_
      refine Run.iload K at_289 (pc' := 291) rfl rfl ?_
      refine Run.iaddV K at_291 (pc' := 292) rfl (v := (63 : Int32)) (by decide) ?_
      refine Run.baload K at_292 (pc' := 293) rfl (i := 0) (q := 63) rfl (by decide) (by decide) (v := (.int ((((((p5 &&& (127 : Int32)).toInt64) &&& (4294967295 : Int64)).toInt32).toInt8.toInt32).toInt8.toInt32))) (own_arr_get (by decide) (v := ((((((p5 &&& (127 : Int32)).toInt64) &&& (4294967295 : Int64)).toInt32).toInt8.toInt32).toInt8.toInt32)) rfl) ?_
      refine Run.iload K at_293 (pc' := 295) rfl rfl ?_
      refine Run.i2b K at_295 (pc' := 296) rfl ?_
      refine Run.icmpF K at_296 (pT := 303) (pF := 299) (by decide) (by decide) rfl (show ¬ (((((((p5 &&& (127 : Int32)).toInt64) &&& (4294967295 : Int64)).toInt32).toInt8.toInt32).toInt8.toInt32) ≠ ((p5 &&& (127 : Int32)).toInt8.toInt32)) from fun h => h (by first | decide | exact own_idem _ | exact own_lastv _)) ?_
      refine Run.iconst K at_299 (pc' := 300) rfl (v := (1 : Int32)) rfl ?_
      refine Run.goto K at_300 (pc' := 304) (by decide) (by decide) ?_
      refine Run.istore K at_304 (pc' := 306) rfl (L' := #[.val (.int p1), .val (.int p2), .val (.int p3), .val (.int p4), .val (.int p5), .val (.int (0 : Int32)), .val (.int (((p1.toUInt32 >>> ((1 : Int32) &&& 31).toUInt32).toInt32) % (3 : Int32))), .val (.int (61 : Int32)), .val (.ref r116), .val (.int (p5 &&& (127 : Int32))), .val (.int (0 : Int32)), .val (.ref n117), .val (.ref c120), .val (.ref c124), .val (.int (1 : Int32)), .val (.ref c126), .unset]) rfl ?_
      refine Run.iload K at_306 (pc' := 308) rfl rfl ?_
      refine Run.ifcF K at_308 (pT := 329) (pF := 311) (by decide) (by decide) rfl (show ¬ ((1 : Int32) = (0 : Int32)) from by decide) ?_
      refine Run.aload K at_311 (pc' := 313) rfl rfl rfl ?_
      refine Run.iconst K at_313 (pc' := 314) rfl (v := (2 : Int32)) rfl ?_
      refine Run.iload K at_314 (pc' := 316) rfl rfl ?_
      refine Run.iaddV K at_316 (pc' := 317) rfl (v := (63 : Int32)) (by decide) ?_
      refine Run.aload K at_317 (pc' := 319) rfl rfl rfl ?_
      refine Run.iconst K at_319 (pc' := 320) rfl (v := (2 : Int32)) rfl ?_
      refine Run.iload K at_320 (pc' := 322) rfl rfl ?_
      refine Run.iaddV K at_322 (pc' := 323) rfl (v := (63 : Int32)) (by decide) ?_
      refine Run.baload K at_323 (pc' := 324) rfl (i := 0) (q := 63) rfl (by decide) (by decide) (v := (.int ((((((p5 &&& (127 : Int32)).toInt64) &&& (4294967295 : Int64)).toInt32).toInt8.toInt32).toInt8.toInt32))) (own_arr_get (by decide) (v := ((((((p5 &&& (127 : Int32)).toInt64) &&& (4294967295 : Int64)).toInt32).toInt8.toInt32).toInt8.toInt32)) rfl) ?_
      refine Run.bipush K at_324 (pc' := 326) rfl (v := (85 : Int32)) rfl ?_
      refine Run.ixor K at_326 (pc' := 327) rfl ?_
      refine Run.i2b K at_327 (pc' := 328) rfl ?_
      refine Run.bastore K at_328 (pc' := 329) rfl (i := 0) (q := 63) rfl (by decide) (by decide) (v := (.int ((((((p5 &&& (127 : Int32)).toInt64) &&& (4294967295 : Int64)).toInt32).toInt8.toInt32).toInt8.toInt32))) (own_arr_get (by decide) (v := ((((((p5 &&& (127 : Int32)).toInt64) &&& (4294967295 : Int64)).toInt32).toInt8.toInt32).toInt8.toInt32)) rfl) (D' := ([(n117, "com/example/efcor/efcor/io/RecordWriter", [("com/example/efcor/efcor/io/RecordWriter", "bytes", "[B", (.ref c118)), ("com/example/efcor/efcor/io/RecordWriter", "size", "I", (.int (64 : Int32)))])], [(c126, .byte, ((own_arr 64 (own_upd (own_put (own_upd (own_upd own_zero 0 (((0 : Int32).toInt8.toInt32).toInt8.toInt32)) 1 ((((((61 : Int32).toInt64) &&& (4294967295 : Int64)).toInt32).toInt8.toInt32).toInt8.toInt32)) 2 61 (own_upd (own_upd (own_upd own_zero 0 ((p2.toInt8.toInt32).toInt8.toInt32)) 30 ((p3.toInt8.toInt32).toInt8.toInt32)) 60 ((p4.toInt8.toInt32).toInt8.toInt32))) 63 ((((((p5 &&& (127 : Int32)).toInt64) &&& (4294967295 : Int64)).toInt32).toInt8.toInt32).toInt8.toInt32))).set 63 (.int ((((((((p5 &&& (127 : Int32)).toInt64) &&& (4294967295 : Int64)).toInt32).toInt8.toInt32).toInt8.toInt32) ^^^ (85 : Int32)).toInt8.toInt32).toInt8.toInt32))), (c118, .byte, (own_arr 64 (own_upd (own_put (own_upd (own_upd own_zero 0 (((0 : Int32).toInt8.toInt32).toInt8.toInt32)) 1 ((((((61 : Int32).toInt64) &&& (4294967295 : Int64)).toInt32).toInt8.toInt32).toInt8.toInt32)) 2 61 (own_upd (own_upd (own_upd own_zero 0 ((p2.toInt8.toInt32).toInt8.toInt32)) 30 ((p3.toInt8.toInt32).toInt8.toInt32)) 60 ((p4.toInt8.toInt32).toInt8.toInt32))) 63 ((((((p5 &&& (127 : Int32)).toInt64) &&& (4294967295 : Int64)).toInt32).toInt8.toInt32).toInt8.toInt32)))), (r116, .byte, (own_arr 61 (own_upd (own_upd (own_upd own_zero 0 ((p2.toInt8.toInt32).toInt8.toInt32)) 30 ((p3.toInt8.toInt32).toInt8.toInt32)) 60 ((p4.toInt8.toInt32).toInt8.toInt32)))), (c124, .byte, (own_arr 1 (own_upd (own_upd own_zero 0 (((0 : Int32).toInt8.toInt32).toInt8.toInt32)) 0 ((((((0 : Int32).toInt8.toInt32).toInt8.toInt32) ^^^ (85 : Int32)).toInt8.toInt32).toInt8.toInt32)))), (c120, .byte, (own_arr 0 own_zero))])) rfl ?_
      refine Run.as (D' := ([(n117, "com/example/efcor/efcor/io/RecordWriter", [("com/example/efcor/efcor/io/RecordWriter", "bytes", "[B", (.ref c118)), ("com/example/efcor/efcor/io/RecordWriter", "size", "I", (.int (64 : Int32)))])], [(c126, .byte, (own_arr 64 (own_upd (own_upd (own_put (own_upd (own_upd own_zero 0 (((0 : Int32).toInt8.toInt32).toInt8.toInt32)) 1 ((((((61 : Int32).toInt64) &&& (4294967295 : Int64)).toInt32).toInt8.toInt32).toInt8.toInt32)) 2 61 (own_upd (own_upd (own_upd own_zero 0 ((p2.toInt8.toInt32).toInt8.toInt32)) 30 ((p3.toInt8.toInt32).toInt8.toInt32)) 60 ((p4.toInt8.toInt32).toInt8.toInt32))) 63 ((((((p5 &&& (127 : Int32)).toInt64) &&& (4294967295 : Int64)).toInt32).toInt8.toInt32).toInt8.toInt32)) 63 (((((((((p5 &&& (127 : Int32)).toInt64) &&& (4294967295 : Int64)).toInt32).toInt8.toInt32).toInt8.toInt32) ^^^ (85 : Int32)).toInt8.toInt32).toInt8.toInt32)))), (c118, .byte, (own_arr 64 (own_upd (own_put (own_upd (own_upd own_zero 0 (((0 : Int32).toInt8.toInt32).toInt8.toInt32)) 1 ((((((61 : Int32).toInt64) &&& (4294967295 : Int64)).toInt32).toInt8.toInt32).toInt8.toInt32)) 2 61 (own_upd (own_upd (own_upd own_zero 0 ((p2.toInt8.toInt32).toInt8.toInt32)) 30 ((p3.toInt8.toInt32).toInt8.toInt32)) 60 ((p4.toInt8.toInt32).toInt8.toInt32))) 63 ((((((p5 &&& (127 : Int32)).toInt64) &&& (4294967295 : Int64)).toInt32).toInt8.toInt32).toInt8.toInt32)))), (r116, .byte, (own_arr 61 (own_upd (own_upd (own_upd own_zero 0 ((p2.toInt8.toInt32).toInt8.toInt32)) 30 ((p3.toInt8.toInt32).toInt8.toInt32)) 60 ((p4.toInt8.toInt32).toInt8.toInt32)))), (c124, .byte, (own_arr 1 (own_upd (own_upd own_zero 0 (((0 : Int32).toInt8.toInt32).toInt8.toInt32)) 0 ((((((0 : Int32).toInt8.toInt32).toInt8.toInt32) ^^^ (85 : Int32)).toInt8.toInt32).toInt8.toInt32)))), (c120, .byte, (own_arr 0 own_zero))])) (by rw [own_arr_set]) ?_
      refine Run.aload K at_329 (pc' := 331) rfl rfl rfl ?_
      refine Run.bring 0 1 (D' := ([(n117, "com/example/efcor/efcor/io/RecordWriter", [("com/example/efcor/efcor/io/RecordWriter", "bytes", "[B", (.ref c118)), ("com/example/efcor/efcor/io/RecordWriter", "size", "I", (.int (64 : Int32)))])], [(c118, .byte, (own_arr 64 (own_upd (own_put (own_upd (own_upd own_zero 0 (((0 : Int32).toInt8.toInt32).toInt8.toInt32)) 1 ((((((61 : Int32).toInt64) &&& (4294967295 : Int64)).toInt32).toInt8.toInt32).toInt8.toInt32)) 2 61 (own_upd (own_upd (own_upd own_zero 0 ((p2.toInt8.toInt32).toInt8.toInt32)) 30 ((p3.toInt8.toInt32).toInt8.toInt32)) 60 ((p4.toInt8.toInt32).toInt8.toInt32))) 63 ((((((p5 &&& (127 : Int32)).toInt64) &&& (4294967295 : Int64)).toInt32).toInt8.toInt32).toInt8.toInt32)))), (c126, .byte, (own_arr 64 (own_upd (own_upd (own_put (own_upd (own_upd own_zero 0 (((0 : Int32).toInt8.toInt32).toInt8.toInt32)) 1 ((((((61 : Int32).toInt64) &&& (4294967295 : Int64)).toInt32).toInt8.toInt32).toInt8.toInt32)) 2 61 (own_upd (own_upd (own_upd own_zero 0 ((p2.toInt8.toInt32).toInt8.toInt32)) 30 ((p3.toInt8.toInt32).toInt8.toInt32)) 60 ((p4.toInt8.toInt32).toInt8.toInt32))) 63 ((((((p5 &&& (127 : Int32)).toInt64) &&& (4294967295 : Int64)).toInt32).toInt8.toInt32).toInt8.toInt32)) 63 (((((((((p5 &&& (127 : Int32)).toInt64) &&& (4294967295 : Int64)).toInt32).toInt8.toInt32).toInt8.toInt32) ^^^ (85 : Int32)).toInt8.toInt32).toInt8.toInt32)))), (r116, .byte, (own_arr 61 (own_upd (own_upd (own_upd own_zero 0 ((p2.toInt8.toInt32).toInt8.toInt32)) 30 ((p3.toInt8.toInt32).toInt8.toInt32)) 60 ((p4.toInt8.toInt32).toInt8.toInt32)))), (c124, .byte, (own_arr 1 (own_upd (own_upd own_zero 0 (((0 : Int32).toInt8.toInt32).toInt8.toInt32)) 0 ((((((0 : Int32).toInt8.toInt32).toInt8.toInt32) ^^^ (85 : Int32)).toInt8.toInt32).toInt8.toInt32)))), (c120, .byte, (own_arr 0 own_zero))])) rfl ?_
      refine Run.callV K at_331 (pc' := 334) rfl (a := n117) (z := (⟨"com/example/efcor/efcor/io/RecordWriter", "toBytes", "()[B"⟩ : MethodName)) (Cn := "com/example/efcor/efcor/io/RecordWriter") (i := 0) (hw _ (List.mem_of_getElem? (i := 12) rfl)) (hw _ (List.mem_of_getElem? (i := 13) rfl)) (hw _ (List.mem_of_getElem? (i := 15) rfl)) (hw _ (List.mem_of_getElem? (i := 14) rfl)) (hw _ (List.mem_of_getElem? (i := 3) rfl)) (hw _ (List.mem_of_getElem? (i := 16) rfl)) (by decide) rfl (tb_cln l Z a0 n0 hw [] (n117) (c118) (64) ((own_upd (own_put (own_upd (own_upd own_zero 0 (((0 : Int32).toInt8.toInt32).toInt8.toInt32)) 1 ((((((61 : Int32).toInt64) &&& (4294967295 : Int64)).toInt32).toInt8.toInt32).toInt8.toInt32)) 2 61 (own_upd (own_upd (own_upd own_zero 0 ((p2.toInt8.toInt32).toInt8.toInt32)) 30 ((p3.toInt8.toInt32).toInt8.toInt32)) 60 ((p4.toInt8.toInt32).toInt8.toInt32))) 63 ((((((p5 &&& (127 : Int32)).toInt64) &&& (4294967295 : Int64)).toInt32).toInt8.toInt32).toInt8.toInt32))) (64) ([]) ([(c126, .byte, (own_arr 64 (own_upd (own_upd (own_put (own_upd (own_upd own_zero 0 (((0 : Int32).toInt8.toInt32).toInt8.toInt32)) 1 ((((((61 : Int32).toInt64) &&& (4294967295 : Int64)).toInt32).toInt8.toInt32).toInt8.toInt32)) 2 61 (own_upd (own_upd (own_upd own_zero 0 ((p2.toInt8.toInt32).toInt8.toInt32)) 30 ((p3.toInt8.toInt32).toInt8.toInt32)) 60 ((p4.toInt8.toInt32).toInt8.toInt32))) 63 ((((((p5 &&& (127 : Int32)).toInt64) &&& (4294967295 : Int64)).toInt32).toInt8.toInt32).toInt8.toInt32)) 63 (((((((((p5 &&& (127 : Int32)).toInt64) &&& (4294967295 : Int64)).toInt32).toInt8.toInt32).toInt8.toInt32) ^^^ (85 : Int32)).toInt8.toInt32).toInt8.toInt32)))), (r116, .byte, (own_arr 61 (own_upd (own_upd (own_upd own_zero 0 ((p2.toInt8.toInt32).toInt8.toInt32)) 30 ((p3.toInt8.toInt32).toInt8.toInt32)) 60 ((p4.toInt8.toInt32).toInt8.toInt32)))), (c124, .byte, (own_arr 1 (own_upd (own_upd own_zero 0 (((0 : Int32).toInt8.toInt32).toInt8.toInt32)) 0 ((((((0 : Int32).toInt8.toInt32).toInt8.toInt32) ^^^ (85 : Int32)).toInt8.toInt32).toInt8.toInt32)))), (c120, .byte, (own_arr 0 own_zero))]) (by decide) (by decide)) (argsL := []) (rest := []) rfl rfl pd_7 rfl (W := 0) rfl (by decide) (by decide) (cells' := 7) (slots' := 639) rfl rfl (by decide) (by decide) ?_
      intro vq Dq hq
      obtain ⟨c128, rfl, rfl⟩ := hq
      refine Run.as2 (D' := ([(n117, "com/example/efcor/efcor/io/RecordWriter", [("com/example/efcor/efcor/io/RecordWriter", "bytes", "[B", (.ref c118)), ("com/example/efcor/efcor/io/RecordWriter", "size", "I", (.int (64 : Int32)))])], [(c128, .byte, (own_arr 64 (own_upd (own_put (own_upd (own_upd own_zero 0 (((0 : Int32).toInt8.toInt32).toInt8.toInt32)) 1 ((((((61 : Int32).toInt64) &&& (4294967295 : Int64)).toInt32).toInt8.toInt32).toInt8.toInt32)) 2 61 (own_upd (own_upd (own_upd own_zero 0 ((p2.toInt8.toInt32).toInt8.toInt32)) 30 ((p3.toInt8.toInt32).toInt8.toInt32)) 60 ((p4.toInt8.toInt32).toInt8.toInt32))) 63 ((((((p5 &&& (127 : Int32)).toInt64) &&& (4294967295 : Int64)).toInt32).toInt8.toInt32).toInt8.toInt32)))), (c118, .byte, (own_arr 64 (own_upd (own_put (own_upd (own_upd own_zero 0 (((0 : Int32).toInt8.toInt32).toInt8.toInt32)) 1 ((((((61 : Int32).toInt64) &&& (4294967295 : Int64)).toInt32).toInt8.toInt32).toInt8.toInt32)) 2 61 (own_upd (own_upd (own_upd own_zero 0 ((p2.toInt8.toInt32).toInt8.toInt32)) 30 ((p3.toInt8.toInt32).toInt8.toInt32)) 60 ((p4.toInt8.toInt32).toInt8.toInt32))) 63 ((((((p5 &&& (127 : Int32)).toInt64) &&& (4294967295 : Int64)).toInt32).toInt8.toInt32).toInt8.toInt32)))), (c126, .byte, (own_arr 64 (own_upd (own_upd (own_put (own_upd (own_upd own_zero 0 (((0 : Int32).toInt8.toInt32).toInt8.toInt32)) 1 ((((((61 : Int32).toInt64) &&& (4294967295 : Int64)).toInt32).toInt8.toInt32).toInt8.toInt32)) 2 61 (own_upd (own_upd (own_upd own_zero 0 ((p2.toInt8.toInt32).toInt8.toInt32)) 30 ((p3.toInt8.toInt32).toInt8.toInt32)) 60 ((p4.toInt8.toInt32).toInt8.toInt32))) 63 ((((((p5 &&& (127 : Int32)).toInt64) &&& (4294967295 : Int64)).toInt32).toInt8.toInt32).toInt8.toInt32)) 63 (((((((((p5 &&& (127 : Int32)).toInt64) &&& (4294967295 : Int64)).toInt32).toInt8.toInt32).toInt8.toInt32) ^^^ (85 : Int32)).toInt8.toInt32).toInt8.toInt32)))), (r116, .byte, (own_arr 61 (own_upd (own_upd (own_upd own_zero 0 ((p2.toInt8.toInt32).toInt8.toInt32)) 30 ((p3.toInt8.toInt32).toInt8.toInt32)) 60 ((p4.toInt8.toInt32).toInt8.toInt32)))), (c124, .byte, (own_arr 1 (own_upd (own_upd own_zero 0 (((0 : Int32).toInt8.toInt32).toInt8.toInt32)) 0 ((((((0 : Int32).toInt8.toInt32).toInt8.toInt32) ^^^ (85 : Int32)).toInt8.toInt32).toInt8.toInt32)))), (c120, .byte, (own_arr 0 own_zero))])) (S' := [(.ref c128)]) rfl rfl ?_
      refine Run.astore K at_334 (pc' := 336) rfl rfl (L' := #[.val (.int p1), .val (.int p2), .val (.int p3), .val (.int p4), .val (.int p5), .val (.int (0 : Int32)), .val (.int (((p1.toUInt32 >>> ((1 : Int32) &&& 31).toUInt32).toInt32) % (3 : Int32))), .val (.int (61 : Int32)), .val (.ref r116), .val (.int (p5 &&& (127 : Int32))), .val (.int (0 : Int32)), .val (.ref n117), .val (.ref c120), .val (.ref c124), .val (.int (1 : Int32)), .val (.ref c126), .val (.ref c128)]) rfl ?_
      refine Run.iload K at_336 (pc' := 338) rfl rfl ?_
      refine Run.ifcF K at_338 (pT := 384) (pF := 341) (by decide) (by decide) rfl (show ¬ ((1 : Int32) = (0 : Int32)) from by decide) ?_
      refine Run.aload K at_341 (pc' := 343) rfl rfl rfl ?_
      refine Run.aload K at_343 (pc' := 345) rfl rfl rfl ?_
      refine Run.acmpF K at_345 (pF := 348) rfl (i := 0) (j := 2) rfl rfl rfl rfl (by decide) ?_
      refine Run.aload K at_348 (pc' := 350) rfl rfl rfl ?_
      refine Run.alen K at_350 (pc' := 351) rfl (i := 0) rfl (w := (64 : Int32)) (own_arr_len rfl) ?_
      refine Run.iload K at_351 (pc' := 353) rfl rfl ?_
      refine Run.iconst K at_353 (pc' := 354) rfl (v := (3 : Int32)) rfl ?_
      refine Run.iaddV K at_354 (pc' := 355) rfl (v := (64 : Int32)) (by decide) ?_
      refine Run.icmpF K at_355 (pT := 384) (pF := 358) (by decide) (by decide) rfl (show ¬ ((64 : Int32) ≠ (64 : Int32)) from by decide) ?_
      refine Run.aload K at_358 (pc' := 360) rfl rfl rfl ?_
      refine Run.iconst K at_360 (pc' := 361) rfl (v := (0 : Int32)) rfl ?_
      refine Run.baload K at_361 (pc' := 362) rfl (i := 0) (q := 0) rfl (by decide) (by decide) (v := (.int (((0 : Int32).toInt8.toInt32).toInt8.toInt32))) (own_arr_get (by decide) (v := (((0 : Int32).toInt8.toInt32).toInt8.toInt32)) rfl) ?_
      refine Run.iload K at_362 (pc' := 364) rfl rfl ?_
      refine Run.icmpF K at_364 (pT := 384) (pF := 367) (by decide) (by decide) rfl (show ¬ ((((0 : Int32).toInt8.toInt32).toInt8.toInt32) ≠ (0 : Int32)) from fun h => h (by first | decide | exact own_idem _ | exact own_lastv _)) ?_
      refine Run.aload K at_367 (pc' := 369) rfl rfl rfl ?_
      refine Run.iconst K at_369 (pc' := 370) rfl (v := (2 : Int32)) rfl ?_
      refine Run.iload K at_370 (pc' := 372) rfl rfl ?_
      refine Run.iaddV K at_372 (pc' := 373) rfl (v := (63 : Int32)) (by decide) ?_
      refine Run.baload K at_373 (pc' := 374) rfl (i := 0) (q := 63) rfl (by decide) (by decide) (v := (.int ((((((p5 &&& (127 : Int32)).toInt64) &&& (4294967295 : Int64)).toInt32).toInt8.toInt32).toInt8.toInt32))) (own_arr_get (by decide) (v := ((((((p5 &&& (127 : Int32)).toInt64) &&& (4294967295 : Int64)).toInt32).toInt8.toInt32).toInt8.toInt32)) rfl) ?_
      refine Run.iload K at_374 (pc' := 376) rfl rfl ?_
      refine Run.i2b K at_376 (pc' := 377) rfl ?_
      refine Run.icmpF K at_377 (pT := 384) (pF := 380) (by decide) (by decide) rfl (show ¬ (((((((p5 &&& (127 : Int32)).toInt64) &&& (4294967295 : Int64)).toInt32).toInt8.toInt32).toInt8.toInt32) ≠ ((p5 &&& (127 : Int32)).toInt8.toInt32)) from fun h => h (by first | decide | exact own_idem _ | exact own_lastv _)) ?_
      refine Run.iconst K at_380 (pc' := 381) rfl (v := (1 : Int32)) rfl ?_
      refine Run.goto K at_381 (pc' := 385) (by decide) (by decide) ?_
      refine Run.istore K at_385 (pc' := 387) rfl (L' := #[.val (.int p1), .val (.int p2), .val (.int p3), .val (.int p4), .val (.int p5), .val (.int (0 : Int32)), .val (.int (((p1.toUInt32 >>> ((1 : Int32) &&& 31).toUInt32).toInt32) % (3 : Int32))), .val (.int (61 : Int32)), .val (.ref r116), .val (.int (p5 &&& (127 : Int32))), .val (.int (0 : Int32)), .val (.ref n117), .val (.ref c120), .val (.ref c124), .val (.int (1 : Int32)), .val (.ref c126), .val (.ref c128)]) rfl ?_
      refine Run.iload K at_387 (pc' := 389) rfl rfl ?_
      exact Run.retN K at_389 (w := (1 : Int32)) rfl (by decide) (by decide) (by decide) (by decide) rfl
  · skip
    refine Run.iconst K at_6 (pc' := 7) rfl (v := (1 : Int32)) rfl ?_
    refine Run.goto K at_7 (pc' := 11) (by decide) (by decide) ?_
    refine Run.istore K at_11 (pc' := 13) rfl (L' := #[.val (.int p1), .val (.int p2), .val (.int p3), .val (.int p4), .val (.int p5), .val (.int (1 : Int32)), .unset, .unset, .unset, .unset, .unset, .unset, .unset, .unset, .unset, .unset, .unset]) rfl ?_
    refine Run.iloadN K at_13 (pc' := 14) rfl rfl ?_
    refine Run.iconst K at_14 (pc' := 15) rfl (v := (1 : Int32)) rfl ?_
    refine Run.iushr K at_15 (pc' := 16) rfl ?_
    refine Run.iconst K at_16 (pc' := 17) rfl (v := (3 : Int32)) rfl ?_
    refine Run.irem K at_17 (pc' := 18) rfl (by decide) ?_
    refine Run.istore K at_18 (pc' := 20) rfl (L' := #[.val (.int p1), .val (.int p2), .val (.int p3), .val (.int p4), .val (.int p5), .val (.int (1 : Int32)), .val (.int (((p1.toUInt32 >>> ((1 : Int32) &&& 31).toUInt32).toInt32) % (3 : Int32))), .unset, .unset, .unset, .unset, .unset, .unset, .unset, .unset, .unset, .unset]) rfl ?_
    refine Run.iload K at_20 (pc' := 22) rfl rfl ?_
    refine Run.ifc K at_22 (pT := 38) (pF := 25) (by decide) (by decide) rfl (fun (h22_129 : (((p1.toUInt32 >>> ((1 : Int32) &&& 31).toUInt32).toInt32) % (3 : Int32)) ≠ (0 : Int32)) => ?_) (fun (h22_129 : ¬ ((((p1.toUInt32 >>> ((1 : Int32) &&& 31).toUInt32).toInt32) % (3 : Int32)) ≠ (0 : Int32))) => ?_)
    · skip
      refine Run.iload K at_38 (pc' := 40) rfl rfl ?_
      refine Run.iconst K at_40 (pc' := 41) rfl (v := (1 : Int32)) rfl ?_
      refine Run.icmp K at_41 (pT := 57) (pF := 44) (by decide) (by decide) rfl (fun (h41_135 : (((p1.toUInt32 >>> ((1 : Int32) &&& 31).toUInt32).toInt32) % (3 : Int32)) ≠ (1 : Int32)) => ?_) (fun (h41_135 : ¬ ((((p1.toUInt32 >>> ((1 : Int32) &&& 31).toUInt32).toInt32) % (3 : Int32)) ≠ (1 : Int32))) => ?_)
      · skip
        refine Run.bipush K at_57 (pc' := 59) rfl (v := (100 : Int32)) rfl ?_
        refine Run.istore K at_59 (pc' := 61) rfl (L' := #[.val (.int p1), .val (.int p2), .val (.int p3), .val (.int p4), .val (.int p5), .val (.int (1 : Int32)), .val (.int (((p1.toUInt32 >>> ((1 : Int32) &&& 31).toUInt32).toInt32) % (3 : Int32))), .val (.int (100 : Int32)), .unset, .unset, .unset, .unset, .unset, .unset, .unset, .unset, .unset]) rfl ?_
        refine Run.bipush K at_61 (pc' := 63) rfl (v := (100 : Int32)) rfl ?_
        refine Run.newA K at_63 (pc' := 65) rfl (ty := .byte) rfl (hw _ (List.mem_of_getElem? (i := 0) rfl)) (by decide) (vs := (own_arr 100 own_zero)) (own_arr_new' (by decide)) (cap := 100) (by decide) (by decide) (cells' := 1) (slots' := 100) rfl rfl (by decide) (by decide) rfl (fun r140 => ?_)
        refine Run.as (D' := ([], [(r140, .byte, (own_arr 100 own_zero))])) rfl ?_
        refine Run.astore K at_65 (pc' := 67) rfl rfl (L' := #[.val (.int p1), .val (.int p2), .val (.int p3), .val (.int p4), .val (.int p5), .val (.int (1 : Int32)), .val (.int (((p1.toUInt32 >>> ((1 : Int32) &&& 31).toUInt32).toInt32) % (3 : Int32))), .val (.int (100 : Int32)), .val (.ref r140), .unset, .unset, .unset, .unset, .unset, .unset, .unset, .unset]) rfl ?_
        refine Run.aload K at_67 (pc' := 69) rfl rfl rfl ?_
        refine Run.iconst K at_69 (pc' := 70) rfl (v := (0 : Int32)) rfl ?_
        refine Run.iloadN K at_70 (pc' := 71) rfl rfl ?_
        refine Run.i2b K at_71 (pc' := 72) rfl ?_
        refine Run.bastore K at_72 (pc' := 73) rfl (i := 0) (q := 0) rfl (by decide) (by decide) (v := (.int (0 : Int32))) (own_arr_get (by decide) (v := (0 : Int32)) rfl) (D' := ([], [(r140, .byte, ((own_arr 100 own_zero).set 0 (.int (p2.toInt8.toInt32).toInt8.toInt32)))])) rfl ?_
        refine Run.as (D' := ([], [(r140, .byte, (own_arr 100 (own_upd own_zero 0 ((p2.toInt8.toInt32).toInt8.toInt32))))])) (by rw [own_arr_set]) ?_
        refine Run.aload K at_73 (pc' := 75) rfl rfl rfl ?_
        refine Run.iload K at_75 (pc' := 77) rfl rfl ?_
        refine Run.iconst K at_77 (pc' := 78) rfl (v := (2 : Int32)) rfl ?_
        refine Run.idivV K at_78 (pc' := 79) rfl (by decide) (v := (50 : Int32)) (by decide) ?_
        refine Run.iloadN K at_79 (pc' := 80) rfl rfl ?_
        refine Run.i2b K at_80 (pc' := 81) rfl ?_
        refine Run.bastore K at_81 (pc' := 82) rfl (i := 0) (q := 50) rfl (by decide) (by decide) (v := (.int (0 : Int32))) (own_arr_get (by decide) (v := (0 : Int32)) rfl) (D' := ([], [(r140, .byte, ((own_arr 100 (own_upd own_zero 0 ((p2.toInt8.toInt32).toInt8.toInt32))).set 50 (.int (p3.toInt8.toInt32).toInt8.toInt32)))])) rfl ?_
        refine Run.as (D' := ([], [(r140, .byte, (own_arr 100 (own_upd (own_upd own_zero 0 ((p2.toInt8.toInt32).toInt8.toInt32)) 50 ((p3.toInt8.toInt32).toInt8.toInt32))))])) (by rw [own_arr_set]) ?_
        refine Run.aload K at_82 (pc' := 84) rfl rfl rfl ?_
        refine Run.iload K at_84 (pc' := 86) rfl rfl ?_
        refine Run.iconst K at_86 (pc' := 87) rfl (v := (1 : Int32)) rfl ?_
        refine Run.isubV K at_87 (pc' := 88) rfl (v := (99 : Int32)) (by decide) ?_
        refine Run.iloadN K at_88 (pc' := 89) rfl rfl ?_
        refine Run.i2b K at_89 (pc' := 90) rfl ?_
        refine Run.bastore K at_90 (pc' := 91) rfl (i := 0) (q := 99) rfl (by decide) (by decide) (v := (.int (0 : Int32))) (own_arr_get (by decide) (v := (0 : Int32)) rfl) (D' := ([], [(r140, .byte, ((own_arr 100 (own_upd (own_upd own_zero 0 ((p2.toInt8.toInt32).toInt8.toInt32)) 50 ((p3.toInt8.toInt32).toInt8.toInt32))).set 99 (.int (p4.toInt8.toInt32).toInt8.toInt32)))])) rfl ?_
        refine Run.as (D' := ([], [(r140, .byte, (own_arr 100 (own_upd (own_upd (own_upd own_zero 0 ((p2.toInt8.toInt32).toInt8.toInt32)) 50 ((p3.toInt8.toInt32).toInt8.toInt32)) 99 ((p4.toInt8.toInt32).toInt8.toInt32))))])) (by rw [own_arr_set]) ?_
        refine Run.iload K at_91 (pc' := 93) rfl rfl ?_
        refine Run.bipush K at_93 (pc' := 95) rfl (v := (127 : Int32)) rfl ?_
        refine Run.iand K at_95 (pc' := 96) rfl ?_
        refine Run.istore K at_96 (pc' := 98) rfl (L' := #[.val (.int p1), .val (.int p2), .val (.int p3), .val (.int p4), .val (.int p5), .val (.int (1 : Int32)), .val (.int (((p1.toUInt32 >>> ((1 : Int32) &&& 31).toUInt32).toInt32) % (3 : Int32))), .val (.int (100 : Int32)), .val (.ref r140), .val (.int (p5 &&& (127 : Int32))), .unset, .unset, .unset, .unset, .unset, .unset, .unset]) rfl ?_
        refine Run.iload K at_98 (pc' := 100) rfl rfl ?_
        refine Run.ifcF K at_100 (pT := 107) (pF := 103) (by decide) (by decide) rfl (show ¬ ((1 : Int32) = (0 : Int32)) from by decide) ?_
        refine Run.iconst K at_103 (pc' := 104) rfl (v := (1 : Int32)) rfl ?_
        refine Run.goto K at_104 (pc' := 108) (by decide) (by decide) ?_
        refine Run.istore K at_108 (pc' := 110) rfl (L' := #[.val (.int p1), .val (.int p2), .val (.int p3), .val (.int p4), .val (.int p5), .val (.int (1 : Int32)), .val (.int (((p1.toUInt32 >>> ((1 : Int32) &&& 31).toUInt32).toInt32) % (3 : Int32))), .val (.int (100 : Int32)), .val (.ref r140), .val (.int (p5 &&& (127 : Int32))), .val (.int (1 : Int32)), .unset, .unset, .unset, .unset, .unset, .unset]) rfl ?_
        refine Run.newO K at_110 (pc' := 113) rfl (hw _ (List.mem_of_getElem? (i := 1) rfl)) (hw _ (List.mem_of_getElem? (i := 2) rfl)) (hw _ (List.mem_of_getElem? (i := 3) rfl)) (fs_0 hw) (cells' := 2) (slots' := 102) rfl rfl (by decide) (by decide) (fun n141 => ?_)
        refine Run.as (D' := ([(n141, "com/example/efcor/efcor/io/RecordWriter", [("com/example/efcor/efcor/io/RecordWriter", "bytes", "[B", .null), ("com/example/efcor/efcor/io/RecordWriter", "size", "I", (.int (0 : Int32)))])], [(r140, .byte, (own_arr 100 (own_upd (own_upd (own_upd own_zero 0 ((p2.toInt8.toInt32).toInt8.toInt32)) 50 ((p3.toInt8.toInt32).toInt8.toInt32)) 99 ((p4.toInt8.toInt32).toInt8.toInt32))))])) rfl ?_
        refine Run.dup K at_113 (pc' := 114) rfl rfl ?_
        refine Run.callI K at_114 (pc' := 117) rfl rfl (hw _ (List.mem_of_getElem? (i := 4) rfl)) (hw _ (List.mem_of_getElem? (i := 5) rfl)) (hw _ (List.mem_of_getElem? (i := 3) rfl)) (hw _ (List.mem_of_getElem? (i := 6) rfl)) (by decide) (a := n141) (rm1 l Z a0 n0 hw [] (n141) (.null) ((0 : Int32)) ([]) ([(r140, .byte, (own_arr 100 (own_upd (own_upd (own_upd own_zero 0 ((p2.toInt8.toInt32).toInt8.toInt32)) 50 ((p3.toInt8.toInt32).toInt8.toInt32)) 99 ((p4.toInt8.toInt32).toInt8.toInt32))))]) ) (argsL := []) (rest := [(.ref n141)]) rfl rfl pd_6 rfl (W := 1) rfl (by decide) (by decide) (cells' := 3) (slots' := 166) rfl rfl (by decide) (by decide) ?_
        intro vq Dq hq
        obtain ⟨c142, rfl, rfl⟩ := hq
        refine Run.as2 (D' := ([(n141, "com/example/efcor/efcor/io/RecordWriter", [("com/example/efcor/efcor/io/RecordWriter", "bytes", "[B", (.ref c142)), ("com/example/efcor/efcor/io/RecordWriter", "size", "I", (.int (0 : Int32)))])], [(c142, .byte, (own_arr 64 own_zero)), (r140, .byte, (own_arr 100 (own_upd (own_upd (own_upd own_zero 0 ((p2.toInt8.toInt32).toInt8.toInt32)) 50 ((p3.toInt8.toInt32).toInt8.toInt32)) 99 ((p4.toInt8.toInt32).toInt8.toInt32))))])) (S' := [(.ref n141)]) rfl rfl ?_
        refine Run.astore K at_117 (pc' := 119) rfl rfl (L' := #[.val (.int p1), .val (.int p2), .val (.int p3), .val (.int p4), .val (.int p5), .val (.int (1 : Int32)), .val (.int (((p1.toUInt32 >>> ((1 : Int32) &&& 31).toUInt32).toInt32) % (3 : Int32))), .val (.int (100 : Int32)), .val (.ref r140), .val (.int (p5 &&& (127 : Int32))), .val (.int (1 : Int32)), .val (.ref n141), .unset, .unset, .unset, .unset, .unset]) rfl ?_
        refine Run.aload K at_119 (pc' := 121) rfl rfl rfl ?_
        refine Run.callV K at_121 (pc' := 124) rfl (a := n141) (z := (⟨"com/example/efcor/efcor/io/RecordWriter", "toBytes", "()[B"⟩ : MethodName)) (Cn := "com/example/efcor/efcor/io/RecordWriter") (i := 0) (hw _ (List.mem_of_getElem? (i := 12) rfl)) (hw _ (List.mem_of_getElem? (i := 13) rfl)) (hw _ (List.mem_of_getElem? (i := 15) rfl)) (hw _ (List.mem_of_getElem? (i := 14) rfl)) (hw _ (List.mem_of_getElem? (i := 3) rfl)) (hw _ (List.mem_of_getElem? (i := 16) rfl)) (by decide) rfl (tb_shr l Z a0 n0 hw [] (n141) (c142) (64) (own_zero) (0) ([]) ([(r140, .byte, (own_arr 100 (own_upd (own_upd (own_upd own_zero 0 ((p2.toInt8.toInt32).toInt8.toInt32)) 50 ((p3.toInt8.toInt32).toInt8.toInt32)) 99 ((p4.toInt8.toInt32).toInt8.toInt32))))]) (by decide) (by decide)) (argsL := []) (rest := []) rfl rfl pd_7 rfl (W := 0) rfl (by decide) (by decide) (cells' := 4) (slots' := 294) rfl rfl (by decide) (by decide) ?_
        intro vq Dq hq
        obtain ⟨c144, rfl, rfl⟩ := hq
        refine Run.as2 (D' := ([(n141, "com/example/efcor/efcor/io/RecordWriter", [("com/example/efcor/efcor/io/RecordWriter", "bytes", "[B", (.ref c142)), ("com/example/efcor/efcor/io/RecordWriter", "size", "I", (.int (0 : Int32)))])], [(c144, .byte, (own_arr 0 own_zero)), (c142, .byte, (own_arr 64 own_zero)), (r140, .byte, (own_arr 100 (own_upd (own_upd (own_upd own_zero 0 ((p2.toInt8.toInt32).toInt8.toInt32)) 50 ((p3.toInt8.toInt32).toInt8.toInt32)) 99 ((p4.toInt8.toInt32).toInt8.toInt32))))])) (S' := [(.ref c144)]) rfl rfl ?_
        refine Run.astore K at_124 (pc' := 126) rfl rfl (L' := #[.val (.int p1), .val (.int p2), .val (.int p3), .val (.int p4), .val (.int p5), .val (.int (1 : Int32)), .val (.int (((p1.toUInt32 >>> ((1 : Int32) &&& 31).toUInt32).toInt32) % (3 : Int32))), .val (.int (100 : Int32)), .val (.ref r140), .val (.int (p5 &&& (127 : Int32))), .val (.int (1 : Int32)), .val (.ref n141), .val (.ref c144), .unset, .unset, .unset, .unset]) rfl ?_
        refine Run.aload K at_126 (pc' := 128) rfl rfl rfl ?_
        refine Run.iload K at_128 (pc' := 130) rfl rfl ?_
        refine Run.bring 0 1 (D' := ([(n141, "com/example/efcor/efcor/io/RecordWriter", [("com/example/efcor/efcor/io/RecordWriter", "bytes", "[B", (.ref c142)), ("com/example/efcor/efcor/io/RecordWriter", "size", "I", (.int (0 : Int32)))])], [(c142, .byte, (own_arr 64 own_zero)), (c144, .byte, (own_arr 0 own_zero)), (r140, .byte, (own_arr 100 (own_upd (own_upd (own_upd own_zero 0 ((p2.toInt8.toInt32).toInt8.toInt32)) 50 ((p3.toInt8.toInt32).toInt8.toInt32)) 99 ((p4.toInt8.toInt32).toInt8.toInt32))))])) rfl ?_
        refine Run.callV K at_130 (pc' := 133) rfl (a := n141) (z := (⟨"com/example/efcor/efcor/io/RecordWriter", "writeBoolean", "(Z)Lcom/example/efcor/efcor/io/RecordWriter;"⟩ : MethodName)) (Cn := "com/example/efcor/efcor/io/RecordWriter") (i := 0) (hw _ (List.mem_of_getElem? (i := 31) rfl)) (hw _ (List.mem_of_getElem? (i := 32) rfl)) (hw _ (List.mem_of_getElem? (i := 34) rfl)) (hw _ (List.mem_of_getElem? (i := 33) rfl)) (hw _ (List.mem_of_getElem? (i := 3) rfl)) (hw _ (List.mem_of_getElem? (i := 35) rfl)) (by decide) rfl (wbool l Z a0 n0 hw [] (n141) ((1 : Int32)) (c142) (64) (own_zero) (0) ([]) ([(c144, .byte, (own_arr 0 own_zero)), (r140, .byte, (own_arr 100 (own_upd (own_upd (own_upd own_zero 0 ((p2.toInt8.toInt32).toInt8.toInt32)) 50 ((p3.toInt8.toInt32).toInt8.toInt32)) 99 ((p4.toInt8.toInt32).toInt8.toInt32))))]) (by decide) (by decide)) (argsL := [(.int (1 : Int32))]) (rest := []) rfl rfl pd_8 rfl (W := 0) rfl (by decide) (by decide) (cells' := 4) (slots' := 294) rfl rfl (by decide) (by decide) ?_
        intro vq Dq hq
        obtain ⟨c146, hc147, rfl, rfl⟩ := hq
        refine Run.as2 (D' := ([(n141, "com/example/efcor/efcor/io/RecordWriter", [("com/example/efcor/efcor/io/RecordWriter", "bytes", "[B", (.ref c142)), ("com/example/efcor/efcor/io/RecordWriter", "size", "I", (.int (1 : Int32)))])], [(c142, .byte, (own_arr 64 (own_upd own_zero 0 ((c146.toInt8.toInt32).toInt8.toInt32)))), (c144, .byte, (own_arr 0 own_zero)), (r140, .byte, (own_arr 100 (own_upd (own_upd (own_upd own_zero 0 ((p2.toInt8.toInt32).toInt8.toInt32)) 50 ((p3.toInt8.toInt32).toInt8.toInt32)) 99 ((p4.toInt8.toInt32).toInt8.toInt32))))])) (S' := [(.ref n141)]) rfl rfl ?_
        obtain rfl : c146 = (1 : Int32) := by rcases hc147 with ⟨q0, q⟩ | ⟨q0, q⟩ <;> first | exact q | exact absurd q0 (by decide)
        refine Run.pop K at_133 (pc' := 134) rfl rfl ?_
        refine Run.aload K at_134 (pc' := 136) rfl rfl rfl ?_
        refine Run.callV K at_136 (pc' := 139) rfl (a := n141) (z := (⟨"com/example/efcor/efcor/io/RecordWriter", "toBytes", "()[B"⟩ : MethodName)) (Cn := "com/example/efcor/efcor/io/RecordWriter") (i := 0) (hw _ (List.mem_of_getElem? (i := 12) rfl)) (hw _ (List.mem_of_getElem? (i := 13) rfl)) (hw _ (List.mem_of_getElem? (i := 15) rfl)) (hw _ (List.mem_of_getElem? (i := 14) rfl)) (hw _ (List.mem_of_getElem? (i := 3) rfl)) (hw _ (List.mem_of_getElem? (i := 16) rfl)) (by decide) rfl (tb_shr l Z a0 n0 hw [] (n141) (c142) (64) ((own_upd own_zero 0 (((1 : Int32).toInt8.toInt32).toInt8.toInt32))) (1) ([]) ([(c144, .byte, (own_arr 0 own_zero)), (r140, .byte, (own_arr 100 (own_upd (own_upd (own_upd own_zero 0 ((p2.toInt8.toInt32).toInt8.toInt32)) 50 ((p3.toInt8.toInt32).toInt8.toInt32)) 99 ((p4.toInt8.toInt32).toInt8.toInt32))))]) (by decide) (by decide)) (argsL := []) (rest := []) rfl rfl pd_7 rfl (W := 0) rfl (by decide) (by decide) (cells' := 5) (slots' := 422) rfl rfl (by decide) (by decide) ?_
        intro vq Dq hq
        obtain ⟨c148, rfl, rfl⟩ := hq
        refine Run.as2 (D' := ([(n141, "com/example/efcor/efcor/io/RecordWriter", [("com/example/efcor/efcor/io/RecordWriter", "bytes", "[B", (.ref c142)), ("com/example/efcor/efcor/io/RecordWriter", "size", "I", (.int (1 : Int32)))])], [(c148, .byte, (own_arr 1 (own_upd own_zero 0 (((1 : Int32).toInt8.toInt32).toInt8.toInt32)))), (c142, .byte, (own_arr 64 (own_upd own_zero 0 (((1 : Int32).toInt8.toInt32).toInt8.toInt32)))), (c144, .byte, (own_arr 0 own_zero)), (r140, .byte, (own_arr 100 (own_upd (own_upd (own_upd own_zero 0 ((p2.toInt8.toInt32).toInt8.toInt32)) 50 ((p3.toInt8.toInt32).toInt8.toInt32)) 99 ((p4.toInt8.toInt32).toInt8.toInt32))))])) (S' := [(.ref c148)]) rfl rfl ?_
        refine Run.astore K at_139 (pc' := 141) rfl rfl (L' := #[.val (.int p1), .val (.int p2), .val (.int p3), .val (.int p4), .val (.int p5), .val (.int (1 : Int32)), .val (.int (((p1.toUInt32 >>> ((1 : Int32) &&& 31).toUInt32).toInt32) % (3 : Int32))), .val (.int (100 : Int32)), .val (.ref r140), .val (.int (p5 &&& (127 : Int32))), .val (.int (1 : Int32)), .val (.ref n141), .val (.ref c144), .val (.ref c148), .unset, .unset, .unset]) rfl ?_
        refine Run.aload K at_141 (pc' := 143) rfl rfl rfl ?_
        refine Run.alen K at_143 (pc' := 144) rfl (i := 2) rfl (w := (0 : Int32)) (own_arr_len rfl) ?_
        refine Run.ifcF K at_144 (pT := 167) (pF := 147) (by decide) (by decide) rfl (show ¬ ((0 : Int32) ≠ (0 : Int32)) from by decide) ?_
        refine Run.aload K at_147 (pc' := 149) rfl rfl rfl ?_
        refine Run.alen K at_149 (pc' := 150) rfl (i := 0) rfl (w := (1 : Int32)) (own_arr_len rfl) ?_
        refine Run.iconst K at_150 (pc' := 151) rfl (v := (1 : Int32)) rfl ?_
        refine Run.icmpF K at_151 (pT := 167) (pF := 154) (by decide) (by decide) rfl (show ¬ ((1 : Int32) ≠ (1 : Int32)) from by decide) ?_
        refine Run.aload K at_154 (pc' := 156) rfl rfl rfl ?_
        refine Run.iconst K at_156 (pc' := 157) rfl (v := (0 : Int32)) rfl ?_
        refine Run.baload K at_157 (pc' := 158) rfl (i := 0) (q := 0) rfl (by decide) (by decide) (v := (.int (((1 : Int32).toInt8.toInt32).toInt8.toInt32))) (own_arr_get (by decide) (v := (((1 : Int32).toInt8.toInt32).toInt8.toInt32)) rfl) ?_
        refine Run.iload K at_158 (pc' := 160) rfl rfl ?_
        refine Run.icmpF K at_160 (pT := 167) (pF := 163) (by decide) (by decide) rfl (show ¬ ((((1 : Int32).toInt8.toInt32).toInt8.toInt32) ≠ (1 : Int32)) from fun h => h (by first | decide | exact own_idem _ | exact own_lastv _)) ?_
        refine Run.iconst K at_163 (pc' := 164) rfl (v := (1 : Int32)) rfl ?_
        refine Run.goto K at_164 (pc' := 168) (by decide) (by decide) ?_
        refine Run.istore K at_168 (pc' := 170) rfl (L' := #[.val (.int p1), .val (.int p2), .val (.int p3), .val (.int p4), .val (.int p5), .val (.int (1 : Int32)), .val (.int (((p1.toUInt32 >>> ((1 : Int32) &&& 31).toUInt32).toInt32) % (3 : Int32))), .val (.int (100 : Int32)), .val (.ref r140), .val (.int (p5 &&& (127 : Int32))), .val (.int (1 : Int32)), .val (.ref n141), .val (.ref c144), .val (.ref c148), .val (.int (1 : Int32)), .unset, .unset]) rfl ?_
        refine Run.iload K at_170 (pc' := 172) rfl rfl ?_
        refine Run.ifcF K at_172 (pT := 187) (pF := 175) (by decide) (by decide) rfl (show ¬ ((1 : Int32) = (0 : Int32)) from by decide) ?_
        refine Run.aload K at_175 (pc' := 177) rfl rfl rfl ?_
        refine Run.iconst K at_177 (pc' := 178) rfl (v := (0 : Int32)) rfl ?_
        refine Run.aload K at_178 (pc' := 180) rfl rfl rfl ?_
        refine Run.iconst K at_180 (pc' := 181) rfl (v := (0 : Int32)) rfl ?_
        refine Run.baload K at_181 (pc' := 182) rfl (i := 0) (q := 0) rfl (by decide) (by decide) (v := (.int (((1 : Int32).toInt8.toInt32).toInt8.toInt32))) (own_arr_get (by decide) (v := (((1 : Int32).toInt8.toInt32).toInt8.toInt32)) rfl) ?_
        refine Run.bipush K at_182 (pc' := 184) rfl (v := (85 : Int32)) rfl ?_
        refine Run.ixor K at_184 (pc' := 185) rfl ?_
        refine Run.i2b K at_185 (pc' := 186) rfl ?_
        refine Run.bastore K at_186 (pc' := 187) rfl (i := 0) (q := 0) rfl (by decide) (by decide) (v := (.int (((1 : Int32).toInt8.toInt32).toInt8.toInt32))) (own_arr_get (by decide) (v := (((1 : Int32).toInt8.toInt32).toInt8.toInt32)) rfl) (D' := ([(n141, "com/example/efcor/efcor/io/RecordWriter", [("com/example/efcor/efcor/io/RecordWriter", "bytes", "[B", (.ref c142)), ("com/example/efcor/efcor/io/RecordWriter", "size", "I", (.int (1 : Int32)))])], [(c148, .byte, ((own_arr 1 (own_upd own_zero 0 (((1 : Int32).toInt8.toInt32).toInt8.toInt32))).set 0 (.int (((((1 : Int32).toInt8.toInt32).toInt8.toInt32) ^^^ (85 : Int32)).toInt8.toInt32).toInt8.toInt32))), (c142, .byte, (own_arr 64 (own_upd own_zero 0 (((1 : Int32).toInt8.toInt32).toInt8.toInt32)))), (c144, .byte, (own_arr 0 own_zero)), (r140, .byte, (own_arr 100 (own_upd (own_upd (own_upd own_zero 0 ((p2.toInt8.toInt32).toInt8.toInt32)) 50 ((p3.toInt8.toInt32).toInt8.toInt32)) 99 ((p4.toInt8.toInt32).toInt8.toInt32))))])) rfl ?_
        refine Run.as (D' := ([(n141, "com/example/efcor/efcor/io/RecordWriter", [("com/example/efcor/efcor/io/RecordWriter", "bytes", "[B", (.ref c142)), ("com/example/efcor/efcor/io/RecordWriter", "size", "I", (.int (1 : Int32)))])], [(c148, .byte, (own_arr 1 (own_upd (own_upd own_zero 0 (((1 : Int32).toInt8.toInt32).toInt8.toInt32)) 0 ((((((1 : Int32).toInt8.toInt32).toInt8.toInt32) ^^^ (85 : Int32)).toInt8.toInt32).toInt8.toInt32)))), (c142, .byte, (own_arr 64 (own_upd own_zero 0 (((1 : Int32).toInt8.toInt32).toInt8.toInt32)))), (c144, .byte, (own_arr 0 own_zero)), (r140, .byte, (own_arr 100 (own_upd (own_upd (own_upd own_zero 0 ((p2.toInt8.toInt32).toInt8.toInt32)) 50 ((p3.toInt8.toInt32).toInt8.toInt32)) 99 ((p4.toInt8.toInt32).toInt8.toInt32))))])) (by rw [own_arr_set]) ?_
        refine Run.aload K at_187 (pc' := 189) rfl rfl rfl ?_
        refine Run.aload K at_189 (pc' := 191) rfl rfl rfl ?_
        refine Run.bring 0 3 (D' := ([(n141, "com/example/efcor/efcor/io/RecordWriter", [("com/example/efcor/efcor/io/RecordWriter", "bytes", "[B", (.ref c142)), ("com/example/efcor/efcor/io/RecordWriter", "size", "I", (.int (1 : Int32)))])], [(r140, .byte, (own_arr 100 (own_upd (own_upd (own_upd own_zero 0 ((p2.toInt8.toInt32).toInt8.toInt32)) 50 ((p3.toInt8.toInt32).toInt8.toInt32)) 99 ((p4.toInt8.toInt32).toInt8.toInt32)))), (c148, .byte, (own_arr 1 (own_upd (own_upd own_zero 0 (((1 : Int32).toInt8.toInt32).toInt8.toInt32)) 0 ((((((1 : Int32).toInt8.toInt32).toInt8.toInt32) ^^^ (85 : Int32)).toInt8.toInt32).toInt8.toInt32)))), (c142, .byte, (own_arr 64 (own_upd own_zero 0 (((1 : Int32).toInt8.toInt32).toInt8.toInt32)))), (c144, .byte, (own_arr 0 own_zero))])) rfl ?_
        refine Run.bring 0 2 (D' := ([(n141, "com/example/efcor/efcor/io/RecordWriter", [("com/example/efcor/efcor/io/RecordWriter", "bytes", "[B", (.ref c142)), ("com/example/efcor/efcor/io/RecordWriter", "size", "I", (.int (1 : Int32)))])], [(c142, .byte, (own_arr 64 (own_upd own_zero 0 (((1 : Int32).toInt8.toInt32).toInt8.toInt32)))), (r140, .byte, (own_arr 100 (own_upd (own_upd (own_upd own_zero 0 ((p2.toInt8.toInt32).toInt8.toInt32)) 50 ((p3.toInt8.toInt32).toInt8.toInt32)) 99 ((p4.toInt8.toInt32).toInt8.toInt32)))), (c148, .byte, (own_arr 1 (own_upd (own_upd own_zero 0 (((1 : Int32).toInt8.toInt32).toInt8.toInt32)) 0 ((((((1 : Int32).toInt8.toInt32).toInt8.toInt32) ^^^ (85 : Int32)).toInt8.toInt32).toInt8.toInt32)))), (c144, .byte, (own_arr 0 own_zero))])) rfl ?_
        refine Run.callV K at_191 (pc' := 194) rfl (a := n141) (z := (⟨"com/example/efcor/efcor/io/RecordWriter", "writeBytes", "([B)Lcom/example/efcor/efcor/io/RecordWriter;"⟩ : MethodName)) (Cn := "com/example/efcor/efcor/io/RecordWriter") (i := 0) (hw _ (List.mem_of_getElem? (i := 44) rfl)) (hw _ (List.mem_of_getElem? (i := 45) rfl)) (hw _ (List.mem_of_getElem? (i := 47) rfl)) (hw _ (List.mem_of_getElem? (i := 46) rfl)) (hw _ (List.mem_of_getElem? (i := 3) rfl)) (hw _ (List.mem_of_getElem? (i := 48) rfl)) (by decide) rfl (wb_100 l Z a0 n0 hw [] (n141) (r140) (c142) ((own_upd own_zero 0 (((1 : Int32).toInt8.toInt32).toInt8.toInt32))) ((own_upd (own_upd (own_upd own_zero 0 ((p2.toInt8.toInt32).toInt8.toInt32)) 50 ((p3.toInt8.toInt32).toInt8.toInt32)) 99 ((p4.toInt8.toInt32).toInt8.toInt32))) ([]) ([(c148, .byte, (own_arr 1 (own_upd (own_upd own_zero 0 (((1 : Int32).toInt8.toInt32).toInt8.toInt32)) 0 ((((((1 : Int32).toInt8.toInt32).toInt8.toInt32) ^^^ (85 : Int32)).toInt8.toInt32).toInt8.toInt32)))), (c144, .byte, (own_arr 0 own_zero))]) ) (argsL := [(.ref r140)]) (rest := []) rfl rfl pd_9 rfl (W := 0) rfl (by decide) (by decide) (cells' := 6) (slots' := 550) rfl rfl (by decide) (by decide) ?_
        intro vq Dq hq
        obtain ⟨c150, rfl, rfl⟩ := hq
        refine Run.as2 (D' := ([(n141, "com/example/efcor/efcor/io/RecordWriter", [("com/example/efcor/efcor/io/RecordWriter", "bytes", "[B", (.ref c150)), ("com/example/efcor/efcor/io/RecordWriter", "size", "I", (.int (102 : Int32)))])], [(c150, .byte, (own_arr 128 (own_put (own_cut (own_upd (own_upd own_zero 0 (((1 : Int32).toInt8.toInt32).toInt8.toInt32)) 1 ((((((100 : Int32).toInt64) &&& (4294967295 : Int64)).toInt32).toInt8.toInt32).toInt8.toInt32)) 64) 2 100 (own_upd (own_upd (own_upd own_zero 0 ((p2.toInt8.toInt32).toInt8.toInt32)) 50 ((p3.toInt8.toInt32).toInt8.toInt32)) 99 ((p4.toInt8.toInt32).toInt8.toInt32))))), (c142, .byte, (own_arr 64 (own_upd (own_upd own_zero 0 (((1 : Int32).toInt8.toInt32).toInt8.toInt32)) 1 ((((((100 : Int32).toInt64) &&& (4294967295 : Int64)).toInt32).toInt8.toInt32).toInt8.toInt32)))), (r140, .byte, (own_arr 100 (own_upd (own_upd (own_upd own_zero 0 ((p2.toInt8.toInt32).toInt8.toInt32)) 50 ((p3.toInt8.toInt32).toInt8.toInt32)) 99 ((p4.toInt8.toInt32).toInt8.toInt32)))), (c148, .byte, (own_arr 1 (own_upd (own_upd own_zero 0 (((1 : Int32).toInt8.toInt32).toInt8.toInt32)) 0 ((((((1 : Int32).toInt8.toInt32).toInt8.toInt32) ^^^ (85 : Int32)).toInt8.toInt32).toInt8.toInt32)))), (c144, .byte, (own_arr 0 own_zero))])) (S' := [(.ref n141)]) rfl rfl ?_
        refine Run.pop K at_194 (pc' := 195) rfl rfl ?_
        refine Run.aload K at_195 (pc' := 197) rfl rfl rfl ?_
        refine Run.iload K at_197 (pc' := 199) rfl rfl ?_
        refine Run.callV K at_199 (pc' := 202) rfl (a := n141) (z := (⟨"com/example/efcor/efcor/io/RecordWriter", "writeInt", "(I)Lcom/example/efcor/efcor/io/RecordWriter;"⟩ : MethodName)) (Cn := "com/example/efcor/efcor/io/RecordWriter") (i := 0) (hw _ (List.mem_of_getElem? (i := 62) rfl)) (hw _ (List.mem_of_getElem? (i := 50) rfl)) (hw _ (List.mem_of_getElem? (i := 52) rfl)) (hw _ (List.mem_of_getElem? (i := 51) rfl)) (hw _ (List.mem_of_getElem? (i := 3) rfl)) (hw _ (List.mem_of_getElem? (i := 53) rfl)) (by decide) rfl (wi_no l Z a0 n0 hw [] (n141) ((p5 &&& (127 : Int32))) (c150) (128) ((own_put (own_cut (own_upd (own_upd own_zero 0 (((1 : Int32).toInt8.toInt32).toInt8.toInt32)) 1 ((((((100 : Int32).toInt64) &&& (4294967295 : Int64)).toInt32).toInt8.toInt32).toInt8.toInt32)) 64) 2 100 (own_upd (own_upd (own_upd own_zero 0 ((p2.toInt8.toInt32).toInt8.toInt32)) 50 ((p3.toInt8.toInt32).toInt8.toInt32)) 99 ((p4.toInt8.toInt32).toInt8.toInt32)))) (102) ([]) ([(c142, .byte, (own_arr 64 (own_upd (own_upd own_zero 0 (((1 : Int32).toInt8.toInt32).toInt8.toInt32)) 1 ((((((100 : Int32).toInt64) &&& (4294967295 : Int64)).toInt32).toInt8.toInt32).toInt8.toInt32)))), (r140, .byte, (own_arr 100 (own_upd (own_upd (own_upd own_zero 0 ((p2.toInt8.toInt32).toInt8.toInt32)) 50 ((p3.toInt8.toInt32).toInt8.toInt32)) 99 ((p4.toInt8.toInt32).toInt8.toInt32)))), (c148, .byte, (own_arr 1 (own_upd (own_upd own_zero 0 (((1 : Int32).toInt8.toInt32).toInt8.toInt32)) 0 ((((((1 : Int32).toInt8.toInt32).toInt8.toInt32) ^^^ (85 : Int32)).toInt8.toInt32).toInt8.toInt32)))), (c144, .byte, (own_arr 0 own_zero))]) (own_last p5) (by decide) (by decide)) (argsL := [(.int (p5 &&& (127 : Int32)))]) (rest := []) rfl rfl pd_5 rfl (W := 0) rfl (by decide) (by decide) (cells' := 6) (slots' := 550) rfl rfl (by decide) (by decide) (Ret.k (S' := [(.ref n141)]) rfl ?_)
        refine Run.as (D' := ([(n141, "com/example/efcor/efcor/io/RecordWriter", [("com/example/efcor/efcor/io/RecordWriter", "bytes", "[B", (.ref c150)), ("com/example/efcor/efcor/io/RecordWriter", "size", "I", (.int (103 : Int32)))])], [(c150, .byte, (own_arr 128 (own_upd (own_put (own_cut (own_upd (own_upd own_zero 0 (((1 : Int32).toInt8.toInt32).toInt8.toInt32)) 1 ((((((100 : Int32).toInt64) &&& (4294967295 : Int64)).toInt32).toInt8.toInt32).toInt8.toInt32)) 64) 2 100 (own_upd (own_upd (own_upd own_zero 0 ((p2.toInt8.toInt32).toInt8.toInt32)) 50 ((p3.toInt8.toInt32).toInt8.toInt32)) 99 ((p4.toInt8.toInt32).toInt8.toInt32))) 102 ((((((p5 &&& (127 : Int32)).toInt64) &&& (4294967295 : Int64)).toInt32).toInt8.toInt32).toInt8.toInt32)))), (c142, .byte, (own_arr 64 (own_upd (own_upd own_zero 0 (((1 : Int32).toInt8.toInt32).toInt8.toInt32)) 1 ((((((100 : Int32).toInt64) &&& (4294967295 : Int64)).toInt32).toInt8.toInt32).toInt8.toInt32)))), (r140, .byte, (own_arr 100 (own_upd (own_upd (own_upd own_zero 0 ((p2.toInt8.toInt32).toInt8.toInt32)) 50 ((p3.toInt8.toInt32).toInt8.toInt32)) 99 ((p4.toInt8.toInt32).toInt8.toInt32)))), (c148, .byte, (own_arr 1 (own_upd (own_upd own_zero 0 (((1 : Int32).toInt8.toInt32).toInt8.toInt32)) 0 ((((((1 : Int32).toInt8.toInt32).toInt8.toInt32) ^^^ (85 : Int32)).toInt8.toInt32).toInt8.toInt32)))), (c144, .byte, (own_arr 0 own_zero))])) rfl ?_
        refine Run.pop K at_202 (pc' := 203) rfl rfl ?_
        refine Run.aload K at_203 (pc' := 205) rfl rfl rfl ?_
        refine Run.callV K at_205 (pc' := 208) rfl (a := n141) (z := (⟨"com/example/efcor/efcor/io/RecordWriter", "toBytes", "()[B"⟩ : MethodName)) (Cn := "com/example/efcor/efcor/io/RecordWriter") (i := 0) (hw _ (List.mem_of_getElem? (i := 12) rfl)) (hw _ (List.mem_of_getElem? (i := 13) rfl)) (hw _ (List.mem_of_getElem? (i := 15) rfl)) (hw _ (List.mem_of_getElem? (i := 14) rfl)) (hw _ (List.mem_of_getElem? (i := 3) rfl)) (hw _ (List.mem_of_getElem? (i := 16) rfl)) (by decide) rfl (tb_shr l Z a0 n0 hw [] (n141) (c150) (128) ((own_upd (own_put (own_cut (own_upd (own_upd own_zero 0 (((1 : Int32).toInt8.toInt32).toInt8.toInt32)) 1 ((((((100 : Int32).toInt64) &&& (4294967295 : Int64)).toInt32).toInt8.toInt32).toInt8.toInt32)) 64) 2 100 (own_upd (own_upd (own_upd own_zero 0 ((p2.toInt8.toInt32).toInt8.toInt32)) 50 ((p3.toInt8.toInt32).toInt8.toInt32)) 99 ((p4.toInt8.toInt32).toInt8.toInt32))) 102 ((((((p5 &&& (127 : Int32)).toInt64) &&& (4294967295 : Int64)).toInt32).toInt8.toInt32).toInt8.toInt32))) (103) ([]) ([(c142, .byte, (own_arr 64 (own_upd (own_upd own_zero 0 (((1 : Int32).toInt8.toInt32).toInt8.toInt32)) 1 ((((((100 : Int32).toInt64) &&& (4294967295 : Int64)).toInt32).toInt8.toInt32).toInt8.toInt32)))), (r140, .byte, (own_arr 100 (own_upd (own_upd (own_upd own_zero 0 ((p2.toInt8.toInt32).toInt8.toInt32)) 50 ((p3.toInt8.toInt32).toInt8.toInt32)) 99 ((p4.toInt8.toInt32).toInt8.toInt32)))), (c148, .byte, (own_arr 1 (own_upd (own_upd own_zero 0 (((1 : Int32).toInt8.toInt32).toInt8.toInt32)) 0 ((((((1 : Int32).toInt8.toInt32).toInt8.toInt32) ^^^ (85 : Int32)).toInt8.toInt32).toInt8.toInt32)))), (c144, .byte, (own_arr 0 own_zero))]) (by decide) (by decide)) (argsL := []) (rest := []) rfl rfl pd_7 rfl (W := 0) rfl (by decide) (by decide) (cells' := 7) (slots' := 678) rfl rfl (by decide) (by decide) ?_
        intro vq Dq hq
        obtain ⟨c152, rfl, rfl⟩ := hq
        refine Run.as2 (D' := ([(n141, "com/example/efcor/efcor/io/RecordWriter", [("com/example/efcor/efcor/io/RecordWriter", "bytes", "[B", (.ref c150)), ("com/example/efcor/efcor/io/RecordWriter", "size", "I", (.int (103 : Int32)))])], [(c152, .byte, (own_arr 103 (own_upd (own_put (own_cut (own_upd (own_upd own_zero 0 (((1 : Int32).toInt8.toInt32).toInt8.toInt32)) 1 ((((((100 : Int32).toInt64) &&& (4294967295 : Int64)).toInt32).toInt8.toInt32).toInt8.toInt32)) 64) 2 100 (own_upd (own_upd (own_upd own_zero 0 ((p2.toInt8.toInt32).toInt8.toInt32)) 50 ((p3.toInt8.toInt32).toInt8.toInt32)) 99 ((p4.toInt8.toInt32).toInt8.toInt32))) 102 ((((((p5 &&& (127 : Int32)).toInt64) &&& (4294967295 : Int64)).toInt32).toInt8.toInt32).toInt8.toInt32)))), (c150, .byte, (own_arr 128 (own_upd (own_put (own_cut (own_upd (own_upd own_zero 0 (((1 : Int32).toInt8.toInt32).toInt8.toInt32)) 1 ((((((100 : Int32).toInt64) &&& (4294967295 : Int64)).toInt32).toInt8.toInt32).toInt8.toInt32)) 64) 2 100 (own_upd (own_upd (own_upd own_zero 0 ((p2.toInt8.toInt32).toInt8.toInt32)) 50 ((p3.toInt8.toInt32).toInt8.toInt32)) 99 ((p4.toInt8.toInt32).toInt8.toInt32))) 102 ((((((p5 &&& (127 : Int32)).toInt64) &&& (4294967295 : Int64)).toInt32).toInt8.toInt32).toInt8.toInt32)))), (c142, .byte, (own_arr 64 (own_upd (own_upd own_zero 0 (((1 : Int32).toInt8.toInt32).toInt8.toInt32)) 1 ((((((100 : Int32).toInt64) &&& (4294967295 : Int64)).toInt32).toInt8.toInt32).toInt8.toInt32)))), (r140, .byte, (own_arr 100 (own_upd (own_upd (own_upd own_zero 0 ((p2.toInt8.toInt32).toInt8.toInt32)) 50 ((p3.toInt8.toInt32).toInt8.toInt32)) 99 ((p4.toInt8.toInt32).toInt8.toInt32)))), (c148, .byte, (own_arr 1 (own_upd (own_upd own_zero 0 (((1 : Int32).toInt8.toInt32).toInt8.toInt32)) 0 ((((((1 : Int32).toInt8.toInt32).toInt8.toInt32) ^^^ (85 : Int32)).toInt8.toInt32).toInt8.toInt32)))), (c144, .byte, (own_arr 0 own_zero))])) (S' := [(.ref c152)]) rfl rfl ?_
        refine Run.astore K at_208 (pc' := 210) rfl rfl (L' := #[.val (.int p1), .val (.int p2), .val (.int p3), .val (.int p4), .val (.int p5), .val (.int (1 : Int32)), .val (.int (((p1.toUInt32 >>> ((1 : Int32) &&& 31).toUInt32).toInt32) % (3 : Int32))), .val (.int (100 : Int32)), .val (.ref r140), .val (.int (p5 &&& (127 : Int32))), .val (.int (1 : Int32)), .val (.ref n141), .val (.ref c144), .val (.ref c148), .val (.int (1 : Int32)), .val (.ref c152), .unset]) rfl ?_
        refine Run.iload K at_210 (pc' := 212) rfl rfl ?_
        refine Run.ifcF K at_212 (pT := 303) (pF := 215) (by decide) (by decide) rfl (show ¬ ((1 : Int32) = (0 : Int32)) from by decide) ?_
        refine Run.aload K at_215 (pc' := 217) rfl rfl rfl ?_
        refine Run.alen K at_217 (pc' := 218) rfl (i := 0) rfl (w := (103 : Int32)) (own_arr_len rfl) ?_
        refine Run.iload K at_218 (pc' := 220) rfl rfl ?_
        refine Run.iconst K at_220 (pc' := 221) rfl (v := (3 : Int32)) rfl ?_
        refine Run.iaddV K at_221 (pc' := 222) rfl (v := (103 : Int32)) (by decide) ?_
        refine Run.icmpF K at_222 (pT := 303) (pF := 225) (by decide) (by decide) rfl (show ¬ ((103 : Int32) ≠ (103 : Int32)) from by decide) ?_
        refine Run.aload K at_225 (pc' := 227) rfl rfl rfl ?_
        refine Run.iconst K at_227 (pc' := 228) rfl (v := (0 : Int32)) rfl ?_
        refine Run.baload K at_228 (pc' := 229) rfl (i := 0) (q := 0) rfl (by decide) (by decide) (v := (.int (((1 : Int32).toInt8.toInt32).toInt8.toInt32))) (own_arr_get (by decide) (v := (((1 : Int32).toInt8.toInt32).toInt8.toInt32)) rfl) ?_
        refine Run.iload K at_229 (pc' := 231) rfl rfl ?_
        refine Run.icmpF K at_231 (pT := 303) (pF := 234) (by decide) (by decide) rfl (show ¬ ((((1 : Int32).toInt8.toInt32).toInt8.toInt32) ≠ (1 : Int32)) from fun h => h (by first | decide | exact own_idem _ | exact own_lastv _)) ?_
        refine Run.aload K at_234 (pc' := 236) rfl rfl rfl ?_
        refine Run.iconst K at_236 (pc' := 237) rfl (v := (1 : Int32)) rfl ?_
        refine Run.baload K at_237 (pc' := 238) rfl (i := 0) (q := 1) rfl (by decide) (by decide) (v := (.int ((((((100 : Int32).toInt64) &&& (4294967295 : Int64)).toInt32).toInt8.toInt32).toInt8.toInt32))) (own_arr_get (by decide) (v := ((((((100 : Int32).toInt64) &&& (4294967295 : Int64)).toInt32).toInt8.toInt32).toInt8.toInt32)) rfl) ?_
        refine Run.iload K at_238 (pc' := 240) rfl rfl ?_
        refine Run.i2bV K at_240 (pc' := 241) rfl (v := (100 : Int32)) (by decide) ?_
        refine Run.icmpF K at_241 (pT := 303) (pF := 244) (by decide) (by decide) rfl (show ¬ (((((((100 : Int32).toInt64) &&& (4294967295 : Int64)).toInt32).toInt8.toInt32).toInt8.toInt32) ≠ (100 : Int32)) from fun h => h (by first | decide | exact own_idem _ | exact own_lastv _)) ?_
        refine Run.aload K at_244 (pc' := 246) rfl rfl rfl ?_
        refine Run.iconst K at_246 (pc' := 247) rfl (v := (2 : Int32)) rfl ?_
        refine Run.baload K at_247 (pc' := 248) rfl (i := 0) (q := 2) rfl (by decide) (by decide) (v := (.int ((p2.toInt8.toInt32).toInt8.toInt32))) (own_arr_get (by decide) (v := ((p2.toInt8.toInt32).toInt8.toInt32)) rfl) ?_
        refine Run.iloadN K at_248 (pc' := 249) rfl rfl ?_
        refine Run.i2b K at_249 (pc' := 250) rfl ?_
        refine Run.icmpF K at_250 (pT := 303) (pF := 253) (by decide) (by decide) rfl (show ¬ (((p2.toInt8.toInt32).toInt8.toInt32) ≠ (p2.toInt8.toInt32)) from fun h => h (by first | decide | exact own_idem _ | exact own_lastv _)) ?_
        refine Run.aload K at_253 (pc' := 255) rfl rfl rfl ?_
        refine Run.iconst K at_255 (pc' := 256) rfl (v := (3 : Int32)) rfl ?_
        refine Run.baload K at_256 (pc' := 257) rfl (i := 0) (q := 3) rfl (by decide) (by decide) (v := (.int (0 : Int32))) (own_arr_get (by decide) (v := (0 : Int32)) rfl) ?_
        refine Run.ifcF K at_257 (pT := 303) (pF := 260) (by decide) (by decide) rfl (show ¬ ((0 : Int32) ≠ (0 : Int32)) from by decide) ?_
        refine Run.aload K at_260 (pc' := 262) rfl rfl rfl ?_
        refine Run.iconst K at_262 (pc' := 263) rfl (v := (2 : Int32)) rfl ?_
        refine Run.iload K at_263 (pc' := 265) rfl rfl ?_
        refine Run.iconst K at_265 (pc' := 266) rfl (v := (2 : Int32)) rfl ?_
        refine Run.idivV K at_266 (pc' := 267) rfl (by decide) (v := (50 : Int32)) (by decide) ?_
        refine Run.iaddV K at_267 (pc' := 268) rfl (v := (52 : Int32)) (by decide) ?_
        refine Run.baload K at_268 (pc' := 269) rfl (i := 0) (q := 52) rfl (by decide) (by decide) (v := (.int ((p3.toInt8.toInt32).toInt8.toInt32))) (own_arr_get (by decide) (v := ((p3.toInt8.toInt32).toInt8.toInt32)) rfl) ?_
        refine Run.iloadN K at_269 (pc' := 270) rfl rfl ?_
        refine Run.i2b K at_270 (pc' := 271) rfl ?_
        refine Run.icmpF K at_271 (pT := 303) (pF := 274) (by decide) (by decide) rfl (show ¬ (((p3.toInt8.toInt32).toInt8.toInt32) ≠ (p3.toInt8.toInt32)) from fun h => h (by first | decide | exact own_idem _ | exact own_lastv _)) ?_
        refine Run.aload K at_274 (pc' := 276) rfl rfl rfl ?_
        refine Run.iconst K at_276 (pc' := 277) rfl (v := (1 : Int32)) rfl ?_
        refine Run.iload K at_277 (pc' := 279) rfl rfl ?_
        refine Run.iaddV K at_279 (pc' := 280) rfl (v := (101 : Int32)) (by decide) ?_
        refine Run.baload K at_280 (pc' := 281) rfl (i := 0) (q := 101) rfl (by decide) (by decide) (v := (.int ((p4.toInt8.toInt32).toInt8.toInt32))) (own_arr_get (by decide) (v := ((p4.toInt8.toInt32).toInt8.toInt32)) rfl) ?_
        refine Run.iloadN K at_281 (pc' := 282) rfl rfl ?_
        refine Run.i2b K at_282 (pc' := 283) rfl ?_
        refine Run.icmpF K at_283 (pT := 303) (pF := 286) (by decide) (by decide) rfl (show ¬ (((p4.toInt8.toInt32).toInt8.toInt32) ≠ (p4.toInt8.toInt32)) from fun h => h (by first | decide | exact own_idem _ | exact own_lastv _)) ?_
        refine Run.aload K at_286 (pc' := 288) rfl rfl rfl ?_
        refine Run.iconst K at_288 (pc' := 289) rfl (v := (2 : Int32)) rfl ?_
        refine Run.iload K at_289 (pc' := 291) rfl rfl ?_
        refine Run.iaddV K at_291 (pc' := 292) rfl (v := (102 : Int32)) (by decide) ?_
        refine Run.baload K at_292 (pc' := 293) rfl (i := 0) (q := 102) rfl (by decide) (by decide) (v := (.int ((((((p5 &&& (127 : Int32)).toInt64) &&& (4294967295 : Int64)).toInt32).toInt8.toInt32).toInt8.toInt32))) (own_arr_get (by decide) (v := ((((((p5 &&& (127 : Int32)).toInt64) &&& (4294967295 : Int64)).toInt32).toInt8.toInt32).toInt8.toInt32)) rfl) ?_
        refine Run.iload K at_293 (pc' := 295) rfl rfl ?_
        refine Run.i2b K at_295 (pc' := 296) rfl ?_
        refine Run.icmpF K at_296 (pT := 303) (pF := 299) (by decide) (by decide) rfl (show ¬ (((((((p5 &&& (127 : Int32)).toInt64) &&& (4294967295 : Int64)).toInt32).toInt8.toInt32).toInt8.toInt32) ≠ ((p5 &&& (127 : Int32)).toInt8.toInt32)) from fun h => h (by first | decide | exact own_idem _ | exact own_lastv _)) ?_
        refine Run.iconst K at_299 (pc' := 300) rfl (v := (1 : Int32)) rfl ?_
        refine Run.goto K at_300 (pc' := 304) (by decide) (by decide) ?_
        refine Run.istore K at_304 (pc' := 306) rfl (L' := #[.val (.int p1), .val (.int p2), .val (.int p3), .val (.int p4), .val (.int p5), .val (.int (1 : Int32)), .val (.int (((p1.toUInt32 >>> ((1 : Int32) &&& 31).toUInt32).toInt32) % (3 : Int32))), .val (.int (100 : Int32)), .val (.ref r140), .val (.int (p5 &&& (127 : Int32))), .val (.int (1 : Int32)), .val (.ref n141), .val (.ref c144), .val (.ref c148), .val (.int (1 : Int32)), .val (.ref c152), .unset]) rfl ?_
        refine Run.iload K at_306 (pc' := 308) rfl rfl ?_
        refine Run.ifcF K at_308 (pT := 329) (pF := 311) (by decide) (by decide) rfl (show ¬ ((1 : Int32) = (0 : Int32)) from by decide) ?_
        refine Run.aload K at_311 (pc' := 313) rfl rfl rfl ?_
        refine Run.iconst K at_313 (pc' := 314) rfl (v := (2 : Int32)) rfl ?_
        refine Run.iload K at_314 (pc' := 316) rfl rfl ?_
        refine Run.iaddV K at_316 (pc' := 317) rfl (v := (102 : Int32)) (by decide) ?_
        refine Run.aload K at_317 (pc' := 319) rfl rfl rfl ?_
        refine Run.iconst K at_319 (pc' := 320) rfl (v := (2 : Int32)) rfl ?_
        refine Run.iload K at_320 (pc' := 322) rfl rfl ?_
        refine Run.iaddV K at_322 (pc' := 323) rfl (v := (102 : Int32)) (by decide) ?_
        refine Run.baload K at_323 (pc' := 324) rfl (i := 0) (q := 102) rfl (by decide) (by decide) (v := (.int ((((((p5 &&& (127 : Int32)).toInt64) &&& (4294967295 : Int64)).toInt32).toInt8.toInt32).toInt8.toInt32))) (own_arr_get (by decide) (v := ((((((p5 &&& (127 : Int32)).toInt64) &&& (4294967295 : Int64)).toInt32).toInt8.toInt32).toInt8.toInt32)) rfl) ?_
        refine Run.bipush K at_324 (pc' := 326) rfl (v := (85 : Int32)) rfl ?_
        refine Run.ixor K at_326 (pc' := 327) rfl ?_
        refine Run.i2b K at_327 (pc' := 328) rfl ?_
        refine Run.bastore K at_328 (pc' := 329) rfl (i := 0) (q := 102) rfl (by decide) (by decide) (v := (.int ((((((p5 &&& (127 : Int32)).toInt64) &&& (4294967295 : Int64)).toInt32).toInt8.toInt32).toInt8.toInt32))) (own_arr_get (by decide) (v := ((((((p5 &&& (127 : Int32)).toInt64) &&& (4294967295 : Int64)).toInt32).toInt8.toInt32).toInt8.toInt32)) rfl) (D' := ([(n141, "com/example/efcor/efcor/io/RecordWriter", [("com/example/efcor/efcor/io/RecordWriter", "bytes", "[B", (.ref c150)), ("com/example/efcor/efcor/io/RecordWriter", "size", "I", (.int (103 : Int32)))])], [(c152, .byte, ((own_arr 103 (own_upd (own_put (own_cut (own_upd (own_upd own_zero 0 (((1 : Int32).toInt8.toInt32).toInt8.toInt32)) 1 ((((((100 : Int32).toInt64) &&& (4294967295 : Int64)).toInt32).toInt8.toInt32).toInt8.toInt32)) 64) 2 100 (own_upd (own_upd (own_upd own_zero 0 ((p2.toInt8.toInt32).toInt8.toInt32)) 50 ((p3.toInt8.toInt32).toInt8.toInt32)) 99 ((p4.toInt8.toInt32).toInt8.toInt32))) 102 ((((((p5 &&& (127 : Int32)).toInt64) &&& (4294967295 : Int64)).toInt32).toInt8.toInt32).toInt8.toInt32))).set 102 (.int ((((((((p5 &&& (127 : Int32)).toInt64) &&& (4294967295 : Int64)).toInt32).toInt8.toInt32).toInt8.toInt32) ^^^ (85 : Int32)).toInt8.toInt32).toInt8.toInt32))), (c150, .byte, (own_arr 128 (own_upd (own_put (own_cut (own_upd (own_upd own_zero 0 (((1 : Int32).toInt8.toInt32).toInt8.toInt32)) 1 ((((((100 : Int32).toInt64) &&& (4294967295 : Int64)).toInt32).toInt8.toInt32).toInt8.toInt32)) 64) 2 100 (own_upd (own_upd (own_upd own_zero 0 ((p2.toInt8.toInt32).toInt8.toInt32)) 50 ((p3.toInt8.toInt32).toInt8.toInt32)) 99 ((p4.toInt8.toInt32).toInt8.toInt32))) 102 ((((((p5 &&& (127 : Int32)).toInt64) &&& (4294967295 : Int64)).toInt32).toInt8.toInt32).toInt8.toInt32)))), (c142, .byte, (own_arr 64 (own_upd (own_upd own_zero 0 (((1 : Int32).toInt8.toInt32).toInt8.toInt32)) 1 ((((((100 : Int32).toInt64) &&& (4294967295 : Int64)).toInt32).toInt8.toInt32).toInt8.toInt32)))), (r140, .byte, (own_arr 100 (own_upd (own_upd (own_upd own_zero 0 ((p2.toInt8.toInt32).toInt8.toInt32)) 50 ((p3.toInt8.toInt32).toInt8.toInt32)) 99 ((p4.toInt8.toInt32).toInt8.toInt32)))), (c148, .byte, (own_arr 1 (own_upd (own_upd own_zero 0 (((1 : Int32).toInt8.toInt32).toInt8.toInt32)) 0 ((((((1 : Int32).toInt8.toInt32).toInt8.toInt32) ^^^ (85 : Int32)).toInt8.toInt32).toInt8.toInt32)))), (c144, .byte, (own_arr 0 own_zero))])) rfl ?_
        refine Run.as (D' := ([(n141, "com/example/efcor/efcor/io/RecordWriter", [("com/example/efcor/efcor/io/RecordWriter", "bytes", "[B", (.ref c150)), ("com/example/efcor/efcor/io/RecordWriter", "size", "I", (.int (103 : Int32)))])], [(c152, .byte, (own_arr 103 (own_upd (own_upd (own_put (own_cut (own_upd (own_upd own_zero 0 (((1 : Int32).toInt8.toInt32).toInt8.toInt32)) 1 ((((((100 : Int32).toInt64) &&& (4294967295 : Int64)).toInt32).toInt8.toInt32).toInt8.toInt32)) 64) 2 100 (own_upd (own_upd (own_upd own_zero 0 ((p2.toInt8.toInt32).toInt8.toInt32)) 50 ((p3.toInt8.toInt32).toInt8.toInt32)) 99 ((p4.toInt8.toInt32).toInt8.toInt32))) 102 ((((((p5 &&& (127 : Int32)).toInt64) &&& (4294967295 : Int64)).toInt32).toInt8.toInt32).toInt8.toInt32)) 102 (((((((((p5 &&& (127 : Int32)).toInt64) &&& (4294967295 : Int64)).toInt32).toInt8.toInt32).toInt8.toInt32) ^^^ (85 : Int32)).toInt8.toInt32).toInt8.toInt32)))), (c150, .byte, (own_arr 128 (own_upd (own_put (own_cut (own_upd (own_upd own_zero 0 (((1 : Int32).toInt8.toInt32).toInt8.toInt32)) 1 ((((((100 : Int32).toInt64) &&& (4294967295 : Int64)).toInt32).toInt8.toInt32).toInt8.toInt32)) 64) 2 100 (own_upd (own_upd (own_upd own_zero 0 ((p2.toInt8.toInt32).toInt8.toInt32)) 50 ((p3.toInt8.toInt32).toInt8.toInt32)) 99 ((p4.toInt8.toInt32).toInt8.toInt32))) 102 ((((((p5 &&& (127 : Int32)).toInt64) &&& (4294967295 : Int64)).toInt32).toInt8.toInt32).toInt8.toInt32)))), (c142, .byte, (own_arr 64 (own_upd (own_upd own_zero 0 (((1 : Int32).toInt8.toInt32).toInt8.toInt32)) 1 ((((((100 : Int32).toInt64) &&& (4294967295 : Int64)).toInt32).toInt8.toInt32).toInt8.toInt32)))), (r140, .byte, (own_arr 100 (own_upd (own_upd (own_upd own_zero 0 ((p2.toInt8.toInt32).toInt8.toInt32)) 50 ((p3.toInt8.toInt32).toInt8.toInt32)) 99 ((p4.toInt8.toInt32).toInt8.toInt32)))), (c148, .byte, (own_arr 1 (own_upd (own_upd own_zero 0 (((1 : Int32).toInt8.toInt32).toInt8.toInt32)) 0 ((((((1 : Int32).toInt8.toInt32).toInt8.toInt32) ^^^ (85 : Int32)).toInt8.toInt32).toInt8.toInt32)))), (c144, .byte, (own_arr 0 own_zero))])) (by rw [own_arr_set]) ?_
        refine Run.aload K at_329 (pc' := 331) rfl rfl rfl ?_
        refine Run.bring 0 1 (D' := ([(n141, "com/example/efcor/efcor/io/RecordWriter", [("com/example/efcor/efcor/io/RecordWriter", "bytes", "[B", (.ref c150)), ("com/example/efcor/efcor/io/RecordWriter", "size", "I", (.int (103 : Int32)))])], [(c150, .byte, (own_arr 128 (own_upd (own_put (own_cut (own_upd (own_upd own_zero 0 (((1 : Int32).toInt8.toInt32).toInt8.toInt32)) 1 ((((((100 : Int32).toInt64) &&& (4294967295 : Int64)).toInt32).toInt8.toInt32).toInt8.toInt32)) 64) 2 100 (own_upd (own_upd (own_upd own_zero 0 ((p2.toInt8.toInt32).toInt8.toInt32)) 50 ((p3.toInt8.toInt32).toInt8.toInt32)) 99 ((p4.toInt8.toInt32).toInt8.toInt32))) 102 ((((((p5 &&& (127 : Int32)).toInt64) &&& (4294967295 : Int64)).toInt32).toInt8.toInt32).toInt8.toInt32)))), (c152, .byte, (own_arr 103 (own_upd (own_upd (own_put (own_cut (own_upd (own_upd own_zero 0 (((1 : Int32).toInt8.toInt32).toInt8.toInt32)) 1 ((((((100 : Int32).toInt64) &&& (4294967295 : Int64)).toInt32).toInt8.toInt32).toInt8.toInt32)) 64) 2 100 (own_upd (own_upd (own_upd own_zero 0 ((p2.toInt8.toInt32).toInt8.toInt32)) 50 ((p3.toInt8.toInt32).toInt8.toInt32)) 99 ((p4.toInt8.toInt32).toInt8.toInt32))) 102 ((((((p5 &&& (127 : Int32)).toInt64) &&& (4294967295 : Int64)).toInt32).toInt8.toInt32).toInt8.toInt32)) 102 (((((((((p5 &&& (127 : Int32)).toInt64) &&& (4294967295 : Int64)).toInt32).toInt8.toInt32).toInt8.toInt32) ^^^ (85 : Int32)).toInt8.toInt32).toInt8.toInt32)))), (c142, .byte, (own_arr 64 (own_upd (own_upd own_zero 0 (((1 : Int32).toInt8.toInt32).toInt8.toInt32)) 1 ((((((100 : Int32).toInt64) &&& (4294967295 : Int64)).toInt32).toInt8.toInt32).toInt8.toInt32)))), (r140, .byte, (own_arr 100 (own_upd (own_upd (own_upd own_zero 0 ((p2.toInt8.toInt32).toInt8.toInt32)) 50 ((p3.toInt8.toInt32).toInt8.toInt32)) 99 ((p4.toInt8.toInt32).toInt8.toInt32)))), (c148, .byte, (own_arr 1 (own_upd (own_upd own_zero 0 (((1 : Int32).toInt8.toInt32).toInt8.toInt32)) 0 ((((((1 : Int32).toInt8.toInt32).toInt8.toInt32) ^^^ (85 : Int32)).toInt8.toInt32).toInt8.toInt32)))), (c144, .byte, (own_arr 0 own_zero))])) rfl ?_
        refine Run.callV K at_331 (pc' := 334) rfl (a := n141) (z := (⟨"com/example/efcor/efcor/io/RecordWriter", "toBytes", "()[B"⟩ : MethodName)) (Cn := "com/example/efcor/efcor/io/RecordWriter") (i := 0) (hw _ (List.mem_of_getElem? (i := 12) rfl)) (hw _ (List.mem_of_getElem? (i := 13) rfl)) (hw _ (List.mem_of_getElem? (i := 15) rfl)) (hw _ (List.mem_of_getElem? (i := 14) rfl)) (hw _ (List.mem_of_getElem? (i := 3) rfl)) (hw _ (List.mem_of_getElem? (i := 16) rfl)) (by decide) rfl (tb_shr l Z a0 n0 hw [] (n141) (c150) (128) ((own_upd (own_put (own_cut (own_upd (own_upd own_zero 0 (((1 : Int32).toInt8.toInt32).toInt8.toInt32)) 1 ((((((100 : Int32).toInt64) &&& (4294967295 : Int64)).toInt32).toInt8.toInt32).toInt8.toInt32)) 64) 2 100 (own_upd (own_upd (own_upd own_zero 0 ((p2.toInt8.toInt32).toInt8.toInt32)) 50 ((p3.toInt8.toInt32).toInt8.toInt32)) 99 ((p4.toInt8.toInt32).toInt8.toInt32))) 102 ((((((p5 &&& (127 : Int32)).toInt64) &&& (4294967295 : Int64)).toInt32).toInt8.toInt32).toInt8.toInt32))) (103) ([]) ([(c152, .byte, (own_arr 103 (own_upd (own_upd (own_put (own_cut (own_upd (own_upd own_zero 0 (((1 : Int32).toInt8.toInt32).toInt8.toInt32)) 1 ((((((100 : Int32).toInt64) &&& (4294967295 : Int64)).toInt32).toInt8.toInt32).toInt8.toInt32)) 64) 2 100 (own_upd (own_upd (own_upd own_zero 0 ((p2.toInt8.toInt32).toInt8.toInt32)) 50 ((p3.toInt8.toInt32).toInt8.toInt32)) 99 ((p4.toInt8.toInt32).toInt8.toInt32))) 102 ((((((p5 &&& (127 : Int32)).toInt64) &&& (4294967295 : Int64)).toInt32).toInt8.toInt32).toInt8.toInt32)) 102 (((((((((p5 &&& (127 : Int32)).toInt64) &&& (4294967295 : Int64)).toInt32).toInt8.toInt32).toInt8.toInt32) ^^^ (85 : Int32)).toInt8.toInt32).toInt8.toInt32)))), (c142, .byte, (own_arr 64 (own_upd (own_upd own_zero 0 (((1 : Int32).toInt8.toInt32).toInt8.toInt32)) 1 ((((((100 : Int32).toInt64) &&& (4294967295 : Int64)).toInt32).toInt8.toInt32).toInt8.toInt32)))), (r140, .byte, (own_arr 100 (own_upd (own_upd (own_upd own_zero 0 ((p2.toInt8.toInt32).toInt8.toInt32)) 50 ((p3.toInt8.toInt32).toInt8.toInt32)) 99 ((p4.toInt8.toInt32).toInt8.toInt32)))), (c148, .byte, (own_arr 1 (own_upd (own_upd own_zero 0 (((1 : Int32).toInt8.toInt32).toInt8.toInt32)) 0 ((((((1 : Int32).toInt8.toInt32).toInt8.toInt32) ^^^ (85 : Int32)).toInt8.toInt32).toInt8.toInt32)))), (c144, .byte, (own_arr 0 own_zero))]) (by decide) (by decide)) (argsL := []) (rest := []) rfl rfl pd_7 rfl (W := 0) rfl (by decide) (by decide) (cells' := 8) (slots' := 806) rfl rfl (by decide) (by decide) ?_
        intro vq Dq hq
        obtain ⟨c154, rfl, rfl⟩ := hq
        refine Run.as2 (D' := ([(n141, "com/example/efcor/efcor/io/RecordWriter", [("com/example/efcor/efcor/io/RecordWriter", "bytes", "[B", (.ref c150)), ("com/example/efcor/efcor/io/RecordWriter", "size", "I", (.int (103 : Int32)))])], [(c154, .byte, (own_arr 103 (own_upd (own_put (own_cut (own_upd (own_upd own_zero 0 (((1 : Int32).toInt8.toInt32).toInt8.toInt32)) 1 ((((((100 : Int32).toInt64) &&& (4294967295 : Int64)).toInt32).toInt8.toInt32).toInt8.toInt32)) 64) 2 100 (own_upd (own_upd (own_upd own_zero 0 ((p2.toInt8.toInt32).toInt8.toInt32)) 50 ((p3.toInt8.toInt32).toInt8.toInt32)) 99 ((p4.toInt8.toInt32).toInt8.toInt32))) 102 ((((((p5 &&& (127 : Int32)).toInt64) &&& (4294967295 : Int64)).toInt32).toInt8.toInt32).toInt8.toInt32)))), (c150, .byte, (own_arr 128 (own_upd (own_put (own_cut (own_upd (own_upd own_zero 0 (((1 : Int32).toInt8.toInt32).toInt8.toInt32)) 1 ((((((100 : Int32).toInt64) &&& (4294967295 : Int64)).toInt32).toInt8.toInt32).toInt8.toInt32)) 64) 2 100 (own_upd (own_upd (own_upd own_zero 0 ((p2.toInt8.toInt32).toInt8.toInt32)) 50 ((p3.toInt8.toInt32).toInt8.toInt32)) 99 ((p4.toInt8.toInt32).toInt8.toInt32))) 102 ((((((p5 &&& (127 : Int32)).toInt64) &&& (4294967295 : Int64)).toInt32).toInt8.toInt32).toInt8.toInt32)))), (c152, .byte, (own_arr 103 (own_upd (own_upd (own_put (own_cut (own_upd (own_upd own_zero 0 (((1 : Int32).toInt8.toInt32).toInt8.toInt32)) 1 ((((((100 : Int32).toInt64) &&& (4294967295 : Int64)).toInt32).toInt8.toInt32).toInt8.toInt32)) 64) 2 100 (own_upd (own_upd (own_upd own_zero 0 ((p2.toInt8.toInt32).toInt8.toInt32)) 50 ((p3.toInt8.toInt32).toInt8.toInt32)) 99 ((p4.toInt8.toInt32).toInt8.toInt32))) 102 ((((((p5 &&& (127 : Int32)).toInt64) &&& (4294967295 : Int64)).toInt32).toInt8.toInt32).toInt8.toInt32)) 102 (((((((((p5 &&& (127 : Int32)).toInt64) &&& (4294967295 : Int64)).toInt32).toInt8.toInt32).toInt8.toInt32) ^^^ (85 : Int32)).toInt8.toInt32).toInt8.toInt32)))), (c142, .byte, (own_arr 64 (own_upd (own_upd own_zero 0 (((1 : Int32).toInt8.toInt32).toInt8.toInt32)) 1 ((((((100 : Int32).toInt64) &&& (4294967295 : Int64)).toInt32).toInt8.toInt32).toInt8.toInt32)))), (r140, .byte, (own_arr 100 (own_upd (own_upd (own_upd own_zero 0 ((p2.toInt8.toInt32).toInt8.toInt32)) 50 ((p3.toInt8.toInt32).toInt8.toInt32)) 99 ((p4.toInt8.toInt32).toInt8.toInt32)))), (c148, .byte, (own_arr 1 (own_upd (own_upd own_zero 0 (((1 : Int32).toInt8.toInt32).toInt8.toInt32)) 0 ((((((1 : Int32).toInt8.toInt32).toInt8.toInt32) ^^^ (85 : Int32)).toInt8.toInt32).toInt8.toInt32)))), (c144, .byte, (own_arr 0 own_zero))])) (S' := [(.ref c154)]) rfl rfl ?_
        refine Run.astore K at_334 (pc' := 336) rfl rfl (L' := #[.val (.int p1), .val (.int p2), .val (.int p3), .val (.int p4), .val (.int p5), .val (.int (1 : Int32)), .val (.int (((p1.toUInt32 >>> ((1 : Int32) &&& 31).toUInt32).toInt32) % (3 : Int32))), .val (.int (100 : Int32)), .val (.ref r140), .val (.int (p5 &&& (127 : Int32))), .val (.int (1 : Int32)), .val (.ref n141), .val (.ref c144), .val (.ref c148), .val (.int (1 : Int32)), .val (.ref c152), .val (.ref c154)]) rfl ?_
        refine Run.iload K at_336 (pc' := 338) rfl rfl ?_
        refine Run.ifcF K at_338 (pT := 384) (pF := 341) (by decide) (by decide) rfl (show ¬ ((1 : Int32) = (0 : Int32)) from by decide) ?_
        refine Run.aload K at_341 (pc' := 343) rfl rfl rfl ?_
        refine Run.aload K at_343 (pc' := 345) rfl rfl rfl ?_
        refine Run.acmpF K at_345 (pF := 348) rfl (i := 0) (j := 2) rfl rfl rfl rfl (by decide) ?_
        refine Run.aload K at_348 (pc' := 350) rfl rfl rfl ?_
        refine Run.alen K at_350 (pc' := 351) rfl (i := 0) rfl (w := (103 : Int32)) (own_arr_len rfl) ?_
        refine Run.iload K at_351 (pc' := 353) rfl rfl ?_
        refine Run.iconst K at_353 (pc' := 354) rfl (v := (3 : Int32)) rfl ?_
        refine Run.iaddV K at_354 (pc' := 355) rfl (v := (103 : Int32)) (by decide) ?_
        refine Run.icmpF K at_355 (pT := 384) (pF := 358) (by decide) (by decide) rfl (show ¬ ((103 : Int32) ≠ (103 : Int32)) from by decide) ?_
        refine Run.aload K at_358 (pc' := 360) rfl rfl rfl ?_
        refine Run.iconst K at_360 (pc' := 361) rfl (v := (0 : Int32)) rfl ?_
        refine Run.baload K at_361 (pc' := 362) rfl (i := 0) (q := 0) rfl (by decide) (by decide) (v := (.int (((1 : Int32).toInt8.toInt32).toInt8.toInt32))) (own_arr_get (by decide) (v := (((1 : Int32).toInt8.toInt32).toInt8.toInt32)) rfl) ?_
        refine Run.iload K at_362 (pc' := 364) rfl rfl ?_
        refine Run.icmpF K at_364 (pT := 384) (pF := 367) (by decide) (by decide) rfl (show ¬ ((((1 : Int32).toInt8.toInt32).toInt8.toInt32) ≠ (1 : Int32)) from fun h => h (by first | decide | exact own_idem _ | exact own_lastv _)) ?_
        refine Run.aload K at_367 (pc' := 369) rfl rfl rfl ?_
        refine Run.iconst K at_369 (pc' := 370) rfl (v := (2 : Int32)) rfl ?_
        refine Run.iload K at_370 (pc' := 372) rfl rfl ?_
        refine Run.iaddV K at_372 (pc' := 373) rfl (v := (102 : Int32)) (by decide) ?_
        refine Run.baload K at_373 (pc' := 374) rfl (i := 0) (q := 102) rfl (by decide) (by decide) (v := (.int ((((((p5 &&& (127 : Int32)).toInt64) &&& (4294967295 : Int64)).toInt32).toInt8.toInt32).toInt8.toInt32))) (own_arr_get (by decide) (v := ((((((p5 &&& (127 : Int32)).toInt64) &&& (4294967295 : Int64)).toInt32).toInt8.toInt32).toInt8.toInt32)) rfl) ?_
        refine Run.iload K at_374 (pc' := 376) rfl rfl ?_
        refine Run.i2b K at_376 (pc' := 377) rfl ?_
        refine Run.icmpF K at_377 (pT := 384) (pF := 380) (by decide) (by decide) rfl (show ¬ (((((((p5 &&& (127 : Int32)).toInt64) &&& (4294967295 : Int64)).toInt32).toInt8.toInt32).toInt8.toInt32) ≠ ((p5 &&& (127 : Int32)).toInt8.toInt32)) from fun h => h (by first | decide | exact own_idem _ | exact own_lastv _)) ?_
        refine Run.iconst K at_380 (pc' := 381) rfl (v := (1 : Int32)) rfl ?_
        refine Run.goto K at_381 (pc' := 385) (by decide) (by decide) ?_
        refine Run.istore K at_385 (pc' := 387) rfl (L' := #[.val (.int p1), .val (.int p2), .val (.int p3), .val (.int p4), .val (.int p5), .val (.int (1 : Int32)), .val (.int (((p1.toUInt32 >>> ((1 : Int32) &&& 31).toUInt32).toInt32) % (3 : Int32))), .val (.int (100 : Int32)), .val (.ref r140), .val (.int (p5 &&& (127 : Int32))), .val (.int (1 : Int32)), .val (.ref n141), .val (.ref c144), .val (.ref c148), .val (.int (1 : Int32)), .val (.ref c152), .val (.ref c154)]) rfl ?_
        refine Run.iload K at_387 (pc' := 389) rfl rfl ?_
        exact Run.retN K at_389 (w := (1 : Int32)) rfl (by decide) (by decide) (by decide) (by decide) rfl
      · skip
        refine Run.bipush K at_44 (pc' := 46) rfl (v := (62 : Int32)) rfl ?_
        refine Run.istore K at_46 (pc' := 48) rfl (L' := #[.val (.int p1), .val (.int p2), .val (.int p3), .val (.int p4), .val (.int p5), .val (.int (1 : Int32)), .val (.int (((p1.toUInt32 >>> ((1 : Int32) &&& 31).toUInt32).toInt32) % (3 : Int32))), .val (.int (62 : Int32)), .unset, .unset, .unset, .unset, .unset, .unset, .unset, .unset, .unset]) rfl ?_
        refine Run.bipush K at_48 (pc' := 50) rfl (v := (62 : Int32)) rfl ?_
        refine Run.newA K at_50 (pc' := 52) rfl (ty := .byte) rfl (hw _ (List.mem_of_getElem? (i := 0) rfl)) (by decide) (vs := (own_arr 62 own_zero)) (own_arr_new' (by decide)) (cap := 62) (by decide) (by decide) (cells' := 1) (slots' := 62) rfl rfl (by decide) (by decide) rfl (fun r156 => ?_)
        refine Run.as (D' := ([], [(r156, .byte, (own_arr 62 own_zero))])) rfl ?_
        refine Run.astore K at_52 (pc' := 54) rfl rfl (L' := #[.val (.int p1), .val (.int p2), .val (.int p3), .val (.int p4), .val (.int p5), .val (.int (1 : Int32)), .val (.int (((p1.toUInt32 >>> ((1 : Int32) &&& 31).toUInt32).toInt32) % (3 : Int32))), .val (.int (62 : Int32)), .val (.ref r156), .unset, .unset, .unset, .unset, .unset, .unset, .unset, .unset]) rfl ?_
        refine Run.goto K at_54 (pc' := 67) (by decide) (by decide) ?_
        refine Run.aload K at_67 (pc' := 69) rfl rfl rfl ?_
        refine Run.iconst K at_69 (pc' := 70) rfl (v := (0 : Int32)) rfl ?_
        refine Run.iloadN K at_70 (pc' := 71) rfl rfl ?_
        refine Run.i2b K at_71 (pc' := 72) rfl ?_
        refine Run.bastore K at_72 (pc' := 73) rfl (i := 0) (q := 0) rfl (by decide) (by decide) (v := (.int (0 : Int32))) (own_arr_get (by decide) (v := (0 : Int32)) rfl) (D' := ([], [(r156, .byte, ((own_arr 62 own_zero).set 0 (.int (p2.toInt8.toInt32).toInt8.toInt32)))])) rfl ?_
        refine Run.as (D' := ([], [(r156, .byte, (own_arr 62 (own_upd own_zero 0 ((p2.toInt8.toInt32).toInt8.toInt32))))])) (by rw [own_arr_set]) ?_
        refine Run.aload K at_73 (pc' := 75) rfl rfl rfl ?_
        refine Run.iload K at_75 (pc' := 77) rfl rfl ?_
        refine Run.iconst K at_77 (pc' := 78) rfl (v := (2 : Int32)) rfl ?_
        refine Run.idivV K at_78 (pc' := 79) rfl (by decide) (v := (31 : Int32)) (by decide) ?_
        refine Run.iloadN K at_79 (pc' := 80) rfl rfl ?_
        refine Run.i2b K at_80 (pc' := 81) rfl ?_
        refine Run.bastore K at_81 (pc' := 82) rfl (i := 0) (q := 31) rfl (by decide) (by decide) (v := (.int (0 : Int32))) (own_arr_get (by decide) (v := (0 : Int32)) rfl) (D' := ([], [(r156, .byte, ((own_arr 62 (own_upd own_zero 0 ((p2.toInt8.toInt32).toInt8.toInt32))).set 31 (.int (p3.toInt8.toInt32).toInt8.toInt32)))])) rfl ?_
        refine Run.as (D' := ([], [(r156, .byte, (own_arr 62 (own_upd (own_upd own_zero 0 ((p2.toInt8.toInt32).toInt8.toInt32)) 31 ((p3.toInt8.toInt32).toInt8.toInt32))))])) (by rw [own_arr_set]) ?_
        refine Run.aload K at_82 (pc' := 84) rfl rfl rfl ?_
        refine Run.iload K at_84 (pc' := 86) rfl rfl ?_
        refine Run.iconst K at_86 (pc' := 87) rfl (v := (1 : Int32)) rfl ?_
        refine Run.isubV K at_87 (pc' := 88) rfl (v := (61 : Int32)) (by decide) ?_
        refine Run.iloadN K at_88 (pc' := 89) rfl rfl ?_
        refine Run.i2b K at_89 (pc' := 90) rfl ?_
        refine Run.bastore K at_90 (pc' := 91) rfl (i := 0) (q := 61) rfl (by decide) (by decide) (v := (.int (0 : Int32))) (own_arr_get (by decide) (v := (0 : Int32)) rfl) (D' := ([], [(r156, .byte, ((own_arr 62 (own_upd (own_upd own_zero 0 ((p2.toInt8.toInt32).toInt8.toInt32)) 31 ((p3.toInt8.toInt32).toInt8.toInt32))).set 61 (.int (p4.toInt8.toInt32).toInt8.toInt32)))])) rfl ?_
        refine Run.as (D' := ([], [(r156, .byte, (own_arr 62 (own_upd (own_upd (own_upd own_zero 0 ((p2.toInt8.toInt32).toInt8.toInt32)) 31 ((p3.toInt8.toInt32).toInt8.toInt32)) 61 ((p4.toInt8.toInt32).toInt8.toInt32))))])) (by rw [own_arr_set]) ?_
        refine Run.iload K at_91 (pc' := 93) rfl rfl ?_
        refine Run.bipush K at_93 (pc' := 95) rfl (v := (127 : Int32)) rfl ?_
        refine Run.iand K at_95 (pc' := 96) rfl ?_
        refine Run.istore K at_96 (pc' := 98) rfl (L' := #[.val (.int p1), .val (.int p2), .val (.int p3), .val (.int p4), .val (.int p5), .val (.int (1 : Int32)), .val (.int (((p1.toUInt32 >>> ((1 : Int32) &&& 31).toUInt32).toInt32) % (3 : Int32))), .val (.int (62 : Int32)), .val (.ref r156), .val (.int (p5 &&& (127 : Int32))), .unset, .unset, .unset, .unset, .unset, .unset, .unset]) rfl ?_
        refine Run.iload K at_98 (pc' := 100) rfl rfl ?_
        refine Run.ifcF K at_100 (pT := 107) (pF := 103) (by decide) (by decide) rfl (show ¬ ((1 : Int32) = (0 : Int32)) from by decide) ?_
        refine Run.iconst K at_103 (pc' := 104) rfl (v := (1 : Int32)) rfl ?_
        refine Run.goto K at_104 (pc' := 108) (by decide) (by decide) ?_
        refine Run.istore K at_108 (pc' := 110) rfl (L' := #[.val (.int p1), .val (.int p2), .val (.int p3), .val (.int p4), .val (.int p5), .val (.int (1 : Int32)), .val (.int (((p1.toUInt32 >>> ((1 : Int32) &&& 31).toUInt32).toInt32) % (3 : Int32))), .val (.int (62 : Int32)), .val (.ref r156), .val (.int (p5 &&& (127 : Int32))), .val (.int (1 : Int32)), .unset, .unset, .unset, .unset, .unset, .unset]) rfl ?_
        refine Run.newO K at_110 (pc' := 113) rfl (hw _ (List.mem_of_getElem? (i := 1) rfl)) (hw _ (List.mem_of_getElem? (i := 2) rfl)) (hw _ (List.mem_of_getElem? (i := 3) rfl)) (fs_0 hw) (cells' := 2) (slots' := 64) rfl rfl (by decide) (by decide) (fun n157 => ?_)
        refine Run.as (D' := ([(n157, "com/example/efcor/efcor/io/RecordWriter", [("com/example/efcor/efcor/io/RecordWriter", "bytes", "[B", .null), ("com/example/efcor/efcor/io/RecordWriter", "size", "I", (.int (0 : Int32)))])], [(r156, .byte, (own_arr 62 (own_upd (own_upd (own_upd own_zero 0 ((p2.toInt8.toInt32).toInt8.toInt32)) 31 ((p3.toInt8.toInt32).toInt8.toInt32)) 61 ((p4.toInt8.toInt32).toInt8.toInt32))))])) rfl ?_
        refine Run.dup K at_113 (pc' := 114) rfl rfl ?_
        refine Run.callI K at_114 (pc' := 117) rfl rfl (hw _ (List.mem_of_getElem? (i := 4) rfl)) (hw _ (List.mem_of_getElem? (i := 5) rfl)) (hw _ (List.mem_of_getElem? (i := 3) rfl)) (hw _ (List.mem_of_getElem? (i := 6) rfl)) (by decide) (a := n157) (rm1 l Z a0 n0 hw [] (n157) (.null) ((0 : Int32)) ([]) ([(r156, .byte, (own_arr 62 (own_upd (own_upd (own_upd own_zero 0 ((p2.toInt8.toInt32).toInt8.toInt32)) 31 ((p3.toInt8.toInt32).toInt8.toInt32)) 61 ((p4.toInt8.toInt32).toInt8.toInt32))))]) ) (argsL := []) (rest := [(.ref n157)]) rfl rfl pd_6 rfl (W := 1) rfl (by decide) (by decide) (cells' := 3) (slots' := 128) rfl rfl (by decide) (by decide) ?_
        intro vq Dq hq
        obtain ⟨c158, rfl, rfl⟩ := hq
        refine Run.as2 (D' := ([(n157, "com/example/efcor/efcor/io/RecordWriter", [("com/example/efcor/efcor/io/RecordWriter", "bytes", "[B", (.ref c158)), ("com/example/efcor/efcor/io/RecordWriter", "size", "I", (.int (0 : Int32)))])], [(c158, .byte, (own_arr 64 own_zero)), (r156, .byte, (own_arr 62 (own_upd (own_upd (own_upd own_zero 0 ((p2.toInt8.toInt32).toInt8.toInt32)) 31 ((p3.toInt8.toInt32).toInt8.toInt32)) 61 ((p4.toInt8.toInt32).toInt8.toInt32))))])) (S' := [(.ref n157)]) rfl rfl ?_
        refine Run.astore K at_117 (pc' := 119) rfl rfl (L' := #[.val (.int p1), .val (.int p2), .val (.int p3), .val (.int p4), .val (.int p5), .val (.int (1 : Int32)), .val (.int (((p1.toUInt32 >>> ((1 : Int32) &&& 31).toUInt32).toInt32) % (3 : Int32))), .val (.int (62 : Int32)), .val (.ref r156), .val (.int (p5 &&& (127 : Int32))), .val (.int (1 : Int32)), .val (.ref n157), .unset, .unset, .unset, .unset, .unset]) rfl ?_
        refine Run.aload K at_119 (pc' := 121) rfl rfl rfl ?_
        refine Run.callV K at_121 (pc' := 124) rfl (a := n157) (z := (⟨"com/example/efcor/efcor/io/RecordWriter", "toBytes", "()[B"⟩ : MethodName)) (Cn := "com/example/efcor/efcor/io/RecordWriter") (i := 0) (hw _ (List.mem_of_getElem? (i := 12) rfl)) (hw _ (List.mem_of_getElem? (i := 13) rfl)) (hw _ (List.mem_of_getElem? (i := 15) rfl)) (hw _ (List.mem_of_getElem? (i := 14) rfl)) (hw _ (List.mem_of_getElem? (i := 3) rfl)) (hw _ (List.mem_of_getElem? (i := 16) rfl)) (by decide) rfl (tb_shr l Z a0 n0 hw [] (n157) (c158) (64) (own_zero) (0) ([]) ([(r156, .byte, (own_arr 62 (own_upd (own_upd (own_upd own_zero 0 ((p2.toInt8.toInt32).toInt8.toInt32)) 31 ((p3.toInt8.toInt32).toInt8.toInt32)) 61 ((p4.toInt8.toInt32).toInt8.toInt32))))]) (by decide) (by decide)) (argsL := []) (rest := []) rfl rfl pd_7 rfl (W := 0) rfl (by decide) (by decide) (cells' := 4) (slots' := 256) rfl rfl (by decide) (by decide) ?_
        intro vq Dq hq
        obtain ⟨c160, rfl, rfl⟩ := hq
        refine Run.as2 (D' := ([(n157, "com/example/efcor/efcor/io/RecordWriter", [("com/example/efcor/efcor/io/RecordWriter", "bytes", "[B", (.ref c158)), ("com/example/efcor/efcor/io/RecordWriter", "size", "I", (.int (0 : Int32)))])], [(c160, .byte, (own_arr 0 own_zero)), (c158, .byte, (own_arr 64 own_zero)), (r156, .byte, (own_arr 62 (own_upd (own_upd (own_upd own_zero 0 ((p2.toInt8.toInt32).toInt8.toInt32)) 31 ((p3.toInt8.toInt32).toInt8.toInt32)) 61 ((p4.toInt8.toInt32).toInt8.toInt32))))])) (S' := [(.ref c160)]) rfl rfl ?_
        refine Run.astore K at_124 (pc' := 126) rfl rfl (L' := #[.val (.int p1), .val (.int p2), .val (.int p3), .val (.int p4), .val (.int p5), .val (.int (1 : Int32)), .val (.int (((p1.toUInt32 >>> ((1 : Int32) &&& 31).toUInt32).toInt32) % (3 : Int32))), .val (.int (62 : Int32)), .val (.ref r156), .val (.int (p5 &&& (127 : Int32))), .val (.int (1 : Int32)), .val (.ref n157), .val (.ref c160), .unset, .unset, .unset, .unset]) rfl ?_
        refine Run.aload K at_126 (pc' := 128) rfl rfl rfl ?_
        refine Run.iload K at_128 (pc' := 130) rfl rfl ?_
        refine Run.bring 0 1 (D' := ([(n157, "com/example/efcor/efcor/io/RecordWriter", [("com/example/efcor/efcor/io/RecordWriter", "bytes", "[B", (.ref c158)), ("com/example/efcor/efcor/io/RecordWriter", "size", "I", (.int (0 : Int32)))])], [(c158, .byte, (own_arr 64 own_zero)), (c160, .byte, (own_arr 0 own_zero)), (r156, .byte, (own_arr 62 (own_upd (own_upd (own_upd own_zero 0 ((p2.toInt8.toInt32).toInt8.toInt32)) 31 ((p3.toInt8.toInt32).toInt8.toInt32)) 61 ((p4.toInt8.toInt32).toInt8.toInt32))))])) rfl ?_
        refine Run.callV K at_130 (pc' := 133) rfl (a := n157) (z := (⟨"com/example/efcor/efcor/io/RecordWriter", "writeBoolean", "(Z)Lcom/example/efcor/efcor/io/RecordWriter;"⟩ : MethodName)) (Cn := "com/example/efcor/efcor/io/RecordWriter") (i := 0) (hw _ (List.mem_of_getElem? (i := 31) rfl)) (hw _ (List.mem_of_getElem? (i := 32) rfl)) (hw _ (List.mem_of_getElem? (i := 34) rfl)) (hw _ (List.mem_of_getElem? (i := 33) rfl)) (hw _ (List.mem_of_getElem? (i := 3) rfl)) (hw _ (List.mem_of_getElem? (i := 35) rfl)) (by decide) rfl (wbool l Z a0 n0 hw [] (n157) ((1 : Int32)) (c158) (64) (own_zero) (0) ([]) ([(c160, .byte, (own_arr 0 own_zero)), (r156, .byte, (own_arr 62 (own_upd (own_upd (own_upd own_zero 0 ((p2.toInt8.toInt32).toInt8.toInt32)) 31 ((p3.toInt8.toInt32).toInt8.toInt32)) 61 ((p4.toInt8.toInt32).toInt8.toInt32))))]) (by decide) (by decide)) (argsL := [(.int (1 : Int32))]) (rest := []) rfl rfl pd_8 rfl (W := 0) rfl (by decide) (by decide) (cells' := 4) (slots' := 256) rfl rfl (by decide) (by decide) ?_
        intro vq Dq hq
        obtain ⟨c162, hc163, rfl, rfl⟩ := hq
        refine Run.as2 (D' := ([(n157, "com/example/efcor/efcor/io/RecordWriter", [("com/example/efcor/efcor/io/RecordWriter", "bytes", "[B", (.ref c158)), ("com/example/efcor/efcor/io/RecordWriter", "size", "I", (.int (1 : Int32)))])], [(c158, .byte, (own_arr 64 (own_upd own_zero 0 ((c162.toInt8.toInt32).toInt8.toInt32)))), (c160, .byte, (own_arr 0 own_zero)), (r156, .byte, (own_arr 62 (own_upd (own_upd (own_upd own_zero 0 ((p2.toInt8.toInt32).toInt8.toInt32)) 31 ((p3.toInt8.toInt32).toInt8.toInt32)) 61 ((p4.toInt8.toInt32).toInt8.toInt32))))])) (S' := [(.ref n157)]) rfl rfl ?_
        obtain rfl : c162 = (1 : Int32) := by rcases hc163 with ⟨q0, q⟩ | ⟨q0, q⟩ <;> first | exact q | exact absurd q0 (by decide)
        refine Run.pop K at_133 (pc' := 134) rfl rfl ?_
        refine Run.aload K at_134 (pc' := 136) rfl rfl rfl ?_
        refine Run.callV K at_136 (pc' := 139) rfl (a := n157) (z := (⟨"com/example/efcor/efcor/io/RecordWriter", "toBytes", "()[B"⟩ : MethodName)) (Cn := "com/example/efcor/efcor/io/RecordWriter") (i := 0) (hw _ (List.mem_of_getElem? (i := 12) rfl)) (hw _ (List.mem_of_getElem? (i := 13) rfl)) (hw _ (List.mem_of_getElem? (i := 15) rfl)) (hw _ (List.mem_of_getElem? (i := 14) rfl)) (hw _ (List.mem_of_getElem? (i := 3) rfl)) (hw _ (List.mem_of_getElem? (i := 16) rfl)) (by decide) rfl (tb_shr l Z a0 n0 hw [] (n157) (c158) (64) ((own_upd own_zero 0 (((1 : Int32).toInt8.toInt32).toInt8.toInt32))) (1) ([]) ([(c160, .byte, (own_arr 0 own_zero)), (r156, .byte, (own_arr 62 (own_upd (own_upd (own_upd own_zero 0 ((p2.toInt8.toInt32).toInt8.toInt32)) 31 ((p3.toInt8.toInt32).toInt8.toInt32)) 61 ((p4.toInt8.toInt32).toInt8.toInt32))))]) (by decide) (by decide)) (argsL := []) (rest := []) rfl rfl pd_7 rfl (W := 0) rfl (by decide) (by decide) (cells' := 5) (slots' := 384) rfl rfl (by decide) (by decide) ?_
        intro vq Dq hq
        obtain ⟨c164, rfl, rfl⟩ := hq
        refine Run.as2 (D' := ([(n157, "com/example/efcor/efcor/io/RecordWriter", [("com/example/efcor/efcor/io/RecordWriter", "bytes", "[B", (.ref c158)), ("com/example/efcor/efcor/io/RecordWriter", "size", "I", (.int (1 : Int32)))])], [(c164, .byte, (own_arr 1 (own_upd own_zero 0 (((1 : Int32).toInt8.toInt32).toInt8.toInt32)))), (c158, .byte, (own_arr 64 (own_upd own_zero 0 (((1 : Int32).toInt8.toInt32).toInt8.toInt32)))), (c160, .byte, (own_arr 0 own_zero)), (r156, .byte, (own_arr 62 (own_upd (own_upd (own_upd own_zero 0 ((p2.toInt8.toInt32).toInt8.toInt32)) 31 ((p3.toInt8.toInt32).toInt8.toInt32)) 61 ((p4.toInt8.toInt32).toInt8.toInt32))))])) (S' := [(.ref c164)]) rfl rfl ?_
        refine Run.astore K at_139 (pc' := 141) rfl rfl (L' := #[.val (.int p1), .val (.int p2), .val (.int p3), .val (.int p4), .val (.int p5), .val (.int (1 : Int32)), .val (.int (((p1.toUInt32 >>> ((1 : Int32) &&& 31).toUInt32).toInt32) % (3 : Int32))), .val (.int (62 : Int32)), .val (.ref r156), .val (.int (p5 &&& (127 : Int32))), .val (.int (1 : Int32)), .val (.ref n157), .val (.ref c160), .val (.ref c164), .unset, .unset, .unset]) rfl ?_
        refine Run.aload K at_141 (pc' := 143) rfl rfl rfl ?_
        refine Run.alen K at_143 (pc' := 144) rfl (i := 2) rfl (w := (0 : Int32)) (own_arr_len rfl) ?_
        refine Run.ifcF K at_144 (pT := 167) (pF := 147) (by decide) (by decide) rfl (show ¬ ((0 : Int32) ≠ (0 : Int32)) from by decide) ?_
        refine Run.aload K at_147 (pc' := 149) rfl rfl rfl ?_
        refine Run.alen K at_149 (pc' := 150) rfl (i := 0) rfl (w := (1 : Int32)) (own_arr_len rfl) ?_
        refine Run.iconst K at_150 (pc' := 151) rfl (v := (1 : Int32)) rfl ?_
        refine Run.icmpF K at_151 (pT := 167) (pF := 154) (by decide) (by decide) rfl (show ¬ ((1 : Int32) ≠ (1 : Int32)) from by decide) ?_
        refine Run.aload K at_154 (pc' := 156) rfl rfl rfl ?_
        refine Run.iconst K at_156 (pc' := 157) rfl (v := (0 : Int32)) rfl ?_
        refine Run.baload K at_157 (pc' := 158) rfl (i := 0) (q := 0) rfl (by decide) (by decide) (v := (.int (((1 : Int32).toInt8.toInt32).toInt8.toInt32))) (own_arr_get (by decide) (v := (((1 : Int32).toInt8.toInt32).toInt8.toInt32)) rfl) ?_
        refine Run.iload K at_158 (pc' := 160) rfl rfl ?_
        refine Run.icmpF K at_160 (pT := 167) (pF := 163) (by decide) (by decide) rfl (show ¬ ((((1 : Int32).toInt8.toInt32).toInt8.toInt32) ≠ (1 : Int32)) from fun h => h (by first | decide | exact own_idem _ | exact own_lastv _)) ?_
        refine Run.iconst K at_163 (pc' := 164) rfl (v := (1 : Int32)) rfl ?_
        refine Run.goto K at_164 (pc' := 168) (by decide) (by decide) ?_
        refine Run.istore K at_168 (pc' := 170) rfl (L' := #[.val (.int p1), .val (.int p2), .val (.int p3), .val (.int p4), .val (.int p5), .val (.int (1 : Int32)), .val (.int (((p1.toUInt32 >>> ((1 : Int32) &&& 31).toUInt32).toInt32) % (3 : Int32))), .val (.int (62 : Int32)), .val (.ref r156), .val (.int (p5 &&& (127 : Int32))), .val (.int (1 : Int32)), .val (.ref n157), .val (.ref c160), .val (.ref c164), .val (.int (1 : Int32)), .unset, .unset]) rfl ?_
        refine Run.iload K at_170 (pc' := 172) rfl rfl ?_
        refine Run.ifcF K at_172 (pT := 187) (pF := 175) (by decide) (by decide) rfl (show ¬ ((1 : Int32) = (0 : Int32)) from by decide) ?_
        refine Run.aload K at_175 (pc' := 177) rfl rfl rfl ?_
        refine Run.iconst K at_177 (pc' := 178) rfl (v := (0 : Int32)) rfl ?_
        refine Run.aload K at_178 (pc' := 180) rfl rfl rfl ?_
        refine Run.iconst K at_180 (pc' := 181) rfl (v := (0 : Int32)) rfl ?_
        refine Run.baload K at_181 (pc' := 182) rfl (i := 0) (q := 0) rfl (by decide) (by decide) (v := (.int (((1 : Int32).toInt8.toInt32).toInt8.toInt32))) (own_arr_get (by decide) (v := (((1 : Int32).toInt8.toInt32).toInt8.toInt32)) rfl) ?_
        refine Run.bipush K at_182 (pc' := 184) rfl (v := (85 : Int32)) rfl ?_
        refine Run.ixor K at_184 (pc' := 185) rfl ?_
        refine Run.i2b K at_185 (pc' := 186) rfl ?_
        refine Run.bastore K at_186 (pc' := 187) rfl (i := 0) (q := 0) rfl (by decide) (by decide) (v := (.int (((1 : Int32).toInt8.toInt32).toInt8.toInt32))) (own_arr_get (by decide) (v := (((1 : Int32).toInt8.toInt32).toInt8.toInt32)) rfl) (D' := ([(n157, "com/example/efcor/efcor/io/RecordWriter", [("com/example/efcor/efcor/io/RecordWriter", "bytes", "[B", (.ref c158)), ("com/example/efcor/efcor/io/RecordWriter", "size", "I", (.int (1 : Int32)))])], [(c164, .byte, ((own_arr 1 (own_upd own_zero 0 (((1 : Int32).toInt8.toInt32).toInt8.toInt32))).set 0 (.int (((((1 : Int32).toInt8.toInt32).toInt8.toInt32) ^^^ (85 : Int32)).toInt8.toInt32).toInt8.toInt32))), (c158, .byte, (own_arr 64 (own_upd own_zero 0 (((1 : Int32).toInt8.toInt32).toInt8.toInt32)))), (c160, .byte, (own_arr 0 own_zero)), (r156, .byte, (own_arr 62 (own_upd (own_upd (own_upd own_zero 0 ((p2.toInt8.toInt32).toInt8.toInt32)) 31 ((p3.toInt8.toInt32).toInt8.toInt32)) 61 ((p4.toInt8.toInt32).toInt8.toInt32))))])) rfl ?_
        refine Run.as (D' := ([(n157, "com/example/efcor/efcor/io/RecordWriter", [("com/example/efcor/efcor/io/RecordWriter", "bytes", "[B", (.ref c158)), ("com/example/efcor/efcor/io/RecordWriter", "size", "I", (.int (1 : Int32)))])], [(c164, .byte, (own_arr 1 (own_upd (own_upd own_zero 0 (((1 : Int32).toInt8.toInt32).toInt8.toInt32)) 0 ((((((1 : Int32).toInt8.toInt32).toInt8.toInt32) ^^^ (85 : Int32)).toInt8.toInt32).toInt8.toInt32)))), (c158, .byte, (own_arr 64 (own_upd own_zero 0 (((1 : Int32).toInt8.toInt32).toInt8.toInt32)))), (c160, .byte, (own_arr 0 own_zero)), (r156, .byte, (own_arr 62 (own_upd (own_upd (own_upd own_zero 0 ((p2.toInt8.toInt32).toInt8.toInt32)) 31 ((p3.toInt8.toInt32).toInt8.toInt32)) 61 ((p4.toInt8.toInt32).toInt8.toInt32))))])) (by rw [own_arr_set]) ?_
        refine Run.aload K at_187 (pc' := 189) rfl rfl rfl ?_
        refine Run.aload K at_189 (pc' := 191) rfl rfl rfl ?_
        refine Run.bring 0 3 (D' := ([(n157, "com/example/efcor/efcor/io/RecordWriter", [("com/example/efcor/efcor/io/RecordWriter", "bytes", "[B", (.ref c158)), ("com/example/efcor/efcor/io/RecordWriter", "size", "I", (.int (1 : Int32)))])], [(r156, .byte, (own_arr 62 (own_upd (own_upd (own_upd own_zero 0 ((p2.toInt8.toInt32).toInt8.toInt32)) 31 ((p3.toInt8.toInt32).toInt8.toInt32)) 61 ((p4.toInt8.toInt32).toInt8.toInt32)))), (c164, .byte, (own_arr 1 (own_upd (own_upd own_zero 0 (((1 : Int32).toInt8.toInt32).toInt8.toInt32)) 0 ((((((1 : Int32).toInt8.toInt32).toInt8.toInt32) ^^^ (85 : Int32)).toInt8.toInt32).toInt8.toInt32)))), (c158, .byte, (own_arr 64 (own_upd own_zero 0 (((1 : Int32).toInt8.toInt32).toInt8.toInt32)))), (c160, .byte, (own_arr 0 own_zero))])) rfl ?_
        refine Run.bring 0 2 (D' := ([(n157, "com/example/efcor/efcor/io/RecordWriter", [("com/example/efcor/efcor/io/RecordWriter", "bytes", "[B", (.ref c158)), ("com/example/efcor/efcor/io/RecordWriter", "size", "I", (.int (1 : Int32)))])], [(c158, .byte, (own_arr 64 (own_upd own_zero 0 (((1 : Int32).toInt8.toInt32).toInt8.toInt32)))), (r156, .byte, (own_arr 62 (own_upd (own_upd (own_upd own_zero 0 ((p2.toInt8.toInt32).toInt8.toInt32)) 31 ((p3.toInt8.toInt32).toInt8.toInt32)) 61 ((p4.toInt8.toInt32).toInt8.toInt32)))), (c164, .byte, (own_arr 1 (own_upd (own_upd own_zero 0 (((1 : Int32).toInt8.toInt32).toInt8.toInt32)) 0 ((((((1 : Int32).toInt8.toInt32).toInt8.toInt32) ^^^ (85 : Int32)).toInt8.toInt32).toInt8.toInt32)))), (c160, .byte, (own_arr 0 own_zero))])) rfl ?_
        refine Run.callV K at_191 (pc' := 194) rfl (a := n157) (z := (⟨"com/example/efcor/efcor/io/RecordWriter", "writeBytes", "([B)Lcom/example/efcor/efcor/io/RecordWriter;"⟩ : MethodName)) (Cn := "com/example/efcor/efcor/io/RecordWriter") (i := 0) (hw _ (List.mem_of_getElem? (i := 44) rfl)) (hw _ (List.mem_of_getElem? (i := 45) rfl)) (hw _ (List.mem_of_getElem? (i := 47) rfl)) (hw _ (List.mem_of_getElem? (i := 46) rfl)) (hw _ (List.mem_of_getElem? (i := 3) rfl)) (hw _ (List.mem_of_getElem? (i := 48) rfl)) (by decide) rfl (wb_62 l Z a0 n0 hw [] (n157) (r156) (c158) ((own_upd own_zero 0 (((1 : Int32).toInt8.toInt32).toInt8.toInt32))) ((own_upd (own_upd (own_upd own_zero 0 ((p2.toInt8.toInt32).toInt8.toInt32)) 31 ((p3.toInt8.toInt32).toInt8.toInt32)) 61 ((p4.toInt8.toInt32).toInt8.toInt32))) ([]) ([(c164, .byte, (own_arr 1 (own_upd (own_upd own_zero 0 (((1 : Int32).toInt8.toInt32).toInt8.toInt32)) 0 ((((((1 : Int32).toInt8.toInt32).toInt8.toInt32) ^^^ (85 : Int32)).toInt8.toInt32).toInt8.toInt32)))), (c160, .byte, (own_arr 0 own_zero))]) ) (argsL := [(.ref r156)]) (rest := []) rfl rfl pd_9 rfl (W := 0) rfl (by decide) (by decide) (cells' := 5) (slots' := 384) rfl rfl (by decide) (by decide) (Ret.k (S' := [(.ref n157)]) rfl ?_)
        refine Run.as (D' := ([(n157, "com/example/efcor/efcor/io/RecordWriter", [("com/example/efcor/efcor/io/RecordWriter", "bytes", "[B", (.ref c158)), ("com/example/efcor/efcor/io/RecordWriter", "size", "I", (.int (64 : Int32)))])], [(c158, .byte, (own_arr 64 (own_put (own_upd (own_upd own_zero 0 (((1 : Int32).toInt8.toInt32).toInt8.toInt32)) 1 ((((((62 : Int32).toInt64) &&& (4294967295 : Int64)).toInt32).toInt8.toInt32).toInt8.toInt32)) 2 62 (own_upd (own_upd (own_upd own_zero 0 ((p2.toInt8.toInt32).toInt8.toInt32)) 31 ((p3.toInt8.toInt32).toInt8.toInt32)) 61 ((p4.toInt8.toInt32).toInt8.toInt32))))), (r156, .byte, (own_arr 62 (own_upd (own_upd (own_upd own_zero 0 ((p2.toInt8.toInt32).toInt8.toInt32)) 31 ((p3.toInt8.toInt32).toInt8.toInt32)) 61 ((p4.toInt8.toInt32).toInt8.toInt32)))), (c164, .byte, (own_arr 1 (own_upd (own_upd own_zero 0 (((1 : Int32).toInt8.toInt32).toInt8.toInt32)) 0 ((((((1 : Int32).toInt8.toInt32).toInt8.toInt32) ^^^ (85 : Int32)).toInt8.toInt32).toInt8.toInt32)))), (c160, .byte, (own_arr 0 own_zero))])) rfl ?_
        refine Run.pop K at_194 (pc' := 195) rfl rfl ?_
        refine Run.aload K at_195 (pc' := 197) rfl rfl rfl ?_
        refine Run.iload K at_197 (pc' := 199) rfl rfl ?_
        refine Run.callV K at_199 (pc' := 202) rfl (a := n157) (z := (⟨"com/example/efcor/efcor/io/RecordWriter", "writeInt", "(I)Lcom/example/efcor/efcor/io/RecordWriter;"⟩ : MethodName)) (Cn := "com/example/efcor/efcor/io/RecordWriter") (i := 0) (hw _ (List.mem_of_getElem? (i := 62) rfl)) (hw _ (List.mem_of_getElem? (i := 50) rfl)) (hw _ (List.mem_of_getElem? (i := 52) rfl)) (hw _ (List.mem_of_getElem? (i := 51) rfl)) (hw _ (List.mem_of_getElem? (i := 3) rfl)) (hw _ (List.mem_of_getElem? (i := 53) rfl)) (by decide) rfl (wi_grow l Z a0 n0 hw [] (n157) ((p5 &&& (127 : Int32))) (c158) ((own_put (own_upd (own_upd own_zero 0 (((1 : Int32).toInt8.toInt32).toInt8.toInt32)) 1 ((((((62 : Int32).toInt64) &&& (4294967295 : Int64)).toInt32).toInt8.toInt32).toInt8.toInt32)) 2 62 (own_upd (own_upd (own_upd own_zero 0 ((p2.toInt8.toInt32).toInt8.toInt32)) 31 ((p3.toInt8.toInt32).toInt8.toInt32)) 61 ((p4.toInt8.toInt32).toInt8.toInt32)))) ([]) ([(r156, .byte, (own_arr 62 (own_upd (own_upd (own_upd own_zero 0 ((p2.toInt8.toInt32).toInt8.toInt32)) 31 ((p3.toInt8.toInt32).toInt8.toInt32)) 61 ((p4.toInt8.toInt32).toInt8.toInt32)))), (c164, .byte, (own_arr 1 (own_upd (own_upd own_zero 0 (((1 : Int32).toInt8.toInt32).toInt8.toInt32)) 0 ((((((1 : Int32).toInt8.toInt32).toInt8.toInt32) ^^^ (85 : Int32)).toInt8.toInt32).toInt8.toInt32)))), (c160, .byte, (own_arr 0 own_zero))]) (own_last p5)) (argsL := [(.int (p5 &&& (127 : Int32)))]) (rest := []) rfl rfl pd_5 rfl (W := 0) rfl (by decide) (by decide) (cells' := 6) (slots' := 512) rfl rfl (by decide) (by decide) ?_
        intro vq Dq hq
        obtain ⟨c166, rfl, rfl⟩ := hq
        refine Run.as2 (D' := ([(n157, "com/example/efcor/efcor/io/RecordWriter", [("com/example/efcor/efcor/io/RecordWriter", "bytes", "[B", (.ref c166)), ("com/example/efcor/efcor/io/RecordWriter", "size", "I", (.int (65 : Int32)))])], [(c166, .byte, (own_arr 128 (own_upd (own_cut (own_put (own_upd (own_upd own_zero 0 (((1 : Int32).toInt8.toInt32).toInt8.toInt32)) 1 ((((((62 : Int32).toInt64) &&& (4294967295 : Int64)).toInt32).toInt8.toInt32).toInt8.toInt32)) 2 62 (own_upd (own_upd (own_upd own_zero 0 ((p2.toInt8.toInt32).toInt8.toInt32)) 31 ((p3.toInt8.toInt32).toInt8.toInt32)) 61 ((p4.toInt8.toInt32).toInt8.toInt32))) 64) 64 ((((((p5 &&& (127 : Int32)).toInt64) &&& (4294967295 : Int64)).toInt32).toInt8.toInt32).toInt8.toInt32)))), (c158, .byte, (own_arr 64 (own_put (own_upd (own_upd own_zero 0 (((1 : Int32).toInt8.toInt32).toInt8.toInt32)) 1 ((((((62 : Int32).toInt64) &&& (4294967295 : Int64)).toInt32).toInt8.toInt32).toInt8.toInt32)) 2 62 (own_upd (own_upd (own_upd own_zero 0 ((p2.toInt8.toInt32).toInt8.toInt32)) 31 ((p3.toInt8.toInt32).toInt8.toInt32)) 61 ((p4.toInt8.toInt32).toInt8.toInt32))))), (r156, .byte, (own_arr 62 (own_upd (own_upd (own_upd own_zero 0 ((p2.toInt8.toInt32).toInt8.toInt32)) 31 ((p3.toInt8.toInt32).toInt8.toInt32)) 61 ((p4.toInt8.toInt32).toInt8.toInt32)))), (c164, .byte, (own_arr 1 (own_upd (own_upd own_zero 0 (((1 : Int32).toInt8.toInt32).toInt8.toInt32)) 0 ((((((1 : Int32).toInt8.toInt32).toInt8.toInt32) ^^^ (85 : Int32)).toInt8.toInt32).toInt8.toInt32)))), (c160, .byte, (own_arr 0 own_zero))])) (S' := [(.ref n157)]) rfl rfl ?_
        refine Run.pop K at_202 (pc' := 203) rfl rfl ?_
        refine Run.aload K at_203 (pc' := 205) rfl rfl rfl ?_
        refine Run.callV K at_205 (pc' := 208) rfl (a := n157) (z := (⟨"com/example/efcor/efcor/io/RecordWriter", "toBytes", "()[B"⟩ : MethodName)) (Cn := "com/example/efcor/efcor/io/RecordWriter") (i := 0) (hw _ (List.mem_of_getElem? (i := 12) rfl)) (hw _ (List.mem_of_getElem? (i := 13) rfl)) (hw _ (List.mem_of_getElem? (i := 15) rfl)) (hw _ (List.mem_of_getElem? (i := 14) rfl)) (hw _ (List.mem_of_getElem? (i := 3) rfl)) (hw _ (List.mem_of_getElem? (i := 16) rfl)) (by decide) rfl (tb_shr l Z a0 n0 hw [] (n157) (c166) (128) ((own_upd (own_cut (own_put (own_upd (own_upd own_zero 0 (((1 : Int32).toInt8.toInt32).toInt8.toInt32)) 1 ((((((62 : Int32).toInt64) &&& (4294967295 : Int64)).toInt32).toInt8.toInt32).toInt8.toInt32)) 2 62 (own_upd (own_upd (own_upd own_zero 0 ((p2.toInt8.toInt32).toInt8.toInt32)) 31 ((p3.toInt8.toInt32).toInt8.toInt32)) 61 ((p4.toInt8.toInt32).toInt8.toInt32))) 64) 64 ((((((p5 &&& (127 : Int32)).toInt64) &&& (4294967295 : Int64)).toInt32).toInt8.toInt32).toInt8.toInt32))) (65) ([]) ([(c158, .byte, (own_arr 64 (own_put (own_upd (own_upd own_zero 0 (((1 : Int32).toInt8.toInt32).toInt8.toInt32)) 1 ((((((62 : Int32).toInt64) &&& (4294967295 : Int64)).toInt32).toInt8.toInt32).toInt8.toInt32)) 2 62 (own_upd (own_upd (own_upd own_zero 0 ((p2.toInt8.toInt32).toInt8.toInt32)) 31 ((p3.toInt8.toInt32).toInt8.toInt32)) 61 ((p4.toInt8.toInt32).toInt8.toInt32))))), (r156, .byte, (own_arr 62 (own_upd (own_upd (own_upd own_zero 0 ((p2.toInt8.toInt32).toInt8.toInt32)) 31 ((p3.toInt8.toInt32).toInt8.toInt32)) 61 ((p4.toInt8.toInt32).toInt8.toInt32)))), (c164, .byte, (own_arr 1 (own_upd (own_upd own_zero 0 (((1 : Int32).toInt8.toInt32).toInt8.toInt32)) 0 ((((((1 : Int32).toInt8.toInt32).toInt8.toInt32) ^^^ (85 : Int32)).toInt8.toInt32).toInt8.toInt32)))), (c160, .byte, (own_arr 0 own_zero))]) (by decide) (by decide)) (argsL := []) (rest := []) rfl rfl pd_7 rfl (W := 0) rfl (by decide) (by decide) (cells' := 7) (slots' := 640) rfl rfl (by decide) (by decide) ?_
        intro vq Dq hq
        obtain ⟨c168, rfl, rfl⟩ := hq
        refine Run.as2 (D' := ([(n157, "com/example/efcor/efcor/io/RecordWriter", [("com/example/efcor/efcor/io/RecordWriter", "bytes", "[B", (.ref c166)), ("com/example/efcor/efcor/io/RecordWriter", "size", "I", (.int (65 : Int32)))])], [(c168, .byte, (own_arr 65 (own_upd (own_cut (own_put (own_upd (own_upd own_zero 0 (((1 : Int32).toInt8.toInt32).toInt8.toInt32)) 1 ((((((62 : Int32).toInt64) &&& (4294967295 : Int64)).toInt32).toInt8.toInt32).toInt8.toInt32)) 2 62 (own_upd (own_upd (own_upd own_zero 0 ((p2.toInt8.toInt32).toInt8.toInt32)) 31 ((p3.toInt8.toInt32).toInt8.toInt32)) 61 ((p4.toInt8.toInt32).toInt8.toInt32))) 64) 64 ((((((p5 &&& (127 : Int32)).toInt64) &&& (4294967295 : Int64)).toInt32).toInt8.toInt32).toInt8.toInt32)))), (c166, .byte, (own_arr 128 (own_upd (own_cut (own_put (own_upd (own_upd own_zero 0 (((1 : Int32).toInt8.toInt32).toInt8.toInt32)) 1 ((((((62 : Int32).toInt64) &&& (4294967295 : Int64)).toInt32).toInt8.toInt32).toInt8.toInt32)) 2 62 (own_upd (own_upd (own_upd own_zero 0 ((p2.toInt8.toInt32).toInt8.toInt32)) 31 ((p3.toInt8.toInt32).toInt8.toInt32)) 61 ((p4.toInt8.toInt32).toInt8.toInt32))) 64) 64 ((((((p5 &&& (127 : Int32)).toInt64) &&& (4294967295 : Int64)).toInt32).toInt8.toInt32).toInt8.toInt32)))), (c158, .byte, (own_arr 64 (own_put (own_upd (own_upd own_zero 0 (((1 : Int32).toInt8.toInt32).toInt8.toInt32)) 1 ((((((62 : Int32).toInt64) &&& (4294967295 : Int64)).toInt32).toInt8.toInt32).toInt8.toInt32)) 2 62 (own_upd (own_upd (own_upd own_zero 0 ((p2.toInt8.toInt32).toInt8.toInt32)) 31 ((p3.toInt8.toInt32).toInt8.toInt32)) 61 ((p4.toInt8.toInt32).toInt8.toInt32))))), (r156, .byte, (own_arr 62 (own_upd (own_upd (own_upd own_zero 0 ((p2.toInt8.toInt32).toInt8.toInt32)) 31 ((p3.toInt8.toInt32).toInt8.toInt32)) 61 ((p4.toInt8.toInt32).toInt8.toInt32)))), (c164, .byte, (own_arr 1 (own_upd (own_upd own_zero 0 (((1 : Int32).toInt8.toInt32).toInt8.toInt32)) 0 ((((((1 : Int32).toInt8.toInt32).toInt8.toInt32) ^^^ (85 : Int32)).toInt8.toInt32).toInt8.toInt32)))), (c160, .byte, (own_arr 0 own_zero))])) (S' := [(.ref c168)]) rfl rfl ?_
        refine Run.astore K at_208 (pc' := 210) rfl rfl (L' := #[.val (.int p1), .val (.int p2), .val (.int p3), .val (.int p4), .val (.int p5), .val (.int (1 : Int32)), .val (.int (((p1.toUInt32 >>> ((1 : Int32) &&& 31).toUInt32).toInt32) % (3 : Int32))), .val (.int (62 : Int32)), .val (.ref r156), .val (.int (p5 &&& (127 : Int32))), .val (.int (1 : Int32)), .val (.ref n157), .val (.ref c160), .val (.ref c164), .val (.int (1 : Int32)), .val (.ref c168), .unset]) rfl ?_
        refine Run.iload K at_210 (pc' := 212) rfl rfl ?_
        refine Run.ifcF K at_212 (pT := 303) (pF := 215) (by decide) (by decide) rfl (show ¬ ((1 : Int32) = (0 : Int32)) from by decide) ?_
        refine Run.aload K at_215 (pc' := 217) rfl rfl rfl ?_
        refine Run.alen K at_217 (pc' := 218) rfl (i := 0) rfl (w := (65 : Int32)) (own_arr_len rfl) ?_
        refine Run.iload K at_218 (pc' := 220) rfl rfl ?_
        refine Run.iconst K at_220 (pc' := 221) rfl (v := (3 : Int32)) rfl ?_
        refine Run.iaddV K at_221 (pc' := 222) rfl (v := (65 : Int32)) (by decide) ?_
        refine Run.icmpF K at_222 (pT := 303) (pF := 225) (by decide) (by decide) rfl (show ¬ ((65 : Int32) ≠ (65 : Int32)) from by decide) ?_
        refine Run.aload K at_225 (pc' := 227) rfl rfl rfl ?_
        refine Run.iconst K at_227 (pc' := 228) rfl (v := (0 : Int32)) rfl ?_
        refine Run.baload K at_228 (pc' := 229) rfl (i := 0) (q := 0) rfl (by decide) (by decide) (v := (.int (((1 : Int32).toInt8.toInt32).toInt8.toInt32))) (own_arr_get (by decide) (v := (((1 : Int32).toInt8.toInt32).toInt8.toInt32)) rfl) ?_
        refine Run.iload K at_229 (pc' := 231) rfl rfl ?_
        refine Run.icmpF K at_231 (pT := 303) (pF := 234) (by decide) (by decide) rfl (show ¬ ((((1 : Int32).toInt8.toInt32).toInt8.toInt32) ≠ (1 : Int32)) from fun h => h (by first | decide | exact own_idem _ | exact own_lastv _)) ?_
        refine Run.aload K at_234 (pc' := 236) rfl rfl rfl ?_
        refine Run.iconst K at_236 (pc' := 237) rfl (v := (1 : Int32)) rfl ?_
        refine Run.baload K at_237 (pc' := 238) rfl (i := 0) (q := 1) rfl (by decide) (by decide) (v := (.int ((((((62 : Int32).toInt64) &&& (4294967295 : Int64)).toInt32).toInt8.toInt32).toInt8.toInt32))) (own_arr_get (by decide) (v := ((((((62 : Int32).toInt64) &&& (4294967295 : Int64)).toInt32).toInt8.toInt32).toInt8.toInt32)) rfl) ?_
        refine Run.iload K at_238 (pc' := 240) rfl rfl ?_
        refine Run.i2bV K at_240 (pc' := 241) rfl (v := (62 : Int32)) (by decide) ?_
        refine Run.icmpF K at_241 (pT := 303) (pF := 244) (by decide) (by decide) rfl (show ¬ (((((((62 : Int32).toInt64) &&& (4294967295 : Int64)).toInt32).toInt8.toInt32).toInt8.toInt32) ≠ (62 : Int32)) from fun h => h (by first | decide | exact own_idem _ | exact own_lastv _)) ?_
        refine Run.aload K at_244 (pc' := 246) rfl rfl rfl ?_
        refine Run.iconst K at_246 (pc' := 247) rfl (v := (2 : Int32)) rfl ?_
        refine Run.baload K at_247 (pc' := 248) rfl (i := 0) (q := 2) rfl (by decide) (by decide) (v := (.int ((p2.toInt8.toInt32).toInt8.toInt32))) (own_arr_get (by decide) (v := ((p2.toInt8.toInt32).toInt8.toInt32)) rfl) ?_
        refine Run.iloadN K at_248 (pc' := 249) rfl rfl ?_
        refine Run.i2b K at_249 (pc' := 250) rfl ?_
        refine Run.icmpF K at_250 (pT := 303) (pF := 253) (by decide) (by decide) rfl (show ¬ (((p2.toInt8.toInt32).toInt8.toInt32) ≠ (p2.toInt8.toInt32)) from fun h => h (by first | decide | exact own_idem _ | exact own_lastv _)) ?_
        refine Run.aload K at_253 (pc' := 255) rfl rfl rfl ?_
        refine Run.iconst K at_255 (pc' := 256) rfl (v := (3 : Int32)) rfl ?_
        refine Run.baload K at_256 (pc' := 257) rfl (i := 0) (q := 3) rfl (by decide) (by decide) (v := (.int (0 : Int32))) (own_arr_get (by decide) (v := (0 : Int32)) rfl) ?_
        refine Run.ifcF K at_257 (pT := 303) (pF := 260) (by decide) (by decide) rfl (show ¬ ((0 : Int32) ≠ (0 : Int32)) from by decide) ?_
        refine Run.aload K at_260 (pc' := 262) rfl rfl rfl ?_
        refine Run.iconst K at_262 (pc' := 263) rfl (v := (2 : Int32)) rfl ?_
        refine Run.iload K at_263 (pc' := 265) rfl rfl ?_
        refine Run.iconst K at_265 (pc' := 266) rfl (v := (2 : Int32)) rfl ?_
        refine Run.idivV K at_266 (pc' := 267) rfl (by decide) (v := (31 : Int32)) (by decide) ?_
        refine Run.iaddV K at_267 (pc' := 268) rfl (v := (33 : Int32)) (by decide) ?_
        refine Run.baload K at_268 (pc' := 269) rfl (i := 0) (q := 33) rfl (by decide) (by decide) (v := (.int ((p3.toInt8.toInt32).toInt8.toInt32))) (own_arr_get (by decide) (v := ((p3.toInt8.toInt32).toInt8.toInt32)) rfl) ?_
        refine Run.iloadN K at_269 (pc' := 270) rfl rfl ?_
        refine Run.i2b K at_270 (pc' := 271) rfl ?_
        refine Run.icmpF K at_271 (pT := 303) (pF := 274) (by decide) (by decide) rfl (show ¬ (((p3.toInt8.toInt32).toInt8.toInt32) ≠ (p3.toInt8.toInt32)) from fun h => h (by first | decide | exact own_idem _ | exact own_lastv _)) ?_
        refine Run.aload K at_274 (pc' := 276) rfl rfl rfl ?_
        refine Run.iconst K at_276 (pc' := 277) rfl (v := (1 : Int32)) rfl ?_
        refine Run.iload K at_277 (pc' := 279) rfl rfl ?_
        refine Run.iaddV K at_279 (pc' := 280) rfl (v := (63 : Int32)) (by decide) ?_
        refine Run.baload K at_280 (pc' := 281) rfl (i := 0) (q := 63) rfl (by decide) (by decide) (v := (.int ((p4.toInt8.toInt32).toInt8.toInt32))) (own_arr_get (by decide) (v := ((p4.toInt8.toInt32).toInt8.toInt32)) rfl) ?_
        refine Run.iloadN K at_281 (pc' := 282) rfl rfl ?_
        refine Run.i2b K at_282 (pc' := 283) rfl ?_
        refine Run.icmpF K at_283 (pT := 303) (pF := 286) (by decide) (by decide) rfl (show ¬ (((p4.toInt8.toInt32).toInt8.toInt32) ≠ (p4.toInt8.toInt32)) from fun h => h (by first | decide | exact own_idem _ | exact own_lastv _)) ?_
        refine Run.aload K at_286 (pc' := 288) rfl rfl rfl ?_
        refine Run.iconst K at_288 (pc' := 289) rfl (v := (2 : Int32)) rfl ?_
        refine Run.iload K at_289 (pc' := 291) rfl rfl ?_
        refine Run.iaddV K at_291 (pc' := 292) rfl (v := (64 : Int32)) (by decide) ?_
        refine Run.baload K at_292 (pc' := 293) rfl (i := 0) (q := 64) rfl (by decide) (by decide) (v := (.int ((((((p5 &&& (127 : Int32)).toInt64) &&& (4294967295 : Int64)).toInt32).toInt8.toInt32).toInt8.toInt32))) (own_arr_get (by decide) (v := ((((((p5 &&& (127 : Int32)).toInt64) &&& (4294967295 : Int64)).toInt32).toInt8.toInt32).toInt8.toInt32)) rfl) ?_
        refine Run.iload K at_293 (pc' := 295) rfl rfl ?_
        refine Run.i2b K at_295 (pc' := 296) rfl ?_
        refine Run.icmpF K at_296 (pT := 303) (pF := 299) (by decide) (by decide) rfl (show ¬ (((((((p5 &&& (127 : Int32)).toInt64) &&& (4294967295 : Int64)).toInt32).toInt8.toInt32).toInt8.toInt32) ≠ ((p5 &&& (127 : Int32)).toInt8.toInt32)) from fun h => h (by first | decide | exact own_idem _ | exact own_lastv _)) ?_
        refine Run.iconst K at_299 (pc' := 300) rfl (v := (1 : Int32)) rfl ?_
        refine Run.goto K at_300 (pc' := 304) (by decide) (by decide) ?_
        refine Run.istore K at_304 (pc' := 306) rfl (L' := #[.val (.int p1), .val (.int p2), .val (.int p3), .val (.int p4), .val (.int p5), .val (.int (1 : Int32)), .val (.int (((p1.toUInt32 >>> ((1 : Int32) &&& 31).toUInt32).toInt32) % (3 : Int32))), .val (.int (62 : Int32)), .val (.ref r156), .val (.int (p5 &&& (127 : Int32))), .val (.int (1 : Int32)), .val (.ref n157), .val (.ref c160), .val (.ref c164), .val (.int (1 : Int32)), .val (.ref c168), .unset]) rfl ?_
        refine Run.iload K at_306 (pc' := 308) rfl rfl ?_
        refine Run.ifcF K at_308 (pT := 329) (pF := 311) (by decide) (by decide) rfl (show ¬ ((1 : Int32) = (0 : Int32)) from by decide) ?_
        refine Run.aload K at_311 (pc' := 313) rfl rfl rfl ?_
        refine Run.iconst K at_313 (pc' := 314) rfl (v := (2 : Int32)) rfl ?_
        refine Run.iload K at_314 (pc' := 316) rfl rfl ?_
        refine Run.iaddV K at_316 (pc' := 317) rfl (v := (64 : Int32)) (by decide) ?_
        refine Run.aload K at_317 (pc' := 319) rfl rfl rfl ?_
        refine Run.iconst K at_319 (pc' := 320) rfl (v := (2 : Int32)) rfl ?_
        refine Run.iload K at_320 (pc' := 322) rfl rfl ?_
        refine Run.iaddV K at_322 (pc' := 323) rfl (v := (64 : Int32)) (by decide) ?_
        refine Run.baload K at_323 (pc' := 324) rfl (i := 0) (q := 64) rfl (by decide) (by decide) (v := (.int ((((((p5 &&& (127 : Int32)).toInt64) &&& (4294967295 : Int64)).toInt32).toInt8.toInt32).toInt8.toInt32))) (own_arr_get (by decide) (v := ((((((p5 &&& (127 : Int32)).toInt64) &&& (4294967295 : Int64)).toInt32).toInt8.toInt32).toInt8.toInt32)) rfl) ?_
        refine Run.bipush K at_324 (pc' := 326) rfl (v := (85 : Int32)) rfl ?_
        refine Run.ixor K at_326 (pc' := 327) rfl ?_
        refine Run.i2b K at_327 (pc' := 328) rfl ?_
        refine Run.bastore K at_328 (pc' := 329) rfl (i := 0) (q := 64) rfl (by decide) (by decide) (v := (.int ((((((p5 &&& (127 : Int32)).toInt64) &&& (4294967295 : Int64)).toInt32).toInt8.toInt32).toInt8.toInt32))) (own_arr_get (by decide) (v := ((((((p5 &&& (127 : Int32)).toInt64) &&& (4294967295 : Int64)).toInt32).toInt8.toInt32).toInt8.toInt32)) rfl) (D' := ([(n157, "com/example/efcor/efcor/io/RecordWriter", [("com/example/efcor/efcor/io/RecordWriter", "bytes", "[B", (.ref c166)), ("com/example/efcor/efcor/io/RecordWriter", "size", "I", (.int (65 : Int32)))])], [(c168, .byte, ((own_arr 65 (own_upd (own_cut (own_put (own_upd (own_upd own_zero 0 (((1 : Int32).toInt8.toInt32).toInt8.toInt32)) 1 ((((((62 : Int32).toInt64) &&& (4294967295 : Int64)).toInt32).toInt8.toInt32).toInt8.toInt32)) 2 62 (own_upd (own_upd (own_upd own_zero 0 ((p2.toInt8.toInt32).toInt8.toInt32)) 31 ((p3.toInt8.toInt32).toInt8.toInt32)) 61 ((p4.toInt8.toInt32).toInt8.toInt32))) 64) 64 ((((((p5 &&& (127 : Int32)).toInt64) &&& (4294967295 : Int64)).toInt32).toInt8.toInt32).toInt8.toInt32))).set 64 (.int ((((((((p5 &&& (127 : Int32)).toInt64) &&& (4294967295 : Int64)).toInt32).toInt8.toInt32).toInt8.toInt32) ^^^ (85 : Int32)).toInt8.toInt32).toInt8.toInt32))), (c166, .byte, (own_arr 128 (own_upd (own_cut (own_put (own_upd (own_upd own_zero 0 (((1 : Int32).toInt8.toInt32).toInt8.toInt32)) 1 ((((((62 : Int32).toInt64) &&& (4294967295 : Int64)).toInt32).toInt8.toInt32).toInt8.toInt32)) 2 62 (own_upd (own_upd (own_upd own_zero 0 ((p2.toInt8.toInt32).toInt8.toInt32)) 31 ((p3.toInt8.toInt32).toInt8.toInt32)) 61 ((p4.toInt8.toInt32).toInt8.toInt32))) 64) 64 ((((((p5 &&& (127 : Int32)).toInt64) &&& (4294967295 : Int64)).toInt32).toInt8.toInt32).toInt8.toInt32)))), (c158, .byte, (own_arr 64 (own_put (own_upd (own_upd own_zero 0 (((1 : Int32).toInt8.toInt32).toInt8.toInt32)) 1 ((((((62 : Int32).toInt64) &&& (4294967295 : Int64)).toInt32).toInt8.toInt32).toInt8.toInt32)) 2 62 (own_upd (own_upd (own_upd own_zero 0 ((p2.toInt8.toInt32).toInt8.toInt32)) 31 ((p3.toInt8.toInt32).toInt8.toInt32)) 61 ((p4.toInt8.toInt32).toInt8.toInt32))))), (r156, .byte, (own_arr 62 (own_upd (own_upd (own_upd own_zero 0 ((p2.toInt8.toInt32).toInt8.toInt32)) 31 ((p3.toInt8.toInt32).toInt8.toInt32)) 61 ((p4.toInt8.toInt32).toInt8.toInt32)))), (c164, .byte, (own_arr 1 (own_upd (own_upd own_zero 0 (((1 : Int32).toInt8.toInt32).toInt8.toInt32)) 0 ((((((1 : Int32).toInt8.toInt32).toInt8.toInt32) ^^^ (85 : Int32)).toInt8.toInt32).toInt8.toInt32)))), (c160, .byte, (own_arr 0 own_zero))])) rfl ?_
        refine Run.as (D' := ([(n157, "com/example/efcor/efcor/io/RecordWriter", [("com/example/efcor/efcor/io/RecordWriter", "bytes", "[B", (.ref c166)), ("com/example/efcor/efcor/io/RecordWriter", "size", "I", (.int (65 : Int32)))])], [(c168, .byte, (own_arr 65 (own_upd (own_upd (own_cut (own_put (own_upd (own_upd own_zero 0 (((1 : Int32).toInt8.toInt32).toInt8.toInt32)) 1 ((((((62 : Int32).toInt64) &&& (4294967295 : Int64)).toInt32).toInt8.toInt32).toInt8.toInt32)) 2 62 (own_upd (own_upd (own_upd own_zero 0 ((p2.toInt8.toInt32).toInt8.toInt32)) 31 ((p3.toInt8.toInt32).toInt8.toInt32)) 61 ((p4.toInt8.toInt32).toInt8.toInt32))) 64) 64 ((((((p5 &&& (127 : Int32)).toInt64) &&& (4294967295 : Int64)).toInt32).toInt8.toInt32).toInt8.toInt32)) 64 (((((((((p5 &&& (127 : Int32)).toInt64) &&& (4294967295 : Int64)).toInt32).toInt8.toInt32).toInt8.toInt32) ^^^ (85 : Int32)).toInt8.toInt32).toInt8.toInt32)))), (c166, .byte, (own_arr 128 (own_upd (own_cut (own_put (own_upd (own_upd own_zero 0 (((1 : Int32).toInt8.toInt32).toInt8.toInt32)) 1 ((((((62 : Int32).toInt64) &&& (4294967295 : Int64)).toInt32).toInt8.toInt32).toInt8.toInt32)) 2 62 (own_upd (own_upd (own_upd own_zero 0 ((p2.toInt8.toInt32).toInt8.toInt32)) 31 ((p3.toInt8.toInt32).toInt8.toInt32)) 61 ((p4.toInt8.toInt32).toInt8.toInt32))) 64) 64 ((((((p5 &&& (127 : Int32)).toInt64) &&& (4294967295 : Int64)).toInt32).toInt8.toInt32).toInt8.toInt32)))), (c158, .byte, (own_arr 64 (own_put (own_upd (own_upd own_zero 0 (((1 : Int32).toInt8.toInt32).toInt8.toInt32)) 1 ((((((62 : Int32).toInt64) &&& (4294967295 : Int64)).toInt32).toInt8.toInt32).toInt8.toInt32)) 2 62 (own_upd (own_upd (own_upd own_zero 0 ((p2.toInt8.toInt32).toInt8.toInt32)) 31 ((p3.toInt8.toInt32).toInt8.toInt32)) 61 ((p4.toInt8.toInt32).toInt8.toInt32))))), (r156, .byte, (own_arr 62 (own_upd (own_upd (own_upd own_zero 0 ((p2.toInt8.toInt32).toInt8.toInt32)) 31 ((p3.toInt8.toInt32).toInt8.toInt32)) 61 ((p4.toInt8.toInt32).toInt8.toInt32)))), (c164, .byte, (own_arr 1 (own_upd (own_upd own_zero 0 (((1 : Int32).toInt8.toInt32).toInt8.toInt32)) 0 ((((((1 : Int32).toInt8.toInt32).toInt8.toInt32) ^^^ (85 : Int32)).toInt8.toInt32).toInt8.toInt32)))), (c160, .byte, (own_arr 0 own_zero))])) (by rw [own_arr_set]) ?_
        refine Run.aload K at_329 (pc' := 331) rfl rfl rfl ?_
        refine Run.bring 0 1 (D' := ([(n157, "com/example/efcor/efcor/io/RecordWriter", [("com/example/efcor/efcor/io/RecordWriter", "bytes", "[B", (.ref c166)), ("com/example/efcor/efcor/io/RecordWriter", "size", "I", (.int (65 : Int32)))])], [(c166, .byte, (own_arr 128 (own_upd (own_cut (own_put (own_upd (own_upd own_zero 0 (((1 : Int32).toInt8.toInt32).toInt8.toInt32)) 1 ((((((62 : Int32).toInt64) &&& (4294967295 : Int64)).toInt32).toInt8.toInt32).toInt8.toInt32)) 2 62 (own_upd (own_upd (own_upd own_zero 0 ((p2.toInt8.toInt32).toInt8.toInt32)) 31 ((p3.toInt8.toInt32).toInt8.toInt32)) 61 ((p4.toInt8.toInt32).toInt8.toInt32))) 64) 64 ((((((p5 &&& (127 : Int32)).toInt64) &&& (4294967295 : Int64)).toInt32).toInt8.toInt32).toInt8.toInt32)))), (c168, .byte, (own_arr 65 (own_upd (own_upd (own_cut (own_put (own_upd (own_upd own_zero 0 (((1 : Int32).toInt8.toInt32).toInt8.toInt32)) 1 ((((((62 : Int32).toInt64) &&& (4294967295 : Int64)).toInt32).toInt8.toInt32).toInt8.toInt32)) 2 62 (own_upd (own_upd (own_upd own_zero 0 ((p2.toInt8.toInt32).toInt8.toInt32)) 31 ((p3.toInt8.toInt32).toInt8.toInt32)) 61 ((p4.toInt8.toInt32).toInt8.toInt32))) 64) 64 ((((((p5 &&& (127 : Int32)).toInt64) &&& (4294967295 : Int64)).toInt32).toInt8.toInt32).toInt8.toInt32)) 64 (((((((((p5 &&& (127 : Int32)).toInt64) &&& (4294967295 : Int64)).toInt32).toInt8.toInt32).toInt8.toInt32) ^^^ (85 : Int32)).toInt8.toInt32).toInt8.toInt32)))), (c158, .byte, (own_arr 64 (own_put (own_upd (own_upd own_zero 0 (((1 : Int32).toInt8.toInt32).toInt8.toInt32)) 1 ((((((62 : Int32).toInt64) &&& (4294967295 : Int64)).toInt32).toInt8.toInt32).toInt8.toInt32)) 2 62 (own_upd (own_upd (own_upd own_zero 0 ((p2.toInt8.toInt32).toInt8.toInt32)) 31 ((p3.toInt8.toInt32).toInt8.toInt32)) 61 ((p4.toInt8.toInt32).toInt8.toInt32))))), (r156, .byte, (own_arr 62 (own_upd (own_upd (own_upd own_zero 0 ((p2.toInt8.toInt32).toInt8.toInt32)) 31 ((p3.toInt8.toInt32).toInt8.toInt32)) 61 ((p4.toInt8.toInt32).toInt8.toInt32)))), (c164, .byte, (own_arr 1 (own_upd (own_upd own_zero 0 (((1 : Int32).toInt8.toInt32).toInt8.toInt32)) 0 ((((((1 : Int32).toInt8.toInt32).toInt8.toInt32) ^^^ (85 : Int32)).toInt8.toInt32).toInt8.toInt32)))), (c160, .byte, (own_arr 0 own_zero))])) rfl ?_
        refine Run.callV K at_331 (pc' := 334) rfl (a := n157) (z := (⟨"com/example/efcor/efcor/io/RecordWriter", "toBytes", "()[B"⟩ : MethodName)) (Cn := "com/example/efcor/efcor/io/RecordWriter") (i := 0) (hw _ (List.mem_of_getElem? (i := 12) rfl)) (hw _ (List.mem_of_getElem? (i := 13) rfl)) (hw _ (List.mem_of_getElem? (i := 15) rfl)) (hw _ (List.mem_of_getElem? (i := 14) rfl)) (hw _ (List.mem_of_getElem? (i := 3) rfl)) (hw _ (List.mem_of_getElem? (i := 16) rfl)) (by decide) rfl (tb_shr l Z a0 n0 hw [] (n157) (c166) (128) ((own_upd (own_cut (own_put (own_upd (own_upd own_zero 0 (((1 : Int32).toInt8.toInt32).toInt8.toInt32)) 1 ((((((62 : Int32).toInt64) &&& (4294967295 : Int64)).toInt32).toInt8.toInt32).toInt8.toInt32)) 2 62 (own_upd (own_upd (own_upd own_zero 0 ((p2.toInt8.toInt32).toInt8.toInt32)) 31 ((p3.toInt8.toInt32).toInt8.toInt32)) 61 ((p4.toInt8.toInt32).toInt8.toInt32))) 64) 64 ((((((p5 &&& (127 : Int32)).toInt64) &&& (4294967295 : Int64)).toInt32).toInt8.toInt32).toInt8.toInt32))) (65) ([]) ([(c168, .byte, (own_arr 65 (own_upd (own_upd (own_cut (own_put (own_upd (own_upd own_zero 0 (((1 : Int32).toInt8.toInt32).toInt8.toInt32)) 1 ((((((62 : Int32).toInt64) &&& (4294967295 : Int64)).toInt32).toInt8.toInt32).toInt8.toInt32)) 2 62 (own_upd (own_upd (own_upd own_zero 0 ((p2.toInt8.toInt32).toInt8.toInt32)) 31 ((p3.toInt8.toInt32).toInt8.toInt32)) 61 ((p4.toInt8.toInt32).toInt8.toInt32))) 64) 64 ((((((p5 &&& (127 : Int32)).toInt64) &&& (4294967295 : Int64)).toInt32).toInt8.toInt32).toInt8.toInt32)) 64 (((((((((p5 &&& (127 : Int32)).toInt64) &&& (4294967295 : Int64)).toInt32).toInt8.toInt32).toInt8.toInt32) ^^^ (85 : Int32)).toInt8.toInt32).toInt8.toInt32)))), (c158, .byte, (own_arr 64 (own_put (own_upd (own_upd own_zero 0 (((1 : Int32).toInt8.toInt32).toInt8.toInt32)) 1 ((((((62 : Int32).toInt64) &&& (4294967295 : Int64)).toInt32).toInt8.toInt32).toInt8.toInt32)) 2 62 (own_upd (own_upd (own_upd own_zero 0 ((p2.toInt8.toInt32).toInt8.toInt32)) 31 ((p3.toInt8.toInt32).toInt8.toInt32)) 61 ((p4.toInt8.toInt32).toInt8.toInt32))))), (r156, .byte, (own_arr 62 (own_upd (own_upd (own_upd own_zero 0 ((p2.toInt8.toInt32).toInt8.toInt32)) 31 ((p3.toInt8.toInt32).toInt8.toInt32)) 61 ((p4.toInt8.toInt32).toInt8.toInt32)))), (c164, .byte, (own_arr 1 (own_upd (own_upd own_zero 0 (((1 : Int32).toInt8.toInt32).toInt8.toInt32)) 0 ((((((1 : Int32).toInt8.toInt32).toInt8.toInt32) ^^^ (85 : Int32)).toInt8.toInt32).toInt8.toInt32)))), (c160, .byte, (own_arr 0 own_zero))]) (by decide) (by decide)) (argsL := []) (rest := []) rfl rfl pd_7 rfl (W := 0) rfl (by decide) (by decide) (cells' := 8) (slots' := 768) rfl rfl (by decide) (by decide) ?_
        intro vq Dq hq
        obtain ⟨c170, rfl, rfl⟩ := hq
        refine Run.as2 (D' := ([(n157, "com/example/efcor/efcor/io/RecordWriter", [("com/example/efcor/efcor/io/RecordWriter", "bytes", "[B", (.ref c166)), ("com/example/efcor/efcor/io/RecordWriter", "size", "I", (.int (65 : Int32)))])], [(c170, .byte, (own_arr 65 (own_upd (own_cut (own_put (own_upd (own_upd own_zero 0 (((1 : Int32).toInt8.toInt32).toInt8.toInt32)) 1 ((((((62 : Int32).toInt64) &&& (4294967295 : Int64)).toInt32).toInt8.toInt32).toInt8.toInt32)) 2 62 (own_upd (own_upd (own_upd own_zero 0 ((p2.toInt8.toInt32).toInt8.toInt32)) 31 ((p3.toInt8.toInt32).toInt8.toInt32)) 61 ((p4.toInt8.toInt32).toInt8.toInt32))) 64) 64 ((((((p5 &&& (127 : Int32)).toInt64) &&& (4294967295 : Int64)).toInt32).toInt8.toInt32).toInt8.toInt32)))), (c166, .byte, (own_arr 128 (own_upd (own_cut (own_put (own_upd (own_upd own_zero 0 (((1 : Int32).toInt8.toInt32).toInt8.toInt32)) 1 ((((((62 : Int32).toInt64) &&& (4294967295 : Int64)).toInt32).toInt8.toInt32).toInt8.toInt32)) 2 62 (own_upd (own_upd (own_upd own_zero 0 ((p2.toInt8.toInt32).toInt8.toInt32)) 31 ((p3.toInt8.toInt32).toInt8.toInt32)) 61 ((p4.toInt8.toInt32).toInt8.toInt32))) 64) 64 ((((((p5 &&& (127 : Int32)).toInt64) &&& (4294967295 : Int64)).toInt32).toInt8.toInt32).toInt8.toInt32)))), (c168, .byte, (own_arr 65 (own_upd (own_upd (own_cut (own_put (own_upd (own_upd own_zero 0 (((1 : Int32).toInt8.toInt32).toInt8.toInt32)) 1 ((((((62 : Int32).toInt64) &&& (4294967295 : Int64)).toInt32).toInt8.toInt32).toInt8.toInt32)) 2 62 (own_upd (own_upd (own_upd own_zero 0 ((p2.toInt8.toInt32).toInt8.toInt32)) 31 ((p3.toInt8.toInt32).toInt8.toInt32)) 61 ((p4.toInt8.toInt32).toInt8.toInt32))) 64) 64 ((((((p5 &&& (127 : Int32)).toInt64) &&& (4294967295 : Int64)).toInt32).toInt8.toInt32).toInt8.toInt32)) 64 (((((((((p5 &&& (127 : Int32)).toInt64) &&& (4294967295 : Int64)).toInt32).toInt8.toInt32).toInt8.toInt32) ^^^ (85 : Int32)).toInt8.toInt32).toInt8.toInt32)))), (c158, .byte, (own_arr 64 (own_put (own_upd (own_upd own_zero 0 (((1 : Int32).toInt8.toInt32).toInt8.toInt32)) 1 ((((((62 : Int32).toInt64) &&& (4294967295 : Int64)).toInt32).toInt8.toInt32).toInt8.toInt32)) 2 62 (own_upd (own_upd (own_upd own_zero 0 ((p2.toInt8.toInt32).toInt8.toInt32)) 31 ((p3.toInt8.toInt32).toInt8.toInt32)) 61 ((p4.toInt8.toInt32).toInt8.toInt32))))), (r156, .byte, (own_arr 62 (own_upd (own_upd (own_upd own_zero 0 ((p2.toInt8.toInt32).toInt8.toInt32)) 31 ((p3.toInt8.toInt32).toInt8.toInt32)) 61 ((p4.toInt8.toInt32).toInt8.toInt32)))), (c164, .byte, (own_arr 1 (own_upd (own_upd own_zero 0 (((1 : Int32).toInt8.toInt32).toInt8.toInt32)) 0 ((((((1 : Int32).toInt8.toInt32).toInt8.toInt32) ^^^ (85 : Int32)).toInt8.toInt32).toInt8.toInt32)))), (c160, .byte, (own_arr 0 own_zero))])) (S' := [(.ref c170)]) rfl rfl ?_
        refine Run.astore K at_334 (pc' := 336) rfl rfl (L' := #[.val (.int p1), .val (.int p2), .val (.int p3), .val (.int p4), .val (.int p5), .val (.int (1 : Int32)), .val (.int (((p1.toUInt32 >>> ((1 : Int32) &&& 31).toUInt32).toInt32) % (3 : Int32))), .val (.int (62 : Int32)), .val (.ref r156), .val (.int (p5 &&& (127 : Int32))), .val (.int (1 : Int32)), .val (.ref n157), .val (.ref c160), .val (.ref c164), .val (.int (1 : Int32)), .val (.ref c168), .val (.ref c170)]) rfl ?_
        refine Run.iload K at_336 (pc' := 338) rfl rfl ?_
        refine Run.ifcF K at_338 (pT := 384) (pF := 341) (by decide) (by decide) rfl (show ¬ ((1 : Int32) = (0 : Int32)) from by decide) ?_
        refine Run.aload K at_341 (pc' := 343) rfl rfl rfl ?_
        refine Run.aload K at_343 (pc' := 345) rfl rfl rfl ?_
        refine Run.acmpF K at_345 (pF := 348) rfl (i := 0) (j := 2) rfl rfl rfl rfl (by decide) ?_
        refine Run.aload K at_348 (pc' := 350) rfl rfl rfl ?_
        refine Run.alen K at_350 (pc' := 351) rfl (i := 0) rfl (w := (65 : Int32)) (own_arr_len rfl) ?_
        refine Run.iload K at_351 (pc' := 353) rfl rfl ?_
        refine Run.iconst K at_353 (pc' := 354) rfl (v := (3 : Int32)) rfl ?_
        refine Run.iaddV K at_354 (pc' := 355) rfl (v := (65 : Int32)) (by decide) ?_
        refine Run.icmpF K at_355 (pT := 384) (pF := 358) (by decide) (by decide) rfl (show ¬ ((65 : Int32) ≠ (65 : Int32)) from by decide) ?_
        refine Run.aload K at_358 (pc' := 360) rfl rfl rfl ?_
        refine Run.iconst K at_360 (pc' := 361) rfl (v := (0 : Int32)) rfl ?_
        refine Run.baload K at_361 (pc' := 362) rfl (i := 0) (q := 0) rfl (by decide) (by decide) (v := (.int (((1 : Int32).toInt8.toInt32).toInt8.toInt32))) (own_arr_get (by decide) (v := (((1 : Int32).toInt8.toInt32).toInt8.toInt32)) rfl) ?_
        refine Run.iload K at_362 (pc' := 364) rfl rfl ?_
        refine Run.icmpF K at_364 (pT := 384) (pF := 367) (by decide) (by decide) rfl (show ¬ ((((1 : Int32).toInt8.toInt32).toInt8.toInt32) ≠ (1 : Int32)) from fun h => h (by first | decide | exact own_idem _ | exact own_lastv _)) ?_
        refine Run.aload K at_367 (pc' := 369) rfl rfl rfl ?_
        refine Run.iconst K at_369 (pc' := 370) rfl (v := (2 : Int32)) rfl ?_
        refine Run.iload K at_370 (pc' := 372) rfl rfl ?_
        refine Run.iaddV K at_372 (pc' := 373) rfl (v := (64 : Int32)) (by decide) ?_
        refine Run.baload K at_373 (pc' := 374) rfl (i := 0) (q := 64) rfl (by decide) (by decide) (v := (.int ((((((p5 &&& (127 : Int32)).toInt64) &&& (4294967295 : Int64)).toInt32).toInt8.toInt32).toInt8.toInt32))) (own_arr_get (by decide) (v := ((((((p5 &&& (127 : Int32)).toInt64) &&& (4294967295 : Int64)).toInt32).toInt8.toInt32).toInt8.toInt32)) rfl) ?_
        refine Run.iload K at_374 (pc' := 376) rfl rfl ?_
        refine Run.i2b K at_376 (pc' := 377) rfl ?_
        refine Run.icmpF K at_377 (pT := 384) (pF := 380) (by decide) (by decide) rfl (show ¬ (((((((p5 &&& (127 : Int32)).toInt64) &&& (4294967295 : Int64)).toInt32).toInt8.toInt32).toInt8.toInt32) ≠ ((p5 &&& (127 : Int32)).toInt8.toInt32)) from fun h => h (by first | decide | exact own_idem _ | exact own_lastv _)) ?_
        refine Run.iconst K at_380 (pc' := 381) rfl (v := (1 : Int32)) rfl ?_
        refine Run.goto K at_381 (pc' := 385) (by decide) (by decide) ?_
        refine Run.istore K at_385 (pc' := 387) rfl (L' := #[.val (.int p1), .val (.int p2), .val (.int p3), .val (.int p4), .val (.int p5), .val (.int (1 : Int32)), .val (.int (((p1.toUInt32 >>> ((1 : Int32) &&& 31).toUInt32).toInt32) % (3 : Int32))), .val (.int (62 : Int32)), .val (.ref r156), .val (.int (p5 &&& (127 : Int32))), .val (.int (1 : Int32)), .val (.ref n157), .val (.ref c160), .val (.ref c164), .val (.int (1 : Int32)), .val (.ref c168), .val (.ref c170)]) rfl ?_
        refine Run.iload K at_387 (pc' := 389) rfl rfl ?_
        exact Run.retN K at_389 (w := (1 : Int32)) rfl (by decide) (by decide) (by decide) (by decide) rfl
    · skip
      refine Run.bipush K at_25 (pc' := 27) rfl (v := (61 : Int32)) rfl ?_
      refine Run.istore K at_27 (pc' := 29) rfl (L' := #[.val (.int p1), .val (.int p2), .val (.int p3), .val (.int p4), .val (.int p5), .val (.int (1 : Int32)), .val (.int (((p1.toUInt32 >>> ((1 : Int32) &&& 31).toUInt32).toInt32) % (3 : Int32))), .val (.int (61 : Int32)), .unset, .unset, .unset, .unset, .unset, .unset, .unset, .unset, .unset]) rfl ?_
      refine Run.bipush K at_29 (pc' := 31) rfl (v := (61 : Int32)) rfl ?_
      refine Run.newA K at_31 (pc' := 33) rfl (ty := .byte) rfl (hw _ (List.mem_of_getElem? (i := 0) rfl)) (by decide) (vs := (own_arr 61 own_zero)) (own_arr_new' (by decide)) (cap := 61) (by decide) (by decide) (cells' := 1) (slots' := 61) rfl rfl (by decide) (by decide) rfl (fun r172 => ?_)
      refine Run.as (D' := ([], [(r172, .byte, (own_arr 61 own_zero))])) rfl ?_
      refine Run.astore K at_33 (pc' := 35) rfl rfl (L' := #[.val (.int p1), .val (.int p2), .val (.int p3), .val (.int p4), .val (.int p5), .val (.int (1 : Int32)), .val (.int (((p1.toUInt32 >>> ((1 : Int32) &&& 31).toUInt32).toInt32) % (3 : Int32))), .val (.int (61 : Int32)), .val (.ref r172), .unset, .unset, .unset, .unset, .unset, .unset, .unset, .unset]) rfl ?_
      refine Run.goto K at_35 (pc' := 67) (by decide) (by decide) ?_
      refine Run.aload K at_67 (pc' := 69) rfl rfl rfl ?_
      refine Run.iconst K at_69 (pc' := 70) rfl (v := (0 : Int32)) rfl ?_
      refine Run.iloadN K at_70 (pc' := 71) rfl rfl ?_
      refine Run.i2b K at_71 (pc' := 72) rfl ?_
      refine Run.bastore K at_72 (pc' := 73) rfl (i := 0) (q := 0) rfl (by decide) (by decide) (v := (.int (0 : Int32))) (own_arr_get (by decide) (v := (0 : Int32)) rfl) (D' := ([], [(r172, .byte, ((own_arr 61 own_zero).set 0 (.int (p2.toInt8.toInt32).toInt8.toInt32)))])) rfl ?_
      refine Run.as (D' := ([], [(r172, .byte, (own_arr 61 (own_upd own_zero 0 ((p2.toInt8.toInt32).toInt8.toInt32))))])) (by rw [own_arr_set]) ?_
      refine Run.aload K at_73 (pc' := 75) rfl rfl rfl ?_
      refine Run.iload K at_75 (pc' := 77) rfl rfl ?_
      refine Run.iconst K at_77 (pc' := 78) rfl (v := (2 : Int32)) rfl ?_
      refine Run.idivV K at_78 (pc' := 79) rfl (by decide) (v := (30 : Int32)) (by decide) ?_
      refine Run.iloadN K at_79 (pc' := 80) rfl rfl ?_
      refine Run.i2b K at_80 (pc' := 81) rfl ?_
      refine Run.bastore K at_81 (pc' := 82) rfl (i := 0) (q := 30) rfl (by decide) (by decide) (v := (.int (0 : Int32))) (own_arr_get (by decide) (v := (0 : Int32)) rfl) (D' := ([], [(r172, .byte, ((own_arr 61 (own_upd own_zero 0 ((p2.toInt8.toInt32).toInt8.toInt32))).set 30 (.int (p3.toInt8.toInt32).toInt8.toInt32)))])) rfl ?_
      refine Run.as (D' := ([], [(r172, .byte, (own_arr 61 (own_upd (own_upd own_zero 0 ((p2.toInt8.toInt32).toInt8.toInt32)) 30 ((p3.toInt8.toInt32).toInt8.toInt32))))])) (by rw [own_arr_set]) ?_
      refine Run.aload K at_82 (pc' := 84) rfl rfl rfl ?_
      refine Run.iload K at_84 (pc' := 86) rfl rfl ?_
      refine Run.iconst K at_86 (pc' := 87) rfl (v := (1 : Int32)) rfl ?_
      refine Run.isubV K at_87 (pc' := 88) rfl (v := (60 : Int32)) (by decide) ?_
      refine Run.iloadN K at_88 (pc' := 89) rfl rfl ?_
      refine Run.i2b K at_89 (pc' := 90) rfl ?_
      refine Run.bastore K at_90 (pc' := 91) rfl (i := 0) (q := 60) rfl (by decide) (by decide) (v := (.int (0 : Int32))) (own_arr_get (by decide) (v := (0 : Int32)) rfl) (D' := ([], [(r172, .byte, ((own_arr 61 (own_upd (own_upd own_zero 0 ((p2.toInt8.toInt32).toInt8.toInt32)) 30 ((p3.toInt8.toInt32).toInt8.toInt32))).set 60 (.int (p4.toInt8.toInt32).toInt8.toInt32)))])) rfl ?_
      refine Run.as (D' := ([], [(r172, .byte, (own_arr 61 (own_upd (own_upd (own_upd own_zero 0 ((p2.toInt8.toInt32).toInt8.toInt32)) 30 ((p3.toInt8.toInt32).toInt8.toInt32)) 60 ((p4.toInt8.toInt32).toInt8.toInt32))))])) (by rw [own_arr_set]) ?_
      refine Run.iload K at_91 (pc' := 93) rfl rfl ?_
      refine Run.bipush K at_93 (pc' := 95) rfl (v := (127 : Int32)) rfl ?_
      refine Run.iand K at_95 (pc' := 96) rfl ?_
      refine Run.istore K at_96 (pc' := 98) rfl (L' := #[.val (.int p1), .val (.int p2), .val (.int p3), .val (.int p4), .val (.int p5), .val (.int (1 : Int32)), .val (.int (((p1.toUInt32 >>> ((1 : Int32) &&& 31).toUInt32).toInt32) % (3 : Int32))), .val (.int (61 : Int32)), .val (.ref r172), .val (.int (p5 &&& (127 : Int32))), .unset, .unset, .unset, .unset, .unset, .unset, .unset]) rfl ?_
      refine Run.iload K at_98 (pc' := 100) rfl rfl ?_
      refine Run.ifcF K at_100 (pT := 107) (pF := 103) (by decide) (by decide) rfl (show ¬ ((1 : Int32) = (0 : Int32)) from by decide) ?_
      refine Run.iconst K at_103 (pc' := 104) rfl (v := (1 : Int32)) rfl ?_
      refine Run.goto K at_104 (pc' := 108) (by decide) (by decide) ?_
      refine Run.istore K at_108 (pc' := 110) rfl (L' := #[.val (.int p1), .val (.int p2), .val (.int p3), .val (.int p4), .val (.int p5), .val (.int (1 : Int32)), .val (.int (((p1.toUInt32 >>> ((1 : Int32) &&& 31).toUInt32).toInt32) % (3 : Int32))), .val (.int (61 : Int32)), .val (.ref r172), .val (.int (p5 &&& (127 : Int32))), .val (.int (1 : Int32)), .unset, .unset, .unset, .unset, .unset, .unset]) rfl ?_
      refine Run.newO K at_110 (pc' := 113) rfl (hw _ (List.mem_of_getElem? (i := 1) rfl)) (hw _ (List.mem_of_getElem? (i := 2) rfl)) (hw _ (List.mem_of_getElem? (i := 3) rfl)) (fs_0 hw) (cells' := 2) (slots' := 63) rfl rfl (by decide) (by decide) (fun n173 => ?_)
      refine Run.as (D' := ([(n173, "com/example/efcor/efcor/io/RecordWriter", [("com/example/efcor/efcor/io/RecordWriter", "bytes", "[B", .null), ("com/example/efcor/efcor/io/RecordWriter", "size", "I", (.int (0 : Int32)))])], [(r172, .byte, (own_arr 61 (own_upd (own_upd (own_upd own_zero 0 ((p2.toInt8.toInt32).toInt8.toInt32)) 30 ((p3.toInt8.toInt32).toInt8.toInt32)) 60 ((p4.toInt8.toInt32).toInt8.toInt32))))])) rfl ?_
      refine Run.dup K at_113 (pc' := 114) rfl rfl ?_
      refine Run.callI K at_114 (pc' := 117) rfl rfl (hw _ (List.mem_of_getElem? (i := 4) rfl)) (hw _ (List.mem_of_getElem? (i := 5) rfl)) (hw _ (List.mem_of_getElem? (i := 3) rfl)) (hw _ (List.mem_of_getElem? (i := 6) rfl)) (by decide) (a := n173) (rm1 l Z a0 n0 hw [] (n173) (.null) ((0 : Int32)) ([]) ([(r172, .byte, (own_arr 61 (own_upd (own_upd (own_upd own_zero 0 ((p2.toInt8.toInt32).toInt8.toInt32)) 30 ((p3.toInt8.toInt32).toInt8.toInt32)) 60 ((p4.toInt8.toInt32).toInt8.toInt32))))]) ) (argsL := []) (rest := [(.ref n173)]) rfl rfl pd_6 rfl (W := 1) rfl (by decide) (by decide) (cells' := 3) (slots' := 127) rfl rfl (by decide) (by decide) ?_
      intro vq Dq hq
      obtain ⟨c174, rfl, rfl⟩ := hq
      refine Run.as2 (D' := ([(n173, "com/example/efcor/efcor/io/RecordWriter", [("com/example/efcor/efcor/io/RecordWriter", "bytes", "[B", (.ref c174)), ("com/example/efcor/efcor/io/RecordWriter", "size", "I", (.int (0 : Int32)))])], [(c174, .byte, (own_arr 64 own_zero)), (r172, .byte, (own_arr 61 (own_upd (own_upd (own_upd own_zero 0 ((p2.toInt8.toInt32).toInt8.toInt32)) 30 ((p3.toInt8.toInt32).toInt8.toInt32)) 60 ((p4.toInt8.toInt32).toInt8.toInt32))))])) (S' := [(.ref n173)]) rfl rfl ?_
      refine Run.astore K at_117 (pc' := 119) rfl rfl (L' := #[.val (.int p1), .val (.int p2), .val (.int p3), .val (.int p4), .val (.int p5), .val (.int (1 : Int32)), .val (.int (((p1.toUInt32 >>> ((1 : Int32) &&& 31).toUInt32).toInt32) % (3 : Int32))), .val (.int (61 : Int32)), .val (.ref r172), .val (.int (p5 &&& (127 : Int32))), .val (.int (1 : Int32)), .val (.ref n173), .unset, .unset, .unset, .unset, .unset]) rfl ?_
      refine Run.aload K at_119 (pc' := 121) rfl rfl rfl ?_
      refine Run.callV K at_121 (pc' := 124) rfl (a := n173) (z := (⟨"com/example/efcor/efcor/io/RecordWriter", "toBytes", "()[B"⟩ : MethodName)) (Cn := "com/example/efcor/efcor/io/RecordWriter") (i := 0) (hw _ (List.mem_of_getElem? (i := 12) rfl)) (hw _ (List.mem_of_getElem? (i := 13) rfl)) (hw _ (List.mem_of_getElem? (i := 15) rfl)) (hw _ (List.mem_of_getElem? (i := 14) rfl)) (hw _ (List.mem_of_getElem? (i := 3) rfl)) (hw _ (List.mem_of_getElem? (i := 16) rfl)) (by decide) rfl (tb_shr l Z a0 n0 hw [] (n173) (c174) (64) (own_zero) (0) ([]) ([(r172, .byte, (own_arr 61 (own_upd (own_upd (own_upd own_zero 0 ((p2.toInt8.toInt32).toInt8.toInt32)) 30 ((p3.toInt8.toInt32).toInt8.toInt32)) 60 ((p4.toInt8.toInt32).toInt8.toInt32))))]) (by decide) (by decide)) (argsL := []) (rest := []) rfl rfl pd_7 rfl (W := 0) rfl (by decide) (by decide) (cells' := 4) (slots' := 255) rfl rfl (by decide) (by decide) ?_
      intro vq Dq hq
      obtain ⟨c176, rfl, rfl⟩ := hq
      refine Run.as2 (D' := ([(n173, "com/example/efcor/efcor/io/RecordWriter", [("com/example/efcor/efcor/io/RecordWriter", "bytes", "[B", (.ref c174)), ("com/example/efcor/efcor/io/RecordWriter", "size", "I", (.int (0 : Int32)))])], [(c176, .byte, (own_arr 0 own_zero)), (c174, .byte, (own_arr 64 own_zero)), (r172, .byte, (own_arr 61 (own_upd (own_upd (own_upd own_zero 0 ((p2.toInt8.toInt32).toInt8.toInt32)) 30 ((p3.toInt8.toInt32).toInt8.toInt32)) 60 ((p4.toInt8.toInt32).toInt8.toInt32))))])) (S' := [(.ref c176)]) rfl rfl ?_
      refine Run.astore K at_124 (pc' := 126) rfl rfl (L' := #[.val (.int p1), .val (.int p2), .val (.int p3), .val (.int p4), .val (.int p5), .val (.int (1 : Int32)), .val (.int (((p1.toUInt32 >>> ((1 : Int32) &&& 31).toUInt32).toInt32) % (3 : Int32))), .val (.int (61 : Int32)), .val (.ref r172), .val (.int (p5 &&& (127 : Int32))), .val (.int (1 : Int32)), .val (.ref n173), .val (.ref c176), .unset, .unset, .unset, .unset]) rfl ?_
      refine Run.aload K at_126 (pc' := 128) rfl rfl rfl ?_
      refine Run.iload K at_128 (pc' := 130) rfl rfl ?_
      refine Run.bring 0 1 (D' := ([(n173, "com/example/efcor/efcor/io/RecordWriter", [("com/example/efcor/efcor/io/RecordWriter", "bytes", "[B", (.ref c174)), ("com/example/efcor/efcor/io/RecordWriter", "size", "I", (.int (0 : Int32)))])], [(c174, .byte, (own_arr 64 own_zero)), (c176, .byte, (own_arr 0 own_zero)), (r172, .byte, (own_arr 61 (own_upd (own_upd (own_upd own_zero 0 ((p2.toInt8.toInt32).toInt8.toInt32)) 30 ((p3.toInt8.toInt32).toInt8.toInt32)) 60 ((p4.toInt8.toInt32).toInt8.toInt32))))])) rfl ?_
      refine Run.callV K at_130 (pc' := 133) rfl (a := n173) (z := (⟨"com/example/efcor/efcor/io/RecordWriter", "writeBoolean", "(Z)Lcom/example/efcor/efcor/io/RecordWriter;"⟩ : MethodName)) (Cn := "com/example/efcor/efcor/io/RecordWriter") (i := 0) (hw _ (List.mem_of_getElem? (i := 31) rfl)) (hw _ (List.mem_of_getElem? (i := 32) rfl)) (hw _ (List.mem_of_getElem? (i := 34) rfl)) (hw _ (List.mem_of_getElem? (i := 33) rfl)) (hw _ (List.mem_of_getElem? (i := 3) rfl)) (hw _ (List.mem_of_getElem? (i := 35) rfl)) (by decide) rfl (wbool l Z a0 n0 hw [] (n173) ((1 : Int32)) (c174) (64) (own_zero) (0) ([]) ([(c176, .byte, (own_arr 0 own_zero)), (r172, .byte, (own_arr 61 (own_upd (own_upd (own_upd own_zero 0 ((p2.toInt8.toInt32).toInt8.toInt32)) 30 ((p3.toInt8.toInt32).toInt8.toInt32)) 60 ((p4.toInt8.toInt32).toInt8.toInt32))))]) (by decide) (by decide)) (argsL := [(.int (1 : Int32))]) (rest := []) rfl rfl pd_8 rfl (W := 0) rfl (by decide) (by decide) (cells' := 4) (slots' := 255) rfl rfl (by decide) (by decide) ?_
      intro vq Dq hq
      obtain ⟨c178, hc179, rfl, rfl⟩ := hq
      refine Run.as2 (D' := ([(n173, "com/example/efcor/efcor/io/RecordWriter", [("com/example/efcor/efcor/io/RecordWriter", "bytes", "[B", (.ref c174)), ("com/example/efcor/efcor/io/RecordWriter", "size", "I", (.int (1 : Int32)))])], [(c174, .byte, (own_arr 64 (own_upd own_zero 0 ((c178.toInt8.toInt32).toInt8.toInt32)))), (c176, .byte, (own_arr 0 own_zero)), (r172, .byte, (own_arr 61 (own_upd (own_upd (own_upd own_zero 0 ((p2.toInt8.toInt32).toInt8.toInt32)) 30 ((p3.toInt8.toInt32).toInt8.toInt32)) 60 ((p4.toInt8.toInt32).toInt8.toInt32))))])) (S' := [(.ref n173)]) rfl rfl ?_
      obtain rfl : c178 = (1 : Int32) := by rcases hc179 with ⟨q0, q⟩ | ⟨q0, q⟩ <;> first | exact q | exact absurd q0 (by decide)
      refine Run.pop K at_133 (pc' := 134) rfl rfl ?_
      refine Run.aload K at_134 (pc' := 136) rfl rfl rfl ?_
      refine Run.callV K at_136 (pc' := 139) rfl (a := n173) (z := (⟨"com/example/efcor/efcor/io/RecordWriter", "toBytes", "()[B"⟩ : MethodName)) (Cn := "com/example/efcor/efcor/io/RecordWriter") (i := 0) (hw _ (List.mem_of_getElem? (i := 12) rfl)) (hw _ (List.mem_of_getElem? (i := 13) rfl)) (hw _ (List.mem_of_getElem? (i := 15) rfl)) (hw _ (List.mem_of_getElem? (i := 14) rfl)) (hw _ (List.mem_of_getElem? (i := 3) rfl)) (hw _ (List.mem_of_getElem? (i := 16) rfl)) (by decide) rfl (tb_shr l Z a0 n0 hw [] (n173) (c174) (64) ((own_upd own_zero 0 (((1 : Int32).toInt8.toInt32).toInt8.toInt32))) (1) ([]) ([(c176, .byte, (own_arr 0 own_zero)), (r172, .byte, (own_arr 61 (own_upd (own_upd (own_upd own_zero 0 ((p2.toInt8.toInt32).toInt8.toInt32)) 30 ((p3.toInt8.toInt32).toInt8.toInt32)) 60 ((p4.toInt8.toInt32).toInt8.toInt32))))]) (by decide) (by decide)) (argsL := []) (rest := []) rfl rfl pd_7 rfl (W := 0) rfl (by decide) (by decide) (cells' := 5) (slots' := 383) rfl rfl (by decide) (by decide) ?_
      intro vq Dq hq
      obtain ⟨c180, rfl, rfl⟩ := hq
      refine Run.as2 (D' := ([(n173, "com/example/efcor/efcor/io/RecordWriter", [("com/example/efcor/efcor/io/RecordWriter", "bytes", "[B", (.ref c174)), ("com/example/efcor/efcor/io/RecordWriter", "size", "I", (.int (1 : Int32)))])], [(c180, .byte, (own_arr 1 (own_upd own_zero 0 (((1 : Int32).toInt8.toInt32).toInt8.toInt32)))), (c174, .byte, (own_arr 64 (own_upd own_zero 0 (((1 : Int32).toInt8.toInt32).toInt8.toInt32)))), (c176, .byte, (own_arr 0 own_zero)), (r172, .byte, (own_arr 61 (own_upd (own_upd (own_upd own_zero 0 ((p2.toInt8.toInt32).toInt8.toInt32)) 30 ((p3.toInt8.toInt32).toInt8.toInt32)) 60 ((p4.toInt8.toInt32).toInt8.toInt32))))])) (S' := [(.ref c180)]) rfl rfl ?_
      refine Run.astore K at_139 (pc' := 141) rfl rfl (L' := #[.val (.int p1), .val (.int p2), .val (.int p3), .val (.int p4), .val (.int p5), .val (.int (1 : Int32)), .val (.int (((p1.toUInt32 >>> ((1 : Int32) &&& 31).toUInt32).toInt32) % (3 : Int32))), .val (.int (61 : Int32)), .val (.ref r172), .val (.int (p5 &&& (127 : Int32))), .val (.int (1 : Int32)), .val (.ref n173), .val (.ref c176), .val (.ref c180), .unset, .unset, .unset]) rfl ?_
      refine Run.aload K at_141 (pc' := 143) rfl rfl rfl ?_
      refine Run.alen K at_143 (pc' := 144) rfl (i := 2) rfl (w := (0 : Int32)) (own_arr_len rfl) ?_
      refine Run.ifcF K at_144 (pT := 167) (pF := 147) (by decide) (by decide) rfl (show ¬ ((0 : Int32) ≠ (0 : Int32)) from by decide) ?_
      refine Run.aload K at_147 (pc' := 149) rfl rfl rfl ?_
      refine Run.alen K at_149 (pc' := 150) rfl (i := 0) rfl (w := (1 : Int32)) (own_arr_len rfl) ?_
      refine Run.iconst K at_150 (pc' := 151) rfl (v := (1 : Int32)) rfl ?_
      refine Run.icmpF K at_151 (pT := 167) (pF := 154) (by decide) (by decide) rfl (show ¬ ((1 : Int32) ≠ (1 : Int32)) from by decide) ?_
      refine Run.aload K at_154 (pc' := 156) rfl rfl rfl ?_
      refine Run.iconst K at_156 (pc' := 157) rfl (v := (0 : Int32)) rfl ?_
      refine Run.baload K at_157 (pc' := 158) rfl (i := 0) (q := 0) rfl (by decide) (by decide) (v := (.int (((1 : Int32).toInt8.toInt32).toInt8.toInt32))) (own_arr_get (by decide) (v := (((1 : Int32).toInt8.toInt32).toInt8.toInt32)) rfl) ?_
      refine Run.iload K at_158 (pc' := 160) rfl rfl ?_
      refine Run.icmpF K at_160 (pT := 167) (pF := 163) (by decide) (by decide) rfl (show ¬ ((((1 : Int32).toInt8.toInt32).toInt8.toInt32) ≠ (1 : Int32)) from fun h => h (by first | decide | exact own_idem _ | exact own_lastv _)) ?_
      refine Run.iconst K at_163 (pc' := 164) rfl (v := (1 : Int32)) rfl ?_
      refine Run.goto K at_164 (pc' := 168) (by decide) (by decide) ?_
      refine Run.istore K at_168 (pc' := 170) rfl (L' := #[.val (.int p1), .val (.int p2), .val (.int p3), .val (.int p4), .val (.int p5), .val (.int (1 : Int32)), .val (.int (((p1.toUInt32 >>> ((1 : Int32) &&& 31).toUInt32).toInt32) % (3 : Int32))), .val (.int (61 : Int32)), .val (.ref r172), .val (.int (p5 &&& (127 : Int32))), .val (.int (1 : Int32)), .val (.ref n173), .val (.ref c176), .val (.ref c180), .val (.int (1 : Int32)), .unset, .unset]) rfl ?_
      refine Run.iload K at_170 (pc' := 172) rfl rfl ?_
      refine Run.ifcF K at_172 (pT := 187) (pF := 175) (by decide) (by decide) rfl (show ¬ ((1 : Int32) = (0 : Int32)) from by decide) ?_
      refine Run.aload K at_175 (pc' := 177) rfl rfl rfl ?_
      refine Run.iconst K at_177 (pc' := 178) rfl (v := (0 : Int32)) rfl ?_
      refine Run.aload K at_178 (pc' := 180) rfl rfl rfl ?_
      refine Run.iconst K at_180 (pc' := 181) rfl (v := (0 : Int32)) rfl ?_
      refine Run.baload K at_181 (pc' := 182) rfl (i := 0) (q := 0) rfl (by decide) (by decide) (v := (.int (((1 : Int32).toInt8.toInt32).toInt8.toInt32))) (own_arr_get (by decide) (v := (((1 : Int32).toInt8.toInt32).toInt8.toInt32)) rfl) ?_
      refine Run.bipush K at_182 (pc' := 184) rfl (v := (85 : Int32)) rfl ?_
      refine Run.ixor K at_184 (pc' := 185) rfl ?_
      refine Run.i2b K at_185 (pc' := 186) rfl ?_
      refine Run.bastore K at_186 (pc' := 187) rfl (i := 0) (q := 0) rfl (by decide) (by decide) (v := (.int (((1 : Int32).toInt8.toInt32).toInt8.toInt32))) (own_arr_get (by decide) (v := (((1 : Int32).toInt8.toInt32).toInt8.toInt32)) rfl) (D' := ([(n173, "com/example/efcor/efcor/io/RecordWriter", [("com/example/efcor/efcor/io/RecordWriter", "bytes", "[B", (.ref c174)), ("com/example/efcor/efcor/io/RecordWriter", "size", "I", (.int (1 : Int32)))])], [(c180, .byte, ((own_arr 1 (own_upd own_zero 0 (((1 : Int32).toInt8.toInt32).toInt8.toInt32))).set 0 (.int (((((1 : Int32).toInt8.toInt32).toInt8.toInt32) ^^^ (85 : Int32)).toInt8.toInt32).toInt8.toInt32))), (c174, .byte, (own_arr 64 (own_upd own_zero 0 (((1 : Int32).toInt8.toInt32).toInt8.toInt32)))), (c176, .byte, (own_arr 0 own_zero)), (r172, .byte, (own_arr 61 (own_upd (own_upd (own_upd own_zero 0 ((p2.toInt8.toInt32).toInt8.toInt32)) 30 ((p3.toInt8.toInt32).toInt8.toInt32)) 60 ((p4.toInt8.toInt32).toInt8.toInt32))))])) rfl ?_
      refine Run.as (D' := ([(n173, "com/example/efcor/efcor/io/RecordWriter", [("com/example/efcor/efcor/io/RecordWriter", "bytes", "[B", (.ref c174)), ("com/example/efcor/efcor/io/RecordWriter", "size", "I", (.int (1 : Int32)))])], [(c180, .byte, (own_arr 1 (own_upd (own_upd own_zero 0 (((1 : Int32).toInt8.toInt32).toInt8.toInt32)) 0 ((((((1 : Int32).toInt8.toInt32).toInt8.toInt32) ^^^ (85 : Int32)).toInt8.toInt32).toInt8.toInt32)))), (c174, .byte, (own_arr 64 (own_upd own_zero 0 (((1 : Int32).toInt8.toInt32).toInt8.toInt32)))), (c176, .byte, (own_arr 0 own_zero)), (r172, .byte, (own_arr 61 (own_upd (own_upd (own_upd own_zero 0 ((p2.toInt8.toInt32).toInt8.toInt32)) 30 ((p3.toInt8.toInt32).toInt8.toInt32)) 60 ((p4.toInt8.toInt32).toInt8.toInt32))))])) (by rw [own_arr_set]) ?_
      refine Run.aload K at_187 (pc' := 189) rfl rfl rfl ?_
      refine Run.aload K at_189 (pc' := 191) rfl rfl rfl ?_
      refine Run.bring 0 3 (D' := ([(n173, "com/example/efcor/efcor/io/RecordWriter", [("com/example/efcor/efcor/io/RecordWriter", "bytes", "[B", (.ref c174)), ("com/example/efcor/efcor/io/RecordWriter", "size", "I", (.int (1 : Int32)))])], [(r172, .byte, (own_arr 61 (own_upd (own_upd (own_upd own_zero 0 ((p2.toInt8.toInt32).toInt8.toInt32)) 30 ((p3.toInt8.toInt32).toInt8.toInt32)) 60 ((p4.toInt8.toInt32).toInt8.toInt32)))), (c180, .byte, (own_arr 1 (own_upd (own_upd own_zero 0 (((1 : Int32).toInt8.toInt32).toInt8.toInt32)) 0 ((((((1 : Int32).toInt8.toInt32).toInt8.toInt32) ^^^ (85 : Int32)).toInt8.toInt32).toInt8.toInt32)))), (c174, .byte, (own_arr 64 (own_upd own_zero 0 (((1 : Int32).toInt8.toInt32).toInt8.toInt32)))), (c176, .byte, (own_arr 0 own_zero))])) rfl ?_
      refine Run.bring 0 2 (D' := ([(n173, "com/example/efcor/efcor/io/RecordWriter", [("com/example/efcor/efcor/io/RecordWriter", "bytes", "[B", (.ref c174)), ("com/example/efcor/efcor/io/RecordWriter", "size", "I", (.int (1 : Int32)))])], [(c174, .byte, (own_arr 64 (own_upd own_zero 0 (((1 : Int32).toInt8.toInt32).toInt8.toInt32)))), (r172, .byte, (own_arr 61 (own_upd (own_upd (own_upd own_zero 0 ((p2.toInt8.toInt32).toInt8.toInt32)) 30 ((p3.toInt8.toInt32).toInt8.toInt32)) 60 ((p4.toInt8.toInt32).toInt8.toInt32)))), (c180, .byte, (own_arr 1 (own_upd (own_upd own_zero 0 (((1 : Int32).toInt8.toInt32).toInt8.toInt32)) 0 ((((((1 : Int32).toInt8.toInt32).toInt8.toInt32) ^^^ (85 : Int32)).toInt8.toInt32).toInt8.toInt32)))), (c176, .byte, (own_arr 0 own_zero))])) rfl ?_
      refine Run.callV K at_191 (pc' := 194) rfl (a := n173) (z := (⟨"com/example/efcor/efcor/io/RecordWriter", "writeBytes", "([B)Lcom/example/efcor/efcor/io/RecordWriter;"⟩ : MethodName)) (Cn := "com/example/efcor/efcor/io/RecordWriter") (i := 0) (hw _ (List.mem_of_getElem? (i := 44) rfl)) (hw _ (List.mem_of_getElem? (i := 45) rfl)) (hw _ (List.mem_of_getElem? (i := 47) rfl)) (hw _ (List.mem_of_getElem? (i := 46) rfl)) (hw _ (List.mem_of_getElem? (i := 3) rfl)) (hw _ (List.mem_of_getElem? (i := 48) rfl)) (by decide) rfl (wb_61 l Z a0 n0 hw [] (n173) (r172) (c174) ((own_upd own_zero 0 (((1 : Int32).toInt8.toInt32).toInt8.toInt32))) ((own_upd (own_upd (own_upd own_zero 0 ((p2.toInt8.toInt32).toInt8.toInt32)) 30 ((p3.toInt8.toInt32).toInt8.toInt32)) 60 ((p4.toInt8.toInt32).toInt8.toInt32))) ([]) ([(c180, .byte, (own_arr 1 (own_upd (own_upd own_zero 0 (((1 : Int32).toInt8.toInt32).toInt8.toInt32)) 0 ((((((1 : Int32).toInt8.toInt32).toInt8.toInt32) ^^^ (85 : Int32)).toInt8.toInt32).toInt8.toInt32)))), (c176, .byte, (own_arr 0 own_zero))]) ) (argsL := [(.ref r172)]) (rest := []) rfl rfl pd_9 rfl (W := 0) rfl (by decide) (by decide) (cells' := 5) (slots' := 383) rfl rfl (by decide) (by decide) (Ret.k (S' := [(.ref n173)]) rfl ?_)
      refine Run.as (D' := ([(n173, "com/example/efcor/efcor/io/RecordWriter", [("com/example/efcor/efcor/io/RecordWriter", "bytes", "[B", (.ref c174)), ("com/example/efcor/efcor/io/RecordWriter", "size", "I", (.int (63 : Int32)))])], [(c174, .byte, (own_arr 64 (own_put (own_upd (own_upd own_zero 0 (((1 : Int32).toInt8.toInt32).toInt8.toInt32)) 1 ((((((61 : Int32).toInt64) &&& (4294967295 : Int64)).toInt32).toInt8.toInt32).toInt8.toInt32)) 2 61 (own_upd (own_upd (own_upd own_zero 0 ((p2.toInt8.toInt32).toInt8.toInt32)) 30 ((p3.toInt8.toInt32).toInt8.toInt32)) 60 ((p4.toInt8.toInt32).toInt8.toInt32))))), (r172, .byte, (own_arr 61 (own_upd (own_upd (own_upd own_zero 0 ((p2.toInt8.toInt32).toInt8.toInt32)) 30 ((p3.toInt8.toInt32).toInt8.toInt32)) 60 ((p4.toInt8.toInt32).toInt8.toInt32)))), (c180, .byte, (own_arr 1 (own_upd (own_upd own_zero 0 (((1 : Int32).toInt8.toInt32).toInt8.toInt32)) 0 ((((((1 : Int32).toInt8.toInt32).toInt8.toInt32) ^^^ (85 : Int32)).toInt8.toInt32).toInt8.toInt32)))), (c176, .byte, (own_arr 0 own_zero))])) rfl ?_
      refine Run.pop K at_194 (pc' := 195) rfl rfl ?_
      refine Run.aload K at_195 (pc' := 197) rfl rfl rfl ?_
      refine Run.iload K at_197 (pc' := 199) rfl rfl ?_
      refine Run.callV K at_199 (pc' := 202) rfl (a := n173) (z := (⟨"com/example/efcor/efcor/io/RecordWriter", "writeInt", "(I)Lcom/example/efcor/efcor/io/RecordWriter;"⟩ : MethodName)) (Cn := "com/example/efcor/efcor/io/RecordWriter") (i := 0) (hw _ (List.mem_of_getElem? (i := 62) rfl)) (hw _ (List.mem_of_getElem? (i := 50) rfl)) (hw _ (List.mem_of_getElem? (i := 52) rfl)) (hw _ (List.mem_of_getElem? (i := 51) rfl)) (hw _ (List.mem_of_getElem? (i := 3) rfl)) (hw _ (List.mem_of_getElem? (i := 53) rfl)) (by decide) rfl (wi_no l Z a0 n0 hw [] (n173) ((p5 &&& (127 : Int32))) (c174) (64) ((own_put (own_upd (own_upd own_zero 0 (((1 : Int32).toInt8.toInt32).toInt8.toInt32)) 1 ((((((61 : Int32).toInt64) &&& (4294967295 : Int64)).toInt32).toInt8.toInt32).toInt8.toInt32)) 2 61 (own_upd (own_upd (own_upd own_zero 0 ((p2.toInt8.toInt32).toInt8.toInt32)) 30 ((p3.toInt8.toInt32).toInt8.toInt32)) 60 ((p4.toInt8.toInt32).toInt8.toInt32)))) (63) ([]) ([(r172, .byte, (own_arr 61 (own_upd (own_upd (own_upd own_zero 0 ((p2.toInt8.toInt32).toInt8.toInt32)) 30 ((p3.toInt8.toInt32).toInt8.toInt32)) 60 ((p4.toInt8.toInt32).toInt8.toInt32)))), (c180, .byte, (own_arr 1 (own_upd (own_upd own_zero 0 (((1 : Int32).toInt8.toInt32).toInt8.toInt32)) 0 ((((((1 : Int32).toInt8.toInt32).toInt8.toInt32) ^^^ (85 : Int32)).toInt8.toInt32).toInt8.toInt32)))), (c176, .byte, (own_arr 0 own_zero))]) (own_last p5) (by decide) (by decide)) (argsL := [(.int (p5 &&& (127 : Int32)))]) (rest := []) rfl rfl pd_5 rfl (W := 0) rfl (by decide) (by decide) (cells' := 5) (slots' := 383) rfl rfl (by decide) (by decide) (Ret.k (S' := [(.ref n173)]) rfl ?_)
      refine Run.as (D' := ([(n173, "com/example/efcor/efcor/io/RecordWriter", [("com/example/efcor/efcor/io/RecordWriter", "bytes", "[B", (.ref c174)), ("com/example/efcor/efcor/io/RecordWriter", "size", "I", (.int (64 : Int32)))])], [(c174, .byte, (own_arr 64 (own_upd (own_put (own_upd (own_upd own_zero 0 (((1 : Int32).toInt8.toInt32).toInt8.toInt32)) 1 ((((((61 : Int32).toInt64) &&& (4294967295 : Int64)).toInt32).toInt8.toInt32).toInt8.toInt32)) 2 61 (own_upd (own_upd (own_upd own_zero 0 ((p2.toInt8.toInt32).toInt8.toInt32)) 30 ((p3.toInt8.toInt32).toInt8.toInt32)) 60 ((p4.toInt8.toInt32).toInt8.toInt32))) 63 ((((((p5 &&& (127 : Int32)).toInt64) &&& (4294967295 : Int64)).toInt32).toInt8.toInt32).toInt8.toInt32)))), (r172, .byte, (own_arr 61 (own_upd (own_upd (own_upd own_zero 0 ((p2.toInt8.toInt32).toInt8.toInt32)) 30 ((p3.toInt8.toInt32).toInt8.toInt32)) 60 ((p4.toInt8.toInt32).toInt8.toInt32)))), (c180, .byte, (own_arr 1 (own_upd (own_upd own_zero 0 (((1 : Int32).toInt8.toInt32).toInt8.toInt32)) 0 ((((((1 : Int32).toInt8.toInt32).toInt8.toInt32) ^^^ (85 : Int32)).toInt8.toInt32).toInt8.toInt32)))), (c176, .byte, (own_arr 0 own_zero))])) rfl ?_
      refine Run.pop K at_202 (pc' := 203) rfl rfl ?_
      refine Run.aload K at_203 (pc' := 205) rfl rfl rfl ?_
      refine Run.callV K at_205 (pc' := 208) rfl (a := n173) (z := (⟨"com/example/efcor/efcor/io/RecordWriter", "toBytes", "()[B"⟩ : MethodName)) (Cn := "com/example/efcor/efcor/io/RecordWriter") (i := 0) (hw _ (List.mem_of_getElem? (i := 12) rfl)) (hw _ (List.mem_of_getElem? (i := 13) rfl)) (hw _ (List.mem_of_getElem? (i := 15) rfl)) (hw _ (List.mem_of_getElem? (i := 14) rfl)) (hw _ (List.mem_of_getElem? (i := 3) rfl)) (hw _ (List.mem_of_getElem? (i := 16) rfl)) (by decide) rfl (tb_cln l Z a0 n0 hw [] (n173) (c174) (64) ((own_upd (own_put (own_upd (own_upd own_zero 0 (((1 : Int32).toInt8.toInt32).toInt8.toInt32)) 1 ((((((61 : Int32).toInt64) &&& (4294967295 : Int64)).toInt32).toInt8.toInt32).toInt8.toInt32)) 2 61 (own_upd (own_upd (own_upd own_zero 0 ((p2.toInt8.toInt32).toInt8.toInt32)) 30 ((p3.toInt8.toInt32).toInt8.toInt32)) 60 ((p4.toInt8.toInt32).toInt8.toInt32))) 63 ((((((p5 &&& (127 : Int32)).toInt64) &&& (4294967295 : Int64)).toInt32).toInt8.toInt32).toInt8.toInt32))) (64) ([]) ([(r172, .byte, (own_arr 61 (own_upd (own_upd (own_upd own_zero 0 ((p2.toInt8.toInt32).toInt8.toInt32)) 30 ((p3.toInt8.toInt32).toInt8.toInt32)) 60 ((p4.toInt8.toInt32).toInt8.toInt32)))), (c180, .byte, (own_arr 1 (own_upd (own_upd own_zero 0 (((1 : Int32).toInt8.toInt32).toInt8.toInt32)) 0 ((((((1 : Int32).toInt8.toInt32).toInt8.toInt32) ^^^ (85 : Int32)).toInt8.toInt32).toInt8.toInt32)))), (c176, .byte, (own_arr 0 own_zero))]) (by decide) (by decide)) (argsL := []) (rest := []) rfl rfl pd_7 rfl (W := 0) rfl (by decide) (by decide) (cells' := 6) (slots' := 511) rfl rfl (by decide) (by decide) ?_
      intro vq Dq hq
      obtain ⟨c182, rfl, rfl⟩ := hq
      refine Run.as2 (D' := ([(n173, "com/example/efcor/efcor/io/RecordWriter", [("com/example/efcor/efcor/io/RecordWriter", "bytes", "[B", (.ref c174)), ("com/example/efcor/efcor/io/RecordWriter", "size", "I", (.int (64 : Int32)))])], [(c182, .byte, (own_arr 64 (own_upd (own_put (own_upd (own_upd own_zero 0 (((1 : Int32).toInt8.toInt32).toInt8.toInt32)) 1 ((((((61 : Int32).toInt64) &&& (4294967295 : Int64)).toInt32).toInt8.toInt32).toInt8.toInt32)) 2 61 (own_upd (own_upd (own_upd own_zero 0 ((p2.toInt8.toInt32).toInt8.toInt32)) 30 ((p3.toInt8.toInt32).toInt8.toInt32)) 60 ((p4.toInt8.toInt32).toInt8.toInt32))) 63 ((((((p5 &&& (127 : Int32)).toInt64) &&& (4294967295 : Int64)).toInt32).toInt8.toInt32).toInt8.toInt32)))), (c174, .byte, (own_arr 64 (own_upd (own_put (own_upd (own_upd own_zero 0 (((1 : Int32).toInt8.toInt32).toInt8.toInt32)) 1 ((((((61 : Int32).toInt64) &&& (4294967295 : Int64)).toInt32).toInt8.toInt32).toInt8.toInt32)) 2 61 (own_upd (own_upd (own_upd own_zero 0 ((p2.toInt8.toInt32).toInt8.toInt32)) 30 ((p3.toInt8.toInt32).toInt8.toInt32)) 60 ((p4.toInt8.toInt32).toInt8.toInt32))) 63 ((((((p5 &&& (127 : Int32)).toInt64) &&& (4294967295 : Int64)).toInt32).toInt8.toInt32).toInt8.toInt32)))), (r172, .byte, (own_arr 61 (own_upd (own_upd (own_upd own_zero 0 ((p2.toInt8.toInt32).toInt8.toInt32)) 30 ((p3.toInt8.toInt32).toInt8.toInt32)) 60 ((p4.toInt8.toInt32).toInt8.toInt32)))), (c180, .byte, (own_arr 1 (own_upd (own_upd own_zero 0 (((1 : Int32).toInt8.toInt32).toInt8.toInt32)) 0 ((((((1 : Int32).toInt8.toInt32).toInt8.toInt32) ^^^ (85 : Int32)).toInt8.toInt32).toInt8.toInt32)))), (c176, .byte, (own_arr 0 own_zero))])) (S' := [(.ref c182)]) rfl rfl ?_
      refine Run.astore K at_208 (pc' := 210) rfl rfl (L' := #[.val (.int p1), .val (.int p2), .val (.int p3), .val (.int p4), .val (.int p5), .val (.int (1 : Int32)), .val (.int (((p1.toUInt32 >>> ((1 : Int32) &&& 31).toUInt32).toInt32) % (3 : Int32))), .val (.int (61 : Int32)), .val (.ref r172), .val (.int (p5 &&& (127 : Int32))), .val (.int (1 : Int32)), .val (.ref n173), .val (.ref c176), .val (.ref c180), .val (.int (1 : Int32)), .val (.ref c182), .unset]) rfl ?_
      refine Run.iload K at_210 (pc' := 212) rfl rfl ?_
      refine Run.ifcF K at_212 (pT := 303) (pF := 215) (by decide) (by decide) rfl (show ¬ ((1 : Int32) = (0 : Int32)) from by decide) ?_
      refine Run.aload K at_215 (pc' := 217) rfl rfl rfl ?_
      refine Run.alen K at_217 (pc' := 218) rfl (i := 0) rfl (w := (64 : Int32)) (own_arr_len rfl) ?_
      refine Run.iload K at_218 (pc' := 220) rfl rfl ?_
      refine Run.iconst K at_220 (pc' := 221) rfl (v := (3 : Int32)) rfl ?_
      refine Run.iaddV K at_221 (pc' := 222) rfl (v := (64 : Int32)) (by decide) ?_
      refine Run.icmpF K at_222 (pT := 303) (pF := 225) (by decide) (by decide) rfl (show ¬ ((64 : Int32) ≠ (64 : Int32)) from by decide) ?_
      refine Run.aload K at_225 (pc' := 227) rfl rfl rfl ?_
      refine Run.iconst K at_227 (pc' := 228) rfl (v := (0 : Int32)) rfl ?_
      refine Run.baload K at_228 (pc' := 229) rfl (i := 0) (q := 0) rfl (by decide) (by decide) (v := (.int (((1 : Int32).toInt8.toInt32).toInt8.toInt32))) (own_arr_get (by decide) (v := (((1 : Int32).toInt8.toInt32).toInt8.toInt32)) rfl) ?_
      refine Run.iload K at_229 (pc' := 231) rfl rfl ?_
      refine Run.icmpF K at_231 (pT := 303) (pF := 234) (by decide) (by decide) rfl (show ¬ ((((1 : Int32).toInt8.toInt32).toInt8.toInt32) ≠ (1 : Int32)) from fun h => h (by first | decide | exact own_idem _ | exact own_lastv _)) ?_
      refine Run.aload K at_234 (pc' := 236) rfl rfl rfl ?_
      refine Run.iconst K at_236 (pc' := 237) rfl (v := (1 : Int32)) rfl ?_
      refine Run.baload K at_237 (pc' := 238) rfl (i := 0) (q := 1) rfl (by decide) (by decide) (v := (.int ((((((61 : Int32).toInt64) &&& (4294967295 : Int64)).toInt32).toInt8.toInt32).toInt8.toInt32))) (own_arr_get (by decide) (v := ((((((61 : Int32).toInt64) &&& (4294967295 : Int64)).toInt32).toInt8.toInt32).toInt8.toInt32)) rfl) ?_
      refine Run.iload K at_238 (pc' := 240) rfl rfl ?_
      refine Run.i2bV K at_240 (pc' := 241) rfl (v := (61 : Int32)) (by decide) ?_
      refine Run.icmpF K at_241 (pT := 303) (pF := 244) (by decide) (by decide) rfl (show ¬ (((((((61 : Int32).toInt64) &&& (4294967295 : Int64)).toInt32).toInt8.toInt32).toInt8.toInt32) ≠ (61 : Int32)) from fun h => h (by first | decide | exact own_idem _ | exact own_lastv _)) ?_
      refine Run.aload K at_244 (pc' := 246) rfl rfl rfl ?_
      refine Run.iconst K at_246 (pc' := 247) rfl (v := (2 : Int32)) rfl ?_
      refine Run.baload K at_247 (pc' := 248) rfl (i := 0) (q := 2) rfl (by decide) (by decide) (v := (.int ((p2.toInt8.toInt32).toInt8.toInt32))) (own_arr_get (by decide) (v := ((p2.toInt8.toInt32).toInt8.toInt32)) rfl) ?_
      refine Run.iloadN K at_248 (pc' := 249) rfl rfl ?_
      refine Run.i2b K at_249 (pc' := 250) rfl ?_
      refine Run.icmpF K at_250 (pT := 303) (pF := 253) (by decide) (by decide) rfl (show ¬ (((p2.toInt8.toInt32).toInt8.toInt32) ≠ (p2.toInt8.toInt32)) from fun h => h (by first | decide | exact own_idem _ | exact own_lastv _)) ?_
      refine Run.aload K at_253 (pc' := 255) rfl rfl rfl ?_
      refine Run.iconst K at_255 (pc' := 256) rfl (v := (3 : Int32)) rfl ?_
      refine Run.baload K at_256 (pc' := 257) rfl (i := 0) (q := 3) rfl (by decide) (by decide) (v := (.int (0 : Int32))) (own_arr_get (by decide) (v := (0 : Int32)) rfl) ?_
      refine Run.ifcF K at_257 (pT := 303) (pF := 260) (by decide) (by decide) rfl (show ¬ ((0 : Int32) ≠ (0 : Int32)) from by decide) ?_
      refine Run.aload K at_260 (pc' := 262) rfl rfl rfl ?_
      refine Run.iconst K at_262 (pc' := 263) rfl (v := (2 : Int32)) rfl ?_
      refine Run.iload K at_263 (pc' := 265) rfl rfl ?_
      refine Run.iconst K at_265 (pc' := 266) rfl (v := (2 : Int32)) rfl ?_
      refine Run.idivV K at_266 (pc' := 267) rfl (by decide) (v := (30 : Int32)) (by decide) ?_
      refine Run.iaddV K at_267 (pc' := 268) rfl (v := (32 : Int32)) (by decide) ?_
      refine Run.baload K at_268 (pc' := 269) rfl (i := 0) (q := 32) rfl (by decide) (by decide) (v := (.int ((p3.toInt8.toInt32).toInt8.toInt32))) (own_arr_get (by decide) (v := ((p3.toInt8.toInt32).toInt8.toInt32)) rfl) ?_
      refine Run.iloadN K at_269 (pc' := 270) rfl rfl ?_
      refine Run.i2b K at_270 (pc' := 271) rfl ?_
      refine Run.icmpF K at_271 (pT := 303) (pF := 274) (by decide) (by decide) rfl (show ¬ (((p3.toInt8.toInt32).toInt8.toInt32) ≠ (p3.toInt8.toInt32)) from fun h => h (by first | decide | exact own_idem _ | exact own_lastv _)) ?_
      refine Run.aload K at_274 (pc' := 276) rfl rfl rfl ?_
      refine Run.iconst K at_276 (pc' := 277) rfl (v := (1 : Int32)) rfl ?_
      refine Run.iload K at_277 (pc' := 279) rfl rfl ?_
      refine Run.iaddV K at_279 (pc' := 280) rfl (v := (62 : Int32)) (by decide) ?_
      refine Run.baload K at_280 (pc' := 281) rfl (i := 0) (q := 62) rfl (by decide) (by decide) (v := (.int ((p4.toInt8.toInt32).toInt8.toInt32))) (own_arr_get (by decide) (v := ((p4.toInt8.toInt32).toInt8.toInt32)) rfl) ?_
      refine Run.iloadN K at_281 (pc' := 282) rfl rfl ?_
      refine Run.i2b K at_282 (pc' := 283) rfl ?_
      refine Run.icmpF K at_283 (pT := 303) (pF := 286) (by decide) (by decide) rfl (show ¬ (((p4.toInt8.toInt32).toInt8.toInt32) ≠ (p4.toInt8.toInt32)) from fun h => h (by first | decide | exact own_idem _ | exact own_lastv _)) ?_
      refine Run.aload K at_286 (pc' := 288) rfl rfl rfl ?_
      refine Run.iconst K at_288 (pc' := 289) rfl (v := (2 : Int32)) rfl ?_
      refine Run.iload K at_289 (pc' := 291) rfl rfl ?_
      refine Run.iaddV K at_291 (pc' := 292) rfl (v := (63 : Int32)) (by decide) ?_
      refine Run.baload K at_292 (pc' := 293) rfl (i := 0) (q := 63) rfl (by decide) (by decide) (v := (.int ((((((p5 &&& (127 : Int32)).toInt64) &&& (4294967295 : Int64)).toInt32).toInt8.toInt32).toInt8.toInt32))) (own_arr_get (by decide) (v := ((((((p5 &&& (127 : Int32)).toInt64) &&& (4294967295 : Int64)).toInt32).toInt8.toInt32).toInt8.toInt32)) rfl) ?_
      refine Run.iload K at_293 (pc' := 295) rfl rfl ?_
      refine Run.i2b K at_295 (pc' := 296) rfl ?_
      refine Run.icmpF K at_296 (pT := 303) (pF := 299) (by decide) (by decide) rfl (show ¬ (((((((p5 &&& (127 : Int32)).toInt64) &&& (4294967295 : Int64)).toInt32).toInt8.toInt32).toInt8.toInt32) ≠ ((p5 &&& (127 : Int32)).toInt8.toInt32)) from fun h => h (by first | decide | exact own_idem _ | exact own_lastv _)) ?_
      refine Run.iconst K at_299 (pc' := 300) rfl (v := (1 : Int32)) rfl ?_
      refine Run.goto K at_300 (pc' := 304) (by decide) (by decide) ?_
      refine Run.istore K at_304 (pc' := 306) rfl (L' := #[.val (.int p1), .val (.int p2), .val (.int p3), .val (.int p4), .val (.int p5), .val (.int (1 : Int32)), .val (.int (((p1.toUInt32 >>> ((1 : Int32) &&& 31).toUInt32).toInt32) % (3 : Int32))), .val (.int (61 : Int32)), .val (.ref r172), .val (.int (p5 &&& (127 : Int32))), .val (.int (1 : Int32)), .val (.ref n173), .val (.ref c176), .val (.ref c180), .val (.int (1 : Int32)), .val (.ref c182), .unset]) rfl ?_
      refine Run.iload K at_306 (pc' := 308) rfl rfl ?_
      refine Run.ifcF K at_308 (pT := 329) (pF := 311) (by decide) (by decide) rfl (show ¬ ((1 : Int32) = (0 : Int32)) from by decide) ?_
      refine Run.aload K at_311 (pc' := 313) rfl rfl rfl ?_
      refine Run.iconst K at_313 (pc' := 314) rfl (v := (2 : Int32)) rfl ?_
      refine Run.iload K at_314 (pc' := 316) rfl rfl ?_
      refine Run.iaddV K at_316 (pc' := 317) rfl (v := (63 : Int32)) (by decide) ?_
      refine Run.aload K at_317 (pc' := 319) rfl rfl rfl ?_
      refine Run.iconst K at_319 (pc' := 320) rfl (v := (2 : Int32)) rfl ?_
      refine Run.iload K at_320 (pc' := 322) rfl rfl ?_
      refine Run.iaddV K at_322 (pc' := 323) rfl (v := (63 : Int32)) (by decide) ?_
      refine Run.baload K at_323 (pc' := 324) rfl (i := 0) (q := 63) rfl (by decide) (by decide) (v := (.int ((((((p5 &&& (127 : Int32)).toInt64) &&& (4294967295 : Int64)).toInt32).toInt8.toInt32).toInt8.toInt32))) (own_arr_get (by decide) (v := ((((((p5 &&& (127 : Int32)).toInt64) &&& (4294967295 : Int64)).toInt32).toInt8.toInt32).toInt8.toInt32)) rfl) ?_
      refine Run.bipush K at_324 (pc' := 326) rfl (v := (85 : Int32)) rfl ?_
      refine Run.ixor K at_326 (pc' := 327) rfl ?_
      refine Run.i2b K at_327 (pc' := 328) rfl ?_
      refine Run.bastore K at_328 (pc' := 329) rfl (i := 0) (q := 63) rfl (by decide) (by decide) (v := (.int ((((((p5 &&& (127 : Int32)).toInt64) &&& (4294967295 : Int64)).toInt32).toInt8.toInt32).toInt8.toInt32))) (own_arr_get (by decide) (v := ((((((p5 &&& (127 : Int32)).toInt64) &&& (4294967295 : Int64)).toInt32).toInt8.toInt32).toInt8.toInt32)) rfl) (D' := ([(n173, "com/example/efcor/efcor/io/RecordWriter", [("com/example/efcor/efcor/io/RecordWriter", "bytes", "[B", (.ref c174)), ("com/example/efcor/efcor/io/RecordWriter", "size", "I", (.int (64 : Int32)))])], [(c182, .byte, ((own_arr 64 (own_upd (own_put (own_upd (own_upd own_zero 0 (((1 : Int32).toInt8.toInt32).toInt8.toInt32)) 1 ((((((61 : Int32).toInt64) &&& (4294967295 : Int64)).toInt32).toInt8.toInt32).toInt8.toInt32)) 2 61 (own_upd (own_upd (own_upd own_zero 0 ((p2.toInt8.toInt32).toInt8.toInt32)) 30 ((p3.toInt8.toInt32).toInt8.toInt32)) 60 ((p4.toInt8.toInt32).toInt8.toInt32))) 63 ((((((p5 &&& (127 : Int32)).toInt64) &&& (4294967295 : Int64)).toInt32).toInt8.toInt32).toInt8.toInt32))).set 63 (.int ((((((((p5 &&& (127 : Int32)).toInt64) &&& (4294967295 : Int64)).toInt32).toInt8.toInt32).toInt8.toInt32) ^^^ (85 : Int32)).toInt8.toInt32).toInt8.toInt32))), (c174, .byte, (own_arr 64 (own_upd (own_put (own_upd (own_upd own_zero 0 (((1 : Int32).toInt8.toInt32).toInt8.toInt32)) 1 ((((((61 : Int32).toInt64) &&& (4294967295 : Int64)).toInt32).toInt8.toInt32).toInt8.toInt32)) 2 61 (own_upd (own_upd (own_upd own_zero 0 ((p2.toInt8.toInt32).toInt8.toInt32)) 30 ((p3.toInt8.toInt32).toInt8.toInt32)) 60 ((p4.toInt8.toInt32).toInt8.toInt32))) 63 ((((((p5 &&& (127 : Int32)).toInt64) &&& (4294967295 : Int64)).toInt32).toInt8.toInt32).toInt8.toInt32)))), (r172, .byte, (own_arr 61 (own_upd (own_upd (own_upd own_zero 0 ((p2.toInt8.toInt32).toInt8.toInt32)) 30 ((p3.toInt8.toInt32).toInt8.toInt32)) 60 ((p4.toInt8.toInt32).toInt8.toInt32)))), (c180, .byte, (own_arr 1 (own_upd (own_upd own_zero 0 (((1 : Int32).toInt8.toInt32).toInt8.toInt32)) 0 ((((((1 : Int32).toInt8.toInt32).toInt8.toInt32) ^^^ (85 : Int32)).toInt8.toInt32).toInt8.toInt32)))), (c176, .byte, (own_arr 0 own_zero))])) rfl ?_
      refine Run.as (D' := ([(n173, "com/example/efcor/efcor/io/RecordWriter", [("com/example/efcor/efcor/io/RecordWriter", "bytes", "[B", (.ref c174)), ("com/example/efcor/efcor/io/RecordWriter", "size", "I", (.int (64 : Int32)))])], [(c182, .byte, (own_arr 64 (own_upd (own_upd (own_put (own_upd (own_upd own_zero 0 (((1 : Int32).toInt8.toInt32).toInt8.toInt32)) 1 ((((((61 : Int32).toInt64) &&& (4294967295 : Int64)).toInt32).toInt8.toInt32).toInt8.toInt32)) 2 61 (own_upd (own_upd (own_upd own_zero 0 ((p2.toInt8.toInt32).toInt8.toInt32)) 30 ((p3.toInt8.toInt32).toInt8.toInt32)) 60 ((p4.toInt8.toInt32).toInt8.toInt32))) 63 ((((((p5 &&& (127 : Int32)).toInt64) &&& (4294967295 : Int64)).toInt32).toInt8.toInt32).toInt8.toInt32)) 63 (((((((((p5 &&& (127 : Int32)).toInt64) &&& (4294967295 : Int64)).toInt32).toInt8.toInt32).toInt8.toInt32) ^^^ (85 : Int32)).toInt8.toInt32).toInt8.toInt32)))), (c174, .byte, (own_arr 64 (own_upd (own_put (own_upd (own_upd own_zero 0 (((1 : Int32).toInt8.toInt32).toInt8.toInt32)) 1 ((((((61 : Int32).toInt64) &&& (4294967295 : Int64)).toInt32).toInt8.toInt32).toInt8.toInt32)) 2 61 (own_upd (own_upd (own_upd own_zero 0 ((p2.toInt8.toInt32).toInt8.toInt32)) 30 ((p3.toInt8.toInt32).toInt8.toInt32)) 60 ((p4.toInt8.toInt32).toInt8.toInt32))) 63 ((((((p5 &&& (127 : Int32)).toInt64) &&& (4294967295 : Int64)).toInt32).toInt8.toInt32).toInt8.toInt32)))), (r172, .byte, (own_arr 61 (own_upd (own_upd (own_upd own_zero 0 ((p2.toInt8.toInt32).toInt8.toInt32)) 30 ((p3.toInt8.toInt32).toInt8.toInt32)) 60 ((p4.toInt8.toInt32).toInt8.toInt32)))), (c180, .byte, (own_arr 1 (own_upd (own_upd own_zero 0 (((1 : Int32).toInt8.toInt32).toInt8.toInt32)) 0 ((((((1 : Int32).toInt8.toInt32).toInt8.toInt32) ^^^ (85 : Int32)).toInt8.toInt32).toInt8.toInt32)))), (c176, .byte, (own_arr 0 own_zero))])) (by rw [own_arr_set]) ?_
      refine Run.aload K at_329 (pc' := 331) rfl rfl rfl ?_
      refine Run.bring 0 1 (D' := ([(n173, "com/example/efcor/efcor/io/RecordWriter", [("com/example/efcor/efcor/io/RecordWriter", "bytes", "[B", (.ref c174)), ("com/example/efcor/efcor/io/RecordWriter", "size", "I", (.int (64 : Int32)))])], [(c174, .byte, (own_arr 64 (own_upd (own_put (own_upd (own_upd own_zero 0 (((1 : Int32).toInt8.toInt32).toInt8.toInt32)) 1 ((((((61 : Int32).toInt64) &&& (4294967295 : Int64)).toInt32).toInt8.toInt32).toInt8.toInt32)) 2 61 (own_upd (own_upd (own_upd own_zero 0 ((p2.toInt8.toInt32).toInt8.toInt32)) 30 ((p3.toInt8.toInt32).toInt8.toInt32)) 60 ((p4.toInt8.toInt32).toInt8.toInt32))) 63 ((((((p5 &&& (127 : Int32)).toInt64) &&& (4294967295 : Int64)).toInt32).toInt8.toInt32).toInt8.toInt32)))), (c182, .byte, (own_arr 64 (own_upd (own_upd (own_put (own_upd (own_upd own_zero 0 (((1 : Int32).toInt8.toInt32).toInt8.toInt32)) 1 ((((((61 : Int32).toInt64) &&& (4294967295 : Int64)).toInt32).toInt8.toInt32).toInt8.toInt32)) 2 61 (own_upd (own_upd (own_upd own_zero 0 ((p2.toInt8.toInt32).toInt8.toInt32)) 30 ((p3.toInt8.toInt32).toInt8.toInt32)) 60 ((p4.toInt8.toInt32).toInt8.toInt32))) 63 ((((((p5 &&& (127 : Int32)).toInt64) &&& (4294967295 : Int64)).toInt32).toInt8.toInt32).toInt8.toInt32)) 63 (((((((((p5 &&& (127 : Int32)).toInt64) &&& (4294967295 : Int64)).toInt32).toInt8.toInt32).toInt8.toInt32) ^^^ (85 : Int32)).toInt8.toInt32).toInt8.toInt32)))), (r172, .byte, (own_arr 61 (own_upd (own_upd (own_upd own_zero 0 ((p2.toInt8.toInt32).toInt8.toInt32)) 30 ((p3.toInt8.toInt32).toInt8.toInt32)) 60 ((p4.toInt8.toInt32).toInt8.toInt32)))), (c180, .byte, (own_arr 1 (own_upd (own_upd own_zero 0 (((1 : Int32).toInt8.toInt32).toInt8.toInt32)) 0 ((((((1 : Int32).toInt8.toInt32).toInt8.toInt32) ^^^ (85 : Int32)).toInt8.toInt32).toInt8.toInt32)))), (c176, .byte, (own_arr 0 own_zero))])) rfl ?_
      refine Run.callV K at_331 (pc' := 334) rfl (a := n173) (z := (⟨"com/example/efcor/efcor/io/RecordWriter", "toBytes", "()[B"⟩ : MethodName)) (Cn := "com/example/efcor/efcor/io/RecordWriter") (i := 0) (hw _ (List.mem_of_getElem? (i := 12) rfl)) (hw _ (List.mem_of_getElem? (i := 13) rfl)) (hw _ (List.mem_of_getElem? (i := 15) rfl)) (hw _ (List.mem_of_getElem? (i := 14) rfl)) (hw _ (List.mem_of_getElem? (i := 3) rfl)) (hw _ (List.mem_of_getElem? (i := 16) rfl)) (by decide) rfl (tb_cln l Z a0 n0 hw [] (n173) (c174) (64) ((own_upd (own_put (own_upd (own_upd own_zero 0 (((1 : Int32).toInt8.toInt32).toInt8.toInt32)) 1 ((((((61 : Int32).toInt64) &&& (4294967295 : Int64)).toInt32).toInt8.toInt32).toInt8.toInt32)) 2 61 (own_upd (own_upd (own_upd own_zero 0 ((p2.toInt8.toInt32).toInt8.toInt32)) 30 ((p3.toInt8.toInt32).toInt8.toInt32)) 60 ((p4.toInt8.toInt32).toInt8.toInt32))) 63 ((((((p5 &&& (127 : Int32)).toInt64) &&& (4294967295 : Int64)).toInt32).toInt8.toInt32).toInt8.toInt32))) (64) ([]) ([(c182, .byte, (own_arr 64 (own_upd (own_upd (own_put (own_upd (own_upd own_zero 0 (((1 : Int32).toInt8.toInt32).toInt8.toInt32)) 1 ((((((61 : Int32).toInt64) &&& (4294967295 : Int64)).toInt32).toInt8.toInt32).toInt8.toInt32)) 2 61 (own_upd (own_upd (own_upd own_zero 0 ((p2.toInt8.toInt32).toInt8.toInt32)) 30 ((p3.toInt8.toInt32).toInt8.toInt32)) 60 ((p4.toInt8.toInt32).toInt8.toInt32))) 63 ((((((p5 &&& (127 : Int32)).toInt64) &&& (4294967295 : Int64)).toInt32).toInt8.toInt32).toInt8.toInt32)) 63 (((((((((p5 &&& (127 : Int32)).toInt64) &&& (4294967295 : Int64)).toInt32).toInt8.toInt32).toInt8.toInt32) ^^^ (85 : Int32)).toInt8.toInt32).toInt8.toInt32)))), (r172, .byte, (own_arr 61 (own_upd (own_upd (own_upd own_zero 0 ((p2.toInt8.toInt32).toInt8.toInt32)) 30 ((p3.toInt8.toInt32).toInt8.toInt32)) 60 ((p4.toInt8.toInt32).toInt8.toInt32)))), (c180, .byte, (own_arr 1 (own_upd (own_upd own_zero 0 (((1 : Int32).toInt8.toInt32).toInt8.toInt32)) 0 ((((((1 : Int32).toInt8.toInt32).toInt8.toInt32) ^^^ (85 : Int32)).toInt8.toInt32).toInt8.toInt32)))), (c176, .byte, (own_arr 0 own_zero))]) (by decide) (by decide)) (argsL := []) (rest := []) rfl rfl pd_7 rfl (W := 0) rfl (by decide) (by decide) (cells' := 7) (slots' := 639) rfl rfl (by decide) (by decide) ?_
      intro vq Dq hq
      obtain ⟨c184, rfl, rfl⟩ := hq
      refine Run.as2 (D' := ([(n173, "com/example/efcor/efcor/io/RecordWriter", [("com/example/efcor/efcor/io/RecordWriter", "bytes", "[B", (.ref c174)), ("com/example/efcor/efcor/io/RecordWriter", "size", "I", (.int (64 : Int32)))])], [(c184, .byte, (own_arr 64 (own_upd (own_put (own_upd (own_upd own_zero 0 (((1 : Int32).toInt8.toInt32).toInt8.toInt32)) 1 ((((((61 : Int32).toInt64) &&& (4294967295 : Int64)).toInt32).toInt8.toInt32).toInt8.toInt32)) 2 61 (own_upd (own_upd (own_upd own_zero 0 ((p2.toInt8.toInt32).toInt8.toInt32)) 30 ((p3.toInt8.toInt32).toInt8.toInt32)) 60 ((p4.toInt8.toInt32).toInt8.toInt32))) 63 ((((((p5 &&& (127 : Int32)).toInt64) &&& (4294967295 : Int64)).toInt32).toInt8.toInt32).toInt8.toInt32)))), (c174, .byte, (own_arr 64 (own_upd (own_put (own_upd (own_upd own_zero 0 (((1 : Int32).toInt8.toInt32).toInt8.toInt32)) 1 ((((((61 : Int32).toInt64) &&& (4294967295 : Int64)).toInt32).toInt8.toInt32).toInt8.toInt32)) 2 61 (own_upd (own_upd (own_upd own_zero 0 ((p2.toInt8.toInt32).toInt8.toInt32)) 30 ((p3.toInt8.toInt32).toInt8.toInt32)) 60 ((p4.toInt8.toInt32).toInt8.toInt32))) 63 ((((((p5 &&& (127 : Int32)).toInt64) &&& (4294967295 : Int64)).toInt32).toInt8.toInt32).toInt8.toInt32)))), (c182, .byte, (own_arr 64 (own_upd (own_upd (own_put (own_upd (own_upd own_zero 0 (((1 : Int32).toInt8.toInt32).toInt8.toInt32)) 1 ((((((61 : Int32).toInt64) &&& (4294967295 : Int64)).toInt32).toInt8.toInt32).toInt8.toInt32)) 2 61 (own_upd (own_upd (own_upd own_zero 0 ((p2.toInt8.toInt32).toInt8.toInt32)) 30 ((p3.toInt8.toInt32).toInt8.toInt32)) 60 ((p4.toInt8.toInt32).toInt8.toInt32))) 63 ((((((p5 &&& (127 : Int32)).toInt64) &&& (4294967295 : Int64)).toInt32).toInt8.toInt32).toInt8.toInt32)) 63 (((((((((p5 &&& (127 : Int32)).toInt64) &&& (4294967295 : Int64)).toInt32).toInt8.toInt32).toInt8.toInt32) ^^^ (85 : Int32)).toInt8.toInt32).toInt8.toInt32)))), (r172, .byte, (own_arr 61 (own_upd (own_upd (own_upd own_zero 0 ((p2.toInt8.toInt32).toInt8.toInt32)) 30 ((p3.toInt8.toInt32).toInt8.toInt32)) 60 ((p4.toInt8.toInt32).toInt8.toInt32)))), (c180, .byte, (own_arr 1 (own_upd (own_upd own_zero 0 (((1 : Int32).toInt8.toInt32).toInt8.toInt32)) 0 ((((((1 : Int32).toInt8.toInt32).toInt8.toInt32) ^^^ (85 : Int32)).toInt8.toInt32).toInt8.toInt32)))), (c176, .byte, (own_arr 0 own_zero))])) (S' := [(.ref c184)]) rfl rfl ?_
      refine Run.astore K at_334 (pc' := 336) rfl rfl (L' := #[.val (.int p1), .val (.int p2), .val (.int p3), .val (.int p4), .val (.int p5), .val (.int (1 : Int32)), .val (.int (((p1.toUInt32 >>> ((1 : Int32) &&& 31).toUInt32).toInt32) % (3 : Int32))), .val (.int (61 : Int32)), .val (.ref r172), .val (.int (p5 &&& (127 : Int32))), .val (.int (1 : Int32)), .val (.ref n173), .val (.ref c176), .val (.ref c180), .val (.int (1 : Int32)), .val (.ref c182), .val (.ref c184)]) rfl ?_
      refine Run.iload K at_336 (pc' := 338) rfl rfl ?_
      refine Run.ifcF K at_338 (pT := 384) (pF := 341) (by decide) (by decide) rfl (show ¬ ((1 : Int32) = (0 : Int32)) from by decide) ?_
      refine Run.aload K at_341 (pc' := 343) rfl rfl rfl ?_
      refine Run.aload K at_343 (pc' := 345) rfl rfl rfl ?_
      refine Run.acmpF K at_345 (pF := 348) rfl (i := 0) (j := 2) rfl rfl rfl rfl (by decide) ?_
      refine Run.aload K at_348 (pc' := 350) rfl rfl rfl ?_
      refine Run.alen K at_350 (pc' := 351) rfl (i := 0) rfl (w := (64 : Int32)) (own_arr_len rfl) ?_
      refine Run.iload K at_351 (pc' := 353) rfl rfl ?_
      refine Run.iconst K at_353 (pc' := 354) rfl (v := (3 : Int32)) rfl ?_
      refine Run.iaddV K at_354 (pc' := 355) rfl (v := (64 : Int32)) (by decide) ?_
      refine Run.icmpF K at_355 (pT := 384) (pF := 358) (by decide) (by decide) rfl (show ¬ ((64 : Int32) ≠ (64 : Int32)) from by decide) ?_
      refine Run.aload K at_358 (pc' := 360) rfl rfl rfl ?_
      refine Run.iconst K at_360 (pc' := 361) rfl (v := (0 : Int32)) rfl ?_
      refine Run.baload K at_361 (pc' := 362) rfl (i := 0) (q := 0) rfl (by decide) (by decide) (v := (.int (((1 : Int32).toInt8.toInt32).toInt8.toInt32))) (own_arr_get (by decide) (v := (((1 : Int32).toInt8.toInt32).toInt8.toInt32)) rfl) ?_
      refine Run.iload K at_362 (pc' := 364) rfl rfl ?_
      refine Run.icmpF K at_364 (pT := 384) (pF := 367) (by decide) (by decide) rfl (show ¬ ((((1 : Int32).toInt8.toInt32).toInt8.toInt32) ≠ (1 : Int32)) from fun h => h (by first | decide | exact own_idem _ | exact own_lastv _)) ?_
      refine Run.aload K at_367 (pc' := 369) rfl rfl rfl ?_
      refine Run.iconst K at_369 (pc' := 370) rfl (v := (2 : Int32)) rfl ?_
      refine Run.iload K at_370 (pc' := 372) rfl rfl ?_
      refine Run.iaddV K at_372 (pc' := 373) rfl (v := (63 : Int32)) (by decide) ?_
      refine Run.baload K at_373 (pc' := 374) rfl (i := 0) (q := 63) rfl (by decide) (by decide) (v := (.int ((((((p5 &&& (127 : Int32)).toInt64) &&& (4294967295 : Int64)).toInt32).toInt8.toInt32).toInt8.toInt32))) (own_arr_get (by decide) (v := ((((((p5 &&& (127 : Int32)).toInt64) &&& (4294967295 : Int64)).toInt32).toInt8.toInt32).toInt8.toInt32)) rfl) ?_
      refine Run.iload K at_374 (pc' := 376) rfl rfl ?_
      refine Run.i2b K at_376 (pc' := 377) rfl ?_
      refine Run.icmpF K at_377 (pT := 384) (pF := 380) (by decide) (by decide) rfl (show ¬ (((((((p5 &&& (127 : Int32)).toInt64) &&& (4294967295 : Int64)).toInt32).toInt8.toInt32).toInt8.toInt32) ≠ ((p5 &&& (127 : Int32)).toInt8.toInt32)) from fun h => h (by first | decide | exact own_idem _ | exact own_lastv _)) ?_
      refine Run.iconst K at_380 (pc' := 381) rfl (v := (1 : Int32)) rfl ?_
      refine Run.goto K at_381 (pc' := 385) (by decide) (by decide) ?_
      refine Run.istore K at_385 (pc' := 387) rfl (L' := #[.val (.int p1), .val (.int p2), .val (.int p3), .val (.int p4), .val (.int p5), .val (.int (1 : Int32)), .val (.int (((p1.toUInt32 >>> ((1 : Int32) &&& 31).toUInt32).toInt32) % (3 : Int32))), .val (.int (61 : Int32)), .val (.ref r172), .val (.int (p5 &&& (127 : Int32))), .val (.int (1 : Int32)), .val (.ref n173), .val (.ref c176), .val (.ref c180), .val (.int (1 : Int32)), .val (.ref c182), .val (.ref c184)]) rfl ?_
      refine Run.iload K at_387 (pc' := 389) rfl rfl ?_
      exact Run.retN K at_389 (w := (1 : Int32)) rfl (by decide) (by decide) (by decide) (by decide) rfl
set_option maxRecDepth 65536 in
set_option maxHeartbeats 40000000 in
theorem comes_1 {Post : Tables → Env → Array Value → State → Outcome → State → Prop} (hpost : ∀ tb e args s v u, (limb_1_1.after args s (.returned v) u = true ∧ limb_1_2.after args s (.returned v) u = true ∧ True) → FrameEnd s (.returned v) u (Jvm.fieldLocs frame_1_writes args s ++ Jvm.arrayLocs frame_1_arrays args s ++ Jvm.staticLocs frame_1_statics s) 24 1088 → Post tb e args s (.returned v) u) :
    ArmFor flags0 classFile x code maxLocals ret World_1 tables_1 room_1 Calls_1 rest_1 Pre_1 Post := by
  intro l hfl _ _ p e ha hc hk s m args below hf hA hF happ hP
  obtain ⟨hcalls, hrest, hpre⟩ := hP
  obtain ⟨-, -, -, hnamed, -, -, -, hat⟩ := (Spec.applies_iff hf).mp happ
  obtain ⟨hg, hn⟩ := and_e (Cond.before_iff.mp (show (Jvm.Cond.and given_1 narrow_1).before args s = true from hpre))
  obtain ⟨g0, q0⟩ := and_e hg
  obtain ⟨w0, w1, w2, w3, w4, rfl⟩ : ∃ w0 w1 w2 w3 w4 : Value, args = #[w0, w1, w2, w3, w4] := by
    have hs : args.size = 5 := by simpa [Cond.value, given_1] using g0
    obtain ⟨L⟩ := args
    match L, hs with
    | [w0, w1, w2, w3, w4], _ => exact ⟨w0, w1, w2, w3, w4, rfl⟩
  have hw := fun d (hd : d ∈ tables_1) => atoms_spec (ws := Jvm.Cond.code x code maxLocals ret :: tables_1) hat d (List.mem_cons_of_mem _ hd)
  obtain ⟨f0, q1⟩ := and_e q0
  obtain ⟨i0, e0⟩ := is_v f0
  obtain rfl : w0 = (.int i0) := Option.some.inj e0
  obtain ⟨f1, q2⟩ := and_e q1
  obtain ⟨i1, e1⟩ := is_v f1
  obtain rfl : w1 = (.int i1) := Option.some.inj e1
  obtain ⟨f2, q3⟩ := and_e q2
  obtain ⟨i2, e2⟩ := is_v f2
  obtain rfl : w2 = (.int i2) := Option.some.inj e2
  obtain ⟨f3, q4⟩ := and_e q3
  obtain ⟨i3, e3⟩ := is_v f3
  obtain rfl : w3 = (.int i3) := Option.some.inj e3
  obtain ⟨i4, e4⟩ := is_v q4
  obtain rfl : w4 = (.int i4) := Option.some.inj e4
  obtain ⟨n, o, h1, h2, h3, _, L, rfl, ⟨N, D', rfl, -⟩, hq⟩ := rm0 l s _ s.heap.size hw tables_1 i0 i1 i2 i3 i4 s.heap ⟨Old.start s, fun _ h => (nomatch h), fun _ h => (nomatch h), List.nodup_nil⟩ p e ha hc hk s m _ below hf ((Spec.applies_iff_loose hf).mp happ).1 ⟨rfl, State.Warmed39.refl s, rfl⟩ trivial
  refine ⟨n, _, h1, h2, h3, hpost _ _ _ _ _ _ ⟨Cond.after_iff.mpr rfl, Cond.after_iff.mpr (eq_i res_at (Term.int_eval (1)) rfl), trivial⟩ ⟨hq.1, hq.2.1, (hq.2.2.sift fun y hy => Or.inr (N y hy)).mono (by decide) (by decide)⟩⟩
theorem main_1_1 : Claimed_1_1 := comes_1 fun _ _ _ _ _ _ h hF => ⟨h.1, hF⟩
theorem main_1_2 : Claimed_1_2 := comes_1 fun _ _ _ _ _ _ h hF => ⟨h.2.1, hF⟩
end Jvm.Pilot.@@N@@
namespace Jvm.Pilot.@@N@@
open Jvm Jvm.ClassFile Sem Op Lib Jvm.Free Jvm.Stand Jvm.Pilot.@@N@@.Jvm.D
/-! MADE BY PROGRAM (witnessworld.py) out of the Statement's table words and the real class files: 12 classes; the members and pool entries that the words name. The judged class is class 1, her method 1. -/
namespace start1
open Jvm.ClassFile
def u (s : String) : CpInfo := .utf8 (stringToUtf16 s)
/-- a pool by its gaps: so many unusable entries, then the entry; so many at the end -/
def gap : Nat → List CpInfo → List CpInfo
  | 0, r => r
  | n + 1, r => .unusable :: gap n r
def poolList (es : List (Nat × CpInfo)) (last : Nat) : List CpInfo := es.foldr (fun e r => gap e.1 (e.2 :: r)) (gap last [])
def pool (es : List (Nat × CpInfo)) (last : Nat) : Array CpInfo := ⟨poolList es last⟩
def fileOf (pool : Array CpInfo) (this : Nat) (attrs : Array Attribute := #[]) (ms : Array MethodInfo := #[]) (fl : Nat := 33) (sup : Nat := 0) (ifs : Array Nat := #[]) (fds : Array FieldInfo := #[]) : ClassFile where
  minorVersion := 0
  majorVersion := 65
  constantPool := pool
  accessFlags := fl
  thisClass := this
  superClass := sup
  interfaces := ifs
  fields := fds
  methods := ms
  attributes := attrs
def plain (name : String) (sup : Option ClassId) : Class where
  name := name
  kind := .ordinary
  loader := none
  accessFlags := 33
  super := sup
  interfaces := #[]
  cf := none
  fields := #[]
  methods := #[]
  instanceTypes := #[]
  staticTypes := #[]
  resolved := #[]
  callSites := []
  init := .initialized
  statics := none
  mirror := none

def pool0 : Array CpInfo := pool [(5, u "<init>"), (0, u "()V"), (1, .class_ 10), (1, u "java/lang/Object"), (85, u "clone"), (0, u "()Ljava/lang/Object;")] 26

def k0c0 : Code := { maxStack := 0, maxLocals := 1, code := object_method_1_code, exceptionTable := #[], attributes := #[] }
def k0m0 : Method := { name := "<init>", desc := "()V", sig := { parameters := [], returnType := none }, accessFlags := 1, code := some k0c0 }
def k0m1 : Method := { name := "clone", desc := "()Ljava/lang/Object;", sig := { parameters := [], returnType := some (.object "java/lang/Object") }, accessFlags := 260, code := none }
/-- java/lang/Object -/
def k0 : Class := { plain "java/lang/Object" none with
  accessFlags := 33
  interfaces := #[]
  cf := some (fileOf pool0 8 #[] #[{ accessFlags := 1, nameIndex := 5, descriptorIndex := 6, attributes := #[] }, { accessFlags := 260, nameIndex := 96, descriptorIndex := 97, attributes := #[] }] 33 0 #[] #[])
  fields := #[]
  methods := #[k0m0, k0m1]
  instanceTypes := #[]
  staticTypes := #[]
  resolved := Array.replicate 124 none
  statics := none }

def pool1 : Array CpInfo := pool [(2, .class_ 4), (0, .nameAndType 5 6), (0, u "java/lang/Object"), (0, u "<init>"), (0, u "()V"), (0, .class_ 8), (0, u "com/example/efcor/efcor/io/RecordWriter"), (0, .methodref 7 3), (0, .methodref 7 11), (0, .nameAndType 12 13), (0, u "toBytes"), (0, u "()[B"), (0, .methodref 7 15), (0, .nameAndType 16 17), (0, u "writeBoolean"), (0, u "(Z)Lcom/example/efcor/efcor/io/RecordWriter;"), (0, .methodref 7 19), (0, .nameAndType 20 21), (0, u "writeBytes"), (0, u "([B)Lcom/example/efcor/efcor/io/RecordWriter;"), (0, .methodref 7 23), (0, .nameAndType 24 25), (0, u "writeInt"), (0, u "(I)Lcom/example/efcor/efcor/io/RecordWriter;"), (0, .class_ 27), (0, u "com/example/efcor/efcor/io/RecordWriterToBytesPinLaw"), (2, u "law"), (0, u "(IIIII)Z")] 5

def k1m0 : Method := { name := "<init>", desc := "()V", sig := { parameters := [], returnType := none }, accessFlags := 1, code := none }
def k1c1 : Code := { maxStack := 5, maxLocals := 17, code := code, exceptionTable := #[], attributes := #[] }
def k1m1 : Method := { name := "law", desc := "(IIIII)Z", sig := { parameters := [.int, .int, .int, .int, .int], returnType := some .boolean }, accessFlags := 9, code := some k1c1 }
/-- com/example/efcor/efcor/io/RecordWriterToBytesPinLaw -/
def k1 : Class := { plain "com/example/efcor/efcor/io/RecordWriterToBytesPinLaw" (some 0) with
  accessFlags := 49
  interfaces := #[]
  cf := some (fileOf pool1 26 #[] #[{ accessFlags := 1, nameIndex := 5, descriptorIndex := 6, attributes := #[] }, { accessFlags := 9, nameIndex := 30, descriptorIndex := 31, attributes := #[] }] 49 2 #[] #[])
  fields := #[]
  methods := #[k1m0, k1m1]
  instanceTypes := #[]
  staticTypes := #[]
  resolved := Array.replicate 37 none
  statics := none }

def pool2 : Array CpInfo := pool [(1, .methodref 2 3), (0, .class_ 4), (0, .nameAndType 5 6), (0, u "java/lang/Object"), (0, u "<init>"), (0, u "()V"), (0, .fieldref 8 9), (0, .class_ 10), (0, .nameAndType 11 12), (0, u "com/example/efcor/efcor/io/RecordWriter"), (0, u "bytes"), (0, u "[B"), (0, .long 4294967295), (1, .methodref 8 16), (0, .nameAndType 17 18), (0, u "writeLong"), (0, u "(J)Lcom/example/efcor/efcor/io/RecordWriter;"), (0, .long 18446744073709551488), (1, .long 127), (1, .long 128), (1, .methodref 8 26), (0, .nameAndType 27 28), (0, u "put"), (0, u "(B)V"), (2, u "writeBoolean"), (0, u "(Z)Lcom/example/efcor/efcor/io/RecordWriter;"), (28, .methodref 8 62), (0, .nameAndType 63 64), (0, u "ensure"), (0, u "(I)V"), (0, .fieldref 8 66), (0, .nameAndType 67 68), (0, u "size"), (0, u "I"), (0, .methodref 70 71), (0, .class_ 72), (0, .nameAndType 73 74), (0, u "java/lang/System"), (0, u "arraycopy"), (0, u "(Ljava/lang/Object;ILjava/lang/Object;II)V"), (8, .methodref 8 84), (0, .nameAndType 85 86), (0, u "writeInt"), (0, u "(I)Lcom/example/efcor/efcor/io/RecordWriter;"), (3, .class_ 92), (1, u "java/util/Arrays"), (52, .methodref 90 146), (0, .nameAndType 147 148), (0, u "copyOf"), (0, u "([BI)[B"), (12, .methodref 162 163), (0, .class_ 164), (0, .nameAndType 165 166), (0, u "java/lang/Math"), (0, u "max"), (0, u "(II)I"), (9, u "writeBytes"), (0, u "([B)Lcom/example/efcor/efcor/io/RecordWriter;"), (7, u "toBytes"), (0, u "()[B")] 17

def k2c0 : Code := { maxStack := 2, maxLocals := 1, code := prog_8_method_1_code, exceptionTable := #[], attributes := #[] }
def k2m0 : Method := { name := "<init>", desc := "()V", sig := { parameters := [], returnType := none }, accessFlags := 1, code := some k2c0 }
def k2c1 : Code := { maxStack := 5, maxLocals := 2, code := prog_8_method_2_code, exceptionTable := #[], attributes := #[] }
def k2m1 : Method := { name := "writeInt", desc := "(I)Lcom/example/efcor/efcor/io/RecordWriter;", sig := { parameters := [.int], returnType := some (.object "com/example/efcor/efcor/io/RecordWriter") }, accessFlags := 1, code := some k2c1 }
def k2c2 : Code := { maxStack := 5, maxLocals := 5, code := prog_8_method_3_code, exceptionTable := #[], attributes := #[] }
def k2m2 : Method := { name := "writeLong", desc := "(J)Lcom/example/efcor/efcor/io/RecordWriter;", sig := { parameters := [.long], returnType := some (.object "com/example/efcor/efcor/io/RecordWriter") }, accessFlags := 1, code := some k2c2 }
def k2c3 : Code := { maxStack := 2, maxLocals := 2, code := prog_8_method_4_code, exceptionTable := #[], attributes := #[] }
def k2m3 : Method := { name := "writeBoolean", desc := "(Z)Lcom/example/efcor/efcor/io/RecordWriter;", sig := { parameters := [.boolean], returnType := some (.object "com/example/efcor/efcor/io/RecordWriter") }, accessFlags := 1, code := some k2c3 }
def k2c4 : Code := { maxStack := 5, maxLocals := 2, code := prog_8_method_8_code, exceptionTable := #[], attributes := #[] }
def k2m4 : Method := { name := "writeBytes", desc := "([B)Lcom/example/efcor/efcor/io/RecordWriter;", sig := { parameters := [(.array .byte)], returnType := some (.object "com/example/efcor/efcor/io/RecordWriter") }, accessFlags := 1, code := some k2c4 }
def k2c5 : Code := { maxStack := 2, maxLocals := 1, code := prog_8_method_12_code, exceptionTable := #[], attributes := #[] }
def k2m5 : Method := { name := "toBytes", desc := "()[B", sig := { parameters := [], returnType := some (.array .byte) }, accessFlags := 1, code := some k2c5 }
def k2c6 : Code := { maxStack := 5, maxLocals := 2, code := prog_8_method_14_code, exceptionTable := #[], attributes := #[] }
def k2m6 : Method := { name := "put", desc := "(B)V", sig := { parameters := [.byte], returnType := none }, accessFlags := 2, code := some k2c6 }
def k2c7 : Code := { maxStack := 5, maxLocals := 2, code := prog_8_method_15_code, exceptionTable := #[], attributes := #[] }
def k2m7 : Method := { name := "ensure", desc := "(I)V", sig := { parameters := [.int], returnType := none }, accessFlags := 2, code := some k2c7 }
/-- com/example/efcor/efcor/io/RecordWriter -/
def k2 : Class := { plain "com/example/efcor/efcor/io/RecordWriter" (some 0) with
  accessFlags := 49
  interfaces := #[]
  cf := some (fileOf pool2 8 #[] #[{ accessFlags := 1, nameIndex := 5, descriptorIndex := 6, attributes := #[] }, { accessFlags := 1, nameIndex := 85, descriptorIndex := 86, attributes := #[] }, { accessFlags := 1, nameIndex := 17, descriptorIndex := 18, attributes := #[] }, { accessFlags := 1, nameIndex := 31, descriptorIndex := 32, attributes := #[] }, { accessFlags := 1, nameIndex := 176, descriptorIndex := 177, attributes := #[] }, { accessFlags := 1, nameIndex := 185, descriptorIndex := 186, attributes := #[] }, { accessFlags := 2, nameIndex := 27, descriptorIndex := 28, attributes := #[] }, { accessFlags := 2, nameIndex := 63, descriptorIndex := 64, attributes := #[] }] 49 2 #[] #[{ accessFlags := 2, nameIndex := 11, descriptorIndex := 12, attributes := #[] }, { accessFlags := 2, nameIndex := 67, descriptorIndex := 68, attributes := #[] }])
  fields := #[{ name := "bytes", type := (.array .byte), accessFlags := 2, slot := 0, constantValue := 0 }, { name := "size", type := .int, accessFlags := 2, slot := 1, constantValue := 0 }]
  methods := #[k2m0, k2m1, k2m2, k2m3, k2m4, k2m5, k2m6, k2m7]
  instanceTypes := #[(.array .byte), .int]
  staticTypes := #[]
  resolved := Array.replicate 204 none
  statics := none }

def pool3 : Array CpInfo := pool [(2, .class_ 4), (1, u "java/lang/Object"), (0, u "<init>"), (0, u "()V"), (7, .class_ 16), (1, u "java/util/Arrays"), (57, .class_ 76), (1, u "java/util/Arrays$NaturalOrder"), (32, u "()Ljava/lang/Object;"), (3, .class_ 115), (1, u "java/util/Arrays$LegacyMergeSort"), (1, u "Z"), (10, .nameAndType 129 109), (0, u "clone"), (20, .methodref 151 152), (0, .class_ 153), (0, .nameAndType 154 155), (0, u "java/lang/System"), (0, u "arraycopy"), (0, u "(Ljava/lang/Object;ILjava/lang/Object;II)V"), (146, u "copyOf"), (1, .methodref 305 306), (0, .class_ 307), (0, .nameAndType 308 309), (0, u "java/lang/Math"), (0, u "min"), (0, u "(II)I"), (0, .methodref 311 128), (0, .class_ 312), (0, u "[B"), (62, .class_ 376), (0, u "java/util/Arrays$ArrayList"), (68, u "$assertionsDisabled"), (269, u "MIN_ARRAY_SORT_GRAN"), (0, u "I"), (2, u "INSERTIONSORT_THRESHOLD"), (149, u "([BI)[B"), (105, .class_ 976), (0, u "java/util/Arrays$ArrayItr")] 52

def k3m0 : Method := { name := "<init>", desc := "()V", sig := { parameters := [], returnType := none }, accessFlags := 2, code := none }
def k3c1 : Code := { maxStack := 6, maxLocals := 3, code := jdk_65_method_121_code, exceptionTable := #[], attributes := #[] }
def k3m1 : Method := { name := "copyOf", desc := "([BI)[B", sig := { parameters := [(.array .byte), .int], returnType := some (.array .byte) }, accessFlags := 9, code := some k3c1 }
/-- java/util/Arrays -/
def k3 : Class := { plain "java/util/Arrays" (some 0) with
  accessFlags := 49
  interfaces := #[]
  cf := some (fileOf pool3 14 #[.nestMembers #[975, 375, 113, 74]] #[{ accessFlags := 2, nameIndex := 5, descriptorIndex := 6, attributes := #[] }, { accessFlags := 9, nameIndex := 302, descriptorIndex := 869, attributes := #[] }] 49 2 #[] #[{ accessFlags := 26, nameIndex := 715, descriptorIndex := 716, attributes := #[] }, { accessFlags := 26, nameIndex := 719, descriptorIndex := 716, attributes := #[] }, { accessFlags := 4120, nameIndex := 445, descriptorIndex := 117, attributes := #[] }])
  fields := #[{ name := "MIN_ARRAY_SORT_GRAN", type := .int, accessFlags := 26, slot := 0, constantValue := 0 }, { name := "INSERTIONSORT_THRESHOLD", type := .int, accessFlags := 26, slot := 1, constantValue := 0 }, { name := "$assertionsDisabled", type := .boolean, accessFlags := 4120, slot := 2, constantValue := 0 }]
  methods := #[k3m0, k3m1]
  instanceTypes := #[]
  staticTypes := #[.int, .int, .boolean]
  resolved := Array.replicate 1029 none
  statics := none }

def pool4 : Array CpInfo := pool [(1, .class_ 2), (0, u "java/lang/Math"), (1, .class_ 6), (1, u "java/lang/Object"), (0, u "<init>"), (0, u "()V"), (89, .class_ 100), (1, u "java/lang/Math$RandomNumberGeneratorHolder"), (71, u "negativeZeroFloatBits"), (0, u "J"), (2, u "negativeZeroDoubleBits"), (21, u "max"), (2, u "min"), (43, u "$assertionsDisabled"), (0, u "Z"), (88, u "(II)I"), (2, u "twoToTheDoubleScaleDown"), (0, u "D"), (4, u "twoToTheDoubleScaleUp"), (9, u "E"), (3, u "PI"), (2, u "TAU"), (2, u "DEGREES_TO_RADIANS"), (0, u "RADIANS_TO_DEGREES")] 94

def k4m0 : Method := { name := "<init>", desc := "()V", sig := { parameters := [], returnType := none }, accessFlags := 2, code := none }
def k4c1 : Code := { maxStack := 2, maxLocals := 2, code := jdk_29_method_65_code, exceptionTable := #[], attributes := #[] }
def k4m1 : Method := { name := "max", desc := "(II)I", sig := { parameters := [.int, .int], returnType := some .int }, accessFlags := 9, code := some k4c1 }
def k4c2 : Code := { maxStack := 2, maxLocals := 2, code := jdk_29_method_69_code, exceptionTable := #[], attributes := #[] }
def k4m2 : Method := { name := "min", desc := "(II)I", sig := { parameters := [.int, .int], returnType := some .int }, accessFlags := 9, code := some k4c2 }
/-- java/lang/Math -/
def k4 : Class := { plain "java/lang/Math" (some 0) with
  accessFlags := 49
  interfaces := #[]
  cf := some (fileOf pool4 1 #[.nestMembers #[98]] #[{ accessFlags := 2, nameIndex := 7, descriptorIndex := 8, attributes := #[] }, { accessFlags := 9, nameIndex := 198, descriptorIndex := 335, attributes := #[] }, { accessFlags := 9, nameIndex := 201, descriptorIndex := 335, attributes := #[] }] 49 4 #[] #[{ accessFlags := 25, nameIndex := 354, descriptorIndex := 339, attributes := #[] }, { accessFlags := 25, nameIndex := 358, descriptorIndex := 339, attributes := #[] }, { accessFlags := 25, nameIndex := 361, descriptorIndex := 339, attributes := #[] }, { accessFlags := 26, nameIndex := 364, descriptorIndex := 339, attributes := #[] }, { accessFlags := 26, nameIndex := 365, descriptorIndex := 339, attributes := #[] }, { accessFlags := 26, nameIndex := 172, descriptorIndex := 173, attributes := #[] }, { accessFlags := 26, nameIndex := 176, descriptorIndex := 173, attributes := #[] }, { accessFlags := 8, nameIndex := 344, descriptorIndex := 339, attributes := #[] }, { accessFlags := 8, nameIndex := 338, descriptorIndex := 339, attributes := #[] }, { accessFlags := 4120, nameIndex := 245, descriptorIndex := 246, attributes := #[] }])
  fields := #[{ name := "E", type := .double, accessFlags := 25, slot := 0, constantValue := 0 }, { name := "PI", type := .double, accessFlags := 25, slot := 1, constantValue := 0 }, { name := "TAU", type := .double, accessFlags := 25, slot := 2, constantValue := 0 }, { name := "DEGREES_TO_RADIANS", type := .double, accessFlags := 26, slot := 3, constantValue := 0 }, { name := "RADIANS_TO_DEGREES", type := .double, accessFlags := 26, slot := 4, constantValue := 0 }, { name := "negativeZeroFloatBits", type := .long, accessFlags := 26, slot := 5, constantValue := 0 }, { name := "negativeZeroDoubleBits", type := .long, accessFlags := 26, slot := 6, constantValue := 0 }, { name := "twoToTheDoubleScaleUp", type := .double, accessFlags := 8, slot := 7, constantValue := 0 }, { name := "twoToTheDoubleScaleDown", type := .double, accessFlags := 8, slot := 8, constantValue := 0 }, { name := "$assertionsDisabled", type := .boolean, accessFlags := 4120, slot := 9, constantValue := 0 }]
  methods := #[k4m0, k4m1, k4m2]
  instanceTypes := #[]
  staticTypes := #[.double, .double, .double, .double, .double, .long, .long, .double, .double, .boolean]
  resolved := Array.replicate 460 none
  statics := none }

def pool5 : Array CpInfo := pool [(2, .class_ 4), (1, u "java/lang/Object"), (0, u "<init>"), (0, u "()V"), (1, .class_ 10), (1, u "java/lang/System"), (0, u "allowSecurityManager"), (0, u "I"), (16, u "cons"), (0, u "Ljava/io/Console;"), (77, .class_ 110), (1, u "java/lang/System$CallersHolder"), (43, u "initialErrStream"), (0, u "Ljava/io/PrintStream;"), (19, u "security"), (0, u "Ljava/lang/SecurityManager;"), (31, .class_ 209), (0, u "java/lang/System$1"), (7, u "props"), (0, u "Ljava/util/Properties;"), (2, u "lineSeparator"), (0, u "Ljava/lang/String;"), (96, .class_ 321), (1, u "java/lang/System$LoggerFinder"), (5, .class_ 328), (0, u "java/lang/System$Logger"), (67, u "err"), (2, u "out"), (91, u "notSupportedJnuEncoding"), (15, u "in"), (17, u "initialIn"), (0, u "Ljava/io/InputStream;"), (35, u "bootLayer"), (0, u "Ljava/lang/ModuleLayer;"), (99, .class_ 664), (0, u "java/lang/System$2"), (9, u "NEVER"), (2, u "MAYBE"), (49, u "arraycopy"), (0, u "(Ljava/lang/Object;ILjava/lang/Object;II)V"), (72, .class_ 802), (0, u "java/lang/System$Logger$Level")] 31

def k5m0 : Method := { name := "<init>", desc := "()V", sig := { parameters := [], returnType := none }, accessFlags := 2, code := none }
def k5m1 : Method := { name := "arraycopy", desc := "(Ljava/lang/Object;ILjava/lang/Object;II)V", sig := { parameters := [(.object "java/lang/Object"), .int, (.object "java/lang/Object"), .int, .int], returnType := none }, accessFlags := 265, code := none }
/-- java/lang/System -/
def k5 : Class := { plain "java/lang/System" (some 0) with
  accessFlags := 49
  interfaces := #[]
  cf := some (fileOf pool5 8 #[.nestMembers #[319, 327, 801, 108, 663, 208]] #[{ accessFlags := 2, nameIndex := 5, descriptorIndex := 6, attributes := #[] }, { accessFlags := 265, nameIndex := 727, descriptorIndex := 728, attributes := #[] }] 49 2 #[] #[{ accessFlags := 25, nameIndex := 507, descriptorIndex := 526, attributes := #[] }, { accessFlags := 25, nameIndex := 399, descriptorIndex := 155, attributes := #[] }, { accessFlags := 25, nameIndex := 396, descriptorIndex := 155, attributes := #[] }, { accessFlags := 10, nameIndex := 525, descriptorIndex := 526, attributes := #[] }, { accessFlags := 26, nameIndex := 674, descriptorIndex := 12, attributes := #[] }, { accessFlags := 26, nameIndex := 677, descriptorIndex := 12, attributes := #[] }, { accessFlags := 10, nameIndex := 11, descriptorIndex := 12, attributes := #[] }, { accessFlags := 74, nameIndex := 175, descriptorIndex := 176, attributes := #[] }, { accessFlags := 10, nameIndex := 491, descriptorIndex := 222, attributes := #[] }, { accessFlags := 74, nameIndex := 29, descriptorIndex := 30, attributes := #[] }, { accessFlags := 74, nameIndex := 154, descriptorIndex := 155, attributes := #[] }, { accessFlags := 10, nameIndex := 217, descriptorIndex := 218, attributes := #[] }, { accessFlags := 10, nameIndex := 221, descriptorIndex := 222, attributes := #[] }, { accessFlags := 8, nameIndex := 562, descriptorIndex := 563, attributes := #[] }])
  fields := #[{ name := "in", type := (.object "java/io/InputStream"), accessFlags := 25, slot := 0, constantValue := 0 }, { name := "out", type := (.object "java/io/PrintStream"), accessFlags := 25, slot := 1, constantValue := 0 }, { name := "err", type := (.object "java/io/PrintStream"), accessFlags := 25, slot := 2, constantValue := 0 }, { name := "initialIn", type := (.object "java/io/InputStream"), accessFlags := 10, slot := 3, constantValue := 0 }, { name := "NEVER", type := .int, accessFlags := 26, slot := 4, constantValue := 0 }, { name := "MAYBE", type := .int, accessFlags := 26, slot := 5, constantValue := 0 }, { name := "allowSecurityManager", type := .int, accessFlags := 10, slot := 6, constantValue := 0 }, { name := "security", type := (.object "java/lang/SecurityManager"), accessFlags := 74, slot := 7, constantValue := 0 }, { name := "notSupportedJnuEncoding", type := (.object "java/lang/String"), accessFlags := 10, slot := 8, constantValue := 0 }, { name := "cons", type := (.object "java/io/Console"), accessFlags := 74, slot := 9, constantValue := 0 }, { name := "initialErrStream", type := (.object "java/io/PrintStream"), accessFlags := 74, slot := 10, constantValue := 0 }, { name := "props", type := (.object "java/util/Properties"), accessFlags := 10, slot := 11, constantValue := 0 }, { name := "lineSeparator", type := (.object "java/lang/String"), accessFlags := 10, slot := 12, constantValue := 0 }, { name := "bootLayer", type := (.object "java/lang/ModuleLayer"), accessFlags := 8, slot := 13, constantValue := 0 }]
  methods := #[k5m0, k5m1]
  instanceTypes := #[]
  staticTypes := #[(.object "java/io/InputStream"), (.object "java/io/PrintStream"), (.object "java/io/PrintStream"), (.object "java/io/InputStream"), .int, .int, .int, (.object "java/lang/SecurityManager"), (.object "java/lang/String"), (.object "java/io/Console"), (.object "java/io/PrintStream"), (.object "java/util/Properties"), (.object "java/lang/String"), (.object "java/lang/ModuleLayer")]
  resolved := Array.replicate 834 none
  statics := none }

def pool6 : Array CpInfo := pool [(1, .class_ 2), (0, u "java/lang/Cloneable"), (0, .class_ 4), (0, u "java/lang/Object")] 2

/-- java/lang/Cloneable -/
def k6 : Class := { plain "java/lang/Cloneable" (some 0) with
  accessFlags := 1537
  interfaces := #[]
  cf := some (fileOf pool6 1 #[] #[] 1537 3 #[] #[])
  fields := #[]
  methods := #[]
  instanceTypes := #[]
  staticTypes := #[]
  resolved := Array.replicate 7 none
  statics := none }

def pool7 : Array CpInfo := pool [(1, u "java/io/Serializable"), (0, .class_ 1), (0, u "java/lang/Object"), (0, .class_ 3)] 3

/-- java/io/Serializable -/
def k7 : Class := { plain "java/io/Serializable" (some 0) with
  accessFlags := 1537
  interfaces := #[]
  cf := some (fileOf pool7 2 #[] #[] 1537 4 #[] #[])
  fields := #[]
  methods := #[]
  instanceTypes := #[]
  staticTypes := #[]
  resolved := Array.replicate 8 none
  statics := none }

/-- the primitive byte -/
def k8 : Class := { plain "byte" none with kind := .primitive 'B', accessFlags := 0x411 }
/-- [B -/
def k9 : Class := { plain "[B" (some 0) with kind := .array 8 .byte, interfaces := #[6, 7], accessFlags := 1041 }

/-- the primitive int -/
def k10 : Class := { plain "int" none with kind := .primitive 'I', accessFlags := 0x411 }
/-- [I -/
def k11 : Class := { plain "[I" (some 0) with kind := .array 10 .int, interfaces := #[6, 7], accessFlags := 1041 }

def heap : Heap := #[]
def classes : Array Class := #[k0, k1, k2, k3, k4, k5, k6, k7, k8, k9, k10, k11]
def interned : List (Array UInt16 × Addr) := []
def slotsUsed : Nat := 0
def theMethod : MethodId := ⟨1, 1⟩
def args0 : Array Value := #[.int 5, .int 5, .int 5, .int 5, .int 5]
def aboutOver (below : List Frame) : State where
  vm := { classes := classes, interned := interned.toArray }
  heap := heap
  slotsUsed := slotsUsed
  threads := #[{ frames := .invoking theMethod args0 :: below }]
def below0 : List Frame := [.native { method := ⟨0, 0⟩, args := #[] }]
def about1 : State := aboutOver below0
def p0 : Program := .bare "" "" ""
def e0 : Env := launch0.env 0 0 0
theorem w_frames : about1.frames = Frame.invoking theMethod args0 :: below0 := rfl
set_option maxRecDepth 65536 in
theorem w_args : argsFit about1.vm theMethod args0 = true := by decide +kernel
set_option maxRecDepth 65536 in
theorem w_heap : heapFits about1 = true := by decide +kernel
set_option maxRecDepth 65536 in
theorem w_runnable : about1.curStatus? = some .runnable := by decide +kernel
set_option maxRecDepth 65536 in
theorem w_alone : about1.alone = true := by decide +kernel
set_option maxRecDepth 65536 in
theorem w_named : about1.methodNamed? x = some theMethod := by decide +kernel
set_option maxRecDepth 65536 in
theorem w_hears : about1.hears theMethod below0 = true := by decide +kernel
set_option maxRecDepth 65536 in
theorem w_ripe : about1.ripe theMethod args0 below0 = true := by decide +kernel
theorem w_running : about1.status = .running := rfl
set_option maxRecDepth 65536 in
theorem w_room : about1.hasRoom e0.platform room_1 = true :=
  launch0.hasRoom_least _ room_1 (by decide +kernel) (by decide +kernel) (by decide +kernel) (by decide +kernel) (by decide +kernel) (by decide +kernel)
theorem allAtoms_all (ts : List Jvm.Cond) (a : Array Jvm.Value) (st : Jvm.State) : (allAtoms ts).before a st = ts.all (fun c => c.before a st) := by
  induction ts with
  | nil => rfl
  | cons c t ih =>
    show (Jvm.Cond.and c (allAtoms t)).before a st = _
    rw [Jvm.Cond.before_and, ih, List.all_cons]
def words1 : List Jvm.Cond := Jvm.Cond.code x code maxLocals ret :: tables_1
/-- a 'code' word, met by the world's own term for the bytes: nothing is compared byte by byte -/
theorem code_word {y : MethodName} {bytes : ByteArray} {mx : Nat} {rt : Option FieldType} {a : Array Value} {s : State} {m : MethodId} {meth : Method} {c : Code} (h1 : s.methodNamed? y = some m) (h2 : s.vm.method? m = some meth) (h3 : meth.code = some c) (h4 : c.code = bytes)
    (h5 : (c.maxLocals == mx && c.exceptionTable.isEmpty && decide (c.maxStack ≤ mostOperands) && decide (meth.sig.returnType = rt) && !meth.locks && decide (parseMethodDescriptor y.desc = some meth.sig)) = true) : (Jvm.Cond.code y bytes mx rt).before a s = true := by
  simp only [Bool.and_eq_true, beq_iff_eq, Bool.not_eq_true', decide_eq_true_eq] at h5
  obtain ⟨⟨⟨⟨⟨g1, g2⟩, g3⟩, g4⟩, g5⟩, g6⟩ := h5
  simp [Cond.before, Cond.holds, Cond.value, h1, h2, h3, h4, g1, g2, g3, g4, g5, g6]
def isCode : Jvm.Cond → Bool
  | .code _ _ _ _ => true
  | _ => false
theorem all_split {L : List Jvm.Cond} {P : Jvm.Cond → Bool} (h1 : L.all (fun c => isCode c || P c) = true) (h2 : ∀ c ∈ L.filter isCode, P c = true) : L.all P = true := by
  refine List.all_eq_true.mpr fun c hc => ?_
  have h := List.all_eq_true.mp h1 c hc
  rcases Bool.eq_false_or_eq_true (isCode c) with hi | hi
  · exact h2 c (List.mem_filter.mpr ⟨hc, hi⟩)
  · simpa [hi] using h
set_option maxRecDepth 65536 in
theorem w_c0 : (Jvm.Cond.code x code maxLocals ret).before args0 about1 = true := code_word (m := ⟨1, 1⟩) (meth := k1m1) (c := k1c1) (by decide +kernel) rfl rfl rfl (by decide +kernel)
set_option maxRecDepth 65536 in
theorem w_c1 : (Jvm.Cond.code ({ cls := "com/example/efcor/efcor/io/RecordWriter", name := "<init>", desc := "()V" } : Jvm.MethodName) prog_8_method_1_code (1 : Nat) (Option.none : Option Jvm.ClassFile.FieldType)).before args0 about1 = true := code_word (m := ⟨2, 0⟩) (meth := k2m0) (c := k2c0) (by decide +kernel) rfl rfl rfl (by decide +kernel)
set_option maxRecDepth 65536 in
theorem w_c2 : (Jvm.Cond.code ({ cls := "java/lang/Object", name := "<init>", desc := "()V" } : Jvm.MethodName) object_method_1_code (1 : Nat) (Option.none : Option Jvm.ClassFile.FieldType)).before args0 about1 = true := code_word (m := ⟨0, 0⟩) (meth := k0m0) (c := k0c0) (by decide +kernel) rfl rfl rfl (by decide +kernel)
set_option maxRecDepth 65536 in
theorem w_c3 : (Jvm.Cond.code ({ cls := "com/example/efcor/efcor/io/RecordWriter", name := "toBytes", desc := "()[B" } : Jvm.MethodName) prog_8_method_12_code (1 : Nat) (Option.some (Jvm.ClassFile.FieldType.array Jvm.ClassFile.FieldType.byte))).before args0 about1 = true := code_word (m := ⟨2, 5⟩) (meth := k2m5) (c := k2c5) (by decide +kernel) rfl rfl rfl (by decide +kernel)
set_option maxRecDepth 65536 in
theorem w_c4 : (Jvm.Cond.code ({ cls := "java/util/Arrays", name := "copyOf", desc := "([BI)[B" } : Jvm.MethodName) jdk_65_method_121_code (3 : Nat) (Option.some (Jvm.ClassFile.FieldType.array Jvm.ClassFile.FieldType.byte))).before args0 about1 = true := code_word (m := ⟨3, 1⟩) (meth := k3m1) (c := k3c1) (by decide +kernel) rfl rfl rfl (by decide +kernel)
set_option maxRecDepth 65536 in
theorem w_c5 : (Jvm.Cond.code ({ cls := "java/lang/Math", name := "min", desc := "(II)I" } : Jvm.MethodName) jdk_29_method_69_code (2 : Nat) (Option.some Jvm.ClassFile.FieldType.int)).before args0 about1 = true := code_word (m := ⟨4, 2⟩) (meth := k4m2) (c := k4c2) (by decide +kernel) rfl rfl rfl (by decide +kernel)
set_option maxRecDepth 65536 in
theorem w_c6 : (Jvm.Cond.code ({ cls := "com/example/efcor/efcor/io/RecordWriter", name := "writeBoolean", desc := "(Z)Lcom/example/efcor/efcor/io/RecordWriter;" } : Jvm.MethodName) prog_8_method_4_code (2 : Nat) (Option.some (Jvm.ClassFile.FieldType.object "com/example/efcor/efcor/io/RecordWriter"))).before args0 about1 = true := code_word (m := ⟨2, 3⟩) (meth := k2m3) (c := k2c3) (by decide +kernel) rfl rfl rfl (by decide +kernel)
set_option maxRecDepth 65536 in
theorem w_c7 : (Jvm.Cond.code ({ cls := "com/example/efcor/efcor/io/RecordWriter", name := "put", desc := "(B)V" } : Jvm.MethodName) prog_8_method_14_code (2 : Nat) (Option.none : Option Jvm.ClassFile.FieldType)).before args0 about1 = true := code_word (m := ⟨2, 6⟩) (meth := k2m6) (c := k2c6) (by decide +kernel) rfl rfl rfl (by decide +kernel)
set_option maxRecDepth 65536 in
theorem w_c8 : (Jvm.Cond.code ({ cls := "com/example/efcor/efcor/io/RecordWriter", name := "ensure", desc := "(I)V" } : Jvm.MethodName) prog_8_method_15_code (2 : Nat) (Option.none : Option Jvm.ClassFile.FieldType)).before args0 about1 = true := code_word (m := ⟨2, 7⟩) (meth := k2m7) (c := k2c7) (by decide +kernel) rfl rfl rfl (by decide +kernel)
set_option maxRecDepth 65536 in
theorem w_c9 : (Jvm.Cond.code ({ cls := "com/example/efcor/efcor/io/RecordWriter", name := "writeBytes", desc := "([B)Lcom/example/efcor/efcor/io/RecordWriter;" } : Jvm.MethodName) prog_8_method_8_code (2 : Nat) (Option.some (Jvm.ClassFile.FieldType.object "com/example/efcor/efcor/io/RecordWriter"))).before args0 about1 = true := code_word (m := ⟨2, 4⟩) (meth := k2m4) (c := k2c4) (by decide +kernel) rfl rfl rfl (by decide +kernel)
set_option maxRecDepth 65536 in
theorem w_c10 : (Jvm.Cond.code ({ cls := "com/example/efcor/efcor/io/RecordWriter", name := "writeInt", desc := "(I)Lcom/example/efcor/efcor/io/RecordWriter;" } : Jvm.MethodName) prog_8_method_2_code (2 : Nat) (Option.some (Jvm.ClassFile.FieldType.object "com/example/efcor/efcor/io/RecordWriter"))).before args0 about1 = true := code_word (m := ⟨2, 1⟩) (meth := k2m1) (c := k2c1) (by decide +kernel) rfl rfl rfl (by decide +kernel)
set_option maxRecDepth 65536 in
theorem w_c11 : (Jvm.Cond.code ({ cls := "com/example/efcor/efcor/io/RecordWriter", name := "writeLong", desc := "(J)Lcom/example/efcor/efcor/io/RecordWriter;" } : Jvm.MethodName) prog_8_method_3_code (5 : Nat) (Option.some (Jvm.ClassFile.FieldType.object "com/example/efcor/efcor/io/RecordWriter"))).before args0 about1 = true := code_word (m := ⟨2, 2⟩) (meth := k2m2) (c := k2c2) (by decide +kernel) rfl rfl rfl (by decide +kernel)
set_option maxRecDepth 65536 in
theorem w_c12 : (Jvm.Cond.code ({ cls := "java/lang/Math", name := "max", desc := "(II)I" } : Jvm.MethodName) jdk_29_method_65_code (2 : Nat) (Option.some Jvm.ClassFile.FieldType.int)).before args0 about1 = true := code_word (m := ⟨4, 1⟩) (meth := k4m1) (c := k4c1) (by decide +kernel) rfl rfl rfl (by decide +kernel)
def codes1 : List Jvm.Cond := [Jvm.Cond.code x code maxLocals ret, Jvm.Cond.code ({ cls := "com/example/efcor/efcor/io/RecordWriter", name := "<init>", desc := "()V" } : Jvm.MethodName) prog_8_method_1_code (1 : Nat) (Option.none : Option Jvm.ClassFile.FieldType), Jvm.Cond.code ({ cls := "java/lang/Object", name := "<init>", desc := "()V" } : Jvm.MethodName) object_method_1_code (1 : Nat) (Option.none : Option Jvm.ClassFile.FieldType), Jvm.Cond.code ({ cls := "com/example/efcor/efcor/io/RecordWriter", name := "toBytes", desc := "()[B" } : Jvm.MethodName) prog_8_method_12_code (1 : Nat) (Option.some (Jvm.ClassFile.FieldType.array Jvm.ClassFile.FieldType.byte)), Jvm.Cond.code ({ cls := "java/util/Arrays", name := "copyOf", desc := "([BI)[B" } : Jvm.MethodName) jdk_65_method_121_code (3 : Nat) (Option.some (Jvm.ClassFile.FieldType.array Jvm.ClassFile.FieldType.byte)), Jvm.Cond.code ({ cls := "java/lang/Math", name := "min", desc := "(II)I" } : Jvm.MethodName) jdk_29_method_69_code (2 : Nat) (Option.some Jvm.ClassFile.FieldType.int), Jvm.Cond.code ({ cls := "com/example/efcor/efcor/io/RecordWriter", name := "writeBoolean", desc := "(Z)Lcom/example/efcor/efcor/io/RecordWriter;" } : Jvm.MethodName) prog_8_method_4_code (2 : Nat) (Option.some (Jvm.ClassFile.FieldType.object "com/example/efcor/efcor/io/RecordWriter")), Jvm.Cond.code ({ cls := "com/example/efcor/efcor/io/RecordWriter", name := "put", desc := "(B)V" } : Jvm.MethodName) prog_8_method_14_code (2 : Nat) (Option.none : Option Jvm.ClassFile.FieldType), Jvm.Cond.code ({ cls := "com/example/efcor/efcor/io/RecordWriter", name := "ensure", desc := "(I)V" } : Jvm.MethodName) prog_8_method_15_code (2 : Nat) (Option.none : Option Jvm.ClassFile.FieldType), Jvm.Cond.code ({ cls := "com/example/efcor/efcor/io/RecordWriter", name := "writeBytes", desc := "([B)Lcom/example/efcor/efcor/io/RecordWriter;" } : Jvm.MethodName) prog_8_method_8_code (2 : Nat) (Option.some (Jvm.ClassFile.FieldType.object "com/example/efcor/efcor/io/RecordWriter")), Jvm.Cond.code ({ cls := "com/example/efcor/efcor/io/RecordWriter", name := "writeInt", desc := "(I)Lcom/example/efcor/efcor/io/RecordWriter;" } : Jvm.MethodName) prog_8_method_2_code (2 : Nat) (Option.some (Jvm.ClassFile.FieldType.object "com/example/efcor/efcor/io/RecordWriter")), Jvm.Cond.code ({ cls := "com/example/efcor/efcor/io/RecordWriter", name := "writeLong", desc := "(J)Lcom/example/efcor/efcor/io/RecordWriter;" } : Jvm.MethodName) prog_8_method_3_code (5 : Nat) (Option.some (Jvm.ClassFile.FieldType.object "com/example/efcor/efcor/io/RecordWriter")), Jvm.Cond.code ({ cls := "java/lang/Math", name := "max", desc := "(II)I" } : Jvm.MethodName) jdk_29_method_65_code (2 : Nat) (Option.some Jvm.ClassFile.FieldType.int)]
set_option maxRecDepth 65536 in
theorem codes_eq : words1.filter isCode = codes1 := rfl
theorem w_codes : ∀ c ∈ words1.filter isCode, c.before args0 about1 = true := by
  rw [codes_eq]
  intro c hc
  simp only [codes1, List.mem_cons, List.not_mem_nil, or_false] at hc
  rcases hc with rfl | rfl | rfl | rfl | rfl | rfl | rfl | rfl | rfl | rfl | rfl | rfl | rfl
  · exact w_c0
  · exact w_c1
  · exact w_c2
  · exact w_c3
  · exact w_c4
  · exact w_c5
  · exact w_c6
  · exact w_c7
  · exact w_c8
  · exact w_c9
  · exact w_c10
  · exact w_c11
  · exact w_c12
set_option maxRecDepth 65536 in
theorem w_t1 : (words1.take 24).all (fun c => isCode c || c.before args0 about1) = true := by decide +kernel
set_option maxRecDepth 65536 in
theorem w_t2 : ((words1.drop 24).take 24).all (fun c => isCode c || c.before args0 about1) = true := by decide +kernel
set_option maxRecDepth 65536 in
theorem w_t3 : (((words1.drop 24).drop 24).take 24).all (fun c => isCode c || c.before args0 about1) = true := by decide +kernel
set_option maxRecDepth 65536 in
theorem w_t4 : (((words1.drop 24).drop 24).drop 24).all (fun c => isCode c || c.before args0 about1) = true := by decide +kernel
theorem w_tables : (allAtoms (Jvm.Cond.code x code maxLocals ret :: tables_1)).before args0 about1 = true := by
  rw [allAtoms_all]
  show words1.all (fun c => c.before args0 about1) = true
  refine all_split ?_ w_codes
  rw [← List.take_append_drop 24 words1, List.all_append, w_t1, ← List.take_append_drop 24 (words1.drop 24), List.all_append, w_t2, ← List.take_append_drop 24 ((words1.drop 24).drop 24), List.all_append, w_t3, w_t4]
  rfl
set_option maxRecDepth 65536 in
theorem w_case : (Jvm.Cond.and given_1 narrow_1).before args0 about1 = true := by decide +kernel
theorem w_applies : (headSpec (Jvm.Cond.code x code maxLocals ret :: tables_1) room_1).applies x e0.platform about1 = true :=
  (Spec.applies_iff w_frames).mpr ⟨w_running, w_runnable, w_alone, w_named, w_hears, w_ripe, w_room, w_tables⟩
theorem atStart : AtStart classFile x code maxLocals ret World_1 tables_1 room_1 Calls_1 rest_1 Pre_1 launch0 p0 e0 about1 theMethod args0 below0 :=
  ⟨lists_1, trivial, launch0.admits_env _ _ _, launch0.least_env, fairChoices_fair.cas, fairChoices_fair.clock, w_frames, w_args, w_heap, w_applies, trivial, trivial, w_case⟩
end start1
theorem witness_1 : WitnessClaimed_1 := ⟨start1.p0, start1.e0, start1.about1, start1.theMethod, start1.args0, start1.below0, start1.atStart⟩
end Jvm.Pilot.@@N@@
