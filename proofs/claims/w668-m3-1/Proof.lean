import JvmDerived
import JvmDerived.Pilot.@@N@@Statement
import JvmDerived.Pilot.@@N@@Code
set_option linter.unusedVariables false
set_option linter.unusedSimpArgs false

namespace Jvm.Own
open Jvm Jvm.ClassFile Sem Op Lib Jvm.Free Jvm.Stand Jvm.LawKit Jvm.RoadKit
/-! the heap as a law knows it: its own objects (address, class, fields) and arrays (address, kind, values) -/
abbrev OFld := String × String × String × Value
abbrev OObj := Addr × String × List OFld
abbrev OArr := Addr × FieldType × List Value
abbrev HD := List OObj × List OArr
def FldOk (Z : State) (a0 : Array Value) (h : Heap) (a : Addr) (C : String) (x : OFld) : Prop := Fld Z h a x.1 x.2.1 x.2.2.1 x.2.2.2 ∧ Laid Z a0 C x.1 x.2.1 x.2.2.1 ∧ ∃ t, parseFieldDescriptor x.2.2.1 = some t
def ObjOk (Z : State) (a0 : Array Value) (n0 : Nat) (h : Heap) (o : OObj) : Prop := n0 ≤ o.1 ∧ Exa Z h o.1 o.2.1 ∧ (∀ x ∈ o.2.2, FldOk Z a0 h o.1 o.2.1 x) ∧ (o.2.2.map fun x => x.2.1).Nodup
def ArrOk (Z : State) (n0 : Nat) (h : Heap) (r : OArr) : Prop := n0 ≤ r.1 ∧ ∃ c : Cell, Arr Z h r.1 c r.2.1 ∧ c.slots = r.2.2.toArray ∧ r.2.2.length < 2 ^ 31 ∧ ∀ v ∈ r.2.2, fits r.2.1 v = true
def adrs (D : HD) : List Addr := D.1.map (fun o => o.1) ++ D.2.map (fun r => r.1)
def Heaped (Z : State) (a0 : Array Value) (n0 : Nat) (h : Heap) (D : HD) : Prop := Old Z n0 h ∧ (∀ o ∈ D.1, ObjOk Z a0 n0 h o) ∧ (∀ r ∈ D.2, ArrOk Z n0 h r) ∧ (adrs D).Nodup
section HeapFacts
variable {Z : State} {a0 : Array Value} {n0 : Nat} {h h' : Heap} {D : HD}
theorem FldOk.ext {a : Addr} {C : String} {x : OFld} (F : FldOk Z a0 h a C x) (E : Ext h h') : FldOk Z a0 h' a C x := ⟨F.1.ext E, F.2⟩
theorem ObjOk.ext {o : OObj} (F : ObjOk Z a0 n0 h o) (E : Ext h h') : ObjOk Z a0 n0 h' o := ⟨F.1, F.2.1.ext E, fun x hx => (F.2.2.1 x hx).ext E, F.2.2.2⟩
theorem ArrOk.ext {r : OArr} (F : ArrOk Z n0 h r) (E : Ext h h') : ArrOk Z n0 h' r := by
  obtain ⟨g, c, A, q⟩ := F
  exact ⟨g, c, A.ext E, q⟩
theorem ObjOk.lt {o : OObj} (F : ObjOk Z a0 n0 h o) : o.1 < h.size := F.2.1.lt
theorem ArrOk.lt {r : OArr} (F : ArrOk Z n0 h r) : r.1 < h.size := by
  obtain ⟨g, c, A, q⟩ := F
  exact A.lt
theorem Heaped.lt (H : Heaped Z a0 n0 h D) : ∀ a ∈ adrs D, a < h.size := by
  intro a ha
  rcases List.mem_append.mp ha with q | q
  · obtain ⟨o, ho, rfl⟩ := List.mem_map.mp q
    exact (H.2.1 o ho).lt
  · obtain ⟨o, ho, rfl⟩ := List.mem_map.mp q
    exact (H.2.2.1 o ho).lt
theorem Heaped.fresh (H : Heaped Z a0 n0 h D) : h.size ∉ adrs D := fun q => Nat.lt_irrefl _ (H.lt _ q)
theorem Heaped.base (H : Heaped Z a0 n0 h D) : n0 ≤ h.size := by
  have := H.1.1
  have := H.1.2.1
  omega
theorem ObjOk.other {o : OObj} {a : Addr} {sl : Nat} {v : Value} (F : ObjOk Z a0 n0 h o) (W : Wr h h' a sl v) (q : o.1 ≠ a) : ObjOk Z a0 n0 h' o := ⟨F.1, F.2.1.wr W, fun x hx => ⟨(F.2.2.1 x hx).1.other W (Or.inl q), (F.2.2.1 x hx).2⟩, F.2.2.2⟩
theorem ArrOk.other {r : OArr} {a : Addr} {sl : Nat} {v : Value} (F : ArrOk Z n0 h r) (W : Wr h h' a sl v) (q : r.1 ≠ a) : ArrOk Z n0 h' r := by
  obtain ⟨g, c, A, z⟩ := F
  exact ⟨g, c, A.other W q, z⟩
theorem nodup_of {β γ : Type} {L : List β} {f : β → γ} (N : (L.map f).Nodup) {i j : Nat} {x z : β} (hi : L[i]? = some x) (hj : L[j]? = some z) (e : f x = f z) : i = j := by
  have P := List.pairwise_iff_getElem.mp N
  obtain ⟨li, ei⟩ := List.getElem?_eq_some_iff.mp hi
  obtain ⟨lj, ej⟩ := List.getElem?_eq_some_iff.mp hj
  rcases Nat.lt_trichotomy i j with q | q | q
  · exact absurd (by rw [List.getElem_map, List.getElem_map, ei, ej]; exact e) (P i j (by simpa using li) (by simpa using lj) q)
  · exact q
  · exact absurd (by rw [List.getElem_map, List.getElem_map, ei, ej]; exact e.symm) (P j i (by simpa using lj) (by simpa using li) q)
theorem map_set_same {β γ : Type} (L : List β) (f : β → γ) {i : Nat} {x z : β} (hi : L[i]? = some x) (e : f z = f x) : (L.set i z).map f = L.map f := by
  rw [List.map_set, e]
  obtain ⟨li, rfl⟩ := List.getElem?_eq_some_iff.mp hi
  apply List.ext_getElem?
  intro j
  by_cases q : i = j
  · subst q; simp [li]
  · simp [List.getElem?_set, q]
theorem mem_set_cases {β : Type} {L : List β} {i : Nat} {z w : β} (hw : w ∈ L.set i z) : w = z ∨ ∃ j, j ≠ i ∧ L[j]? = some w := by
  obtain ⟨j, hj⟩ := List.mem_iff_getElem?.mp hw
  rw [List.getElem?_set] at hj
  by_cases q : i = j
  · subst q
    by_cases lt : i < L.length
    · simp [lt] at hj; exact Or.inl hj.symm
    · simp [lt] at hj
  · rw [if_neg q] at hj
    exact Or.inr ⟨j, fun e => q e.symm, hj⟩
theorem Heaped.put {i j : Nat} {a : Addr} {C O n d : String} {fs : List OFld} {v w : Value} (H : Heaped Z a0 n0 h D) (hi : D.1[i]? = some (a, C, fs)) (hj : fs[j]? = some (O, n, d, w)) (W : Wr h h' a (RoadKit.slotOf Z O n d) v) :
    Heaped Z a0 n0 h' (D.1.set i (a, C, fs.set j (O, n, d, v)), D.2) := by
  have HO := H.2.1 _ (List.mem_of_getElem? hi)
  have ND := H.2.2.2
  refine ⟨H.1.wr W HO.1, fun o ho => ?_, fun r hr => ?_, ?_⟩
  · rcases mem_set_cases ho with rfl | ⟨k, hk, ek⟩
    · refine ⟨HO.1, HO.2.1.wr W, fun x hx => ?_, ?_⟩
      · rcases mem_set_cases hx with rfl | ⟨q, hq, eq⟩
        · have F := HO.2.2.1 _ (List.mem_of_getElem? hj)
          exact ⟨F.1.same W, F.2⟩
        · have F := HO.2.2.1 _ (List.mem_of_getElem? eq)
          have G := HO.2.2.1 _ (List.mem_of_getElem? hj)
          refine ⟨F.1.other W (Or.inr ?_), F.2⟩
          obtain ⟨t1, e1⟩ := F.2.2
          obtain ⟨t2, e2⟩ := G.2.2
          exact slot_ne F.2.1 G.2.1 (fun e => hq (nodup_of HO.2.2.2 eq hj e)) e1 e2
      · show ((fs.set j (O, n, d, v)).map fun x => x.2.1).Nodup
        rw [map_set_same fs (fun x => x.2.1) (z := (O, n, d, v)) hj rfl]; exact HO.2.2.2
    · refine (H.2.1 o (List.mem_of_getElem? ek)).other W fun e => hk ?_
      exact nodup_of (List.nodup_append.mp ND).1 ek hi e
  · refine (H.2.2.1 r hr).other W fun e => ?_
    exact (List.nodup_append.mp ND).2.2 a (List.mem_map.mpr ⟨_, List.mem_of_getElem? hi, rfl⟩) r.1 (List.mem_map.mpr ⟨_, hr, rfl⟩) e.symm
  · show (adrs (D.1.set i (a, C, fs.set j (O, n, d, v)), D.2)).Nodup
    have q : adrs (D.1.set i (a, C, fs.set j (O, n, d, v)), D.2) = adrs D := congrArg (fun q => q ++ D.2.map (fun r => r.1)) (map_set_same D.1 (fun o => o.1) (z := (a, C, fs.set j (O, n, d, v))) hi rfl)
    rw [q]; exact ND
theorem Heaped.store {i k : Nat} {a : Addr} {ty : FieldType} {vs : List Value} {v : Value} (H : Heaped Z a0 n0 h D) (hi : D.2[i]? = some (a, ty, vs)) (hv : fits ty v = true) (W : Wr h h' a k v) :
    Heaped Z a0 n0 h' (D.1, D.2.set i (a, ty, vs.set k v)) := by
  have HA := H.2.2.1 _ (List.mem_of_getElem? hi)
  have ND := H.2.2.2
  refine ⟨H.1.wr W HA.1, fun o ho => ?_, fun r hr => ?_, ?_⟩
  · refine (H.2.1 o ho).other W fun e => ?_
    exact (List.nodup_append.mp ND).2.2 o.1 (List.mem_map.mpr ⟨_, ho, rfl⟩) a (List.mem_map.mpr ⟨_, List.mem_of_getElem? hi, rfl⟩) e
  · rcases mem_set_cases hr with rfl | ⟨q, hq, eq⟩
    · obtain ⟨g, c, A, e1, e2, e3⟩ := HA
      refine ⟨g, _, A.same W, ?_, ?_, fun w hw => ?_⟩
      · show c.slots.setIfInBounds k v = _
        rw [e1]; simp
      · show (vs.set k v).length < _
        rw [List.length_set]; exact e2
      · rcases List.mem_or_eq_of_mem_set hw with q | q
        · exact e3 w q
        · rw [q]; exact hv
    · refine (H.2.2.1 r (List.mem_of_getElem? eq)).other W fun e => hq ?_
      exact nodup_of (List.nodup_append.mp ND).2.1 eq hi e
  · show (adrs (D.1, D.2.set i (a, ty, vs.set k v))).Nodup
    have q : adrs (D.1, D.2.set i (a, ty, vs.set k v)) = adrs D := congrArg (fun q => D.1.map (fun r => r.1) ++ q) (map_set_same D.2 (fun o => o.1) (z := (a, ty, vs.set k v)) hi rfl)
    rw [q]; exact ND
theorem Old.ext' {n0 : Nat} (X : Old Z n0 h) (E : Ext h h') : Old Z n0 h' := X.ext E
def FieldsOk (Z : State) (a0 : Array Value) (C : String) (fs : List OFld) : Prop := (∀ x ∈ fs, Laid Z a0 C x.1 x.2.1 x.2.2.1 ∧ ∃ ty, parseFieldDescriptor x.2.2.1 = some ty ∧ x.2.2.2 = defaultValue ty) ∧ (fs.map fun x => x.2.1).Nodup
theorem FieldsOk.nil (C : String) : FieldsOk Z a0 C [] := ⟨fun _ h => (nomatch h), List.nodup_nil⟩
theorem FieldsOk.cons {C O n d : String} {v : Value} {fs : List OFld} {ty : FieldType} (L : Laid Z a0 C O n d) (hty : parseFieldDescriptor d = some ty) (hv : v = defaultValue ty) (hn : n ∉ fs.map fun x => x.2.1) (F : FieldsOk Z a0 C fs) : FieldsOk Z a0 C ((O, n, d, v) :: fs) := by
  refine ⟨fun x hx => ?_, ?_⟩
  · rcases List.mem_cons.mp hx with rfl | hx
    · exact ⟨L, ty, hty, hv⟩
    · exact F.1 x hx
  · rw [List.map_cons]; exact List.nodup_cons.mpr ⟨hn, F.2⟩
theorem Heaped.new {C : String} {fs : List OFld} (H : Heaped Z a0 n0 h D) (E : Ext h h') (A : Exa Z h' h.size C) (F : FieldsOk Z a0 C fs)
    (Dv : ∀ {O nm d : String} {ty : FieldType}, Laid Z a0 C O nm d → parseFieldDescriptor d = some ty → Fld Z h' h.size O nm d (defaultValue ty)) : Heaped Z a0 n0 h' ((h.size, C, fs) :: D.1, D.2) := by
  refine ⟨H.1.ext E, fun o ho => ?_, fun r hr => (H.2.2.1 r hr).ext E, ?_⟩
  · rcases List.mem_cons.mp ho with rfl | ho
    · refine ⟨H.base, A, fun x hx => ?_, F.2⟩
      obtain ⟨L, ty, h1, h2⟩ := F.1 x hx
      exact ⟨by rw [h2]; exact Dv L h1, L, ty, h1⟩
    · exact (H.2.1 o ho).ext E
  · exact List.nodup_cons.mpr ⟨H.fresh, H.2.2.2⟩
theorem Heaped.newArr {ty : FieldType} {c : Cell} {vs : List Value} (H : Heaped Z a0 n0 h D) (E : Ext h h') (A : Arr Z h' h.size c ty) (e1 : c.slots = vs.toArray) (e2 : vs.length < 2 ^ 31) (e3 : ∀ v ∈ vs, fits ty v = true) : Heaped Z a0 n0 h' (D.1, (h.size, ty, vs) :: D.2) := by
  refine ⟨H.1.ext E, fun o ho => (H.2.1 o ho).ext E, fun r hr => ?_, ?_⟩
  · rcases List.mem_cons.mp hr with rfl | hr
    · exact ⟨H.base, c, A, e1, e2, e3⟩
    · exact (H.2.2.1 r hr).ext E
  · have q : (adrs (D.1, (h.size, ty, vs) :: D.2)).Perm (h.size :: adrs D) := by
      unfold adrs; simp only [List.map_cons]; exact List.perm_middle
    exact q.nodup_iff.mpr (List.nodup_cons.mpr ⟨H.fresh, H.2.2.2⟩)
theorem Heaped.perm {D' : HD} (H : Heaped Z a0 n0 h D) (q1 : D'.1.Perm D.1) (q2 : D'.2.Perm D.2) : Heaped Z a0 n0 h D' := by
  refine ⟨H.1, fun o ho => H.2.1 o (q1.mem_iff.mp ho), fun o ho => H.2.2.1 o (q2.mem_iff.mp ho), ?_⟩
  exact ((q1.map _).append (q2.map _)).nodup_iff.mpr H.2.2.2
def bringL {β : Type} (i : Nat) (L : List β) : List β := match L[i]? with
  | some x => x :: (L.take i ++ L.drop (i + 1))
  | none => L
theorem bringL_perm {β : Type} (i : Nat) (L : List β) : (bringL i L).Perm L := by
  unfold bringL
  split
  · rename_i x hx
    obtain ⟨li, rfl⟩ := List.getElem?_eq_some_iff.mp hx
    have q : L = L.take i ++ L[i] :: L.drop (i + 1) := by rw [← List.drop_eq_getElem_cons li, List.take_append_drop]
    have p := (List.perm_middle (a := L[i]) (l₁ := L.take i) (l₂ := L.drop (i + 1))).symm
    rw [← q] at p
    exact p
  · exact List.Perm.refl _
end HeapFacts
/-! a contract, and a run from a point of a body to its end -/
def Con (l : Launch) (Z : State) (a0 : Array Value) (n0 : Nat) (ws : List Jvm.Cond) (y : MethodName) (bytes : ByteArray) (maxL : Nat) (ret : Option FieldType) (rm : Room) (as' : Array Value) (D : HD) (Ψ : Option Value → HD → Prop) : Prop :=
  ∀ h, Heaped Z a0 n0 h D → MetFree l y (head1 (Jvm.Cond.code y bytes maxL ret :: ws) rm) (fun a U => a = as' ∧ Z.Warmed39 U.vm ∧ U.heap = h) (fun _ _ _ _ _ => True) (fun _ U o U' => ∃ v L, o = .returned v ∧ (Fr n0 L ∧ ∃ D', Ψ v D' ∧ Heaped Z a0 n0 U'.heap D') ∧ FrameEnd U o U' L rm.cells rm.slots)
def Run (Z : State) (a0 : Array Value) (n0 : Nat) (p : Program) (l : Launch) (e : Env) (R : Room) (s : State) (m : MethodId) (args : Array Value) (below : List Frame) (meth : Method) (c : Code) (Ψ : Option Value → HD → Prop) (D : HD) (cells slots pc : Nat) (L : Array Slot) (S : List Value) : Prop :=
  ∀ (T : State) (locs : List Loc), Stand p l e R s m args below meth c T locs cells slots → Fr n0 locs → Heaped Z a0 n0 T.heap D →
    ∃ t o, Steps p.tables e below (T.setTop (mkF m pc L S)) t ∧ t.status = .running ∧ Ended t below o ∧ ∃ v L', o = .returned v ∧ (Fr n0 L' ∧ ∃ D', Ψ v D' ∧ Heaped Z a0 n0 t.heap D') ∧ FrameEnd s o t L' R.cells R.slots
def Ctx (Z : State) (y : MethodName) (bytes : ByteArray) (maxL : Nat) (ret : Option FieldType) (p : Program) (s : State) (m : MethodId) (meth : Method) (c : Code) : Prop :=
  p.tables.exec = Jvm.exec ∧ Z.Warmed39 s.vm ∧ c.code = bytes ∧ c.maxLocals = maxL ∧ s.vm.findClass y.cls = some m.cls ∧ meth.name = y.name ∧ meth.sig.returnType = ret ∧ meth.locks = false
def Ret (v : Option Value) (D : HD) (w : Option Value) (E : HD) : Prop := w = v ∧ E = D
theorem Con.of_run {l : Launch} {Z : State} {a0 : Array Value} {n0 : Nat} {ws : List Jvm.Cond} {y : MethodName} {bytes : ByteArray} {maxL : Nat} {ret : Option FieldType} {rm : Room} {as' : Array Value} {D : HD} {Ψ : Option Value → HD → Prop} (hp : plainFor y = true) {L0 : Array Slot} (hL : ∀ m, entryFrame m as' maxL = mkF m 0 L0 [])
    (B : ∀ p e s m below meth c, Ctx Z y bytes maxL ret p s m meth c → Run Z a0 n0 p l e rm s m as' below meth c Ψ D 0 0 0 L0 []) : Con l Z a0 n0 ws y bytes maxL ret rm as' D Ψ := by
  intro h H
  refine MetFree.of_bodySF hp hisR ?_
  intro p e s m args below meth c s₁ Bd hml0 hP hK
  obtain ⟨rfl, hZ, hh⟩ := hP
  have e0 : s₁.heap = h := by rw [← hh, Bd.state]; rfl
  have X0 : Stand p l e rm s m args below meth c s₁ [] 0 0 := Stand.of_body Bd
  obtain ⟨t, o, st, r⟩ := B p e s m below meth c ⟨Bd.exec, hZ, Bd.bytes, hml0, findClass_of_methodNamed Bd.named, (name_of_methodNamed Bd.named Bd.method).1, Bd.returns, Bd.notSynchronized⟩ s₁ [] X0 (Fr.nil n0) (by rw [e0]; exact H)
  exact ⟨t, o, castTop (hL m) st, r⟩
def rel (cd : ClassFile.Cond) (x y : Int32) : Prop := match cd with
  | .eq => x = y
  | .ne => x ≠ y
  | .lt => x < y
  | .ge => y ≤ x
  | .gt => y < x
  | .le => x ≤ y
def relL (cd : ClassFile.Cond) (x y : Int64) : Prop := match cd with
  | .eq => x = y
  | .ne => x ≠ y
  | .lt => x < y
  | .ge => y ≤ x
  | .gt => y < x
  | .le => x ≤ y
theorem rel_iff (cd : ClassFile.Cond) (x y : Int32) : if_icmp.holds cd x y = true ↔ rel cd x y := by
  cases cd
  · show _ ↔ x = y
    by_cases q : x = y
    · rw [(teq q).1]; exact ⟨fun _ => q, fun _ => rfl⟩
    · rw [(feq q).1]; exact ⟨fun h => (Bool.noConfusion h), fun h => absurd h q⟩
  · show _ ↔ x ≠ y
    by_cases q : x = y
    · rw [(teq q).2]; exact ⟨fun h => (Bool.noConfusion h), fun h => absurd q h⟩
    · rw [(feq q).2]; exact ⟨fun _ => q, fun _ => rfl⟩
  · show _ ↔ x < y
    by_cases q : x < y
    · rw [(tlt q).1]; exact ⟨fun _ => q, fun _ => rfl⟩
    · rw [(flt q).1]; exact ⟨fun h => (Bool.noConfusion h), fun h => absurd h q⟩
  · show _ ↔ y ≤ x
    by_cases q : x < y
    · rw [(tlt q).2.1]; exact ⟨fun h => (Bool.noConfusion h), fun h => absurd q (Int32.not_lt.mpr h)⟩
    · rw [(flt q).2.1]; exact ⟨fun _ => Int32.not_lt.mp q, fun _ => rfl⟩
  · show _ ↔ y < x
    by_cases q : y < x
    · rw [(tlt q).2.2.1]; exact ⟨fun _ => q, fun _ => rfl⟩
    · rw [(flt q).2.2.1]; exact ⟨fun h => (Bool.noConfusion h), fun h => absurd h q⟩
  · show _ ↔ x ≤ y
    by_cases q : y < x
    · rw [(tlt q).2.2.2]; exact ⟨fun h => (Bool.noConfusion h), fun h => absurd q (Int32.not_lt.mpr h)⟩
    · rw [(flt q).2.2.2]; exact ⟨fun _ => Int32.not_lt.mp q, fun _ => rfl⟩
theorem relL_iff (cd : ClassFile.Cond) (x y : Int64) : if_icmp.holds cd (lcmpW x y) 0 = true ↔ relL cd x y := by
  rw [rel_iff, lcW]
  cases cd
  · exact lc_eq x y
  · exact not_congr (lc_eq x y)
  · exact lc_lt x y
  · exact lc_ge x y
  · exact lc_gt x y
  · exact lc_le x y
section Runs
variable {Z : State} {a0 : Array Value} {n0 : Nat} {p : Program} {l : Launch} {e : Env} {R : Room} {s : State} {m : MethodId} {args : Array Value} {below : List Frame} {meth : Method} {c : Code} {Ψ : Option Value → HD → Prop} {D : HD} {cells slots pc : Nat} {L : Array Slot} {S : List Value} {y : MethodName} {bytes : ByteArray} {maxL : Nat} {ret : Option FieldType}

theorem Run.iconst (K : Ctx Z y bytes maxL ret p s m meth c) {i : Int} {v : Int32} {pc' : Nat} (hd : decode bytes pc = .ok (.iconst i, 1)) (hp : pc + 1 = pc') (hv : Int32.ofInt i = v) (k : Run Z a0 n0 p l e R s m args below meth c Ψ D cells slots pc' L (.int v :: S)) : Run Z a0 n0 p l e R s m args below meth c Ψ D cells slots pc L S := by
  subst hp hv
  intro T locs X N H
  obtain ⟨t, o, st, r⟩ := k T locs X N H
  exact ⟨t, o, XS.iconst X.here K.1 rfl (hb K.2.2.1 hd) st, r⟩
theorem Run.bipush (K : Ctx Z y bytes maxL ret p s m meth c) {i : Int} {v : Int32} {pc' : Nat} (hd : decode bytes pc = .ok (.bipush i, 2)) (hp : pc + 2 = pc') (hv : (Int8.ofInt i).toInt32 = v) (k : Run Z a0 n0 p l e R s m args below meth c Ψ D cells slots pc' L (.int v :: S)) : Run Z a0 n0 p l e R s m args below meth c Ψ D cells slots pc L S := by
  subst hp hv
  intro T locs X N H
  obtain ⟨t, o, st, r⟩ := k T locs X N H
  exact ⟨t, o, XS.bipush X.here K.1 rfl (hb K.2.2.1 hd) st, r⟩
theorem Run.sipush (K : Ctx Z y bytes maxL ret p s m meth c) {i : Int} {v : Int32} {pc' : Nat} (hd : decode bytes pc = .ok (.sipush i, 3)) (hp : pc + 3 = pc') (hv : (Int16.ofInt i).toInt32 = v) (k : Run Z a0 n0 p l e R s m args below meth c Ψ D cells slots pc' L (.int v :: S)) : Run Z a0 n0 p l e R s m args below meth c Ψ D cells slots pc L S := by
  subst hp hv
  intro T locs X N H
  obtain ⟨t, o, st, r⟩ := k T locs X N H
  exact ⟨t, o, XS.sipush X.here K.1 rfl (hb K.2.2.1 hd) st, r⟩
theorem Run.lconst (K : Ctx Z y bytes maxL ret p s m meth c) {i : Fin 2} {v : Int64} {pc' : Nat} (hd : decode bytes pc = .ok (.lconst i, 1)) (hp : pc + 1 = pc') (hv : Int64.ofNat i = v) (k : Run Z a0 n0 p l e R s m args below meth c Ψ D cells slots pc' L (.long v :: S)) : Run Z a0 n0 p l e R s m args below meth c Ψ D cells slots pc L S := by
  subst hp hv
  intro T locs X N H
  obtain ⟨t, o, st, r⟩ := k T locs X N H
  exact ⟨t, o, XS.lconst X.here K.1 rfl (hb K.2.2.1 hd) st, r⟩
theorem Run.aconstNull (K : Ctx Z y bytes maxL ret p s m meth c) {pc' : Nat} (hd : decode bytes pc = .ok (.aconst_null, 1)) (hp : pc + 1 = pc') (k : Run Z a0 n0 p l e R s m args below meth c Ψ D cells slots pc' L (.null :: S)) : Run Z a0 n0 p l e R s m args below meth c Ψ D cells slots pc L S := by
  subst hp
  intro T locs X N H
  obtain ⟨t, o, st, r⟩ := k T locs X N H
  exact ⟨t, o, XS.aconstNull X.here K.1 rfl (hb K.2.2.1 hd) st, r⟩
theorem Run.iadd (K : Ctx Z y bytes maxL ret p s m meth c) {x z : Int32} {pc' : Nat} (hd : decode bytes pc = .ok (.iadd, 1)) (hp : pc + 1 = pc') (k : Run Z a0 n0 p l e R s m args below meth c Ψ D cells slots pc' L (.int (x + z) :: S)) : Run Z a0 n0 p l e R s m args below meth c Ψ D cells slots pc L (.int z :: .int x :: S) := by
  subst hp
  intro T locs X N H
  obtain ⟨t, o, st, r⟩ := k T locs X N H
  exact ⟨t, o, XS.iadd X.here K.1 rfl (hb K.2.2.1 hd) rfl st, r⟩
theorem Run.isub (K : Ctx Z y bytes maxL ret p s m meth c) {x z : Int32} {pc' : Nat} (hd : decode bytes pc = .ok (.isub, 1)) (hp : pc + 1 = pc') (k : Run Z a0 n0 p l e R s m args below meth c Ψ D cells slots pc' L (.int (x - z) :: S)) : Run Z a0 n0 p l e R s m args below meth c Ψ D cells slots pc L (.int z :: .int x :: S) := by
  subst hp
  intro T locs X N H
  obtain ⟨t, o, st, r⟩ := k T locs X N H
  exact ⟨t, o, XS.isub X.here K.1 rfl (hb K.2.2.1 hd) rfl st, r⟩
theorem Run.imul (K : Ctx Z y bytes maxL ret p s m meth c) {x z : Int32} {pc' : Nat} (hd : decode bytes pc = .ok (.imul, 1)) (hp : pc + 1 = pc') (k : Run Z a0 n0 p l e R s m args below meth c Ψ D cells slots pc' L (.int (x * z) :: S)) : Run Z a0 n0 p l e R s m args below meth c Ψ D cells slots pc L (.int z :: .int x :: S) := by
  subst hp
  intro T locs X N H
  obtain ⟨t, o, st, r⟩ := k T locs X N H
  exact ⟨t, o, XS.imul X.here K.1 rfl (hb K.2.2.1 hd) rfl st, r⟩
theorem Run.iand (K : Ctx Z y bytes maxL ret p s m meth c) {x z : Int32} {pc' : Nat} (hd : decode bytes pc = .ok (.iand, 1)) (hp : pc + 1 = pc') (k : Run Z a0 n0 p l e R s m args below meth c Ψ D cells slots pc' L (.int (x &&& z) :: S)) : Run Z a0 n0 p l e R s m args below meth c Ψ D cells slots pc L (.int z :: .int x :: S) := by
  subst hp
  intro T locs X N H
  obtain ⟨t, o, st, r⟩ := k T locs X N H
  exact ⟨t, o, XS.iand X.here K.1 rfl (hb K.2.2.1 hd) rfl st, r⟩
theorem Run.ior (K : Ctx Z y bytes maxL ret p s m meth c) {x z : Int32} {pc' : Nat} (hd : decode bytes pc = .ok (.ior, 1)) (hp : pc + 1 = pc') (k : Run Z a0 n0 p l e R s m args below meth c Ψ D cells slots pc' L (.int (x ||| z) :: S)) : Run Z a0 n0 p l e R s m args below meth c Ψ D cells slots pc L (.int z :: .int x :: S) := by
  subst hp
  intro T locs X N H
  obtain ⟨t, o, st, r⟩ := k T locs X N H
  exact ⟨t, o, XS.ior X.here K.1 rfl (hb K.2.2.1 hd) rfl st, r⟩
theorem Run.ixor (K : Ctx Z y bytes maxL ret p s m meth c) {x z : Int32} {pc' : Nat} (hd : decode bytes pc = .ok (.ixor, 1)) (hp : pc + 1 = pc') (k : Run Z a0 n0 p l e R s m args below meth c Ψ D cells slots pc' L (.int (x ^^^ z) :: S)) : Run Z a0 n0 p l e R s m args below meth c Ψ D cells slots pc L (.int z :: .int x :: S) := by
  subst hp
  intro T locs X N H
  obtain ⟨t, o, st, r⟩ := k T locs X N H
  exact ⟨t, o, XS.ixor X.here K.1 rfl (hb K.2.2.1 hd) rfl st, r⟩
theorem Run.ishl (K : Ctx Z y bytes maxL ret p s m meth c) {x z : Int32} {pc' : Nat} (hd : decode bytes pc = .ok (.ishl, 1)) (hp : pc + 1 = pc') (k : Run Z a0 n0 p l e R s m args below meth c Ψ D cells slots pc' L (.int (x <<< (z &&& 31)) :: S)) : Run Z a0 n0 p l e R s m args below meth c Ψ D cells slots pc L (.int z :: .int x :: S) := by
  subst hp
  intro T locs X N H
  obtain ⟨t, o, st, r⟩ := k T locs X N H
  exact ⟨t, o, XS.ishl X.here K.1 rfl (hb K.2.2.1 hd) rfl st, r⟩
theorem Run.ishr (K : Ctx Z y bytes maxL ret p s m meth c) {x z : Int32} {pc' : Nat} (hd : decode bytes pc = .ok (.ishr, 1)) (hp : pc + 1 = pc') (k : Run Z a0 n0 p l e R s m args below meth c Ψ D cells slots pc' L (.int (x >>> (z &&& 31)) :: S)) : Run Z a0 n0 p l e R s m args below meth c Ψ D cells slots pc L (.int z :: .int x :: S) := by
  subst hp
  intro T locs X N H
  obtain ⟨t, o, st, r⟩ := k T locs X N H
  exact ⟨t, o, XS.ishr X.here K.1 rfl (hb K.2.2.1 hd) rfl st, r⟩
theorem Run.iushr (K : Ctx Z y bytes maxL ret p s m meth c) {x z : Int32} {pc' : Nat} (hd : decode bytes pc = .ok (.iushr, 1)) (hp : pc + 1 = pc') (k : Run Z a0 n0 p l e R s m args below meth c Ψ D cells slots pc' L (.int ((x.toUInt32 >>> (z &&& 31).toUInt32).toInt32) :: S)) : Run Z a0 n0 p l e R s m args below meth c Ψ D cells slots pc L (.int z :: .int x :: S) := by
  subst hp
  intro T locs X N H
  obtain ⟨t, o, st, r⟩ := k T locs X N H
  exact ⟨t, o, XS.iushr X.here K.1 rfl (hb K.2.2.1 hd) rfl st, r⟩
theorem Run.idiv (K : Ctx Z y bytes maxL ret p s m meth c) {x z : Int32} {pc' : Nat} (hd : decode bytes pc = .ok (.idiv, 1)) (hp : pc + 1 = pc') (hz : z ≠ 0) (k : Run Z a0 n0 p l e R s m args below meth c Ψ D cells slots pc' L (.int (x / z) :: S)) : Run Z a0 n0 p l e R s m args below meth c Ψ D cells slots pc L (.int z :: .int x :: S) := by
  subst hp
  intro T locs X N H
  obtain ⟨t, o, st, r⟩ := k T locs X N H
  exact ⟨t, o, XS.idiv X.here K.1 rfl (hb K.2.2.1 hd) rfl hz st, r⟩
theorem Run.irem (K : Ctx Z y bytes maxL ret p s m meth c) {x z : Int32} {pc' : Nat} (hd : decode bytes pc = .ok (.irem, 1)) (hp : pc + 1 = pc') (hz : z ≠ 0) (k : Run Z a0 n0 p l e R s m args below meth c Ψ D cells slots pc' L (.int (x % z) :: S)) : Run Z a0 n0 p l e R s m args below meth c Ψ D cells slots pc L (.int z :: .int x :: S) := by
  subst hp
  intro T locs X N H
  obtain ⟨t, o, st, r⟩ := k T locs X N H
  exact ⟨t, o, iremM X K.1 rfl (hb K.2.2.1 hd) rfl hz st, r⟩
theorem Run.ineg (K : Ctx Z y bytes maxL ret p s m meth c) {x : Int32} {pc' : Nat} (hd : decode bytes pc = .ok (.ineg, 1)) (hp : pc + 1 = pc') (k : Run Z a0 n0 p l e R s m args below meth c Ψ D cells slots pc' L (.int (-x) :: S)) : Run Z a0 n0 p l e R s m args below meth c Ψ D cells slots pc L (.int x :: S) := by
  subst hp
  intro T locs X N H
  obtain ⟨t, o, st, r⟩ := k T locs X N H
  exact ⟨t, o, XS.ineg X.here K.1 rfl (hb K.2.2.1 hd) rfl st, r⟩
theorem Run.ladd (K : Ctx Z y bytes maxL ret p s m meth c) {x z : Int64} {pc' : Nat} (hd : decode bytes pc = .ok (.ladd, 1)) (hp : pc + 1 = pc') (k : Run Z a0 n0 p l e R s m args below meth c Ψ D cells slots pc' L (.long (x + z) :: S)) : Run Z a0 n0 p l e R s m args below meth c Ψ D cells slots pc L (.long z :: .long x :: S) := by
  subst hp
  intro T locs X N H
  obtain ⟨t, o, st, r⟩ := k T locs X N H
  exact ⟨t, o, XS.ladd X.here K.1 rfl (hb K.2.2.1 hd) rfl st, r⟩
theorem Run.lsub (K : Ctx Z y bytes maxL ret p s m meth c) {x z : Int64} {pc' : Nat} (hd : decode bytes pc = .ok (.lsub, 1)) (hp : pc + 1 = pc') (k : Run Z a0 n0 p l e R s m args below meth c Ψ D cells slots pc' L (.long (x - z) :: S)) : Run Z a0 n0 p l e R s m args below meth c Ψ D cells slots pc L (.long z :: .long x :: S) := by
  subst hp
  intro T locs X N H
  obtain ⟨t, o, st, r⟩ := k T locs X N H
  exact ⟨t, o, XS.lsub X.here K.1 rfl (hb K.2.2.1 hd) rfl st, r⟩
theorem Run.lmul (K : Ctx Z y bytes maxL ret p s m meth c) {x z : Int64} {pc' : Nat} (hd : decode bytes pc = .ok (.lmul, 1)) (hp : pc + 1 = pc') (k : Run Z a0 n0 p l e R s m args below meth c Ψ D cells slots pc' L (.long (x * z) :: S)) : Run Z a0 n0 p l e R s m args below meth c Ψ D cells slots pc L (.long z :: .long x :: S) := by
  subst hp
  intro T locs X N H
  obtain ⟨t, o, st, r⟩ := k T locs X N H
  exact ⟨t, o, XS.lmul X.here K.1 rfl (hb K.2.2.1 hd) rfl st, r⟩
theorem Run.land (K : Ctx Z y bytes maxL ret p s m meth c) {x z : Int64} {pc' : Nat} (hd : decode bytes pc = .ok (.land, 1)) (hp : pc + 1 = pc') (k : Run Z a0 n0 p l e R s m args below meth c Ψ D cells slots pc' L (.long (x &&& z) :: S)) : Run Z a0 n0 p l e R s m args below meth c Ψ D cells slots pc L (.long z :: .long x :: S) := by
  subst hp
  intro T locs X N H
  obtain ⟨t, o, st, r⟩ := k T locs X N H
  exact ⟨t, o, XS.land X.here K.1 rfl (hb K.2.2.1 hd) rfl st, r⟩
theorem Run.lor (K : Ctx Z y bytes maxL ret p s m meth c) {x z : Int64} {pc' : Nat} (hd : decode bytes pc = .ok (.lor, 1)) (hp : pc + 1 = pc') (k : Run Z a0 n0 p l e R s m args below meth c Ψ D cells slots pc' L (.long (x ||| z) :: S)) : Run Z a0 n0 p l e R s m args below meth c Ψ D cells slots pc L (.long z :: .long x :: S) := by
  subst hp
  intro T locs X N H
  obtain ⟨t, o, st, r⟩ := k T locs X N H
  exact ⟨t, o, XS.lor X.here K.1 rfl (hb K.2.2.1 hd) rfl st, r⟩
theorem Run.lxor (K : Ctx Z y bytes maxL ret p s m meth c) {x z : Int64} {pc' : Nat} (hd : decode bytes pc = .ok (.lxor, 1)) (hp : pc + 1 = pc') (k : Run Z a0 n0 p l e R s m args below meth c Ψ D cells slots pc' L (.long (x ^^^ z) :: S)) : Run Z a0 n0 p l e R s m args below meth c Ψ D cells slots pc L (.long z :: .long x :: S) := by
  subst hp
  intro T locs X N H
  obtain ⟨t, o, st, r⟩ := k T locs X N H
  exact ⟨t, o, XS.lxor X.here K.1 rfl (hb K.2.2.1 hd) rfl st, r⟩
theorem Run.ldiv (K : Ctx Z y bytes maxL ret p s m meth c) {x z : Int64} {pc' : Nat} (hd : decode bytes pc = .ok (.ldiv, 1)) (hp : pc + 1 = pc') (hz : z ≠ 0) (k : Run Z a0 n0 p l e R s m args below meth c Ψ D cells slots pc' L (.long (x / z) :: S)) : Run Z a0 n0 p l e R s m args below meth c Ψ D cells slots pc L (.long z :: .long x :: S) := by
  subst hp
  intro T locs X N H
  obtain ⟨t, o, st, r⟩ := k T locs X N H
  exact ⟨t, o, XS.ldiv X.here K.1 rfl (hb K.2.2.1 hd) rfl hz st, r⟩
theorem Run.lrem (K : Ctx Z y bytes maxL ret p s m meth c) {x z : Int64} {pc' : Nat} (hd : decode bytes pc = .ok (.lrem, 1)) (hp : pc + 1 = pc') (hz : z ≠ 0) (k : Run Z a0 n0 p l e R s m args below meth c Ψ D cells slots pc' L (.long (x % z) :: S)) : Run Z a0 n0 p l e R s m args below meth c Ψ D cells slots pc L (.long z :: .long x :: S) := by
  subst hp
  rw [← lrem_mod] at k
  intro T locs X N H
  obtain ⟨t, o, st, r⟩ := k T locs X N H
  exact ⟨t, o, XS.lrem X.here K.1 rfl (hb K.2.2.1 hd) rfl hz st, r⟩
theorem Run.lneg (K : Ctx Z y bytes maxL ret p s m meth c) {x : Int64} {pc' : Nat} (hd : decode bytes pc = .ok (.lneg, 1)) (hp : pc + 1 = pc') (k : Run Z a0 n0 p l e R s m args below meth c Ψ D cells slots pc' L (.long (-x) :: S)) : Run Z a0 n0 p l e R s m args below meth c Ψ D cells slots pc L (.long x :: S) := by
  subst hp
  intro T locs X N H
  obtain ⟨t, o, st, r⟩ := k T locs X N H
  exact ⟨t, o, XS.lneg X.here K.1 rfl (hb K.2.2.1 hd) rfl st, r⟩
theorem Run.lshl (K : Ctx Z y bytes maxL ret p s m meth c) {x : Int64} {z : Int32} {pc' : Nat} (hd : decode bytes pc = .ok (.lshl, 1)) (hp : pc + 1 = pc') (k : Run Z a0 n0 p l e R s m args below meth c Ψ D cells slots pc' L (.long (x <<< (z &&& 0x3f).toInt64) :: S)) : Run Z a0 n0 p l e R s m args below meth c Ψ D cells slots pc L (.int z :: .long x :: S) := by
  subst hp
  intro T locs X N H
  obtain ⟨t, o, st, r⟩ := k T locs X N H
  exact ⟨t, o, XS.lshl X.here K.1 rfl (hb K.2.2.1 hd) rfl st, r⟩
theorem Run.lshr (K : Ctx Z y bytes maxL ret p s m meth c) {x : Int64} {z : Int32} {pc' : Nat} (hd : decode bytes pc = .ok (.lshr, 1)) (hp : pc + 1 = pc') (k : Run Z a0 n0 p l e R s m args below meth c Ψ D cells slots pc' L (.long (x >>> (z &&& 0x3f).toInt64) :: S)) : Run Z a0 n0 p l e R s m args below meth c Ψ D cells slots pc L (.int z :: .long x :: S) := by
  subst hp
  intro T locs X N H
  obtain ⟨t, o, st, r⟩ := k T locs X N H
  exact ⟨t, o, XS.lshr X.here K.1 rfl (hb K.2.2.1 hd) rfl st, r⟩
theorem Run.lushr (K : Ctx Z y bytes maxL ret p s m meth c) {x : Int64} {z : Int32} {pc' : Nat} (hd : decode bytes pc = .ok (.lushr, 1)) (hp : pc + 1 = pc') (k : Run Z a0 n0 p l e R s m args below meth c Ψ D cells slots pc' L (.long ((x.toUInt64 >>> (z &&& 0x3f).toInt64.toUInt64).toInt64) :: S)) : Run Z a0 n0 p l e R s m args below meth c Ψ D cells slots pc L (.int z :: .long x :: S) := by
  subst hp
  intro T locs X N H
  obtain ⟨t, o, st, r⟩ := k T locs X N H
  exact ⟨t, o, XS.lushr X.here K.1 rfl (hb K.2.2.1 hd) rfl st, r⟩
theorem Run.i2l (K : Ctx Z y bytes maxL ret p s m meth c) {x : Int32} {pc' : Nat} (hd : decode bytes pc = .ok (.i2l, 1)) (hp : pc + 1 = pc') (k : Run Z a0 n0 p l e R s m args below meth c Ψ D cells slots pc' L (.long (x.toInt64) :: S)) : Run Z a0 n0 p l e R s m args below meth c Ψ D cells slots pc L (.int x :: S) := by
  subst hp
  intro T locs X N H
  obtain ⟨t, o, st, r⟩ := k T locs X N H
  exact ⟨t, o, XS.i2l X.here K.1 rfl (hb K.2.2.1 hd) rfl st, r⟩
theorem Run.l2i (K : Ctx Z y bytes maxL ret p s m meth c) {x : Int64} {pc' : Nat} (hd : decode bytes pc = .ok (.l2i, 1)) (hp : pc + 1 = pc') (k : Run Z a0 n0 p l e R s m args below meth c Ψ D cells slots pc' L (.int (x.toInt32) :: S)) : Run Z a0 n0 p l e R s m args below meth c Ψ D cells slots pc L (.long x :: S) := by
  subst hp
  intro T locs X N H
  obtain ⟨t, o, st, r⟩ := k T locs X N H
  exact ⟨t, o, XS.l2i X.here K.1 rfl (hb K.2.2.1 hd) rfl st, r⟩
theorem Run.i2b (K : Ctx Z y bytes maxL ret p s m meth c) {x : Int32} {pc' : Nat} (hd : decode bytes pc = .ok (.i2b, 1)) (hp : pc + 1 = pc') (k : Run Z a0 n0 p l e R s m args below meth c Ψ D cells slots pc' L (.int (x.toInt8.toInt32) :: S)) : Run Z a0 n0 p l e R s m args below meth c Ψ D cells slots pc L (.int x :: S) := by
  subst hp
  intro T locs X N H
  obtain ⟨t, o, st, r⟩ := k T locs X N H
  exact ⟨t, o, XS.i2b X.here K.1 rfl (hb K.2.2.1 hd) rfl st, r⟩
theorem Run.i2c (K : Ctx Z y bytes maxL ret p s m meth c) {x : Int32} {pc' : Nat} (hd : decode bytes pc = .ok (.i2c, 1)) (hp : pc + 1 = pc') (k : Run Z a0 n0 p l e R s m args below meth c Ψ D cells slots pc' L (.int (x.toUInt32.toUInt16.toUInt32.toInt32) :: S)) : Run Z a0 n0 p l e R s m args below meth c Ψ D cells slots pc L (.int x :: S) := by
  subst hp
  intro T locs X N H
  obtain ⟨t, o, st, r⟩ := k T locs X N H
  exact ⟨t, o, XS.i2c X.here K.1 rfl (hb K.2.2.1 hd) rfl st, r⟩
theorem Run.i2s (K : Ctx Z y bytes maxL ret p s m meth c) {x : Int32} {pc' : Nat} (hd : decode bytes pc = .ok (.i2s, 1)) (hp : pc + 1 = pc') (k : Run Z a0 n0 p l e R s m args below meth c Ψ D cells slots pc' L (.int (x.toInt16.toInt32) :: S)) : Run Z a0 n0 p l e R s m args below meth c Ψ D cells slots pc L (.int x :: S) := by
  subst hp
  intro T locs X N H
  obtain ⟨t, o, st, r⟩ := k T locs X N H
  exact ⟨t, o, XS.i2s X.here K.1 rfl (hb K.2.2.1 hd) rfl st, r⟩
theorem Run.lcmp (K : Ctx Z y bytes maxL ret p s m meth c) {x z : Int64} {pc' : Nat} (hd : decode bytes pc = .ok (.lcmp, 1)) (hp : pc + 1 = pc') (k : Run Z a0 n0 p l e R s m args below meth c Ψ D cells slots pc' L (.int (lcmpW x z) :: S)) : Run Z a0 n0 p l e R s m args below meth c Ψ D cells slots pc L (.long z :: .long x :: S) := by
  subst hp
  intro T locs X N H
  obtain ⟨t, o, st, r⟩ := k T locs X N H
  exact ⟨t, o, XS.lcmp X.here K.1 rfl (hb K.2.2.1 hd) rfl st, r⟩
theorem Run.dup (K : Ctx Z y bytes maxL ret p s m meth c) {v : Value} {pc' : Nat} (hd : decode bytes pc = .ok (.dup, 1)) (hp : pc + 1 = pc') (hc : v.category = 1) (k : Run Z a0 n0 p l e R s m args below meth c Ψ D cells slots pc' L (v :: v :: S)) : Run Z a0 n0 p l e R s m args below meth c Ψ D cells slots pc L (v :: S) := by
  subst hp
  intro T locs X N H
  obtain ⟨t, o, st, r⟩ := k T locs X N H
  exact ⟨t, o, XS.dup X.here K.1 rfl (hb K.2.2.1 hd) rfl hc st, r⟩
theorem Run.pop (K : Ctx Z y bytes maxL ret p s m meth c) {v : Value} {pc' : Nat} (hd : decode bytes pc = .ok (.pop, 1)) (hp : pc + 1 = pc') (hc : v.category = 1) (k : Run Z a0 n0 p l e R s m args below meth c Ψ D cells slots pc' L S) : Run Z a0 n0 p l e R s m args below meth c Ψ D cells slots pc L (v :: S) := by
  subst hp
  intro T locs X N H
  obtain ⟨t, o, st, r⟩ := k T locs X N H
  exact ⟨t, o, XS.pop X.here K.1 rfl (hb K.2.2.1 hd) rfl hc st, r⟩
theorem Run.dupX1 (K : Ctx Z y bytes maxL ret p s m meth c) {v w : Value} {pc' : Nat} (hd : decode bytes pc = .ok (.dup_x1, 1)) (hp : pc + 1 = pc') (hc : v.category = 1) (hc2 : w.category = 1) (k : Run Z a0 n0 p l e R s m args below meth c Ψ D cells slots pc' L (v :: w :: v :: S)) : Run Z a0 n0 p l e R s m args below meth c Ψ D cells slots pc L (v :: w :: S) := by
  subst hp
  intro T locs X N H
  obtain ⟨t, o, st, r⟩ := k T locs X N H
  exact ⟨t, o, XS.dupX1 X.here K.1 rfl (hb K.2.2.1 hd) rfl hc hc2 st, r⟩
theorem Run.iload (K : Ctx Z y bytes maxL ret p s m meth c) {j : Nat} {v : Int32} {pc' : Nat} (hd : decode bytes pc = .ok (.iload j, 2)) (hp : pc + 2 = pc') (hl : L[j]? = some (.val (.int v))) (k : Run Z a0 n0 p l e R s m args below meth c Ψ D cells slots pc' L (.int v :: S)) : Run Z a0 n0 p l e R s m args below meth c Ψ D cells slots pc L S := by
  subst hp
  intro T locs X N H
  obtain ⟨t, o, st, r⟩ := k T locs X N H
  exact ⟨t, o, XS.iload X.here K.1 rfl (hb K.2.2.1 hd) hl st, r⟩
theorem Run.iloadN (K : Ctx Z y bytes maxL ret p s m meth c) {j : Fin 4} {v : Int32} {pc' : Nat} (hd : decode bytes pc = .ok (.iload_n j, 1)) (hp : pc + 1 = pc') (hl : L[j.val]? = some (.val (.int v))) (k : Run Z a0 n0 p l e R s m args below meth c Ψ D cells slots pc' L (.int v :: S)) : Run Z a0 n0 p l e R s m args below meth c Ψ D cells slots pc L S := by
  subst hp
  intro T locs X N H
  obtain ⟨t, o, st, r⟩ := k T locs X N H
  exact ⟨t, o, XS.iloadN X.here K.1 rfl (hb K.2.2.1 hd) hl st, r⟩
theorem Run.istore (K : Ctx Z y bytes maxL ret p s m meth c) {j : Nat} {v : Int32} {L' : Array Slot} {pc' : Nat} (hd : decode bytes pc = .ok (.istore j, 2)) (hp : pc + 2 = pc') (hl : storeLocals L j (.int v) = some L') (k : Run Z a0 n0 p l e R s m args below meth c Ψ D cells slots pc' L' S) : Run Z a0 n0 p l e R s m args below meth c Ψ D cells slots pc L (.int v :: S) := by
  subst hp
  intro T locs X N H
  obtain ⟨t, o, st, r⟩ := k T locs X N H
  exact ⟨t, o, XS.istore X.here K.1 rfl (hb K.2.2.1 hd) rfl hl st, r⟩
theorem Run.istoreN (K : Ctx Z y bytes maxL ret p s m meth c) {j : Fin 4} {v : Int32} {L' : Array Slot} {pc' : Nat} (hd : decode bytes pc = .ok (.istore_n j, 1)) (hp : pc + 1 = pc') (hl : storeLocals L j.val (.int v) = some L') (k : Run Z a0 n0 p l e R s m args below meth c Ψ D cells slots pc' L' S) : Run Z a0 n0 p l e R s m args below meth c Ψ D cells slots pc L (.int v :: S) := by
  subst hp
  intro T locs X N H
  obtain ⟨t, o, st, r⟩ := k T locs X N H
  exact ⟨t, o, XS.istoreN X.here K.1 rfl (hb K.2.2.1 hd) rfl hl st, r⟩
theorem Run.lload (K : Ctx Z y bytes maxL ret p s m meth c) {j : Nat} {v : Int64} {pc' : Nat} (hd : decode bytes pc = .ok (.lload j, 2)) (hp : pc + 2 = pc') (hl : L[j]? = some (.val (.long v))) (k : Run Z a0 n0 p l e R s m args below meth c Ψ D cells slots pc' L (.long v :: S)) : Run Z a0 n0 p l e R s m args below meth c Ψ D cells slots pc L S := by
  subst hp
  intro T locs X N H
  obtain ⟨t, o, st, r⟩ := k T locs X N H
  exact ⟨t, o, XS.lload X.here K.1 rfl (hb K.2.2.1 hd) hl st, r⟩
theorem Run.lloadN (K : Ctx Z y bytes maxL ret p s m meth c) {j : Fin 4} {v : Int64} {pc' : Nat} (hd : decode bytes pc = .ok (.lload_n j, 1)) (hp : pc + 1 = pc') (hl : L[j.val]? = some (.val (.long v))) (k : Run Z a0 n0 p l e R s m args below meth c Ψ D cells slots pc' L (.long v :: S)) : Run Z a0 n0 p l e R s m args below meth c Ψ D cells slots pc L S := by
  subst hp
  intro T locs X N H
  obtain ⟨t, o, st, r⟩ := k T locs X N H
  exact ⟨t, o, XS.lloadN X.here K.1 rfl (hb K.2.2.1 hd) hl st, r⟩
theorem Run.lstore (K : Ctx Z y bytes maxL ret p s m meth c) {j : Nat} {v : Int64} {L' : Array Slot} {pc' : Nat} (hd : decode bytes pc = .ok (.lstore j, 2)) (hp : pc + 2 = pc') (hl : storeLocals L j (.long v) = some L') (k : Run Z a0 n0 p l e R s m args below meth c Ψ D cells slots pc' L' S) : Run Z a0 n0 p l e R s m args below meth c Ψ D cells slots pc L (.long v :: S) := by
  subst hp
  intro T locs X N H
  obtain ⟨t, o, st, r⟩ := k T locs X N H
  exact ⟨t, o, XS.lstore X.here K.1 rfl (hb K.2.2.1 hd) rfl hl st, r⟩
theorem Run.lstoreN (K : Ctx Z y bytes maxL ret p s m meth c) {j : Fin 4} {v : Int64} {L' : Array Slot} {pc' : Nat} (hd : decode bytes pc = .ok (.lstore_n j, 1)) (hp : pc + 1 = pc') (hl : storeLocals L j.val (.long v) = some L') (k : Run Z a0 n0 p l e R s m args below meth c Ψ D cells slots pc' L' S) : Run Z a0 n0 p l e R s m args below meth c Ψ D cells slots pc L (.long v :: S) := by
  subst hp
  intro T locs X N H
  obtain ⟨t, o, st, r⟩ := k T locs X N H
  exact ⟨t, o, XS.lstoreN X.here K.1 rfl (hb K.2.2.1 hd) rfl hl st, r⟩
theorem Run.aload (K : Ctx Z y bytes maxL ret p s m meth c) {j : Nat} {v : Value} {pc' : Nat} (hd : decode bytes pc = .ok (.aload j, 2)) (hp : pc + 2 = pc') (hl : L[j]? = some (.val v)) (hv : v.isRef = true) (k : Run Z a0 n0 p l e R s m args below meth c Ψ D cells slots pc' L (v :: S)) : Run Z a0 n0 p l e R s m args below meth c Ψ D cells slots pc L S := by
  subst hp
  intro T locs X N H
  obtain ⟨t, o, st, r⟩ := k T locs X N H
  exact ⟨t, o, XS.aload X.here K.1 rfl (hb K.2.2.1 hd) hl hv st, r⟩
theorem Run.aloadN (K : Ctx Z y bytes maxL ret p s m meth c) {j : Fin 4} {v : Value} {pc' : Nat} (hd : decode bytes pc = .ok (.aload_n j, 1)) (hp : pc + 1 = pc') (hl : L[j.val]? = some (.val v)) (hv : v.isRef = true) (k : Run Z a0 n0 p l e R s m args below meth c Ψ D cells slots pc' L (v :: S)) : Run Z a0 n0 p l e R s m args below meth c Ψ D cells slots pc L S := by
  subst hp
  intro T locs X N H
  obtain ⟨t, o, st, r⟩ := k T locs X N H
  exact ⟨t, o, XS.aloadN X.here K.1 rfl (hb K.2.2.1 hd) hl hv st, r⟩
theorem Run.astore (K : Ctx Z y bytes maxL ret p s m meth c) {j : Nat} {v : Value} {L' : Array Slot} {pc' : Nat} (hd : decode bytes pc = .ok (.astore j, 2)) (hp : pc + 2 = pc') (hv : v.isRef = true) (hl : storeLocals L j v = some L') (k : Run Z a0 n0 p l e R s m args below meth c Ψ D cells slots pc' L' S) : Run Z a0 n0 p l e R s m args below meth c Ψ D cells slots pc L (v :: S) := by
  subst hp
  intro T locs X N H
  obtain ⟨t, o, st, r⟩ := k T locs X N H
  exact ⟨t, o, XS.astore X.here K.1 rfl (hb K.2.2.1 hd) rfl hv hl st, r⟩
theorem Run.astoreN (K : Ctx Z y bytes maxL ret p s m meth c) {j : Fin 4} {v : Value} {L' : Array Slot} {pc' : Nat} (hd : decode bytes pc = .ok (.astore_n j, 1)) (hp : pc + 1 = pc') (hv : v.isRef = true) (hl : storeLocals L j.val v = some L') (k : Run Z a0 n0 p l e R s m args below meth c Ψ D cells slots pc' L' S) : Run Z a0 n0 p l e R s m args below meth c Ψ D cells slots pc L (v :: S) := by
  subst hp
  intro T locs X N H
  obtain ⟨t, o, st, r⟩ := k T locs X N H
  exact ⟨t, o, XS.astoreN X.here K.1 rfl (hb K.2.2.1 hd) rfl hv hl st, r⟩
theorem Run.dup2 (K : Ctx Z y bytes maxL ret p s m meth c) {v w : Value} {pc' : Nat} (hd : decode bytes pc = .ok (.dup2, 1)) (hp : pc + 1 = pc') (hc : v.category = 1) (hc2 : w.category = 1) (k : Run Z a0 n0 p l e R s m args below meth c Ψ D cells slots pc' L (v :: w :: v :: w :: S)) : Run Z a0 n0 p l e R s m args below meth c Ψ D cells slots pc L (v :: w :: S) := by
  subst hp
  intro T locs X N H
  obtain ⟨t, o, st, r⟩ := k T locs X N H
  exact ⟨t, o, Jvm.Free.XT.dup2 X.here K.1 rfl (hb K.2.2.1 hd) rfl hc hc2 st, r⟩
theorem Run.dup2L (K : Ctx Z y bytes maxL ret p s m meth c) {x : Int64} {pc' : Nat} (hd : decode bytes pc = .ok (.dup2, 1)) (hp : pc + 1 = pc') (k : Run Z a0 n0 p l e R s m args below meth c Ψ D cells slots pc' L (.long x :: .long x :: S)) : Run Z a0 n0 p l e R s m args below meth c Ψ D cells slots pc L (.long x :: S) := by
  subst hp
  intro T locs X N H
  obtain ⟨t, o, st, r⟩ := k T locs X N H
  exact ⟨t, o, Jvm.Free.XT.dup2L X.here K.1 rfl (hb K.2.2.1 hd) rfl st, r⟩
theorem Run.iinc (K : Ctx Z y bytes maxL ret p s m meth c) {j : Nat} {i : Int} {v : Int32} {L' : Array Slot} {pc' : Nat} (hd : decode bytes pc = .ok (.iinc j i, 3)) (hp : pc + 3 = pc') (hl : L[j]? = some (.val (.int v))) (hl' : storeLocals L j (.int (v + Int32.ofInt i)) = some L') (k : Run Z a0 n0 p l e R s m args below meth c Ψ D cells slots pc' L' S) : Run Z a0 n0 p l e R s m args below meth c Ψ D cells slots pc L S := by
  subst hp
  intro T locs X N H
  obtain ⟨t, o, st, r⟩ := k T locs X N H
  exact ⟨t, o, XS.iinc X.here K.1 rfl (hb K.2.2.1 hd) hl hl' st, r⟩
theorem Run.iaddV (K : Ctx Z y bytes maxL ret p s m meth c) {x z : Int32} {v : Int32} {pc' : Nat} (hd : decode bytes pc = .ok (.iadd, 1)) (hp : pc + 1 = pc') (hv : x + z = v) (k : Run Z a0 n0 p l e R s m args below meth c Ψ D cells slots pc' L (.int v :: S)) : Run Z a0 n0 p l e R s m args below meth c Ψ D cells slots pc L (.int z :: .int x :: S) := Run.iadd K hd hp (by rw [hv]; exact k)
theorem Run.isubV (K : Ctx Z y bytes maxL ret p s m meth c) {x z : Int32} {v : Int32} {pc' : Nat} (hd : decode bytes pc = .ok (.isub, 1)) (hp : pc + 1 = pc') (hv : x - z = v) (k : Run Z a0 n0 p l e R s m args below meth c Ψ D cells slots pc' L (.int v :: S)) : Run Z a0 n0 p l e R s m args below meth c Ψ D cells slots pc L (.int z :: .int x :: S) := Run.isub K hd hp (by rw [hv]; exact k)
theorem Run.imulV (K : Ctx Z y bytes maxL ret p s m meth c) {x z : Int32} {v : Int32} {pc' : Nat} (hd : decode bytes pc = .ok (.imul, 1)) (hp : pc + 1 = pc') (hv : x * z = v) (k : Run Z a0 n0 p l e R s m args below meth c Ψ D cells slots pc' L (.int v :: S)) : Run Z a0 n0 p l e R s m args below meth c Ψ D cells slots pc L (.int z :: .int x :: S) := Run.imul K hd hp (by rw [hv]; exact k)
theorem Run.iandV (K : Ctx Z y bytes maxL ret p s m meth c) {x z : Int32} {v : Int32} {pc' : Nat} (hd : decode bytes pc = .ok (.iand, 1)) (hp : pc + 1 = pc') (hv : x &&& z = v) (k : Run Z a0 n0 p l e R s m args below meth c Ψ D cells slots pc' L (.int v :: S)) : Run Z a0 n0 p l e R s m args below meth c Ψ D cells slots pc L (.int z :: .int x :: S) := Run.iand K hd hp (by rw [hv]; exact k)
theorem Run.iorV (K : Ctx Z y bytes maxL ret p s m meth c) {x z : Int32} {v : Int32} {pc' : Nat} (hd : decode bytes pc = .ok (.ior, 1)) (hp : pc + 1 = pc') (hv : x ||| z = v) (k : Run Z a0 n0 p l e R s m args below meth c Ψ D cells slots pc' L (.int v :: S)) : Run Z a0 n0 p l e R s m args below meth c Ψ D cells slots pc L (.int z :: .int x :: S) := Run.ior K hd hp (by rw [hv]; exact k)
theorem Run.ixorV (K : Ctx Z y bytes maxL ret p s m meth c) {x z : Int32} {v : Int32} {pc' : Nat} (hd : decode bytes pc = .ok (.ixor, 1)) (hp : pc + 1 = pc') (hv : x ^^^ z = v) (k : Run Z a0 n0 p l e R s m args below meth c Ψ D cells slots pc' L (.int v :: S)) : Run Z a0 n0 p l e R s m args below meth c Ψ D cells slots pc L (.int z :: .int x :: S) := Run.ixor K hd hp (by rw [hv]; exact k)
theorem Run.ishlV (K : Ctx Z y bytes maxL ret p s m meth c) {x z : Int32} {v : Int32} {pc' : Nat} (hd : decode bytes pc = .ok (.ishl, 1)) (hp : pc + 1 = pc') (hv : x <<< (z &&& 31) = v) (k : Run Z a0 n0 p l e R s m args below meth c Ψ D cells slots pc' L (.int v :: S)) : Run Z a0 n0 p l e R s m args below meth c Ψ D cells slots pc L (.int z :: .int x :: S) := Run.ishl K hd hp (by rw [hv]; exact k)
theorem Run.ishrV (K : Ctx Z y bytes maxL ret p s m meth c) {x z : Int32} {v : Int32} {pc' : Nat} (hd : decode bytes pc = .ok (.ishr, 1)) (hp : pc + 1 = pc') (hv : x >>> (z &&& 31) = v) (k : Run Z a0 n0 p l e R s m args below meth c Ψ D cells slots pc' L (.int v :: S)) : Run Z a0 n0 p l e R s m args below meth c Ψ D cells slots pc L (.int z :: .int x :: S) := Run.ishr K hd hp (by rw [hv]; exact k)
theorem Run.iushrV (K : Ctx Z y bytes maxL ret p s m meth c) {x z : Int32} {v : Int32} {pc' : Nat} (hd : decode bytes pc = .ok (.iushr, 1)) (hp : pc + 1 = pc') (hv : (x.toUInt32 >>> (z &&& 31).toUInt32).toInt32 = v) (k : Run Z a0 n0 p l e R s m args below meth c Ψ D cells slots pc' L (.int v :: S)) : Run Z a0 n0 p l e R s m args below meth c Ψ D cells slots pc L (.int z :: .int x :: S) := Run.iushr K hd hp (by rw [hv]; exact k)
theorem Run.inegV (K : Ctx Z y bytes maxL ret p s m meth c) {x : Int32} {v : Int32} {pc' : Nat} (hd : decode bytes pc = .ok (.ineg, 1)) (hp : pc + 1 = pc') (hv : -x = v) (k : Run Z a0 n0 p l e R s m args below meth c Ψ D cells slots pc' L (.int v :: S)) : Run Z a0 n0 p l e R s m args below meth c Ψ D cells slots pc L (.int x :: S) := Run.ineg K hd hp (by rw [hv]; exact k)
theorem Run.laddV (K : Ctx Z y bytes maxL ret p s m meth c) {x z : Int64} {v : Int64} {pc' : Nat} (hd : decode bytes pc = .ok (.ladd, 1)) (hp : pc + 1 = pc') (hv : x + z = v) (k : Run Z a0 n0 p l e R s m args below meth c Ψ D cells slots pc' L (.long v :: S)) : Run Z a0 n0 p l e R s m args below meth c Ψ D cells slots pc L (.long z :: .long x :: S) := Run.ladd K hd hp (by rw [hv]; exact k)
theorem Run.lsubV (K : Ctx Z y bytes maxL ret p s m meth c) {x z : Int64} {v : Int64} {pc' : Nat} (hd : decode bytes pc = .ok (.lsub, 1)) (hp : pc + 1 = pc') (hv : x - z = v) (k : Run Z a0 n0 p l e R s m args below meth c Ψ D cells slots pc' L (.long v :: S)) : Run Z a0 n0 p l e R s m args below meth c Ψ D cells slots pc L (.long z :: .long x :: S) := Run.lsub K hd hp (by rw [hv]; exact k)
theorem Run.lmulV (K : Ctx Z y bytes maxL ret p s m meth c) {x z : Int64} {v : Int64} {pc' : Nat} (hd : decode bytes pc = .ok (.lmul, 1)) (hp : pc + 1 = pc') (hv : x * z = v) (k : Run Z a0 n0 p l e R s m args below meth c Ψ D cells slots pc' L (.long v :: S)) : Run Z a0 n0 p l e R s m args below meth c Ψ D cells slots pc L (.long z :: .long x :: S) := Run.lmul K hd hp (by rw [hv]; exact k)
theorem Run.landV (K : Ctx Z y bytes maxL ret p s m meth c) {x z : Int64} {v : Int64} {pc' : Nat} (hd : decode bytes pc = .ok (.land, 1)) (hp : pc + 1 = pc') (hv : x &&& z = v) (k : Run Z a0 n0 p l e R s m args below meth c Ψ D cells slots pc' L (.long v :: S)) : Run Z a0 n0 p l e R s m args below meth c Ψ D cells slots pc L (.long z :: .long x :: S) := Run.land K hd hp (by rw [hv]; exact k)
theorem Run.lorV (K : Ctx Z y bytes maxL ret p s m meth c) {x z : Int64} {v : Int64} {pc' : Nat} (hd : decode bytes pc = .ok (.lor, 1)) (hp : pc + 1 = pc') (hv : x ||| z = v) (k : Run Z a0 n0 p l e R s m args below meth c Ψ D cells slots pc' L (.long v :: S)) : Run Z a0 n0 p l e R s m args below meth c Ψ D cells slots pc L (.long z :: .long x :: S) := Run.lor K hd hp (by rw [hv]; exact k)
theorem Run.lxorV (K : Ctx Z y bytes maxL ret p s m meth c) {x z : Int64} {v : Int64} {pc' : Nat} (hd : decode bytes pc = .ok (.lxor, 1)) (hp : pc + 1 = pc') (hv : x ^^^ z = v) (k : Run Z a0 n0 p l e R s m args below meth c Ψ D cells slots pc' L (.long v :: S)) : Run Z a0 n0 p l e R s m args below meth c Ψ D cells slots pc L (.long z :: .long x :: S) := Run.lxor K hd hp (by rw [hv]; exact k)
theorem Run.lnegV (K : Ctx Z y bytes maxL ret p s m meth c) {x : Int64} {v : Int64} {pc' : Nat} (hd : decode bytes pc = .ok (.lneg, 1)) (hp : pc + 1 = pc') (hv : -x = v) (k : Run Z a0 n0 p l e R s m args below meth c Ψ D cells slots pc' L (.long v :: S)) : Run Z a0 n0 p l e R s m args below meth c Ψ D cells slots pc L (.long x :: S) := Run.lneg K hd hp (by rw [hv]; exact k)
theorem Run.lshlV (K : Ctx Z y bytes maxL ret p s m meth c) {x : Int64} {z : Int32} {v : Int64} {pc' : Nat} (hd : decode bytes pc = .ok (.lshl, 1)) (hp : pc + 1 = pc') (hv : x <<< (z &&& 0x3f).toInt64 = v) (k : Run Z a0 n0 p l e R s m args below meth c Ψ D cells slots pc' L (.long v :: S)) : Run Z a0 n0 p l e R s m args below meth c Ψ D cells slots pc L (.int z :: .long x :: S) := Run.lshl K hd hp (by rw [hv]; exact k)
theorem Run.lshrV (K : Ctx Z y bytes maxL ret p s m meth c) {x : Int64} {z : Int32} {v : Int64} {pc' : Nat} (hd : decode bytes pc = .ok (.lshr, 1)) (hp : pc + 1 = pc') (hv : x >>> (z &&& 0x3f).toInt64 = v) (k : Run Z a0 n0 p l e R s m args below meth c Ψ D cells slots pc' L (.long v :: S)) : Run Z a0 n0 p l e R s m args below meth c Ψ D cells slots pc L (.int z :: .long x :: S) := Run.lshr K hd hp (by rw [hv]; exact k)
theorem Run.lushrV (K : Ctx Z y bytes maxL ret p s m meth c) {x : Int64} {z : Int32} {v : Int64} {pc' : Nat} (hd : decode bytes pc = .ok (.lushr, 1)) (hp : pc + 1 = pc') (hv : (x.toUInt64 >>> (z &&& 0x3f).toInt64.toUInt64).toInt64 = v) (k : Run Z a0 n0 p l e R s m args below meth c Ψ D cells slots pc' L (.long v :: S)) : Run Z a0 n0 p l e R s m args below meth c Ψ D cells slots pc L (.int z :: .long x :: S) := Run.lushr K hd hp (by rw [hv]; exact k)
theorem Run.i2lV (K : Ctx Z y bytes maxL ret p s m meth c) {x : Int32} {v : Int64} {pc' : Nat} (hd : decode bytes pc = .ok (.i2l, 1)) (hp : pc + 1 = pc') (hv : x.toInt64 = v) (k : Run Z a0 n0 p l e R s m args below meth c Ψ D cells slots pc' L (.long v :: S)) : Run Z a0 n0 p l e R s m args below meth c Ψ D cells slots pc L (.int x :: S) := Run.i2l K hd hp (by rw [hv]; exact k)
theorem Run.l2iV (K : Ctx Z y bytes maxL ret p s m meth c) {x : Int64} {v : Int32} {pc' : Nat} (hd : decode bytes pc = .ok (.l2i, 1)) (hp : pc + 1 = pc') (hv : x.toInt32 = v) (k : Run Z a0 n0 p l e R s m args below meth c Ψ D cells slots pc' L (.int v :: S)) : Run Z a0 n0 p l e R s m args below meth c Ψ D cells slots pc L (.long x :: S) := Run.l2i K hd hp (by rw [hv]; exact k)
theorem Run.i2bV (K : Ctx Z y bytes maxL ret p s m meth c) {x : Int32} {v : Int32} {pc' : Nat} (hd : decode bytes pc = .ok (.i2b, 1)) (hp : pc + 1 = pc') (hv : x.toInt8.toInt32 = v) (k : Run Z a0 n0 p l e R s m args below meth c Ψ D cells slots pc' L (.int v :: S)) : Run Z a0 n0 p l e R s m args below meth c Ψ D cells slots pc L (.int x :: S) := Run.i2b K hd hp (by rw [hv]; exact k)
theorem Run.i2cV (K : Ctx Z y bytes maxL ret p s m meth c) {x : Int32} {v : Int32} {pc' : Nat} (hd : decode bytes pc = .ok (.i2c, 1)) (hp : pc + 1 = pc') (hv : x.toUInt32.toUInt16.toUInt32.toInt32 = v) (k : Run Z a0 n0 p l e R s m args below meth c Ψ D cells slots pc' L (.int v :: S)) : Run Z a0 n0 p l e R s m args below meth c Ψ D cells slots pc L (.int x :: S) := Run.i2c K hd hp (by rw [hv]; exact k)
theorem Run.i2sV (K : Ctx Z y bytes maxL ret p s m meth c) {x : Int32} {v : Int32} {pc' : Nat} (hd : decode bytes pc = .ok (.i2s, 1)) (hp : pc + 1 = pc') (hv : x.toInt16.toInt32 = v) (k : Run Z a0 n0 p l e R s m args below meth c Ψ D cells slots pc' L (.int v :: S)) : Run Z a0 n0 p l e R s m args below meth c Ψ D cells slots pc L (.int x :: S) := Run.i2s K hd hp (by rw [hv]; exact k)
theorem Run.lcmpV (K : Ctx Z y bytes maxL ret p s m meth c) {x z : Int64} {v : Int32} {pc' : Nat} (hd : decode bytes pc = .ok (.lcmp, 1)) (hp : pc + 1 = pc') (hv : lcmpW x z = v) (k : Run Z a0 n0 p l e R s m args below meth c Ψ D cells slots pc' L (.int v :: S)) : Run Z a0 n0 p l e R s m args below meth c Ψ D cells slots pc L (.long z :: .long x :: S) := Run.lcmp K hd hp (by rw [hv]; exact k)
theorem Run.goto (K : Ctx Z y bytes maxL ret p s m meth c) {i : Int} {pc' : Nat} (hd : decode bytes pc = .ok (.goto i, 3)) (ho : 0 ≤ (pc : Int) + i) (hp : ((pc : Int) + i).toNat = pc') (k : Run Z a0 n0 p l e R s m args below meth c Ψ D cells slots pc' L S) : Run Z a0 n0 p l e R s m args below meth c Ψ D cells slots pc L S := by
  intro T locs X N H
  obtain ⟨t, o, st, r⟩ := k T locs X N H
  exact ⟨t, o, XS.goto X.here K.1 rfl rfl (hb K.2.2.1 hd) ho hp st, r⟩
theorem Run.icmp (K : Ctx Z y bytes maxL ret p s m meth c) {x z : Int32} {cd : ClassFile.Cond} {i : Int} {pT pF : Nat} (hd : decode bytes pc = .ok (.if_icmp cd i, 3)) (ho : 0 ≤ (pc : Int) + i) (hT : ((pc : Int) + i).toNat = pT) (hF : pc + 3 = pF) (kT : rel cd x z → Run Z a0 n0 p l e R s m args below meth c Ψ D cells slots pT L S) (kF : ¬ rel cd x z → Run Z a0 n0 p l e R s m args below meth c Ψ D cells slots pF L S) : Run Z a0 n0 p l e R s m args below meth c Ψ D cells slots pc L (.int z :: .int x :: S) := by
  subst hF
  intro T locs X N H
  by_cases q : rel cd x z
  · obtain ⟨t, o, st, r⟩ := kT q T locs X N H
    exact ⟨t, o, XS.icmpYes X.here K.1 rfl rfl (hb K.2.2.1 hd) rfl ((rel_iff cd x z).mpr q) ho hT st, r⟩
  · obtain ⟨t, o, st, r⟩ := kF q T locs X N H
    exact ⟨t, o, XS.icmpNo X.here K.1 rfl (hb K.2.2.1 hd) rfl (Bool.eq_false_iff.mpr fun h => q ((rel_iff cd x z).mp h)) st, r⟩
theorem Run.ifc (K : Ctx Z y bytes maxL ret p s m meth c) {x : Int32} {cd : ClassFile.Cond} {i : Int} {pT pF : Nat} (hd : decode bytes pc = .ok (.ifCond cd i, 3)) (ho : 0 ≤ (pc : Int) + i) (hT : ((pc : Int) + i).toNat = pT) (hF : pc + 3 = pF) (kT : rel cd x 0 → Run Z a0 n0 p l e R s m args below meth c Ψ D cells slots pT L S) (kF : ¬ rel cd x 0 → Run Z a0 n0 p l e R s m args below meth c Ψ D cells slots pF L S) : Run Z a0 n0 p l e R s m args below meth c Ψ D cells slots pc L (.int x :: S) := by
  subst hF
  intro T locs X N H
  by_cases q : rel cd x 0
  · obtain ⟨t, o, st, r⟩ := kT q T locs X N H
    exact ⟨t, o, XS.ifYes X.here K.1 rfl rfl (hb K.2.2.1 hd) rfl ((if0 cd x).trans ((rel_iff cd x 0).mpr q)) ho hT st, r⟩
  · obtain ⟨t, o, st, r⟩ := kF q T locs X N H
    exact ⟨t, o, XS.ifNo X.here K.1 rfl (hb K.2.2.1 hd) rfl (Bool.eq_false_iff.mpr fun h => q ((rel_iff cd x 0).mp ((if0 cd x).symm.trans h))) st, r⟩
theorem Run.ifL (K : Ctx Z y bytes maxL ret p s m meth c) {x z : Int64} {cd : ClassFile.Cond} {i : Int} {pT pF : Nat} (hd : decode bytes pc = .ok (.ifCond cd i, 3)) (ho : 0 ≤ (pc : Int) + i) (hT : ((pc : Int) + i).toNat = pT) (hF : pc + 3 = pF) (kT : relL cd x z → Run Z a0 n0 p l e R s m args below meth c Ψ D cells slots pT L S) (kF : ¬ relL cd x z → Run Z a0 n0 p l e R s m args below meth c Ψ D cells slots pF L S) : Run Z a0 n0 p l e R s m args below meth c Ψ D cells slots pc L (.int (lcmpW x z) :: S) := by
  subst hF
  intro T locs X N H
  by_cases q : relL cd x z
  · obtain ⟨t, o, st, r⟩ := kT q T locs X N H
    exact ⟨t, o, XS.ifYes X.here K.1 rfl rfl (hb K.2.2.1 hd) rfl ((if0 cd _).trans ((relL_iff cd x z).mpr q)) ho hT st, r⟩
  · obtain ⟨t, o, st, r⟩ := kF q T locs X N H
    exact ⟨t, o, XS.ifNo X.here K.1 rfl (hb K.2.2.1 hd) rfl (Bool.eq_false_iff.mpr fun h => q ((relL_iff cd x z).mp ((if0 cd _).symm.trans h))) st, r⟩
theorem Run.icmpT (K : Ctx Z y bytes maxL ret p s m meth c) {x z : Int32} {cd : ClassFile.Cond} {i : Int} {pT pF : Nat} (hd : decode bytes pc = .ok (.if_icmp cd i, 3)) (ho : 0 ≤ (pc : Int) + i) (hT : ((pc : Int) + i).toNat = pT) (hF : pc + 3 = pF) (q : rel cd x z) (kT : Run Z a0 n0 p l e R s m args below meth c Ψ D cells slots pT L S) : Run Z a0 n0 p l e R s m args below meth c Ψ D cells slots pc L (.int z :: .int x :: S) := Run.icmp K hd ho hT hF (fun _ => kT) (fun h => absurd q h)
theorem Run.icmpF (K : Ctx Z y bytes maxL ret p s m meth c) {x z : Int32} {cd : ClassFile.Cond} {i : Int} {pT pF : Nat} (hd : decode bytes pc = .ok (.if_icmp cd i, 3)) (ho : 0 ≤ (pc : Int) + i) (hT : ((pc : Int) + i).toNat = pT) (hF : pc + 3 = pF) (q : ¬ rel cd x z) (kF : Run Z a0 n0 p l e R s m args below meth c Ψ D cells slots pF L S) : Run Z a0 n0 p l e R s m args below meth c Ψ D cells slots pc L (.int z :: .int x :: S) := Run.icmp K hd ho hT hF (fun h => absurd h q) (fun _ => kF)
theorem Run.ifcT (K : Ctx Z y bytes maxL ret p s m meth c) {x : Int32} {cd : ClassFile.Cond} {i : Int} {pT pF : Nat} (hd : decode bytes pc = .ok (.ifCond cd i, 3)) (ho : 0 ≤ (pc : Int) + i) (hT : ((pc : Int) + i).toNat = pT) (hF : pc + 3 = pF) (q : rel cd x 0) (kT : Run Z a0 n0 p l e R s m args below meth c Ψ D cells slots pT L S) : Run Z a0 n0 p l e R s m args below meth c Ψ D cells slots pc L (.int x :: S) := Run.ifc K hd ho hT hF (fun _ => kT) (fun h => absurd q h)
theorem Run.ifcF (K : Ctx Z y bytes maxL ret p s m meth c) {x : Int32} {cd : ClassFile.Cond} {i : Int} {pT pF : Nat} (hd : decode bytes pc = .ok (.ifCond cd i, 3)) (ho : 0 ≤ (pc : Int) + i) (hT : ((pc : Int) + i).toNat = pT) (hF : pc + 3 = pF) (q : ¬ rel cd x 0) (kF : Run Z a0 n0 p l e R s m args below meth c Ψ D cells slots pF L S) : Run Z a0 n0 p l e R s m args below meth c Ψ D cells slots pc L (.int x :: S) := Run.ifc K hd ho hT hF (fun h => absurd h q) (fun _ => kF)
theorem Run.ifLT (K : Ctx Z y bytes maxL ret p s m meth c) {x z : Int64} {cd : ClassFile.Cond} {i : Int} {pT pF : Nat} (hd : decode bytes pc = .ok (.ifCond cd i, 3)) (ho : 0 ≤ (pc : Int) + i) (hT : ((pc : Int) + i).toNat = pT) (hF : pc + 3 = pF) (q : relL cd x z) (kT : Run Z a0 n0 p l e R s m args below meth c Ψ D cells slots pT L S) : Run Z a0 n0 p l e R s m args below meth c Ψ D cells slots pc L (.int (lcmpW x z) :: S) := Run.ifL K hd ho hT hF (fun _ => kT) (fun h => absurd q h)
theorem Run.ifLF (K : Ctx Z y bytes maxL ret p s m meth c) {x z : Int64} {cd : ClassFile.Cond} {i : Int} {pT pF : Nat} (hd : decode bytes pc = .ok (.ifCond cd i, 3)) (ho : 0 ≤ (pc : Int) + i) (hT : ((pc : Int) + i).toNat = pT) (hF : pc + 3 = pF) (q : ¬ relL cd x z) (kF : Run Z a0 n0 p l e R s m args below meth c Ψ D cells slots pF L S) : Run Z a0 n0 p l e R s m args below meth c Ψ D cells slots pc L (.int (lcmpW x z) :: S) := Run.ifL K hd ho hT hF (fun h => absurd h q) (fun _ => kF)
theorem Run.ifnonnullT (K : Ctx Z y bytes maxL ret p s m meth c) {a : Addr} {i : Int} {pT : Nat} (hd : decode bytes pc = .ok (.ifnonnull i, 3)) (ho : 0 ≤ (pc : Int) + i) (hT : ((pc : Int) + i).toNat = pT) (k : Run Z a0 n0 p l e R s m args below meth c Ψ D cells slots pT L S) : Run Z a0 n0 p l e R s m args below meth c Ψ D cells slots pc L (.ref a :: S) := by
  intro T locs X N H
  obtain ⟨t, o, st, r⟩ := k T locs X N H
  exact ⟨t, o, XS.ifnonnullYes X.here K.1 rfl rfl (hb K.2.2.1 hd) rfl ho hT st, r⟩
theorem Run.as {D' : HD} (hD : D' = D) (k : Run Z a0 n0 p l e R s m args below meth c Ψ D' cells slots pc L S) : Run Z a0 n0 p l e R s m args below meth c Ψ D cells slots pc L S := by subst hD; exact k
theorem Run.asL {L' : Array Slot} (hL : L = L') (k : Run Z a0 n0 p l e R s m args below meth c Ψ D cells slots pc L' S) : Run Z a0 n0 p l e R s m args below meth c Ψ D cells slots pc L S := by subst hL; exact k
theorem Run.as2 {D' : HD} {S' : List Value} (hD : D' = D) (hS : S' = S) (k : Run Z a0 n0 p l e R s m args below meth c Ψ D' cells slots pc L S') : Run Z a0 n0 p l e R s m args below meth c Ψ D cells slots pc L S := by subst hD hS; exact k
theorem Ret.k {v : Option Value} {D1 : HD} {S' rest : List Value} {cells' slots' pc' : Nat} (hS : S' = v.toList ++ rest) (k : Run Z a0 n0 p l e R s m args below meth c Ψ D1 cells' slots' pc' L S') : ∀ (w : Option Value) (D' : HD), Ret v D1 w D' → Run Z a0 n0 p l e R s m args below meth c Ψ D' cells' slots' pc' L (w.toList ++ rest) := by rintro w D' ⟨rfl, rfl⟩; subst hS; exact k
theorem Run.join0 {D' : HD} {cells' slots' pc' : Nat} {L' : Array Slot} {S' : List Value} (k : Run Z a0 n0 p l e R s m args below meth c Ψ D' cells' slots' pc' L' S') (b : Run Z a0 n0 p l e R s m args below meth c Ψ D' cells' slots' pc' L' S' → Run Z a0 n0 p l e R s m args below meth c Ψ D cells slots pc L S) : Run Z a0 n0 p l e R s m args below meth c Ψ D cells slots pc L S := b k
theorem Run.join1 {α0 : Type} {F : α0 → Prop} {D' : α0 → HD} {cells' slots' pc' : Nat} {L' : α0 → Array Slot} {S' : α0 → List Value} (k : (∀ w0, F w0 → Run Z a0 n0 p l e R s m args below meth c Ψ (D' w0) cells' slots' pc' (L' w0) (S' w0))) (b : (∀ w0, F w0 → Run Z a0 n0 p l e R s m args below meth c Ψ (D' w0) cells' slots' pc' (L' w0) (S' w0)) → Run Z a0 n0 p l e R s m args below meth c Ψ D cells slots pc L S) : Run Z a0 n0 p l e R s m args below meth c Ψ D cells slots pc L S := b k
theorem Run.join2 {α0 : Type} {α1 : Type} {F : α0 → α1 → Prop} {D' : α0 → α1 → HD} {cells' slots' pc' : Nat} {L' : α0 → α1 → Array Slot} {S' : α0 → α1 → List Value} (k : (∀ w0 w1, F w0 w1 → Run Z a0 n0 p l e R s m args below meth c Ψ (D' w0 w1) cells' slots' pc' (L' w0 w1) (S' w0 w1))) (b : (∀ w0 w1, F w0 w1 → Run Z a0 n0 p l e R s m args below meth c Ψ (D' w0 w1) cells' slots' pc' (L' w0 w1) (S' w0 w1)) → Run Z a0 n0 p l e R s m args below meth c Ψ D cells slots pc L S) : Run Z a0 n0 p l e R s m args below meth c Ψ D cells slots pc L S := b k
theorem Run.join3 {α0 : Type} {α1 : Type} {α2 : Type} {F : α0 → α1 → α2 → Prop} {D' : α0 → α1 → α2 → HD} {cells' slots' pc' : Nat} {L' : α0 → α1 → α2 → Array Slot} {S' : α0 → α1 → α2 → List Value} (k : (∀ w0 w1 w2, F w0 w1 w2 → Run Z a0 n0 p l e R s m args below meth c Ψ (D' w0 w1 w2) cells' slots' pc' (L' w0 w1 w2) (S' w0 w1 w2))) (b : (∀ w0 w1 w2, F w0 w1 w2 → Run Z a0 n0 p l e R s m args below meth c Ψ (D' w0 w1 w2) cells' slots' pc' (L' w0 w1 w2) (S' w0 w1 w2)) → Run Z a0 n0 p l e R s m args below meth c Ψ D cells slots pc L S) : Run Z a0 n0 p l e R s m args below meth c Ψ D cells slots pc L S := b k
theorem Run.join4 {α0 : Type} {α1 : Type} {α2 : Type} {α3 : Type} {F : α0 → α1 → α2 → α3 → Prop} {D' : α0 → α1 → α2 → α3 → HD} {cells' slots' pc' : Nat} {L' : α0 → α1 → α2 → α3 → Array Slot} {S' : α0 → α1 → α2 → α3 → List Value} (k : (∀ w0 w1 w2 w3, F w0 w1 w2 w3 → Run Z a0 n0 p l e R s m args below meth c Ψ (D' w0 w1 w2 w3) cells' slots' pc' (L' w0 w1 w2 w3) (S' w0 w1 w2 w3))) (b : (∀ w0 w1 w2 w3, F w0 w1 w2 w3 → Run Z a0 n0 p l e R s m args below meth c Ψ (D' w0 w1 w2 w3) cells' slots' pc' (L' w0 w1 w2 w3) (S' w0 w1 w2 w3)) → Run Z a0 n0 p l e R s m args below meth c Ψ D cells slots pc L S) : Run Z a0 n0 p l e R s m args below meth c Ψ D cells slots pc L S := b k
theorem Run.join5 {α0 : Type} {α1 : Type} {α2 : Type} {α3 : Type} {α4 : Type} {F : α0 → α1 → α2 → α3 → α4 → Prop} {D' : α0 → α1 → α2 → α3 → α4 → HD} {cells' slots' pc' : Nat} {L' : α0 → α1 → α2 → α3 → α4 → Array Slot} {S' : α0 → α1 → α2 → α3 → α4 → List Value} (k : (∀ w0 w1 w2 w3 w4, F w0 w1 w2 w3 w4 → Run Z a0 n0 p l e R s m args below meth c Ψ (D' w0 w1 w2 w3 w4) cells' slots' pc' (L' w0 w1 w2 w3 w4) (S' w0 w1 w2 w3 w4))) (b : (∀ w0 w1 w2 w3 w4, F w0 w1 w2 w3 w4 → Run Z a0 n0 p l e R s m args below meth c Ψ (D' w0 w1 w2 w3 w4) cells' slots' pc' (L' w0 w1 w2 w3 w4) (S' w0 w1 w2 w3 w4)) → Run Z a0 n0 p l e R s m args below meth c Ψ D cells slots pc L S) : Run Z a0 n0 p l e R s m args below meth c Ψ D cells slots pc L S := b k
theorem Run.join6 {α0 : Type} {α1 : Type} {α2 : Type} {α3 : Type} {α4 : Type} {α5 : Type} {F : α0 → α1 → α2 → α3 → α4 → α5 → Prop} {D' : α0 → α1 → α2 → α3 → α4 → α5 → HD} {cells' slots' pc' : Nat} {L' : α0 → α1 → α2 → α3 → α4 → α5 → Array Slot} {S' : α0 → α1 → α2 → α3 → α4 → α5 → List Value} (k : (∀ w0 w1 w2 w3 w4 w5, F w0 w1 w2 w3 w4 w5 → Run Z a0 n0 p l e R s m args below meth c Ψ (D' w0 w1 w2 w3 w4 w5) cells' slots' pc' (L' w0 w1 w2 w3 w4 w5) (S' w0 w1 w2 w3 w4 w5))) (b : (∀ w0 w1 w2 w3 w4 w5, F w0 w1 w2 w3 w4 w5 → Run Z a0 n0 p l e R s m args below meth c Ψ (D' w0 w1 w2 w3 w4 w5) cells' slots' pc' (L' w0 w1 w2 w3 w4 w5) (S' w0 w1 w2 w3 w4 w5)) → Run Z a0 n0 p l e R s m args below meth c Ψ D cells slots pc L S) : Run Z a0 n0 p l e R s m args below meth c Ψ D cells slots pc L S := b k
theorem Run.ldcI (K : Ctx Z y bytes maxL ret p s m meth c) {idx : Nat} {v : Int32} {pc' : Nat} (hd : decode bytes pc = .ok (.ldc idx, 2)) (hp : pc + 2 = pc') (w : (Jvm.Cond.constant y.cls idx v).before a0 Z = true) (k : Run Z a0 n0 p l e R s m args below meth c Ψ D cells slots pc' L (.int v :: S)) : Run Z a0 n0 p l e R s m args below meth c Ψ D cells slots pc L S := by
  subst hp
  intro T locs X N H
  obtain ⟨t, o, st, r⟩ := k T locs X N H
  exact ⟨t, o, X.ldcInt K.1 K.2.2.2.2.1 (mvT K.2.1 w) (g := mkF m pc L S) rfl (hb K.2.2.1 hd) _ st, r⟩
theorem Run.ldcJ (K : Ctx Z y bytes maxL ret p s m meth c) {idx : Nat} {v : Int64} {pc' : Nat} (hd : decode bytes pc = .ok (.ldc2_w idx, 3)) (hp : pc + 3 = pc') (w : (Jvm.Cond.constantLong y.cls idx v).before a0 Z = true) (k : Run Z a0 n0 p l e R s m args below meth c Ψ D cells slots pc' L (.long v :: S)) : Run Z a0 n0 p l e R s m args below meth c Ψ D cells slots pc L S := by
  subst hp
  intro T locs X N H
  obtain ⟨t, o, st, r⟩ := k T locs X N H
  exact ⟨t, o, X.ldc2Long K.1 K.2.2.2.2.1 (mvT K.2.1 w) (g := mkF m pc L S) rfl (hb K.2.2.1 hd) _ st, r⟩
theorem Run.getF (K : Ctx Z y bytes maxL ret p s m meth c) {idx i j : Nat} {O n d C : String} {a : Addr} {fs : List OFld} {v : Value} {pc' : Nat} (hd : decode bytes pc = .ok (.getfield idx, 3)) (hp : pc + 3 = pc') (w : (Jvm.Cond.fieldLink y.cls idx O n d).before a0 Z = true) (hi : D.1[i]? = some (a, C, fs)) (hj : fs[j]? = some (O, n, d, v)) (k : Run Z a0 n0 p l e R s m args below meth c Ψ D cells slots pc' L (v :: S)) : Run Z a0 n0 p l e R s m args below meth c Ψ D cells slots pc L (.ref a :: S) := by
  subst hp
  intro T locs X N H
  have F := ((H.2.1 _ (List.mem_of_getElem? hi)).2.2.1 _ (List.mem_of_getElem? hj)).1
  obtain ⟨T', X', e', st'⟩ := RoadKit.getF X K.1 K.2.1 K.2.2.2.2.1 (host := "") (Or.inl w) Via.refl rfl F (g := mkF m pc L (.ref a :: S)) rfl rfl (hb K.2.2.1 hd)
  obtain ⟨t, o, st, r⟩ := k T' locs X' N (by rw [e']; exact H)
  exact ⟨t, o, st' _ st, r⟩
theorem Run.putF (K : Ctx Z y bytes maxL ret p s m meth c) {idx i j kk : Nat} {O n d C : String} {a : Addr} {fs : List OFld} {v old : Value} {ty : FieldType} {pc' : Nat} {D' : HD} (hd : decode bytes pc = .ok (.putfield idx, 3)) (hp : pc + 3 = pc') (w : (Jvm.Cond.fieldLink y.cls idx O n d).before a0 Z = true) (wl : (Jvm.Cond.lays C O n d).before a0 Z = true ∨ ((Jvm.Cond.laysFinal C O n d).before a0 Z = true ∧ y.cls = O ∧ y.name = "<init>")) (wi : (Jvm.Cond.instantiable C kk).before a0 Z = true) (hty : parseFieldDescriptor d = some ty) (hn : narrow ty v = v) (hf : fits ty v = true) (hi : D.1[i]? = some (a, C, fs)) (hj : fs[j]? = some (O, n, d, old)) (hD : D' = (D.1.set i (a, C, fs.set j (O, n, d, v)), D.2)) (k : Run Z a0 n0 p l e R s m args below meth c Ψ D' cells slots pc' L S) : Run Z a0 n0 p l e R s m args below meth c Ψ D cells slots pc L (v :: .ref a :: S) := by
  subst hp hD
  intro T locs X N H
  have HO := H.2.1 _ (List.mem_of_getElem? hi)
  have F := (HO.2.2.1 _ (List.mem_of_getElem? hj)).1
  obtain ⟨T', h', X', e', W, st'⟩ := RoadKit.putF X K.1 K.2.1 K.2.2.2.2.1 (host := "") (Or.inl w) Via.refl rfl F HO.2.1 (wl.imp id fun q => ⟨q.1, q.2.1, K.2.2.2.2.2.1.trans q.2.2⟩) wi hty hn hf (g := mkF m pc L (v :: .ref a :: S)) rfl rfl (hb K.2.2.1 hd)
  obtain ⟨t, o, st, r⟩ := k T' _ X' (Fr.snoc X' N HO.1) (by rw [e']; exact H.put hi hj W)
  exact ⟨t, o, st' _ st, r⟩
theorem Run.newO (K : Ctx Z y bytes maxL ret p s m meth c) {idx n : Nat} {C : String} {fs : List OFld} {pc' cells' slots' : Nat} (hd : decode bytes pc = .ok (.new idx, 3)) (hp : pc + 3 = pc') (w : (Jvm.Cond.classLink y.cls idx C).before a0 Z = true) (wi : (Jvm.Cond.instantiable C n).before a0 Z = true) (wz : (Jvm.Cond.initialized C).before a0 Z = true) (F : FieldsOk Z a0 C fs) (e1 : cells + 1 = cells') (e2 : slots + n = slots') (hc : cells' ≤ R.cells) (hs : slots' ≤ R.slots) (k : ∀ a : Addr, Run Z a0 n0 p l e R s m args below meth c Ψ ((a, C, fs) :: D.1, D.2) cells' slots' pc' L (.ref a :: S)) : Run Z a0 n0 p l e R s m args below meth c Ψ D cells slots pc L S := by
  subst hp e1 e2
  intro T locs X N H
  obtain ⟨T', h', X', e', E, A, Dv, -, st'⟩ := RoadKit.newO X K.1 K.2.1 K.2.2.2.2.1 w wi wz rfl (g := mkF m pc L S) rfl (hb K.2.2.1 hd) hc hs
  obtain ⟨t, o, st, r⟩ := k T.heap.size T' locs X' N (by rw [e']; exact H.new E A F Dv)
  exact ⟨t, o, st' _ st, r⟩
theorem Run.newA (K : Ctx Z y bytes maxL ret p s m meth c) {aty : ArrayType} {ty : FieldType} {n : Int32} {vs : List Value} {cap : Nat} {pc' cells' slots' : Nat} (hd : decode bytes pc = .ok (.newarray aty, 2)) (hp : pc + 2 = pc') (hty : newarray.typeOf aty = ty) (w : (Jvm.Cond.arrayClass ty).before a0 Z = true) (hn : ¬ n < 0) (hvs : vs = List.replicate n.toNatClampNeg (defaultValue ty)) (hcap : n.toNatClampNeg ≤ cap) (hb8 : cap * 8 ≤ 536870912) (e1 : cells + 1 = cells') (e2 : slots + cap = slots') (hc : cells' ≤ R.cells) (hs : slots' ≤ R.slots) (hfd : fits ty (defaultValue ty) = true) (k : ∀ a : Addr, Run Z a0 n0 p l e R s m args below meth c Ψ (D.1, (a, ty, vs) :: D.2) cells' slots' pc' L (.ref a :: S)) : Run Z a0 n0 p l e R s m args below meth c Ψ D cells slots pc L (.int n :: S) := by
  subst hp e1 e2 hty hvs
  intro T locs X N H
  obtain ⟨T', h', cA, X', e', E, A, st'⟩ := RoadKit.newP X K.1 K.2.1 w rfl (g := mkF m pc L (.int n :: S)) rfl (hb K.2.2.1 hd) rfl hn hcap hb8 hc hs
  obtain ⟨t, o, st, r⟩ := k T.heap.size T' locs X' N (by
    rw [e']
    refine H.newArr E A ?_ ?_ ?_
    · simp [RoadKit.newA]
    · rw [List.length_replicate]; exact (back32 hn).2
    · intro v hv; rw [List.eq_of_mem_replicate hv]; exact hfd)
  exact ⟨t, o, st' _ st, r⟩
theorem Run.alen (K : Ctx Z y bytes maxL ret p s m meth c) {i : Nat} {a : Addr} {ty : FieldType} {vs : List Value} {w : Int32} {pc' : Nat} (hd : decode bytes pc = .ok (.arraylength, 1)) (hp : pc + 1 = pc') (hi : D.2[i]? = some (a, ty, vs)) (hw : vs.length.toInt32 = w) (k : Run Z a0 n0 p l e R s m args below meth c Ψ D cells slots pc' L (.int w :: S)) : Run Z a0 n0 p l e R s m args below meth c Ψ D cells slots pc L (.ref a :: S) := by
  subst hp hw
  intro T locs X N H
  obtain ⟨-, c', A, e1, -⟩ := H.2.2.1 _ (List.mem_of_getElem? hi)
  have q : c'.slots.size = vs.length := by rw [e1]; simp
  obtain ⟨t, o, st, r⟩ := k T locs X N H
  rw [← q] at st
  exact ⟨t, o, X.arraylength K.1 A.1 (State.isArrayOf_alike K.2.1.alike A.2.1) (g := mkF m pc L (.ref a :: S)) rfl rfl (hb K.2.2.1 hd) _ st, r⟩
theorem nar_byte (x : Int32) : nar .byte (x.toInt8.toInt32) = x.toInt8.toInt32 := by
  show (x.toInt8.toInt32).toInt8.toInt32 = x.toInt8.toInt32
  rw [Int8.toInt8_toInt32]
theorem own_bool {j : Int32} (h : j = (0 : Int32) ∨ j = (1 : Int32)) : nar .boolean j = j := by rcases h with rfl | rfl <;> decide
theorem in_of {vs : List Value} {q : Nat} {v : Value} {j : Int32} (hj : ¬ j < 0) (hq : j.toNatClampNeg = q) (hv : vs[q]? = some v) {c' : Cell} (e1 : c'.slots = vs.toArray) : ¬ (j < 0 ∨ c'.slots.size ≤ j.toNatClampNeg) ∧ c'.slots[j.toNatClampNeg]? = some v := by
  subst hq
  obtain ⟨li, ei⟩ := List.getElem?_eq_some_iff.mp hv
  refine ⟨fun z => z.elim hj fun z => ?_, by rw [e1]; simpa using hv⟩
  rw [e1] at z
  simp at z
  omega
theorem Run.baload (K : Ctx Z y bytes maxL ret p s m meth c) {i q : Nat} {a : Addr} {vs : List Value} {j : Int32} {v : Value} {pc' : Nat} (hd : decode bytes pc = .ok (.baload, 1)) (hp : pc + 1 = pc') (hi : D.2[i]? = some (a, .byte, vs)) (hj : ¬ j < 0) (hq : j.toNatClampNeg = q) (hv : vs[q]? = some v) (k : Run Z a0 n0 p l e R s m args below meth c Ψ D cells slots pc' L (v :: S)) : Run Z a0 n0 p l e R s m args below meth c Ψ D cells slots pc L (.int j :: .ref a :: S) := by
  subst hp
  intro T locs X N H
  obtain ⟨-, c', A, e1, -⟩ := H.2.2.1 _ (List.mem_of_getElem? hi)
  obtain ⟨u1, u2⟩ := in_of hj hq hv e1
  obtain ⟨t, o, st, r⟩ := k T locs X N H
  exact ⟨t, o, X.baloadBytes K.1 A.1 (State.isArrayOf_alike K.2.1.alike A.2.1) A.2.2 u1 u2 (g := mkF m pc L (.int j :: .ref a :: S)) rfl rfl (hb K.2.2.1 hd) _ st, r⟩
theorem Run.iaload (K : Ctx Z y bytes maxL ret p s m meth c) {i q : Nat} {a : Addr} {vs : List Value} {j : Int32} {v : Value} {pc' : Nat} (hd : decode bytes pc = .ok (.iaload, 1)) (hp : pc + 1 = pc') (hi : D.2[i]? = some (a, .int, vs)) (hj : ¬ j < 0) (hq : j.toNatClampNeg = q) (hv : vs[q]? = some v) (k : Run Z a0 n0 p l e R s m args below meth c Ψ D cells slots pc' L (v :: S)) : Run Z a0 n0 p l e R s m args below meth c Ψ D cells slots pc L (.int j :: .ref a :: S) := by
  subst hp
  intro T locs X N H
  obtain ⟨-, c', A, e1, -⟩ := H.2.2.1 _ (List.mem_of_getElem? hi)
  obtain ⟨u1, u2⟩ := in_of hj hq hv e1
  obtain ⟨t, o, st, r⟩ := k T locs X N H
  exact ⟨t, o, X.iaload K.1 A.1 (State.isArrayOf_alike K.2.1.alike A.2.1) A.2.2 u1 u2 (g := mkF m pc L (.int j :: .ref a :: S)) rfl rfl (hb K.2.2.1 hd) _ st, r⟩
theorem Run.laload (K : Ctx Z y bytes maxL ret p s m meth c) {i q : Nat} {a : Addr} {vs : List Value} {j : Int32} {v : Value} {pc' : Nat} (hd : decode bytes pc = .ok (.laload, 1)) (hp : pc + 1 = pc') (hi : D.2[i]? = some (a, .long, vs)) (hj : ¬ j < 0) (hq : j.toNatClampNeg = q) (hv : vs[q]? = some v) (k : Run Z a0 n0 p l e R s m args below meth c Ψ D cells slots pc' L (v :: S)) : Run Z a0 n0 p l e R s m args below meth c Ψ D cells slots pc L (.int j :: .ref a :: S) := by
  subst hp
  intro T locs X N H
  obtain ⟨-, c', A, e1, -⟩ := H.2.2.1 _ (List.mem_of_getElem? hi)
  obtain ⟨u1, u2⟩ := in_of hj hq hv e1
  obtain ⟨t, o, st, r⟩ := k T locs X N H
  exact ⟨t, o, X.laload K.1 A.1 (State.isArrayOf_alike K.2.1.alike A.2.1) A.2.2 u1 u2 (g := mkF m pc L (.int j :: .ref a :: S)) rfl rfl (hb K.2.2.1 hd) _ st, r⟩
theorem Run.zaload (K : Ctx Z y bytes maxL ret p s m meth c) {i q : Nat} {a : Addr} {vs : List Value} {j : Int32} {v : Value} {pc' : Nat} (hd : decode bytes pc = .ok (.baload, 1)) (hp : pc + 1 = pc') (hi : D.2[i]? = some (a, .boolean, vs)) (hj : ¬ j < 0) (hq : j.toNatClampNeg = q) (hv : vs[q]? = some v) (k : Run Z a0 n0 p l e R s m args below meth c Ψ D cells slots pc' L (v :: S)) : Run Z a0 n0 p l e R s m args below meth c Ψ D cells slots pc L (.int j :: .ref a :: S) := by
  subst hp
  intro T locs X N H
  obtain ⟨-, c', A, e1, -⟩ := H.2.2.1 _ (List.mem_of_getElem? hi)
  obtain ⟨u1, u2⟩ := in_of hj hq hv e1
  obtain ⟨t, o, st, r⟩ := k T locs X N H
  exact ⟨t, o, X.baloadBooleans K.1 A.1 (State.isArrayOf_alike K.2.1.alike A.2.1) A.2.2 u1 u2 (g := mkF m pc L (.int j :: .ref a :: S)) rfl rfl (hb K.2.2.1 hd) _ st, r⟩
theorem Run.caload (K : Ctx Z y bytes maxL ret p s m meth c) {i q : Nat} {a : Addr} {vs : List Value} {j : Int32} {v : Value} {pc' : Nat} (hd : decode bytes pc = .ok (.caload, 1)) (hp : pc + 1 = pc') (hi : D.2[i]? = some (a, .char, vs)) (hj : ¬ j < 0) (hq : j.toNatClampNeg = q) (hv : vs[q]? = some v) (k : Run Z a0 n0 p l e R s m args below meth c Ψ D cells slots pc' L (v :: S)) : Run Z a0 n0 p l e R s m args below meth c Ψ D cells slots pc L (.int j :: .ref a :: S) := by
  subst hp
  intro T locs X N H
  obtain ⟨-, c', A, e1, -⟩ := H.2.2.1 _ (List.mem_of_getElem? hi)
  obtain ⟨u1, u2⟩ := in_of hj hq hv e1
  obtain ⟨t, o, st, r⟩ := k T locs X N H
  exact ⟨t, o, X.caload K.1 A.1 (State.isArrayOf_alike K.2.1.alike A.2.1) A.2.2 u1 u2 (g := mkF m pc L (.int j :: .ref a :: S)) rfl rfl (hb K.2.2.1 hd) _ st, r⟩
theorem Run.bastore (K : Ctx Z y bytes maxL ret p s m meth c) {i q : Nat} {a : Addr} {vs : List Value} {j : Int32} {x : Int32} {v : Value} {pc' : Nat} {D' : HD} (hd : decode bytes pc = .ok (.bastore, 1)) (hp : pc + 1 = pc') (hi : D.2[i]? = some (a, .byte, vs)) (hj : ¬ j < 0) (hq : j.toNatClampNeg = q) (hv : vs[q]? = some v) (hD : D' = (D.1, D.2.set i (a, .byte, vs.set q (.int x.toInt8.toInt32)))) (k : Run Z a0 n0 p l e R s m args below meth c Ψ D' cells slots pc' L S) : Run Z a0 n0 p l e R s m args below meth c Ψ D cells slots pc L (.int x :: .int j :: .ref a :: S) := by
  subst hp hD
  intro T locs X N H
  have HA := H.2.2.1 _ (List.mem_of_getElem? hi)
  have g1 := HA.1
  obtain ⟨-, c', A, e1, -⟩ := HA
  obtain ⟨u1, u2⟩ := in_of hj hq hv e1
  obtain ⟨T', h', X', e', W, st'⟩ := stB X K.1 K.2.1 rfl A u1 (g := mkF m pc L (.int x :: .int j :: .ref a :: S)) rfl rfl (hb K.2.2.1 hd)
  rw [hq] at W X'
  obtain ⟨t, o, st, r⟩ := k T' _ X' (Fr.snoc X' N g1) (by rw [e']; exact H.store hi (fits_nar_byte x) W)
  exact ⟨t, o, st' _ st, r⟩
theorem Run.iastore (K : Ctx Z y bytes maxL ret p s m meth c) {i q : Nat} {a : Addr} {vs : List Value} {j : Int32} {x : Int32} {v : Value} {pc' : Nat} {D' : HD} (hd : decode bytes pc = .ok (.iastore, 1)) (hp : pc + 1 = pc') (hi : D.2[i]? = some (a, .int, vs)) (hj : ¬ j < 0) (hq : j.toNatClampNeg = q) (hv : vs[q]? = some v) (hD : D' = (D.1, D.2.set i (a, .int, vs.set q (.int x)))) (k : Run Z a0 n0 p l e R s m args below meth c Ψ D' cells slots pc' L S) : Run Z a0 n0 p l e R s m args below meth c Ψ D cells slots pc L (.int x :: .int j :: .ref a :: S) := by
  subst hp hD
  intro T locs X N H
  have HA := H.2.2.1 _ (List.mem_of_getElem? hi)
  have g1 := HA.1
  obtain ⟨-, c', A, e1, -⟩ := HA
  obtain ⟨u1, u2⟩ := in_of hj hq hv e1
  obtain ⟨T', h', X', e', W, st'⟩ := stI X K.1 K.2.1 rfl A u1 (g := mkF m pc L (.int x :: .int j :: .ref a :: S)) rfl rfl (hb K.2.2.1 hd)
  rw [hq] at W X'
  obtain ⟨t, o, st, r⟩ := k T' _ X' (Fr.snoc X' N g1) (by rw [e']; exact H.store hi (rfl) W)
  exact ⟨t, o, st' _ st, r⟩
theorem Run.lastore (K : Ctx Z y bytes maxL ret p s m meth c) {i q : Nat} {a : Addr} {vs : List Value} {j : Int32} {x : Int64} {v : Value} {pc' : Nat} {D' : HD} (hd : decode bytes pc = .ok (.lastore, 1)) (hp : pc + 1 = pc') (hi : D.2[i]? = some (a, .long, vs)) (hj : ¬ j < 0) (hq : j.toNatClampNeg = q) (hv : vs[q]? = some v) (hD : D' = (D.1, D.2.set i (a, .long, vs.set q (.long x)))) (k : Run Z a0 n0 p l e R s m args below meth c Ψ D' cells slots pc' L S) : Run Z a0 n0 p l e R s m args below meth c Ψ D cells slots pc L (.long x :: .int j :: .ref a :: S) := by
  subst hp hD
  intro T locs X N H
  have HA := H.2.2.1 _ (List.mem_of_getElem? hi)
  have g1 := HA.1
  obtain ⟨-, c', A, e1, -⟩ := HA
  obtain ⟨u1, u2⟩ := in_of hj hq hv e1
  obtain ⟨T', h', X', e', W, st'⟩ := stJ X K.1 K.2.1 rfl A u1 (g := mkF m pc L (.long x :: .int j :: .ref a :: S)) rfl rfl (hb K.2.2.1 hd)
  rw [hq] at W X'
  obtain ⟨t, o, st, r⟩ := k T' _ X' (Fr.snoc X' N g1) (by rw [e']; exact H.store hi (rfl) W)
  exact ⟨t, o, st' _ st, r⟩
theorem Run.bring (i j : Nat) {D' : HD} (hD : D' = (bringL i D.1, bringL j D.2)) (k : Run Z a0 n0 p l e R s m args below meth c Ψ D' cells slots pc L S) : Run Z a0 n0 p l e R s m args below meth c Ψ D cells slots pc L S := by
  subst hD
  intro T locs X N H
  exact k T locs X N (H.perm (bringL_perm i _) (bringL_perm j _))
theorem Run.initO (K : Ctx Z y bytes maxL ret p s m meth c) {idx : Nat} {a : Addr} {W : Nat} {pc' : Nat} (hd : decode bytes pc = .ok (.invokespecial idx, 3)) (hp : pc + 3 = pc') (w1 : (Jvm.Cond.methodLink y.cls idx Lib.objectInit).before a0 Z = true) (w2 : (Jvm.Cond.instanceMethod Lib.objectInit).before a0 Z = true) (w3 : (Jvm.Cond.code Lib.objectInit ⟨#[0xb1]⟩ 1 none).before a0 Z = true) (hsz : L.size = maxL) (hf : 1 ≤ R.frames) (hW : (S.map fun v => v.category).sum = W) (hl : W + 12 ≤ R.locals) (k : Run Z a0 n0 p l e R s m args below meth c Ψ D cells slots pc' L S) : Run Z a0 n0 p l e R s m args below meth c Ψ D cells slots pc L (.ref a :: S) := by
  subst hp
  intro T locs X N H
  obtain ⟨T', X', e', st'⟩ := RoadKit.initO X K.1 K.2.1 K.2.2.2.2.1 w1 w2 w3 rfl (g := mkF m pc L (.ref a :: S)) rfl (by rw [K.2.2.2.1]; exact hsz) rfl (hb K.2.2.1 hd) hf (W := W) (by show 2 * 0 + _ ≤ _; rw [hW]; omega) hl
  obtain ⟨t, o, st, r⟩ := k T' locs X' N (by rw [e']; exact H)
  exact ⟨t, o, st' _ st, r⟩
theorem Run.callS (K : Ctx Z y bytes maxL ret p s m meth c) {idx W : Nat} {z : MethodName} {bs : ByteArray} {mL : Nat} {rt : Option FieldType} {rm : Room} {Φ : Option Value → HD → Prop} {argsL rest : List Value} {sg : MethodDescriptor} {cells' slots' pc' : Nat} (hd : decode bytes pc = .ok (.invokestatic idx, 3)) (hp : pc + 3 = pc') (w1 : (Jvm.Cond.methodLink y.cls idx z).before a0 Z = true) (w2 : (Jvm.Cond.static z).before a0 Z = true) (w3 : (Jvm.Cond.initialized z.cls).before a0 Z = true) (w4 : (Jvm.Cond.code z bs mL rt).before a0 Z = true) (hz : z.cls ≠ "java/lang/invoke/MethodHandle" ∧ z.cls ≠ "java/lang/invoke/VarHandle") (C : Con l Z a0 n0 [] z bs mL rt rm argsL.toArray D Φ) (hS : S = argsL.reverse ++ rest) (hsz : L.size = maxL) (hsg : parseMethodDescriptor z.desc = some sg) (hlen : argsL.length = sg.parameters.length) (hW : (rest.map fun v => v.category).sum = W) (hf : rm.frames + 1 ≤ R.frames) (hl : W + (mL + 11) + rm.locals ≤ R.locals) (e1 : cells + rm.cells = cells') (e2 : slots + rm.slots = slots') (hc : cells' ≤ R.cells) (hs : slots' ≤ R.slots) (k : ∀ (v : Option Value) (D' : HD), Φ v D' → Run Z a0 n0 p l e R s m args below meth c Ψ D' cells' slots' pc' L (v.toList ++ rest)) : Run Z a0 n0 p l e R s m args below meth c Ψ D cells slots pc L S := by
  subst hp e1 e2 hS
  intro T locs X N H
  have B := backOf (R := R) (p := p) (e := e) (below := below) (s := s) (args := args) (len := 3) (W := W) (Q := fun v h L => Fr n0 L ∧ ∃ D', Φ v D' ∧ Heaped Z a0 n0 h D') (C T.heap H) K.2.1 w4 w3 hf hl
  obtain ⟨v, _, ⟨T', L', k', n'⟩, -, X', ⟨Lc, hQ, l', y', z'⟩, st'⟩ := Jvm.LawKit.callS X K.1 (y := z) K.2.2.2.2.1 (mvT K.2.1 w1) (mvT K.2.1 w2) (mvT K.2.1 w3) (mvT K.2.1 w4) hz B (g := mkF m pc L (argsL.reverse ++ rest)) rfl (by rw [K.2.2.2.1]; exact hsz) (argsL := argsL) (rest := rest) (fun sig h => by cases hsg.symm.trans h; exact hlen) rfl (by show 2 * 0 + _ ≤ _; rw [hW]; omega) (hb K.2.2.1 hd) (fun _ _ => ⟨rfl, rfl, hc, hs⟩)
  dsimp only [Pt.U, Pt.locs, Pt.cells, Pt.slots] at X' st' hQ l' y' z'
  subst l' y' z'
  obtain ⟨N', D', hΦ, H'⟩ := hQ
  obtain ⟨t, o, st, r⟩ := k v D' hΦ T' _ X' (Fr.app N N') H'
  exact ⟨t, o, st' _ st, r⟩
theorem Run.callI (K : Ctx Z y bytes maxL ret p s m meth c) {idx W : Nat} {z : MethodName} {bs : ByteArray} {mL : Nat} {rm : Room} {Φ : Option Value → HD → Prop} {argsL rest : List Value} {sg : MethodDescriptor} {cells' slots' pc' : Nat} {a : Addr} (hd : decode bytes pc = .ok (.invokespecial idx, 3)) (hp : pc + 3 = pc') (hz1 : z.name = "<init>") (w1 : (Jvm.Cond.methodLink y.cls idx z).before a0 Z = true) (w2 : (Jvm.Cond.instanceMethod z).before a0 Z = true) (w3 : (Jvm.Cond.initialized z.cls).before a0 Z = true) (w4 : (Jvm.Cond.code z bs mL none).before a0 Z = true) (hz : z.cls ≠ "java/lang/invoke/MethodHandle" ∧ z.cls ≠ "java/lang/invoke/VarHandle") (C : Con l Z a0 n0 [] z bs mL none rm (.ref a :: argsL).toArray D Φ) (hS : S = argsL.reverse ++ .ref a :: rest) (hsz : L.size = maxL) (hsg : parseMethodDescriptor z.desc = some sg) (hlen : argsL.length = sg.parameters.length) (hW : (rest.map fun v => v.category).sum = W) (hf : rm.frames + 1 ≤ R.frames) (hl : W + (mL + 11) + rm.locals ≤ R.locals) (e1 : cells + rm.cells = cells') (e2 : slots + rm.slots = slots') (hc : cells' ≤ R.cells) (hs : slots' ≤ R.slots) (k : ∀ (v : Option Value) (D' : HD), Φ v D' → Run Z a0 n0 p l e R s m args below meth c Ψ D' cells' slots' pc' L (v.toList ++ rest)) : Run Z a0 n0 p l e R s m args below meth c Ψ D cells slots pc L S := by
  subst hp e1 e2 hS
  intro T locs X N H
  have B := backOf (R := R) (p := p) (e := e) (below := below) (s := s) (args := args) (len := 3) (W := W) (Q := fun v h L => Fr n0 L ∧ ∃ D', Φ v D' ∧ Heaped Z a0 n0 h D') (C T.heap H) K.2.1 w4 w3 hf hl
  obtain ⟨v, _, ⟨T', L', k', n'⟩, -, X', ⟨Lc, hQ, l', y', z'⟩, st'⟩ := X.specialBack K.1 (y := z) hz1 K.2.2.2.2.1 (mvT K.2.1 w1) (mvT K.2.1 w2) (mvT K.2.1 w4) hz B (g := mkF m pc L (argsL.reverse ++ .ref a :: rest)) rfl (by rw [K.2.2.2.1]; exact hsz) (Steps.refl _) (a := a) (argsL := argsL) (rest := rest) (fun sig h => by cases hsg.symm.trans h; exact hlen) rfl (by show 2 * 0 + _ ≤ _; rw [hW]; omega) (hb K.2.2.1 hd) (fun _ _ => ⟨rfl, rfl, hc, hs⟩)
  dsimp only [Pt.U, Pt.locs, Pt.cells, Pt.slots] at X' st' hQ l' y' z'
  subst l' y' z'
  obtain ⟨N', D', hΦ, H'⟩ := hQ
  obtain ⟨t, o, st, r⟩ := k v D' hΦ T' _ X' (Fr.app N N') H'
  exact ⟨t, o, st'.trans st, r⟩
theorem Run.callV (K : Ctx Z y bytes maxL ret p s m meth c) {idx W : Nat} {z : MethodName} {bs : ByteArray} {mL : Nat} {rt : Option FieldType} {rm : Room} {Φ : Option Value → HD → Prop} {argsL rest : List Value} {sg : MethodDescriptor} {cells' slots' pc' : Nat} {a : Addr} {Cn : String} {fs : List OFld} {i : Nat} (hd : decode bytes pc = .ok (.invokevirtual idx, 3)) (hp : pc + 3 = pc') (w1 : (Jvm.Cond.methodLink y.cls idx z).before a0 Z = true) (w5 : (Jvm.Cond.declares z).before a0 Z = true) (w6 : (Jvm.Cond.selects Cn z z).before a0 Z = true) (w2 : (Jvm.Cond.instanceMethod z).before a0 Z = true) (w3 : (Jvm.Cond.initialized z.cls).before a0 Z = true) (w4 : (Jvm.Cond.code z bs mL rt).before a0 Z = true) (hz : z.cls ≠ "java/lang/invoke/MethodHandle" ∧ z.cls ≠ "java/lang/invoke/VarHandle") (hi : D.1[i]? = some (a, Cn, fs)) (C : Con l Z a0 n0 [] z bs mL rt rm (.ref a :: argsL).toArray D Φ) (hS : S = argsL.reverse ++ .ref a :: rest) (hsz : L.size = maxL) (hsg : parseMethodDescriptor z.desc = some sg) (hlen : argsL.length = sg.parameters.length) (hW : (rest.map fun v => v.category).sum = W) (hf : rm.frames + 1 ≤ R.frames) (hl : W + (mL + 11) + rm.locals ≤ R.locals) (e1 : cells + rm.cells = cells') (e2 : slots + rm.slots = slots') (hc : cells' ≤ R.cells) (hs : slots' ≤ R.slots) (k : ∀ (v : Option Value) (D' : HD), Φ v D' → Run Z a0 n0 p l e R s m args below meth c Ψ D' cells' slots' pc' L (v.toList ++ rest)) : Run Z a0 n0 p l e R s m args below meth c Ψ D cells slots pc L S := by
  subst hp e1 e2 hS
  intro T locs X N H
  have B := backOf (R := R) (p := p) (e := e) (below := below) (s := s) (args := args) (len := 3) (W := W) (Q := fun v h L => Fr n0 L ∧ ∃ D', Φ v D' ∧ Heaped Z a0 n0 h D') (C T.heap H) K.2.1 w4 w3 hf hl
  obtain ⟨cq, kq, q1, q2, q3⟩ := isOf (T := T) K.2.1 rfl (H.2.1 _ (List.mem_of_getElem? hi)).2.1
  obtain ⟨v, _, ⟨T', L', k', n'⟩, -, X', ⟨Lc, hQ, l', y', z'⟩, st'⟩ := X.virtualBack K.1 (y := z) (z := z) K.2.2.2.2.1 (mvT K.2.1 w1) (mvT K.2.1 w5) (notFace_of_selects (args := #[]) (mvT K.2.1 w6)) (mvT K.2.1 w6) (mvT K.2.1 w2) hz B q1 q3 (g := mkF m pc L (argsL.reverse ++ .ref a :: rest)) rfl (by rw [K.2.2.2.1]; exact hsz) (Steps.refl _) (argsL := argsL) (rest := rest) (fun sig h => by cases hsg.symm.trans h; exact hlen) rfl (by show 2 * 0 + _ ≤ _; rw [hW]; omega) (hb K.2.2.1 hd) (fun _ _ => ⟨rfl, rfl, hc, hs⟩)
  dsimp only [Pt.U, Pt.locs, Pt.cells, Pt.slots] at X' st' hQ l' y' z'
  subst l' y' z'
  obtain ⟨N', D', hΦ, H'⟩ := hQ
  obtain ⟨t, o, st, r⟩ := k v D' hΦ T' _ X' (Fr.app N N') H'
  exact ⟨t, o, st'.trans st, r⟩
theorem Run.retV (K : Ctx Z y bytes maxL ret p s m meth c)  (hd : decode bytes pc = .ok (.return_, 1)) (hret : ret = none) (hc : cells ≤ R.cells) (hs : slots ≤ R.slots) (q : Ψ none D) : Run Z a0 n0 p l e R s m args below meth c Ψ D cells slots pc L [] := by
  intro T locs X N H
  obtain ⟨fs, hr, hrun, hended, hW, hsame⟩ := X.leave (v := none) (fun _ => rfl) K.2.2.2.2.2.2.2
  exact ⟨_, _, X.returnOut K.1 (K.2.2.2.2.2.2.1.trans hret) (hb K.2.2.1 hd) hr, hrun, hended, _, _, rfl, ⟨N, D, q, H⟩, ⟨_, rfl⟩, hW, hsame.mono hc hs⟩
theorem Run.retI (K : Ctx Z y bytes maxL ret p s m meth c) {x : Int32} (hd : decode bytes pc = .ok (.ireturn, 1)) (hret : ret = some .int) (hc : cells ≤ R.cells) (hs : slots ≤ R.slots) (q : Ψ (some (.int x)) D) : Run Z a0 n0 p l e R s m args below meth c Ψ D cells slots pc L [.int x] := by
  intro T locs X N H
  obtain ⟨fs, hr, hrun, hended, hW, hsame⟩ := X.leave (v := (some (.int x))) (fun h => by rw [K.2.2.2.2.2.2.1, hret] at h; cases h) K.2.2.2.2.2.2.2
  exact ⟨_, _, X.ireturnOut K.1 (K.2.2.2.2.2.2.1.trans hret) rfl (Or.inl rfl) (hb K.2.2.1 hd) hr, hrun, hended, _, _, rfl, ⟨N, D, q, H⟩, ⟨_, rfl⟩, hW, hsame.mono hc hs⟩
theorem Run.retJ (K : Ctx Z y bytes maxL ret p s m meth c) {x : Int64} (hd : decode bytes pc = .ok (.lreturn, 1)) (hret : ret = some .long) (hc : cells ≤ R.cells) (hs : slots ≤ R.slots) (q : Ψ (some (.long x)) D) : Run Z a0 n0 p l e R s m args below meth c Ψ D cells slots pc L [.long x] := by
  intro T locs X N H
  obtain ⟨fs, hr, hrun, hended, hW, hsame⟩ := X.leave (v := (some (.long x))) (fun h => by rw [K.2.2.2.2.2.2.1, hret] at h; cases h) K.2.2.2.2.2.2.2
  exact ⟨_, _, X.lreturnOut K.1 (K.2.2.2.2.2.2.1.trans hret) (hb K.2.2.1 hd) hr, hrun, hended, _, _, rfl, ⟨N, D, q, H⟩, ⟨_, rfl⟩, hW, hsame.mono hc hs⟩
theorem Run.retN (K : Ctx Z y bytes maxL ret p s m meth c) {x w : Int32} {t : FieldType} (hd : decode bytes pc = .ok (.ireturn, 1)) (hret : ret = some t) (ht : t = .boolean ∨ t = .byte ∨ t = .char ∨ t = .short) (hw : nar t x = w) (hc : cells ≤ R.cells) (hs : slots ≤ R.slots) (q : Ψ (some (.int w)) D) : Run Z a0 n0 p l e R s m args below meth c Ψ D cells slots pc L [.int x] := by
  intro T locs X N H
  obtain ⟨fs, hr, hrun, hended, hW, hsame⟩ := X.leave (v := (some (.int w))) (fun h => by rw [K.2.2.2.2.2.2.1, hret] at h; cases h) K.2.2.2.2.2.2.2
  exact ⟨_, _, RoadKit.retN X K.1 (K.2.2.2.2.2.2.1.trans hret) ht (hb K.2.2.1 hd) (hw ▸ hr), hrun, hended, _, _, rfl, ⟨N, D, q, H⟩, ⟨_, rfl⟩, hW, hsame.mono hc hs⟩
theorem Run.retA (K : Ctx Z y bytes maxL ret p s m meth c) {x : Value} {t : FieldType} (hd : decode bytes pc = .ok (.areturn, 1)) (hret : ret = some t) (ht : t.isReference = true) (hx : x.isRef = true) (hc : cells ≤ R.cells) (hs : slots ≤ R.slots) (q : Ψ (some x) D) : Run Z a0 n0 p l e R s m args below meth c Ψ D cells slots pc L [x] := by
  intro T locs X N H
  obtain ⟨fs, hr, hrun, hended, hW, hsame⟩ := X.leave (v := (some x)) (fun h => by rw [K.2.2.2.2.2.2.1, hret] at h; cases h) K.2.2.2.2.2.2.2
  exact ⟨_, _, X.areturnOut K.1 hx (K.2.2.2.2.2.2.1.trans hret) ht (hb K.2.2.1 hd) hr, hrun, hended, _, _, rfl, ⟨N, D, q, H⟩, ⟨_, rfl⟩, hW, hsame.mono hc hs⟩
end Runs
end Jvm.Own

namespace Jvm.Pilot.@@N@@
open Jvm Jvm.ClassFile Sem Op Lib Jvm.Free Jvm.Stand Jvm.LawKit Jvm.RoadKit Jvm.Own Bundle Jvm.Pilot.@@N@@.Jvm.D
def own_brk (b : Int32) : Prop := b = (13 : Int32) ∨ b = (10 : Int32)
def own_end (bs : List Int32) (f r : Nat) : Prop := f ≤ r ∧ r ≤ bs.length ∧ (∀ x, f ≤ x → x < r → ¬ own_brk (bs.getD x 0)) ∧ (r < bs.length → own_brk (bs.getD r 0))
theorem own_len (bs : List Int32) : (bs.map Value.int).length.toInt32 = Int32.ofNat bs.length := by rw [List.length_map]
theorem own_at {bs : List Int32} {k : Nat} (h : k < bs.length) : (bs.map Value.int)[k]? = some (.int (bs.getD k 0)) := by
  simp [List.getElem?_map, h, List.getD_eq_getElem?_getD]
theorem own_nn {k : Nat} (h : k < 2147483648) : ¬ (Int32.ofNat k < (0 : Int32)) := by
  rw [Int32.lt_iff_toInt_lt, Int32.toInt_ofNat_small h]
  have z : (0 : Int32).toInt = 0 := by decide
  omega
theorem own_clamp {k : Nat} (h : k < 2147483648) : (Int32.ofNat k).toNatClampNeg = k := by
  have q : (Int32.ofNat k).toInt = k := Int32.toInt_ofNat_small h
  show (Int32.ofNat k).toInt.toNat = k
  omega
theorem own_le {a b : Nat} (ha : a < 2147483648) (hb : b < 2147483648) : Int32.ofNat a ≤ Int32.ofNat b ↔ a ≤ b := by
  rw [Int32.le_iff_toInt_le, Int32.toInt_ofNat_small ha, Int32.toInt_ofNat_small hb]
  omega
theorem own_lt {a b : Nat} (ha : a < 2147483648) (hb : b < 2147483648) : Int32.ofNat a < Int32.ofNat b ↔ a < b := by
  rw [Int32.lt_iff_toInt_lt, Int32.toInt_ofNat_small ha, Int32.toInt_ofNat_small hb]
  omega
theorem own_succ (k : Nat) : Int32.ofNat k + (1 : Int32) = Int32.ofNat (k + 1) := by
  rw [Int32.ofNat_add]; rfl
theorem own_inj {a b : Nat} (ha : a < 2147483648) (hb : b < 2147483648) (h : Int32.ofNat a = Int32.ofNat b) : a = b := by
  have q := congrArg Int32.toInt h
  rw [Int32.toInt_ofNat_small ha, Int32.toInt_ofNat_small hb] at q
  omega
def own_mod (p : Int32) (n : Nat) : Nat := ((p &&& (2147483647 : Int32)).toInt % n).toNat
theorem own_m31 (p : Int32) : 0 ≤ (p &&& (2147483647 : Int32)).toInt := by
  rw [c_mask p (2147483647 : Int32) 31 (by decide) (by decide)]
  exact Int.emod_nonneg _ (by decide)
theorem own_modL (p : Int32) (n : Nat) : own_mod p (n + 1) ≤ n := by
  unfold own_mod
  have h1 := Int.emod_nonneg (p &&& (2147483647 : Int32)).toInt (show ((n + 1 : Nat) : Int) ≠ 0 by omega)
  have h2 := Int.emod_lt_of_pos (p &&& (2147483647 : Int32)).toInt (show (0 : Int) < ((n + 1 : Nat) : Int) by omega)
  omega
theorem own_modE (p N : Int32) (n : Nat) (hN : N.toInt = n) (h : 0 < n) : (p &&& (2147483647 : Int32)) % N = Int32.ofNat (own_mod p n) := by
  apply Int32.toInt_inj.mp
  have h0 := own_m31 p
  have h1 := Int.emod_nonneg (p &&& (2147483647 : Int32)).toInt (show (n : Int) ≠ 0 by omega)
  have h2 := Int.emod_lt_of_pos (p &&& (2147483647 : Int32)).toInt (show (0 : Int) < (n : Int) by omega)
  have r := rng32 N
  rw [Int32.toInt_mod, hN, Int.tmod_eq_emod_of_nonneg h0, Int32.toInt_ofNat_small (by unfold own_mod; omega)]
  unfold own_mod
  omega
theorem own_n8 (p : Int32) : (p &&& (7 : Int32)) = (0 : Int32) ∨ (p &&& (7 : Int32)) = (1 : Int32) ∨ (p &&& (7 : Int32)) = (2 : Int32) ∨ (p &&& (7 : Int32)) = (3 : Int32) ∨ (p &&& (7 : Int32)) = (4 : Int32) ∨ (p &&& (7 : Int32)) = (5 : Int32) ∨ (p &&& (7 : Int32)) = (6 : Int32) ∨ (p &&& (7 : Int32)) = (7 : Int32) := by
  have m := c_mask p (7 : Int32) 3 (by decide) (by decide)
  have e : (p &&& (7 : Int32)).toInt = 0 ∨ (p &&& (7 : Int32)).toInt = 1 ∨ (p &&& (7 : Int32)).toInt = 2 ∨ (p &&& (7 : Int32)).toInt = 3 ∨ (p &&& (7 : Int32)).toInt = 4 ∨ (p &&& (7 : Int32)).toInt = 5 ∨ (p &&& (7 : Int32)).toInt = 6 ∨ (p &&& (7 : Int32)).toInt = 7 := by
    rw [m]; omega
  rcases e with e | e | e | e | e | e | e | e
  · exact Or.inl (Int32.toInt_inj.mp (e.trans (by decide)))
  · exact Or.inr (Or.inl (Int32.toInt_inj.mp (e.trans (by decide))))
  · exact Or.inr (Or.inr (Or.inl (Int32.toInt_inj.mp (e.trans (by decide)))))
  · exact Or.inr (Or.inr (Or.inr (Or.inl (Int32.toInt_inj.mp (e.trans (by decide))))))
  · exact Or.inr (Or.inr (Or.inr (Or.inr (Or.inl (Int32.toInt_inj.mp (e.trans (by decide)))))))
  · exact Or.inr (Or.inr (Or.inr (Or.inr (Or.inr (Or.inl (Int32.toInt_inj.mp (e.trans (by decide))))))))
  · exact Or.inr (Or.inr (Or.inr (Or.inr (Or.inr (Or.inr (Or.inl (Int32.toInt_inj.mp (e.trans (by decide)))))))))
  · exact Or.inr (Or.inr (Or.inr (Or.inr (Or.inr (Or.inr (Or.inr (Int32.toInt_inj.mp (e.trans (by decide)))))))))
def own_next (bs : List Int32) (f r : Nat) : Prop := f ≤ r ∧ r ≤ bs.length ∧ (∀ x, f ≤ x → x < r → own_brk (bs.getD x 0)) ∧ (r < bs.length → ¬ own_brk (bs.getD r 0))
theorem own_rs {bs : List Int32} {r : Nat} (h : r ≤ bs.length) (hb : bs.length < 2147483648) : r < 2147483648 := by omega
theorem own_ir {p2 p3 : Int32} {r i : Nat} {bs : List Int32} (hr : p2 = Int32.ofNat r) (hi : p3 = Int32.ofNat i) (hr2 : r ≤ bs.length) (hb : bs.length < 2147483648) (hi2 : i < 2147483648) (h : ¬ (p2 ≤ p3)) : i < bs.length := by
  rw [hr, hi, own_le (by omega) hi2] at h
  omega
theorem own_brk1 {b c : Int32} (h : (((b = (13 : Int32)) ∧ c = (1 : Int32)) ∨ ((¬ (b = (13 : Int32))) ∧ (b ≠ (10 : Int32)) ∧ c = (0 : Int32)) ∨ ((¬ (b = (13 : Int32))) ∧ (¬ (b ≠ (10 : Int32))) ∧ c = (1 : Int32)))) : (own_brk b ∧ c = (1 : Int32)) ∨ (¬ own_brk b ∧ c = (0 : Int32)) := by
  rcases h with ⟨a, rfl⟩ | ⟨a, b', rfl⟩ | ⟨-, a, rfl⟩
  · exact Or.inl ⟨Or.inl a, rfl⟩
  · exact Or.inr ⟨fun q => q.elim a b', rfl⟩
  · exact Or.inl ⟨Or.inr (Decidable.not_not.mp a), rfl⟩
theorem own_sk {p1 p2 p3 c : Int32} {f r i : Nat} {bs : List Int32} (hf : p1 = Int32.ofNat f) (hr : p2 = Int32.ofNat r) (hi : p3 = Int32.ofNat i) (hs : own_next bs f r) (hr2 : r ≤ bs.length) (hb : bs.length < 2147483648) (hi2 : i < 2147483648) (h1 : ¬ (p3 < p1)) (h2 : ¬ (p2 ≤ p3))
    (h3 : ((((bs.getD i 0) = (13 : Int32)) ∧ c = (1 : Int32)) ∨ ((¬ ((bs.getD i 0) = (13 : Int32))) ∧ ((bs.getD i 0) ≠ (10 : Int32)) ∧ c = (0 : Int32)) ∨ ((¬ ((bs.getD i 0) = (13 : Int32))) ∧ (¬ ((bs.getD i 0) ≠ (10 : Int32))) ∧ c = (1 : Int32)))) : nar .boolean c = (1 : Int32) := by
  have h0 := hs.1
  rw [hi, hf, own_lt hi2 (by omega)] at h1
  rw [hr, hi, own_le (by omega) hi2] at h2
  rcases own_brk1 h3 with ⟨-, rfl⟩ | ⟨q, -⟩
  · decide
  · exact absurd (hs.2.2.1 i (by omega) (by omega)) q
theorem own_inb {bs : List Int32} {r : Nat} {N : Int32} (h : r ≤ bs.length) (hb : bs.length < 2147483648) (hN : ¬ (N ≤ Int32.ofNat r)) (e : N = Int32.ofNat bs.length := by rfl) : r < bs.length := by
  rw [e, own_le hb (by omega)] at hN
  omega
theorem own_nb {bs : List Int32} {f r : Nat} {c : Int32} (h : own_next bs f r) (hr : r < bs.length) (h3 : ((((bs.getD r 0) = (13 : Int32)) ∧ c = (1 : Int32)) ∨ ((¬ ((bs.getD r 0) = (13 : Int32))) ∧ ((bs.getD r 0) ≠ (10 : Int32)) ∧ c = (0 : Int32)) ∨ ((¬ ((bs.getD r 0) = (13 : Int32))) ∧ (¬ ((bs.getD r 0) ≠ (10 : Int32))) ∧ c = (1 : Int32)))) : c = (0 : Int32) := by
  rcases own_brk1 h3 with ⟨q, -⟩ | ⟨-, q⟩
  · exact absurd q (h.2.2.2 hr)
  · exact q
theorem own_c1 (p N : Int32) (n : Nat) (hN : N.toInt = n) (h0 : 0 < n) (hn : n < 2147483648) {bs : List Int32} {r : Nat} (h : own_next bs (own_mod p n) r) (hb : bs.length < 2147483648) : ¬ (Int32.ofNat r < ((p &&& (2147483647 : Int32)) % N)) := by
  have q := h.2.1
  have q1 := h.1
  rw [own_modE p N n hN h0, own_lt (by omega) (by omega)]
  omega
theorem own_c2 {bs : List Int32} {r : Nat} {N : Int32} (e : N = Int32.ofNat bs.length) (h : r ≤ bs.length) (hb : bs.length < 2147483648) : Int32.ofNat r ≤ N := by
  rw [e, own_le (by omega) hb]
  exact h

theorem d1_0 : decode prog_80_method_4_code 0 = .ok (.iload_n 1, 1) := by decide +kernel
theorem d1_1 : decode prog_80_method_4_code 1 = .ok (.istore_n 2, 1) := by decide +kernel
theorem d1_2 : decode prog_80_method_4_code 2 = .ok (.iload_n 2, 1) := by decide +kernel
theorem d1_3 : decode prog_80_method_4_code 3 = .ok (.aload_n 0, 1) := by decide +kernel
theorem d1_4 : decode prog_80_method_4_code 4 = .ok (.arraylength, 1) := by decide +kernel
theorem d1_5 : decode prog_80_method_4_code 5 = .ok (.if_icmp .ge 25, 3) := by decide +kernel
theorem d1_8 : decode prog_80_method_4_code 8 = .ok (.aload_n 0, 1) := by decide +kernel
theorem d1_9 : decode prog_80_method_4_code 9 = .ok (.iload_n 2, 1) := by decide +kernel
theorem d1_10 : decode prog_80_method_4_code 10 = .ok (.baload, 1) := by decide +kernel
theorem d1_11 : decode prog_80_method_4_code 11 = .ok (.bipush 13, 2) := by decide +kernel
theorem d1_13 : decode prog_80_method_4_code 13 = .ok (.if_icmp .eq 11, 3) := by decide +kernel
theorem d1_16 : decode prog_80_method_4_code 16 = .ok (.aload_n 0, 1) := by decide +kernel
theorem d1_17 : decode prog_80_method_4_code 17 = .ok (.iload_n 2, 1) := by decide +kernel
theorem d1_18 : decode prog_80_method_4_code 18 = .ok (.baload, 1) := by decide +kernel
theorem d1_19 : decode prog_80_method_4_code 19 = .ok (.bipush 10, 2) := by decide +kernel
theorem d1_21 : decode prog_80_method_4_code 21 = .ok (.if_icmp .ne 9, 3) := by decide +kernel
theorem d1_24 : decode prog_80_method_4_code 24 = .ok (.iinc 2 1, 3) := by decide +kernel
theorem d1_27 : decode prog_80_method_4_code 27 = .ok (.goto (-25), 3) := by decide +kernel
theorem d1_30 : decode prog_80_method_4_code 30 = .ok (.iload_n 2, 1) := by decide +kernel
theorem d1_31 : decode prog_80_method_4_code 31 = .ok (.ireturn, 1) := by decide +kernel
theorem pn_0 : plainName "com/example/estafeta/estafeta/Segment" = true := by first | (simp [plainName, overriddenIn]; done) | decide +kernel
set_option maxRecDepth 65536 in
set_option maxHeartbeats 40000000 in
theorem rm1 (l : Launch) (Z : State) (a0 : Array Value) (n0 : Nat) (hw : ∀ d ∈ tables_1, d.before a0 Z = true) (ws : List Jvm.Cond) (a1 : Addr) (p1 : Int32) (bs : List Int32) (f : Nat) (Ob : List OObj) (Ax : List OArr) (hf : p1 = Int32.ofNat f) (hfl : f ≤ bs.length) (hb : bs.length < 2147483648) : Con l Z a0 n0 ws (⟨"com/example/estafeta/estafeta/Segment", "next", "([BI)I"⟩ : MethodName) prog_80_method_4_code 3 (some .int) ({ frames := 0, cells := 0, slots := 0, locals := 0 } : Room) #[(.ref a1), (.int p1)] (Ob, (a1, .byte, (bs.map Value.int)) :: Ax) (fun vq Dq => ∃ (r : Nat), (own_next bs f r) ∧ vq = (some (.int (Int32.ofNat r))) ∧ Dq = (Ob, (a1, .byte, (bs.map Value.int)) :: Ax)) := by
  refine Con.of_run (plainFor_of_name pn_0) (L0 := #[.val (.ref a1), .val (.int p1), .unset]) (fun m => by first | (simp [entryFrame, mkF, argsToLocals, Value.category]; done) | rfl) ?_
  intro p e s m below meth c K
  subst hf
  refine Run.iloadN K d1_0 (pc' := 1) rfl rfl ?_
  refine Run.istoreN K d1_1 (pc' := 2) rfl (L' := #[.val (.ref a1), .val (.int (Int32.ofNat f)), .val (.int (Int32.ofNat f))]) rfl ?_
  suffices HL : ∀ (n k : Nat), k + n = bs.length → f ≤ k → (∀ x, f ≤ x → x < k → own_brk (bs.getD x 0)) → Run Z a0 n0 p l e ({ frames := 0, cells := 0, slots := 0, locals := 0 } : Room) s m #[(.ref a1), (.int (Int32.ofNat f))] below meth c (fun vq Dq => ∃ (r : Nat), (own_next bs f r) ∧ vq = (some (.int (Int32.ofNat r))) ∧ Dq = (Ob, (a1, .byte, (bs.map Value.int)) :: Ax)) (Ob, (a1, .byte, (bs.map Value.int)) :: Ax) 0 0 2 #[.val (.ref a1), .val (.int (Int32.ofNat f)), .val (.int (Int32.ofNat k))] [] from HL (bs.length - f) f (by omega) (Nat.le_refl _) (fun x h1 h2 => by omega)
  intro n
  induction n with
  | zero =>
    intro k hk hfk hnb
    refine Run.iloadN K d1_2 (pc' := 3) rfl rfl ?_
    refine Run.aloadN K d1_3 (pc' := 4) rfl rfl rfl ?_
    refine Run.alen K d1_4 (pc' := 5) rfl (i := 0) rfl (w := (Int32.ofNat bs.length)) (own_len bs) ?_
    refine Run.icmpT K d1_5 (pT := 30) (pF := 8) (by decide) (by decide) rfl (show (Int32.ofNat bs.length) ≤ (Int32.ofNat k) from (own_le (by omega) (by omega)).mpr (by omega)) ?_
    refine Run.iloadN K d1_30 (pc' := 31) rfl rfl ?_
    refine Run.retI K d1_31 rfl (by decide) (by decide) ⟨k, ⟨hfk, by omega, hnb, fun hk2 => ?_⟩, rfl, rfl⟩
    exact absurd hk2 (by omega)
  | succ n ih =>
    intro k hk hfk hnb
    refine Run.iloadN K d1_2 (pc' := 3) rfl rfl ?_
    refine Run.aloadN K d1_3 (pc' := 4) rfl rfl rfl ?_
    refine Run.alen K d1_4 (pc' := 5) rfl (i := 0) rfl (w := (Int32.ofNat bs.length)) (own_len bs) ?_
    refine Run.icmpF K d1_5 (pT := 30) (pF := 8) (by decide) (by decide) rfl (show ¬ ((Int32.ofNat bs.length) ≤ (Int32.ofNat k)) from fun h => absurd ((own_le (by omega) (by omega)).mp h) (by omega)) ?_
    refine Run.aloadN K d1_8 (pc' := 9) rfl rfl rfl ?_
    refine Run.iloadN K d1_9 (pc' := 10) rfl rfl ?_
    refine Run.baload K d1_10 (pc' := 11) rfl (i := 0) (q := k) rfl (own_nn (by omega)) (own_clamp (by omega)) (v := (.int (bs.getD k 0))) (own_at (by omega)) ?_
    refine Run.bipush K d1_11 (pc' := 13) rfl (v := (13 : Int32)) rfl ?_
    refine Run.icmp K d1_13 (pT := 24) (pF := 16) (by decide) (by decide) rfl (fun (h13_0 : (bs.getD k 0) = (13 : Int32)) => ?_) (fun (h13_0 : ¬ ((bs.getD k 0) = (13 : Int32))) => ?_)
    · skip
      refine Run.iinc K d1_24 (pc' := 27) rfl rfl (L' := #[.val (.ref a1), .val (.int (Int32.ofNat f)), .val (.int ((Int32.ofNat k) + (1 : Int32)))]) rfl ?_
      refine Run.goto K d1_27 (pc' := 2) (by decide) (by decide) ?_
      refine Run.asL (L' := #[.val (.ref a1), .val (.int (Int32.ofNat f)), .val (.int (Int32.ofNat (k + 1)))]) (by rw [own_succ]) ?_
      refine ih (k + 1) (by omega) (by omega) (fun x h1 h2 => ?_)
      by_cases hx : x = k
      · subst hx; exact Or.inl h13_0
      · exact hnb x h1 (by omega)
    · skip
      refine Run.aloadN K d1_16 (pc' := 17) rfl rfl rfl ?_
      refine Run.iloadN K d1_17 (pc' := 18) rfl rfl ?_
      refine Run.baload K d1_18 (pc' := 19) rfl (i := 0) (q := k) rfl (own_nn (by omega)) (own_clamp (by omega)) (v := (.int (bs.getD k 0))) (own_at (by omega)) ?_
      refine Run.bipush K d1_19 (pc' := 21) rfl (v := (10 : Int32)) rfl ?_
      refine Run.icmp K d1_21 (pT := 30) (pF := 24) (by decide) (by decide) rfl (fun (h21_1 : (bs.getD k 0) ≠ (10 : Int32)) => ?_) (fun (h21_1 : ¬ ((bs.getD k 0) ≠ (10 : Int32))) => ?_)
      · skip
        refine Run.iloadN K d1_30 (pc' := 31) rfl rfl ?_
        refine Run.retI K d1_31 rfl (by decide) (by decide) ⟨k, ⟨hfk, by omega, hnb, fun hk2 => ?_⟩, rfl, rfl⟩
        exact fun h => h.elim h13_0 h21_1
      · skip
        refine Run.iinc K d1_24 (pc' := 27) rfl rfl (L' := #[.val (.ref a1), .val (.int (Int32.ofNat f)), .val (.int ((Int32.ofNat k) + (1 : Int32)))]) rfl ?_
        refine Run.goto K d1_27 (pc' := 2) (by decide) (by decide) ?_
        refine Run.asL (L' := #[.val (.ref a1), .val (.int (Int32.ofNat f)), .val (.int (Int32.ofNat (k + 1)))]) (by rw [own_succ]) ?_
        refine ih (k + 1) (by omega) (by omega) (fun x h1 h2 => ?_)
        by_cases hx : x = k
        · subst hx; exact Or.inr (Decidable.not_not.mp h21_1)
        · exact hnb x h1 (by omega)
theorem d3_0 : decode method_3_code 0 = .ok (.iload_n 0, 1) := by decide +kernel
theorem d3_1 : decode method_3_code 1 = .ok (.iconst 2, 1) := by decide +kernel
theorem d3_2 : decode method_3_code 2 = .ok (.iload_n 3, 1) := by decide +kernel
theorem d3_3 : decode method_3_code 3 = .ok (.imul, 1) := by decide +kernel
theorem d3_4 : decode method_3_code 4 = .ok (.iushr, 1) := by decide +kernel
theorem d3_5 : decode method_3_code 5 = .ok (.iconst 3, 1) := by decide +kernel
theorem d3_6 : decode method_3_code 6 = .ok (.iand, 1) := by decide +kernel
theorem d3_7 : decode method_3_code 7 = .ok (.istore 4, 2) := by decide +kernel
theorem d3_9 : decode method_3_code 9 = .ok (.iload 4, 2) := by decide +kernel
theorem d3_11 : decode method_3_code 11 = .ok (.ifCond .ne 6, 3) := by decide +kernel
theorem d3_14 : decode method_3_code 14 = .ok (.bipush 13, 2) := by decide +kernel
theorem d3_16 : decode method_3_code 16 = .ok (.ireturn, 1) := by decide +kernel
theorem d3_17 : decode method_3_code 17 = .ok (.iload 4, 2) := by decide +kernel
theorem d3_19 : decode method_3_code 19 = .ok (.iconst 1, 1) := by decide +kernel
theorem d3_20 : decode method_3_code 20 = .ok (.if_icmp .ne 6, 3) := by decide +kernel
theorem d3_23 : decode method_3_code 23 = .ok (.bipush 10, 2) := by decide +kernel
theorem d3_25 : decode method_3_code 25 = .ok (.ireturn, 1) := by decide +kernel
theorem d3_26 : decode method_3_code 26 = .ok (.lload_n 1, 1) := by decide +kernel
theorem d3_27 : decode method_3_code 27 = .ok (.bipush 8, 2) := by decide +kernel
theorem d3_29 : decode method_3_code 29 = .ok (.iload_n 3, 1) := by decide +kernel
theorem d3_30 : decode method_3_code 30 = .ok (.imul, 1) := by decide +kernel
theorem d3_31 : decode method_3_code 31 = .ok (.lushr, 1) := by decide +kernel
theorem d3_32 : decode method_3_code 32 = .ok (.l2i, 1) := by decide +kernel
theorem d3_33 : decode method_3_code 33 = .ok (.i2b, 1) := by decide +kernel
theorem d3_34 : decode method_3_code 34 = .ok (.ireturn, 1) := by decide +kernel
theorem pn_1 : plainName "com/example/estafeta/estafeta/SegmentNextPinLaw" = true := by first | (simp [plainName, overriddenIn]; done) | decide +kernel
set_option maxRecDepth 65536 in
set_option maxHeartbeats 40000000 in
theorem rm3 (l : Launch) (Z : State) (a0 : Array Value) (n0 : Nat) (hw : ∀ d ∈ tables_1, d.before a0 Z = true) (ws : List Jvm.Cond) (p1 : Int32) (p2 : Int64) (p3 : Int32) (Ob : List OObj) (Ax : List OArr) : Con l Z a0 n0 ws (⟨"com/example/estafeta/estafeta/SegmentNextPinLaw", "pick", "(IJI)B"⟩ : MethodName) method_3_code 5 (some .byte) ({ frames := 0, cells := 0, slots := 0, locals := 0 } : Room) #[(.int p1), (.long p2), (.int p3)] (Ob, Ax) (fun vq Dq => ∃ (j5 : Int32), (((((((p1.toUInt32 >>> (((2 : Int32) * p3) &&& 31).toUInt32).toInt32) &&& (3 : Int32)) ≠ (0 : Int32)) ∧ ((((p1.toUInt32 >>> (((2 : Int32) * p3) &&& 31).toUInt32).toInt32) &&& (3 : Int32)) ≠ (1 : Int32)) ∧ j5 = ((((p2.toUInt64 >>> (((8 : Int32) * p3) &&& 0x3f).toInt64.toUInt64).toInt64).toInt32).toInt8.toInt32)) ∨ (((((p1.toUInt32 >>> (((2 : Int32) * p3) &&& 31).toUInt32).toInt32) &&& (3 : Int32)) ≠ (0 : Int32)) ∧ (¬ ((((p1.toUInt32 >>> (((2 : Int32) * p3) &&& 31).toUInt32).toInt32) &&& (3 : Int32)) ≠ (1 : Int32))) ∧ j5 = (10 : Int32)) ∨ ((¬ ((((p1.toUInt32 >>> (((2 : Int32) * p3) &&& 31).toUInt32).toInt32) &&& (3 : Int32)) ≠ (0 : Int32))) ∧ j5 = (13 : Int32)))) ∧ vq = (some (.int j5)) ∧ Dq = (Ob, Ax)) := by
  refine Con.of_run (plainFor_of_name pn_1) (L0 := #[.val (.int p1), .val (.long p2), .second, .val (.int p3), .unset]) (fun m => by first | (simp [entryFrame, mkF, argsToLocals, Value.category]; done) | rfl) ?_
  intro p e s m below meth c K
  refine Run.iloadN K d3_0 (pc' := 1) rfl rfl ?_
  refine Run.iconst K d3_1 (pc' := 2) rfl (v := (2 : Int32)) rfl ?_
  refine Run.iloadN K d3_2 (pc' := 3) rfl rfl ?_
  refine Run.imul K d3_3 (pc' := 4) rfl ?_
  refine Run.iushr K d3_4 (pc' := 5) rfl ?_
  refine Run.iconst K d3_5 (pc' := 6) rfl (v := (3 : Int32)) rfl ?_
  refine Run.iand K d3_6 (pc' := 7) rfl ?_
  refine Run.istore K d3_7 (pc' := 9) rfl (L' := #[.val (.int p1), .val (.long p2), .second, .val (.int p3), .val (.int (((p1.toUInt32 >>> (((2 : Int32) * p3) &&& 31).toUInt32).toInt32) &&& (3 : Int32)))]) rfl ?_
  refine Run.iload K d3_9 (pc' := 11) rfl rfl ?_
  refine Run.ifc K d3_11 (pT := 17) (pF := 14) (by decide) (by decide) rfl (fun (h11_5 : (((p1.toUInt32 >>> (((2 : Int32) * p3) &&& 31).toUInt32).toInt32) &&& (3 : Int32)) ≠ (0 : Int32)) => ?_) (fun (h11_5 : ¬ ((((p1.toUInt32 >>> (((2 : Int32) * p3) &&& 31).toUInt32).toInt32) &&& (3 : Int32)) ≠ (0 : Int32))) => ?_)
  · skip
    refine Run.iload K d3_17 (pc' := 19) rfl rfl ?_
    refine Run.iconst K d3_19 (pc' := 20) rfl (v := (1 : Int32)) rfl ?_
    refine Run.icmp K d3_20 (pT := 26) (pF := 23) (by decide) (by decide) rfl (fun (h20_6 : (((p1.toUInt32 >>> (((2 : Int32) * p3) &&& 31).toUInt32).toInt32) &&& (3 : Int32)) ≠ (1 : Int32)) => ?_) (fun (h20_6 : ¬ ((((p1.toUInt32 >>> (((2 : Int32) * p3) &&& 31).toUInt32).toInt32) &&& (3 : Int32)) ≠ (1 : Int32))) => ?_)
    · skip
      refine Run.lloadN K d3_26 (pc' := 27) rfl rfl ?_
      refine Run.bipush K d3_27 (pc' := 29) rfl (v := (8 : Int32)) rfl ?_
      refine Run.iloadN K d3_29 (pc' := 30) rfl rfl ?_
      refine Run.imul K d3_30 (pc' := 31) rfl ?_
      refine Run.lushr K d3_31 (pc' := 32) rfl ?_
      refine Run.l2i K d3_32 (pc' := 33) rfl ?_
      refine Run.i2b K d3_33 (pc' := 34) rfl ?_
      exact Run.retN K d3_34 (w := ((((p2.toUInt64 >>> (((8 : Int32) * p3) &&& 0x3f).toInt64.toUInt64).toInt64).toInt32).toInt8.toInt32)) rfl (by decide) (nar_byte _) (by decide) (by decide) ⟨_, (Or.inl ⟨h11_5, h20_6, rfl⟩), rfl, rfl⟩
    · skip
      refine Run.bipush K d3_23 (pc' := 25) rfl (v := (10 : Int32)) rfl ?_
      exact Run.retN K d3_25 (w := (10 : Int32)) rfl (by decide) (by decide) (by decide) (by decide) ⟨_, (Or.inr (Or.inl ⟨h11_5, h20_6, rfl⟩)), rfl, rfl⟩
  · skip
    refine Run.bipush K d3_14 (pc' := 16) rfl (v := (13 : Int32)) rfl ?_
    exact Run.retN K d3_16 (w := (13 : Int32)) rfl (by decide) (by decide) (by decide) (by decide) ⟨_, (Or.inr (Or.inr (⟨h11_5, rfl⟩))), rfl, rfl⟩
theorem d4_0 : decode method_2_code 0 = .ok (.iload_n 0, 1) := by decide +kernel
theorem d4_1 : decode method_2_code 1 = .ok (.bipush 13, 2) := by decide +kernel
theorem d4_3 : decode method_2_code 3 = .ok (.if_icmp .eq 9, 3) := by decide +kernel
theorem d4_6 : decode method_2_code 6 = .ok (.iload_n 0, 1) := by decide +kernel
theorem d4_7 : decode method_2_code 7 = .ok (.bipush 10, 2) := by decide +kernel
theorem d4_9 : decode method_2_code 9 = .ok (.if_icmp .ne 7, 3) := by decide +kernel
theorem d4_12 : decode method_2_code 12 = .ok (.iconst 1, 1) := by decide +kernel
theorem d4_13 : decode method_2_code 13 = .ok (.goto 4, 3) := by decide +kernel
theorem d4_16 : decode method_2_code 16 = .ok (.iconst 0, 1) := by decide +kernel
theorem d4_17 : decode method_2_code 17 = .ok (.ireturn, 1) := by decide +kernel
set_option maxRecDepth 65536 in
set_option maxHeartbeats 40000000 in
theorem rm4 (l : Launch) (Z : State) (a0 : Array Value) (n0 : Nat) (hw : ∀ d ∈ tables_1, d.before a0 Z = true) (ws : List Jvm.Cond) (p1 : Int32) (Ob : List OObj) (Ax : List OArr) : Con l Z a0 n0 ws (⟨"com/example/estafeta/estafeta/SegmentNextPinLaw", "isBreak", "(B)Z"⟩ : MethodName) method_2_code 1 (some .boolean) ({ frames := 0, cells := 0, slots := 0, locals := 0 } : Room) #[(.int p1)] (Ob, Ax) (fun vq Dq => ∃ (j11 : Int32), ((((p1 = (13 : Int32)) ∧ j11 = (1 : Int32)) ∨ ((¬ (p1 = (13 : Int32))) ∧ (p1 ≠ (10 : Int32)) ∧ j11 = (0 : Int32)) ∨ ((¬ (p1 = (13 : Int32))) ∧ (¬ (p1 ≠ (10 : Int32))) ∧ j11 = (1 : Int32)))) ∧ vq = (some (.int j11)) ∧ Dq = (Ob, Ax)) := by
  refine Con.of_run (plainFor_of_name pn_1) (L0 := #[.val (.int p1)]) (fun m => by first | (simp [entryFrame, mkF, argsToLocals, Value.category]; done) | rfl) ?_
  intro p e s m below meth c K
  refine Run.iloadN K d4_0 (pc' := 1) rfl rfl ?_
  refine Run.bipush K d4_1 (pc' := 3) rfl (v := (13 : Int32)) rfl ?_
  refine Run.join1 (F := fun (j17 : Int32) => ((p1 = (13 : Int32)) ∧ j17 = (1 : Int32)) ∨ ((¬ (p1 = (13 : Int32))) ∧ (p1 ≠ (10 : Int32)) ∧ j17 = (0 : Int32)) ∨ ((¬ (p1 = (13 : Int32))) ∧ (¬ (p1 ≠ (10 : Int32))) ∧ j17 = (1 : Int32))) (D' := fun (j17 : Int32) => (Ob, Ax)) (cells' := 0) (slots' := 0) (pc' := 17) (L' := fun (j17 : Int32) => #[.val (.int p1)]) (S' := fun (j17 : Int32) => [(.int j17)]) ?_ (fun J3 => ?_)
  · intro j17 hjj17
    exact Run.retN K d4_17 (w := j17) rfl (by decide) (own_bool (by rcases hjj17 with ⟨-, q⟩ | ⟨-, -, q⟩ | ⟨-, -, q⟩ <;> first | exact Or.inl q | exact Or.inr q)) (by decide) (by decide) ⟨j17, hjj17, rfl, rfl⟩
  · skip
    refine Run.icmp K d4_3 (pT := 12) (pF := 6) (by decide) (by decide) rfl (fun (h3_17 : p1 = (13 : Int32)) => ?_) (fun (h3_17 : ¬ (p1 = (13 : Int32))) => ?_)
    · skip
      refine Run.iconst K d4_12 (pc' := 13) rfl (v := (1 : Int32)) rfl ?_
      refine Run.goto K d4_13 (pc' := 17) (by decide) (by decide) ?_
      exact J3 _ (Or.inl ⟨h3_17, rfl⟩)
    · skip
      refine Run.iloadN K d4_6 (pc' := 7) rfl rfl ?_
      refine Run.bipush K d4_7 (pc' := 9) rfl (v := (10 : Int32)) rfl ?_
      refine Run.icmp K d4_9 (pT := 16) (pF := 12) (by decide) (by decide) rfl (fun (h9_18 : p1 ≠ (10 : Int32)) => ?_) (fun (h9_18 : ¬ (p1 ≠ (10 : Int32))) => ?_)
      · skip
        refine Run.iconst K d4_16 (pc' := 17) rfl (v := (0 : Int32)) rfl ?_
        exact J3 _ (Or.inr (Or.inl ⟨h3_17, h9_18, rfl⟩))
      · skip
        refine Run.iconst K d4_12 (pc' := 13) rfl (v := (1 : Int32)) rfl ?_
        refine Run.goto K d4_13 (pc' := 17) (by decide) (by decide) ?_
        exact J3 _ (Or.inr (Or.inr (⟨h3_17, h9_18, rfl⟩)))
theorem d2_0 : decode method_4_code 0 = .ok (.iload_n 1, 1) := by decide +kernel
theorem d2_1 : decode method_4_code 1 = .ok (.iload_n 3, 1) := by decide +kernel
theorem d2_2 : decode method_4_code 2 = .ok (.if_icmp .gt 15, 3) := by decide +kernel
theorem d2_5 : decode method_4_code 5 = .ok (.iload_n 3, 1) := by decide +kernel
theorem d2_6 : decode method_4_code 6 = .ok (.iload_n 2, 1) := by decide +kernel
theorem d2_7 : decode method_4_code 7 = .ok (.if_icmp .ge 10, 3) := by decide +kernel
theorem d2_10 : decode method_4_code 10 = .ok (.aload_n 0, 1) := by decide +kernel
theorem d2_11 : decode method_4_code 11 = .ok (.iload_n 3, 1) := by decide +kernel
theorem d2_12 : decode method_4_code 12 = .ok (.baload, 1) := by decide +kernel
theorem d2_13 : decode method_4_code 13 = .ok (.invokestatic 7, 3) := by decide +kernel
theorem d2_16 : decode method_4_code 16 = .ok (.ireturn, 1) := by decide +kernel
theorem d2_17 : decode method_4_code 17 = .ok (.iconst 1, 1) := by decide +kernel
theorem d2_18 : decode method_4_code 18 = .ok (.ireturn, 1) := by decide +kernel
theorem pd_0 : parseMethodDescriptor "(B)Z" = some ⟨[.byte], some .boolean⟩ := by decide +kernel
set_option maxRecDepth 65536 in
set_option maxHeartbeats 40000000 in
theorem rm2 (l : Launch) (Z : State) (a0 : Array Value) (n0 : Nat) (hw : ∀ d ∈ tables_1, d.before a0 Z = true) (ws : List Jvm.Cond) (a1 : Addr) (p1 : Int32) (p2 : Int32) (p3 : Int32) (bs : List Int32) (f : Nat) (r : Nat) (i : Nat) (Ob : List OObj) (Ax : List OArr) (hf : p1 = Int32.ofNat f) (hr : p2 = Int32.ofNat r) (hi : p3 = Int32.ofNat i) (hs : own_next bs f r) (hr2 : r ≤ bs.length) (hb : bs.length < 2147483648) (hi2 : i < 2147483648) : Con l Z a0 n0 ws (⟨"com/example/estafeta/estafeta/SegmentNextPinLaw", "skipped", "([BIII)Z"⟩ : MethodName) method_4_code 4 (some .boolean) ({ frames := 1, cells := 0, slots := 0, locals := 12 } : Room) #[(.ref a1), (.int p1), (.int p2), (.int p3)] (Ob, (a1, .byte, (bs.map Value.int)) :: Ax) (Ret (some (.int (1 : Int32))) (Ob, (a1, .byte, (bs.map Value.int)) :: Ax)) := by
  refine Con.of_run (plainFor_of_name pn_1) (L0 := #[.val (.ref a1), .val (.int p1), .val (.int p2), .val (.int p3)]) (fun m => by first | (simp [entryFrame, mkF, argsToLocals, Value.category]; done) | rfl) ?_
  intro p e s m below meth c K
  refine Run.iloadN K d2_0 (pc' := 1) rfl rfl ?_
  refine Run.iloadN K d2_1 (pc' := 2) rfl rfl ?_
  refine Run.icmp K d2_2 (pT := 17) (pF := 5) (by decide) (by decide) rfl (fun (h2_23 : p3 < p1) => ?_) (fun (h2_23 : ¬ (p3 < p1)) => ?_)
  · skip
    refine Run.iconst K d2_17 (pc' := 18) rfl (v := (1 : Int32)) rfl ?_
    exact Run.retN K d2_18 (w := (1 : Int32)) rfl (by decide) (by decide) (by decide) (by decide) ⟨rfl, rfl⟩
  · skip
    refine Run.iloadN K d2_5 (pc' := 6) rfl rfl ?_
    refine Run.iloadN K d2_6 (pc' := 7) rfl rfl ?_
    refine Run.icmp K d2_7 (pT := 17) (pF := 10) (by decide) (by decide) rfl (fun (h7_24 : p2 ≤ p3) => ?_) (fun (h7_24 : ¬ (p2 ≤ p3)) => ?_)
    · skip
      refine Run.iconst K d2_17 (pc' := 18) rfl (v := (1 : Int32)) rfl ?_
      exact Run.retN K d2_18 (w := (1 : Int32)) rfl (by decide) (by decide) (by decide) (by decide) ⟨rfl, rfl⟩
    · skip
      refine Run.aloadN K d2_10 (pc' := 11) rfl rfl rfl ?_
      refine Run.iloadN K d2_11 (pc' := 12) rfl rfl ?_
      refine Run.baload K d2_12 (pc' := 13) rfl (i := 0) (q := i) rfl (by rw [hi]; exact own_nn (by omega)) (by rw [hi]; exact own_clamp (by omega)) (v := (.int (bs.getD i 0))) (own_at (own_ir hr hi hr2 hb hi2 h7_24)) ?_
      refine Run.callS K d2_13 (pc' := 16) rfl (hw _ (List.mem_of_getElem? (i := 13) rfl)) (hw _ (List.mem_of_getElem? (i := 14) rfl)) (hw _ (List.mem_of_getElem? (i := 8) rfl)) (hw _ (List.mem_of_getElem? (i := 15) rfl)) (by decide) (rm4 l Z a0 n0 hw [] ((bs.getD i 0)) (Ob) ((a1, .byte, (bs.map Value.int)) :: Ax) ) (argsL := [(.int (bs.getD i 0))]) (rest := []) rfl rfl pd_0 rfl (W := 0) rfl (by decide) (by decide) (cells' := 0) (slots' := 0) rfl rfl (by decide) (by decide) ?_
      intro vq Dq hq
      obtain ⟨c26, hc27, rfl, rfl⟩ := hq
      refine Run.as2 (D' := (Ob, (a1, .byte, (bs.map Value.int)) :: Ax)) (S' := [(.int c26)]) rfl rfl ?_
      exact Run.retN K d2_16 (w := (1 : Int32)) rfl (by decide) (own_sk hf hr hi hs hr2 hb hi2 h2_23 h7_24 hc27) (by decide) (by decide) ⟨rfl, rfl⟩
theorem pd_1 : parseMethodDescriptor "([BI)I" = some ⟨[(.array .byte), .int], some .int⟩ := by decide +kernel
theorem pd_2 : parseMethodDescriptor "([BIII)Z" = some ⟨[(.array .byte), .int, .int, .int], some .boolean⟩ := by decide +kernel
theorem pd_3 : parseMethodDescriptor "(IJI)B" = some ⟨[.int, .long, .int], some .byte⟩ := by decide +kernel
set_option maxRecDepth 65536 in
set_option maxHeartbeats 40000000 in
theorem rm0 (l : Launch) (Z : State) (a0 : Array Value) (n0 : Nat) (hw : ∀ d ∈ tables_1, d.before a0 Z = true) (ws : List Jvm.Cond) (p1 : Int32) (p2 : Int32) (p3 : Int64) (p4 : Int32) : Con l Z a0 n0 ws x code maxLocals ret room_1 #[(.int p1), (.int p2), (.long p3), (.int p4)] ([], []) (fun vq _ => vq = some (.int 1)) := by
  refine Con.of_run (plainFor_of_name pn_1) (L0 := #[.val (.int p1), .val (.int p2), .val (.long p3), .second, .val (.int p4), .unset, .unset, .unset, .unset]) (fun m => by first | (simp [entryFrame, mkF, argsToLocals, Value.category, maxLocals]; done) | rfl) ?_
  intro p e s m below meth c K
  refine Run.iloadN K at_0 (pc' := 1) rfl rfl ?_
  refine Run.bipush K at_1 (pc' := 3) rfl (v := (7 : Int32)) rfl ?_
  refine Run.iand K at_3 (pc' := 4) rfl ?_
  rcases (own_n8 p1 : (p1 &&& (7 : Int32)) = (0 : Int32) ∨ (p1 &&& (7 : Int32)) = (1 : Int32) ∨ (p1 &&& (7 : Int32)) = (2 : Int32) ∨ (p1 &&& (7 : Int32)) = (3 : Int32) ∨ (p1 &&& (7 : Int32)) = (4 : Int32) ∨ (p1 &&& (7 : Int32)) = (5 : Int32) ∨ (p1 &&& (7 : Int32)) = (6 : Int32) ∨ (p1 &&& (7 : Int32)) = (7 : Int32)) with hq28 | hq28 | hq28 | hq28 | hq28 | hq28 | hq28 | hq28
  · rw [hq28]
    refine Run.istore K at_4 (pc' := 6) rfl (L' := #[.val (.int p1), .val (.int p2), .val (.long p3), .second, .val (.int p4), .val (.int (0 : Int32)), .unset, .unset, .unset]) rfl ?_
    refine Run.iload K at_6 (pc' := 8) rfl rfl ?_
    refine Run.newA K at_8 (pc' := 10) rfl (ty := .byte) rfl (hw _ (List.mem_of_getElem? (i := 0) rfl)) (by decide) (vs := []) (rfl) (cap := 0) (by decide) (by decide) (cells' := 1) (slots' := 0) rfl rfl (by decide) (by decide) rfl (fun r29 => ?_)
    refine Run.as (D' := ([], [(r29, .byte, [])])) rfl ?_
    refine Run.astore K at_10 (pc' := 12) rfl rfl (L' := #[.val (.int p1), .val (.int p2), .val (.long p3), .second, .val (.int p4), .val (.int (0 : Int32)), .val (.ref r29), .unset, .unset]) rfl ?_
    refine Run.iload K at_12 (pc' := 14) rfl rfl ?_
    refine Run.ifcT K at_14 (pT := 27) (pF := 17) (by decide) (by decide) rfl (show (0 : Int32) ≤ (0 : Int32) from by decide) ?_
    refine Run.iload K at_27 (pc' := 29) rfl rfl ?_
    refine Run.iconst K at_29 (pc' := 30) rfl (v := (1 : Int32)) rfl ?_
    refine Run.icmpT K at_30 (pT := 43) (pF := 33) (by decide) (by decide) rfl (show (0 : Int32) ≤ (1 : Int32) from by decide) ?_
    refine Run.iload K at_43 (pc' := 45) rfl rfl ?_
    refine Run.iconst K at_45 (pc' := 46) rfl (v := (2 : Int32)) rfl ?_
    refine Run.icmpT K at_46 (pT := 59) (pF := 49) (by decide) (by decide) rfl (show (0 : Int32) ≤ (2 : Int32) from by decide) ?_
    refine Run.iload K at_59 (pc' := 61) rfl rfl ?_
    refine Run.iconst K at_61 (pc' := 62) rfl (v := (3 : Int32)) rfl ?_
    refine Run.icmpT K at_62 (pT := 75) (pF := 65) (by decide) (by decide) rfl (show (0 : Int32) ≤ (3 : Int32) from by decide) ?_
    refine Run.iload K at_75 (pc' := 77) rfl rfl ?_
    refine Run.iconst K at_77 (pc' := 78) rfl (v := (4 : Int32)) rfl ?_
    refine Run.icmpT K at_78 (pT := 91) (pF := 81) (by decide) (by decide) rfl (show (0 : Int32) ≤ (4 : Int32) from by decide) ?_
    refine Run.iload K at_91 (pc' := 93) rfl rfl ?_
    refine Run.iconst K at_93 (pc' := 94) rfl (v := (5 : Int32)) rfl ?_
    refine Run.icmpT K at_94 (pT := 107) (pF := 97) (by decide) (by decide) rfl (show (0 : Int32) ≤ (5 : Int32) from by decide) ?_
    refine Run.iload K at_107 (pc' := 109) rfl rfl ?_
    refine Run.bipush K at_109 (pc' := 111) rfl (v := (6 : Int32)) rfl ?_
    refine Run.icmpT K at_111 (pT := 126) (pF := 114) (by decide) (by decide) rfl (show (0 : Int32) ≤ (6 : Int32) from by decide) ?_
    refine Run.iload K at_126 (pc' := 128) rfl rfl ?_
    refine Run.ldcI K at_128 (pc' := 130) rfl (v := (2147483647 : Int32)) (hw _ (List.mem_of_getElem? (i := 1) rfl)) ?_
    refine Run.iand K at_130 (pc' := 131) rfl ?_
    refine Run.iload K at_131 (pc' := 133) rfl rfl ?_
    refine Run.iconst K at_133 (pc' := 134) rfl (v := (1 : Int32)) rfl ?_
    refine Run.iaddV K at_134 (pc' := 135) rfl (v := (1 : Int32)) (by decide) ?_
    refine Run.irem K at_135 (pc' := 136) rfl (by decide) ?_
    refine Run.istore K at_136 (pc' := 138) rfl (L' := #[.val (.int p1), .val (.int p2), .val (.long p3), .second, .val (.int p4), .val (.int (0 : Int32)), .val (.ref r29), .val (.int ((p4 &&& (2147483647 : Int32)) % (1 : Int32))), .unset]) rfl ?_
    refine Run.aload K at_138 (pc' := 140) rfl rfl rfl ?_
    refine Run.iload K at_140 (pc' := 142) rfl rfl ?_
    refine Run.callS K at_142 (pc' := 145) rfl (hw _ (List.mem_of_getElem? (i := 2) rfl)) (hw _ (List.mem_of_getElem? (i := 3) rfl)) (hw _ (List.mem_of_getElem? (i := 4) rfl)) (hw _ (List.mem_of_getElem? (i := 5) rfl)) (by decide) (rm1 l Z a0 n0 hw [] (r29) (((p4 &&& (2147483647 : Int32)) % (1 : Int32))) (([] : List Int32)) ((own_mod p4 1)) ([]) ([]) (own_modE p4 _ 1 (by decide) (by decide)) (own_modL p4 0) (by simp)) (argsL := [(.ref r29), (.int ((p4 &&& (2147483647 : Int32)) % (1 : Int32)))]) (rest := []) rfl rfl pd_1 rfl (W := 0) rfl (by decide) (by decide) (cells' := 1) (slots' := 0) rfl rfl (by decide) (by decide) ?_
    intro vq Dq hq
    obtain ⟨c30, hc31, rfl, rfl⟩ := hq
    refine Run.as2 (D' := ([], [(r29, .byte, [])])) (S' := [(.int (Int32.ofNat c30))]) rfl rfl ?_
    refine Run.istore K at_145 (pc' := 147) rfl (L' := #[.val (.int p1), .val (.int p2), .val (.long p3), .second, .val (.int p4), .val (.int (0 : Int32)), .val (.ref r29), .val (.int ((p4 &&& (2147483647 : Int32)) % (1 : Int32))), .val (.int (Int32.ofNat c30))]) rfl ?_
    refine Run.iload K at_147 (pc' := 149) rfl rfl ?_
    refine Run.iload K at_149 (pc' := 151) rfl rfl ?_
    refine Run.icmpF K at_151 (pT := 161) (pF := 154) (by decide) (by decide) rfl (show ¬ ((Int32.ofNat c30) < ((p4 &&& (2147483647 : Int32)) % (1 : Int32))) from own_c1 p4 _ 1 (by decide) (by decide) (by decide) (bs := ([] : List Int32)) hc31 (by simp)) ?_
    refine Run.iload K at_154 (pc' := 156) rfl rfl ?_
    refine Run.iload K at_156 (pc' := 158) rfl rfl ?_
    refine Run.icmpT K at_158 (pT := 163) (pF := 161) (by decide) (by decide) rfl (show (Int32.ofNat c30) ≤ (0 : Int32) from own_c2 (bs := ([] : List Int32)) rfl hc31.2.1 (by simp)) ?_
    refine Run.iload K at_163 (pc' := 165) rfl rfl ?_
    refine Run.iload K at_165 (pc' := 167) rfl rfl ?_
    refine Run.join0 (D' := ([], [(r29, .byte, [])])) (cells' := 1) (slots' := 0) (pc' := 183) (L' := #[.val (.int p1), .val (.int p2), .val (.long p3), .second, .val (.int p4), .val (.int (0 : Int32)), .val (.ref r29), .val (.int ((p4 &&& (2147483647 : Int32)) % (1 : Int32))), .val (.int (Int32.ofNat c30))]) (S' := []) ?_ (fun J167 => ?_)
    · skip
      refine Run.aload K at_183 (pc' := 185) rfl rfl rfl ?_
      refine Run.iload K at_185 (pc' := 187) rfl rfl ?_
      refine Run.iload K at_187 (pc' := 189) rfl rfl ?_
      refine Run.iconst K at_189 (pc' := 190) rfl (v := (0 : Int32)) rfl ?_
      refine Run.callS K at_190 (pc' := 193) rfl (hw _ (List.mem_of_getElem? (i := 6) rfl)) (hw _ (List.mem_of_getElem? (i := 7) rfl)) (hw _ (List.mem_of_getElem? (i := 8) rfl)) (hw _ (List.mem_of_getElem? (i := 9) rfl)) (by decide) (rm2 l Z a0 n0 hw [] (r29) (((p4 &&& (2147483647 : Int32)) % (1 : Int32))) ((Int32.ofNat c30)) ((0 : Int32)) (([] : List Int32)) ((own_mod p4 1)) (c30) (0) ([]) ([]) (own_modE p4 _ 1 (by decide) (by decide)) (rfl) (rfl) (hc31) (hc31.2.1) (by simp) (by decide)) (argsL := [(.ref r29), (.int ((p4 &&& (2147483647 : Int32)) % (1 : Int32))), (.int (Int32.ofNat c30)), (.int (0 : Int32))]) (rest := []) rfl rfl pd_2 rfl (W := 0) rfl (by decide) (by decide) (cells' := 1) (slots' := 0) rfl rfl (by decide) (by decide) (Ret.k (S' := [(.int (1 : Int32))]) rfl ?_)
      refine Run.as (D' := ([], [(r29, .byte, [])])) rfl ?_
      refine Run.ifcF K at_193 (pT := 279) (pF := 196) (by decide) (by decide) rfl (show ¬ ((1 : Int32) = (0 : Int32)) from by decide) ?_
      refine Run.aload K at_196 (pc' := 198) rfl rfl rfl ?_
      refine Run.iload K at_198 (pc' := 200) rfl rfl ?_
      refine Run.iload K at_200 (pc' := 202) rfl rfl ?_
      refine Run.iconst K at_202 (pc' := 203) rfl (v := (1 : Int32)) rfl ?_
      refine Run.callS K at_203 (pc' := 206) rfl (hw _ (List.mem_of_getElem? (i := 6) rfl)) (hw _ (List.mem_of_getElem? (i := 7) rfl)) (hw _ (List.mem_of_getElem? (i := 8) rfl)) (hw _ (List.mem_of_getElem? (i := 9) rfl)) (by decide) (rm2 l Z a0 n0 hw [] (r29) (((p4 &&& (2147483647 : Int32)) % (1 : Int32))) ((Int32.ofNat c30)) ((1 : Int32)) (([] : List Int32)) ((own_mod p4 1)) (c30) (1) ([]) ([]) (own_modE p4 _ 1 (by decide) (by decide)) (rfl) (rfl) (hc31) (hc31.2.1) (by simp) (by decide)) (argsL := [(.ref r29), (.int ((p4 &&& (2147483647 : Int32)) % (1 : Int32))), (.int (Int32.ofNat c30)), (.int (1 : Int32))]) (rest := []) rfl rfl pd_2 rfl (W := 0) rfl (by decide) (by decide) (cells' := 1) (slots' := 0) rfl rfl (by decide) (by decide) (Ret.k (S' := [(.int (1 : Int32))]) rfl ?_)
      refine Run.as (D' := ([], [(r29, .byte, [])])) rfl ?_
      refine Run.ifcF K at_206 (pT := 279) (pF := 209) (by decide) (by decide) rfl (show ¬ ((1 : Int32) = (0 : Int32)) from by decide) ?_
      refine Run.aload K at_209 (pc' := 211) rfl rfl rfl ?_
      refine Run.iload K at_211 (pc' := 213) rfl rfl ?_
      refine Run.iload K at_213 (pc' := 215) rfl rfl ?_
      refine Run.iconst K at_215 (pc' := 216) rfl (v := (2 : Int32)) rfl ?_
      refine Run.callS K at_216 (pc' := 219) rfl (hw _ (List.mem_of_getElem? (i := 6) rfl)) (hw _ (List.mem_of_getElem? (i := 7) rfl)) (hw _ (List.mem_of_getElem? (i := 8) rfl)) (hw _ (List.mem_of_getElem? (i := 9) rfl)) (by decide) (rm2 l Z a0 n0 hw [] (r29) (((p4 &&& (2147483647 : Int32)) % (1 : Int32))) ((Int32.ofNat c30)) ((2 : Int32)) (([] : List Int32)) ((own_mod p4 1)) (c30) (2) ([]) ([]) (own_modE p4 _ 1 (by decide) (by decide)) (rfl) (rfl) (hc31) (hc31.2.1) (by simp) (by decide)) (argsL := [(.ref r29), (.int ((p4 &&& (2147483647 : Int32)) % (1 : Int32))), (.int (Int32.ofNat c30)), (.int (2 : Int32))]) (rest := []) rfl rfl pd_2 rfl (W := 0) rfl (by decide) (by decide) (cells' := 1) (slots' := 0) rfl rfl (by decide) (by decide) (Ret.k (S' := [(.int (1 : Int32))]) rfl ?_)
      refine Run.as (D' := ([], [(r29, .byte, [])])) rfl ?_
      refine Run.ifcF K at_219 (pT := 279) (pF := 222) (by decide) (by decide) rfl (show ¬ ((1 : Int32) = (0 : Int32)) from by decide) ?_
      refine Run.aload K at_222 (pc' := 224) rfl rfl rfl ?_
      refine Run.iload K at_224 (pc' := 226) rfl rfl ?_
      refine Run.iload K at_226 (pc' := 228) rfl rfl ?_
      refine Run.iconst K at_228 (pc' := 229) rfl (v := (3 : Int32)) rfl ?_
      refine Run.callS K at_229 (pc' := 232) rfl (hw _ (List.mem_of_getElem? (i := 6) rfl)) (hw _ (List.mem_of_getElem? (i := 7) rfl)) (hw _ (List.mem_of_getElem? (i := 8) rfl)) (hw _ (List.mem_of_getElem? (i := 9) rfl)) (by decide) (rm2 l Z a0 n0 hw [] (r29) (((p4 &&& (2147483647 : Int32)) % (1 : Int32))) ((Int32.ofNat c30)) ((3 : Int32)) (([] : List Int32)) ((own_mod p4 1)) (c30) (3) ([]) ([]) (own_modE p4 _ 1 (by decide) (by decide)) (rfl) (rfl) (hc31) (hc31.2.1) (by simp) (by decide)) (argsL := [(.ref r29), (.int ((p4 &&& (2147483647 : Int32)) % (1 : Int32))), (.int (Int32.ofNat c30)), (.int (3 : Int32))]) (rest := []) rfl rfl pd_2 rfl (W := 0) rfl (by decide) (by decide) (cells' := 1) (slots' := 0) rfl rfl (by decide) (by decide) (Ret.k (S' := [(.int (1 : Int32))]) rfl ?_)
      refine Run.as (D' := ([], [(r29, .byte, [])])) rfl ?_
      refine Run.ifcF K at_232 (pT := 279) (pF := 235) (by decide) (by decide) rfl (show ¬ ((1 : Int32) = (0 : Int32)) from by decide) ?_
      refine Run.aload K at_235 (pc' := 237) rfl rfl rfl ?_
      refine Run.iload K at_237 (pc' := 239) rfl rfl ?_
      refine Run.iload K at_239 (pc' := 241) rfl rfl ?_
      refine Run.iconst K at_241 (pc' := 242) rfl (v := (4 : Int32)) rfl ?_
      refine Run.callS K at_242 (pc' := 245) rfl (hw _ (List.mem_of_getElem? (i := 6) rfl)) (hw _ (List.mem_of_getElem? (i := 7) rfl)) (hw _ (List.mem_of_getElem? (i := 8) rfl)) (hw _ (List.mem_of_getElem? (i := 9) rfl)) (by decide) (rm2 l Z a0 n0 hw [] (r29) (((p4 &&& (2147483647 : Int32)) % (1 : Int32))) ((Int32.ofNat c30)) ((4 : Int32)) (([] : List Int32)) ((own_mod p4 1)) (c30) (4) ([]) ([]) (own_modE p4 _ 1 (by decide) (by decide)) (rfl) (rfl) (hc31) (hc31.2.1) (by simp) (by decide)) (argsL := [(.ref r29), (.int ((p4 &&& (2147483647 : Int32)) % (1 : Int32))), (.int (Int32.ofNat c30)), (.int (4 : Int32))]) (rest := []) rfl rfl pd_2 rfl (W := 0) rfl (by decide) (by decide) (cells' := 1) (slots' := 0) rfl rfl (by decide) (by decide) (Ret.k (S' := [(.int (1 : Int32))]) rfl ?_)
      refine Run.as (D' := ([], [(r29, .byte, [])])) rfl ?_
      refine Run.ifcF K at_245 (pT := 279) (pF := 248) (by decide) (by decide) rfl (show ¬ ((1 : Int32) = (0 : Int32)) from by decide) ?_
      refine Run.aload K at_248 (pc' := 250) rfl rfl rfl ?_
      refine Run.iload K at_250 (pc' := 252) rfl rfl ?_
      refine Run.iload K at_252 (pc' := 254) rfl rfl ?_
      refine Run.iconst K at_254 (pc' := 255) rfl (v := (5 : Int32)) rfl ?_
      refine Run.callS K at_255 (pc' := 258) rfl (hw _ (List.mem_of_getElem? (i := 6) rfl)) (hw _ (List.mem_of_getElem? (i := 7) rfl)) (hw _ (List.mem_of_getElem? (i := 8) rfl)) (hw _ (List.mem_of_getElem? (i := 9) rfl)) (by decide) (rm2 l Z a0 n0 hw [] (r29) (((p4 &&& (2147483647 : Int32)) % (1 : Int32))) ((Int32.ofNat c30)) ((5 : Int32)) (([] : List Int32)) ((own_mod p4 1)) (c30) (5) ([]) ([]) (own_modE p4 _ 1 (by decide) (by decide)) (rfl) (rfl) (hc31) (hc31.2.1) (by simp) (by decide)) (argsL := [(.ref r29), (.int ((p4 &&& (2147483647 : Int32)) % (1 : Int32))), (.int (Int32.ofNat c30)), (.int (5 : Int32))]) (rest := []) rfl rfl pd_2 rfl (W := 0) rfl (by decide) (by decide) (cells' := 1) (slots' := 0) rfl rfl (by decide) (by decide) (Ret.k (S' := [(.int (1 : Int32))]) rfl ?_)
      refine Run.as (D' := ([], [(r29, .byte, [])])) rfl ?_
      refine Run.ifcF K at_258 (pT := 279) (pF := 261) (by decide) (by decide) rfl (show ¬ ((1 : Int32) = (0 : Int32)) from by decide) ?_
      refine Run.aload K at_261 (pc' := 263) rfl rfl rfl ?_
      refine Run.iload K at_263 (pc' := 265) rfl rfl ?_
      refine Run.iload K at_265 (pc' := 267) rfl rfl ?_
      refine Run.bipush K at_267 (pc' := 269) rfl (v := (6 : Int32)) rfl ?_
      refine Run.callS K at_269 (pc' := 272) rfl (hw _ (List.mem_of_getElem? (i := 6) rfl)) (hw _ (List.mem_of_getElem? (i := 7) rfl)) (hw _ (List.mem_of_getElem? (i := 8) rfl)) (hw _ (List.mem_of_getElem? (i := 9) rfl)) (by decide) (rm2 l Z a0 n0 hw [] (r29) (((p4 &&& (2147483647 : Int32)) % (1 : Int32))) ((Int32.ofNat c30)) ((6 : Int32)) (([] : List Int32)) ((own_mod p4 1)) (c30) (6) ([]) ([]) (own_modE p4 _ 1 (by decide) (by decide)) (rfl) (rfl) (hc31) (hc31.2.1) (by simp) (by decide)) (argsL := [(.ref r29), (.int ((p4 &&& (2147483647 : Int32)) % (1 : Int32))), (.int (Int32.ofNat c30)), (.int (6 : Int32))]) (rest := []) rfl rfl pd_2 rfl (W := 0) rfl (by decide) (by decide) (cells' := 1) (slots' := 0) rfl rfl (by decide) (by decide) (Ret.k (S' := [(.int (1 : Int32))]) rfl ?_)
      refine Run.as (D' := ([], [(r29, .byte, [])])) rfl ?_
      refine Run.ifcF K at_272 (pT := 279) (pF := 275) (by decide) (by decide) rfl (show ¬ ((1 : Int32) = (0 : Int32)) from by decide) ?_
      refine Run.iconst K at_275 (pc' := 276) rfl (v := (1 : Int32)) rfl ?_
      refine Run.goto K at_276 (pc' := 280) (by decide) (by decide) ?_
      exact Run.retN K at_280 (w := (1 : Int32)) rfl (by decide) (by decide) (by decide) (by decide) rfl
    · skip
      refine Run.icmp K at_167 (pT := 183) (pF := 170) (by decide) (by decide) rfl (fun (h167_35 : (0 : Int32) ≤ (Int32.ofNat c30)) => ?_) (fun (h167_35 : ¬ ((0 : Int32) ≤ (Int32.ofNat c30))) => ?_)
      · skip
        exact J167
      · skip
        refine Run.aload K at_170 (pc' := 172) rfl rfl rfl ?_
        refine Run.iload K at_172 (pc' := 174) rfl rfl ?_
        refine Run.baload K at_174 (pc' := 175) rfl (i := 0) (q := c30) rfl (own_nn (own_rs (bs := ([] : List Int32)) hc31.2.1 (by simp))) (own_clamp (own_rs (bs := ([] : List Int32)) hc31.2.1 (by simp))) (v := (.int (([] : List Int32).getD c30 0))) (own_at (bs := ([] : List Int32)) (own_inb (bs := ([] : List Int32)) hc31.2.1 (by simp) h167_35)) ?_
        refine Run.callS K at_175 (pc' := 178) rfl (hw _ (List.mem_of_getElem? (i := 13) rfl)) (hw _ (List.mem_of_getElem? (i := 14) rfl)) (hw _ (List.mem_of_getElem? (i := 8) rfl)) (hw _ (List.mem_of_getElem? (i := 15) rfl)) (by decide) (rm4 l Z a0 n0 hw [] ((([] : List Int32).getD c30 0)) ([]) ([(r29, .byte, [])]) ) (argsL := [(.int (([] : List Int32).getD c30 0))]) (rest := []) rfl rfl pd_0 rfl (W := 0) rfl (by decide) (by decide) (cells' := 1) (slots' := 0) rfl rfl (by decide) (by decide) ?_
        intro vq Dq hq
        obtain ⟨c37, hc38, rfl, rfl⟩ := hq
        refine Run.as2 (D' := ([], [(r29, .byte, [])])) (S' := [(.int c37)]) rfl rfl ?_
        refine Run.ifcT K at_178 (pT := 183) (pF := 181) (by decide) (by decide) rfl (show c37 = (0 : Int32) from own_nb (bs := ([] : List Int32)) hc31 (own_inb (bs := ([] : List Int32)) hc31.2.1 (by simp) h167_35) hc38) ?_
        exact J167
  · rw [hq28]
    refine Run.istore K at_4 (pc' := 6) rfl (L' := #[.val (.int p1), .val (.int p2), .val (.long p3), .second, .val (.int p4), .val (.int (1 : Int32)), .unset, .unset, .unset]) rfl ?_
    refine Run.iload K at_6 (pc' := 8) rfl rfl ?_
    refine Run.newA K at_8 (pc' := 10) rfl (ty := .byte) rfl (hw _ (List.mem_of_getElem? (i := 0) rfl)) (by decide) (vs := [(.int (0 : Int32))]) (rfl) (cap := 1) (by decide) (by decide) (cells' := 1) (slots' := 1) rfl rfl (by decide) (by decide) rfl (fun r39 => ?_)
    refine Run.as (D' := ([], [(r39, .byte, [(.int (0 : Int32))])])) rfl ?_
    refine Run.astore K at_10 (pc' := 12) rfl rfl (L' := #[.val (.int p1), .val (.int p2), .val (.long p3), .second, .val (.int p4), .val (.int (1 : Int32)), .val (.ref r39), .unset, .unset]) rfl ?_
    refine Run.iload K at_12 (pc' := 14) rfl rfl ?_
    refine Run.ifcF K at_14 (pT := 27) (pF := 17) (by decide) (by decide) rfl (show ¬ ((1 : Int32) ≤ (0 : Int32)) from by decide) ?_
    refine Run.aload K at_17 (pc' := 19) rfl rfl rfl ?_
    refine Run.iconst K at_19 (pc' := 20) rfl (v := (0 : Int32)) rfl ?_
    refine Run.iloadN K at_20 (pc' := 21) rfl rfl ?_
    refine Run.lloadN K at_21 (pc' := 22) rfl rfl ?_
    refine Run.iconst K at_22 (pc' := 23) rfl (v := (0 : Int32)) rfl ?_
    refine Run.callS K at_23 (pc' := 26) rfl (hw _ (List.mem_of_getElem? (i := 10) rfl)) (hw _ (List.mem_of_getElem? (i := 11) rfl)) (hw _ (List.mem_of_getElem? (i := 8) rfl)) (hw _ (List.mem_of_getElem? (i := 12) rfl)) (by decide) (rm3 l Z a0 n0 hw [] (p2) (p3) ((0 : Int32)) ([]) ([(r39, .byte, [(.int (0 : Int32))])]) ) (argsL := [(.int p2), (.long p3), (.int (0 : Int32))]) (rest := [(.int (0 : Int32)), (.ref r39)]) rfl rfl pd_3 rfl (W := 2) rfl (by decide) (by decide) (cells' := 1) (slots' := 1) rfl rfl (by decide) (by decide) ?_
    intro vq Dq hq
    obtain ⟨c40, hc41, rfl, rfl⟩ := hq
    refine Run.as2 (D' := ([], [(r39, .byte, [(.int (0 : Int32))])])) (S' := [(.int c40), (.int (0 : Int32)), (.ref r39)]) rfl rfl ?_
    refine Run.bastore K at_26 (pc' := 27) rfl (i := 0) (q := 0) rfl (by decide) (by decide) (v := (.int (0 : Int32))) (rfl) (D' := ([], [(r39, .byte, [(.int c40.toInt8.toInt32)])])) rfl ?_
    refine Run.iload K at_27 (pc' := 29) rfl rfl ?_
    refine Run.iconst K at_29 (pc' := 30) rfl (v := (1 : Int32)) rfl ?_
    refine Run.icmpT K at_30 (pT := 43) (pF := 33) (by decide) (by decide) rfl (show (1 : Int32) ≤ (1 : Int32) from by decide) ?_
    refine Run.iload K at_43 (pc' := 45) rfl rfl ?_
    refine Run.iconst K at_45 (pc' := 46) rfl (v := (2 : Int32)) rfl ?_
    refine Run.icmpT K at_46 (pT := 59) (pF := 49) (by decide) (by decide) rfl (show (1 : Int32) ≤ (2 : Int32) from by decide) ?_
    refine Run.iload K at_59 (pc' := 61) rfl rfl ?_
    refine Run.iconst K at_61 (pc' := 62) rfl (v := (3 : Int32)) rfl ?_
    refine Run.icmpT K at_62 (pT := 75) (pF := 65) (by decide) (by decide) rfl (show (1 : Int32) ≤ (3 : Int32) from by decide) ?_
    refine Run.iload K at_75 (pc' := 77) rfl rfl ?_
    refine Run.iconst K at_77 (pc' := 78) rfl (v := (4 : Int32)) rfl ?_
    refine Run.icmpT K at_78 (pT := 91) (pF := 81) (by decide) (by decide) rfl (show (1 : Int32) ≤ (4 : Int32) from by decide) ?_
    refine Run.iload K at_91 (pc' := 93) rfl rfl ?_
    refine Run.iconst K at_93 (pc' := 94) rfl (v := (5 : Int32)) rfl ?_
    refine Run.icmpT K at_94 (pT := 107) (pF := 97) (by decide) (by decide) rfl (show (1 : Int32) ≤ (5 : Int32) from by decide) ?_
    refine Run.iload K at_107 (pc' := 109) rfl rfl ?_
    refine Run.bipush K at_109 (pc' := 111) rfl (v := (6 : Int32)) rfl ?_
    refine Run.icmpT K at_111 (pT := 126) (pF := 114) (by decide) (by decide) rfl (show (1 : Int32) ≤ (6 : Int32) from by decide) ?_
    refine Run.iload K at_126 (pc' := 128) rfl rfl ?_
    refine Run.ldcI K at_128 (pc' := 130) rfl (v := (2147483647 : Int32)) (hw _ (List.mem_of_getElem? (i := 1) rfl)) ?_
    refine Run.iand K at_130 (pc' := 131) rfl ?_
    refine Run.iload K at_131 (pc' := 133) rfl rfl ?_
    refine Run.iconst K at_133 (pc' := 134) rfl (v := (1 : Int32)) rfl ?_
    refine Run.iaddV K at_134 (pc' := 135) rfl (v := (2 : Int32)) (by decide) ?_
    refine Run.irem K at_135 (pc' := 136) rfl (by decide) ?_
    refine Run.istore K at_136 (pc' := 138) rfl (L' := #[.val (.int p1), .val (.int p2), .val (.long p3), .second, .val (.int p4), .val (.int (1 : Int32)), .val (.ref r39), .val (.int ((p4 &&& (2147483647 : Int32)) % (2 : Int32))), .unset]) rfl ?_
    refine Run.aload K at_138 (pc' := 140) rfl rfl rfl ?_
    refine Run.iload K at_140 (pc' := 142) rfl rfl ?_
    refine Run.callS K at_142 (pc' := 145) rfl (hw _ (List.mem_of_getElem? (i := 2) rfl)) (hw _ (List.mem_of_getElem? (i := 3) rfl)) (hw _ (List.mem_of_getElem? (i := 4) rfl)) (hw _ (List.mem_of_getElem? (i := 5) rfl)) (by decide) (rm1 l Z a0 n0 hw [] (r39) (((p4 &&& (2147483647 : Int32)) % (2 : Int32))) ([c40.toInt8.toInt32]) ((own_mod p4 2)) ([]) ([]) (own_modE p4 _ 2 (by decide) (by decide)) (own_modL p4 1) (by simp)) (argsL := [(.ref r39), (.int ((p4 &&& (2147483647 : Int32)) % (2 : Int32)))]) (rest := []) rfl rfl pd_1 rfl (W := 0) rfl (by decide) (by decide) (cells' := 1) (slots' := 1) rfl rfl (by decide) (by decide) ?_
    intro vq Dq hq
    obtain ⟨c42, hc43, rfl, rfl⟩ := hq
    refine Run.as2 (D' := ([], [(r39, .byte, [(.int c40.toInt8.toInt32)])])) (S' := [(.int (Int32.ofNat c42))]) rfl rfl ?_
    refine Run.istore K at_145 (pc' := 147) rfl (L' := #[.val (.int p1), .val (.int p2), .val (.long p3), .second, .val (.int p4), .val (.int (1 : Int32)), .val (.ref r39), .val (.int ((p4 &&& (2147483647 : Int32)) % (2 : Int32))), .val (.int (Int32.ofNat c42))]) rfl ?_
    refine Run.iload K at_147 (pc' := 149) rfl rfl ?_
    refine Run.iload K at_149 (pc' := 151) rfl rfl ?_
    refine Run.icmpF K at_151 (pT := 161) (pF := 154) (by decide) (by decide) rfl (show ¬ ((Int32.ofNat c42) < ((p4 &&& (2147483647 : Int32)) % (2 : Int32))) from own_c1 p4 _ 2 (by decide) (by decide) (by decide) (bs := [c40.toInt8.toInt32]) hc43 (by simp)) ?_
    refine Run.iload K at_154 (pc' := 156) rfl rfl ?_
    refine Run.iload K at_156 (pc' := 158) rfl rfl ?_
    refine Run.icmpT K at_158 (pT := 163) (pF := 161) (by decide) (by decide) rfl (show (Int32.ofNat c42) ≤ (1 : Int32) from own_c2 (bs := [c40.toInt8.toInt32]) rfl hc43.2.1 (by simp)) ?_
    refine Run.iload K at_163 (pc' := 165) rfl rfl ?_
    refine Run.iload K at_165 (pc' := 167) rfl rfl ?_
    refine Run.join0 (D' := ([], [(r39, .byte, [(.int c40.toInt8.toInt32)])])) (cells' := 1) (slots' := 1) (pc' := 183) (L' := #[.val (.int p1), .val (.int p2), .val (.long p3), .second, .val (.int p4), .val (.int (1 : Int32)), .val (.ref r39), .val (.int ((p4 &&& (2147483647 : Int32)) % (2 : Int32))), .val (.int (Int32.ofNat c42))]) (S' := []) ?_ (fun J167 => ?_)
    · skip
      refine Run.aload K at_183 (pc' := 185) rfl rfl rfl ?_
      refine Run.iload K at_185 (pc' := 187) rfl rfl ?_
      refine Run.iload K at_187 (pc' := 189) rfl rfl ?_
      refine Run.iconst K at_189 (pc' := 190) rfl (v := (0 : Int32)) rfl ?_
      refine Run.callS K at_190 (pc' := 193) rfl (hw _ (List.mem_of_getElem? (i := 6) rfl)) (hw _ (List.mem_of_getElem? (i := 7) rfl)) (hw _ (List.mem_of_getElem? (i := 8) rfl)) (hw _ (List.mem_of_getElem? (i := 9) rfl)) (by decide) (rm2 l Z a0 n0 hw [] (r39) (((p4 &&& (2147483647 : Int32)) % (2 : Int32))) ((Int32.ofNat c42)) ((0 : Int32)) ([c40.toInt8.toInt32]) ((own_mod p4 2)) (c42) (0) ([]) ([]) (own_modE p4 _ 2 (by decide) (by decide)) (rfl) (rfl) (hc43) (hc43.2.1) (by simp) (by decide)) (argsL := [(.ref r39), (.int ((p4 &&& (2147483647 : Int32)) % (2 : Int32))), (.int (Int32.ofNat c42)), (.int (0 : Int32))]) (rest := []) rfl rfl pd_2 rfl (W := 0) rfl (by decide) (by decide) (cells' := 1) (slots' := 1) rfl rfl (by decide) (by decide) (Ret.k (S' := [(.int (1 : Int32))]) rfl ?_)
      refine Run.as (D' := ([], [(r39, .byte, [(.int c40.toInt8.toInt32)])])) rfl ?_
      refine Run.ifcF K at_193 (pT := 279) (pF := 196) (by decide) (by decide) rfl (show ¬ ((1 : Int32) = (0 : Int32)) from by decide) ?_
      refine Run.aload K at_196 (pc' := 198) rfl rfl rfl ?_
      refine Run.iload K at_198 (pc' := 200) rfl rfl ?_
      refine Run.iload K at_200 (pc' := 202) rfl rfl ?_
      refine Run.iconst K at_202 (pc' := 203) rfl (v := (1 : Int32)) rfl ?_
      refine Run.callS K at_203 (pc' := 206) rfl (hw _ (List.mem_of_getElem? (i := 6) rfl)) (hw _ (List.mem_of_getElem? (i := 7) rfl)) (hw _ (List.mem_of_getElem? (i := 8) rfl)) (hw _ (List.mem_of_getElem? (i := 9) rfl)) (by decide) (rm2 l Z a0 n0 hw [] (r39) (((p4 &&& (2147483647 : Int32)) % (2 : Int32))) ((Int32.ofNat c42)) ((1 : Int32)) ([c40.toInt8.toInt32]) ((own_mod p4 2)) (c42) (1) ([]) ([]) (own_modE p4 _ 2 (by decide) (by decide)) (rfl) (rfl) (hc43) (hc43.2.1) (by simp) (by decide)) (argsL := [(.ref r39), (.int ((p4 &&& (2147483647 : Int32)) % (2 : Int32))), (.int (Int32.ofNat c42)), (.int (1 : Int32))]) (rest := []) rfl rfl pd_2 rfl (W := 0) rfl (by decide) (by decide) (cells' := 1) (slots' := 1) rfl rfl (by decide) (by decide) (Ret.k (S' := [(.int (1 : Int32))]) rfl ?_)
      refine Run.as (D' := ([], [(r39, .byte, [(.int c40.toInt8.toInt32)])])) rfl ?_
      refine Run.ifcF K at_206 (pT := 279) (pF := 209) (by decide) (by decide) rfl (show ¬ ((1 : Int32) = (0 : Int32)) from by decide) ?_
      refine Run.aload K at_209 (pc' := 211) rfl rfl rfl ?_
      refine Run.iload K at_211 (pc' := 213) rfl rfl ?_
      refine Run.iload K at_213 (pc' := 215) rfl rfl ?_
      refine Run.iconst K at_215 (pc' := 216) rfl (v := (2 : Int32)) rfl ?_
      refine Run.callS K at_216 (pc' := 219) rfl (hw _ (List.mem_of_getElem? (i := 6) rfl)) (hw _ (List.mem_of_getElem? (i := 7) rfl)) (hw _ (List.mem_of_getElem? (i := 8) rfl)) (hw _ (List.mem_of_getElem? (i := 9) rfl)) (by decide) (rm2 l Z a0 n0 hw [] (r39) (((p4 &&& (2147483647 : Int32)) % (2 : Int32))) ((Int32.ofNat c42)) ((2 : Int32)) ([c40.toInt8.toInt32]) ((own_mod p4 2)) (c42) (2) ([]) ([]) (own_modE p4 _ 2 (by decide) (by decide)) (rfl) (rfl) (hc43) (hc43.2.1) (by simp) (by decide)) (argsL := [(.ref r39), (.int ((p4 &&& (2147483647 : Int32)) % (2 : Int32))), (.int (Int32.ofNat c42)), (.int (2 : Int32))]) (rest := []) rfl rfl pd_2 rfl (W := 0) rfl (by decide) (by decide) (cells' := 1) (slots' := 1) rfl rfl (by decide) (by decide) (Ret.k (S' := [(.int (1 : Int32))]) rfl ?_)
      refine Run.as (D' := ([], [(r39, .byte, [(.int c40.toInt8.toInt32)])])) rfl ?_
      refine Run.ifcF K at_219 (pT := 279) (pF := 222) (by decide) (by decide) rfl (show ¬ ((1 : Int32) = (0 : Int32)) from by decide) ?_
      refine Run.aload K at_222 (pc' := 224) rfl rfl rfl ?_
      refine Run.iload K at_224 (pc' := 226) rfl rfl ?_
      refine Run.iload K at_226 (pc' := 228) rfl rfl ?_
      refine Run.iconst K at_228 (pc' := 229) rfl (v := (3 : Int32)) rfl ?_
      refine Run.callS K at_229 (pc' := 232) rfl (hw _ (List.mem_of_getElem? (i := 6) rfl)) (hw _ (List.mem_of_getElem? (i := 7) rfl)) (hw _ (List.mem_of_getElem? (i := 8) rfl)) (hw _ (List.mem_of_getElem? (i := 9) rfl)) (by decide) (rm2 l Z a0 n0 hw [] (r39) (((p4 &&& (2147483647 : Int32)) % (2 : Int32))) ((Int32.ofNat c42)) ((3 : Int32)) ([c40.toInt8.toInt32]) ((own_mod p4 2)) (c42) (3) ([]) ([]) (own_modE p4 _ 2 (by decide) (by decide)) (rfl) (rfl) (hc43) (hc43.2.1) (by simp) (by decide)) (argsL := [(.ref r39), (.int ((p4 &&& (2147483647 : Int32)) % (2 : Int32))), (.int (Int32.ofNat c42)), (.int (3 : Int32))]) (rest := []) rfl rfl pd_2 rfl (W := 0) rfl (by decide) (by decide) (cells' := 1) (slots' := 1) rfl rfl (by decide) (by decide) (Ret.k (S' := [(.int (1 : Int32))]) rfl ?_)
      refine Run.as (D' := ([], [(r39, .byte, [(.int c40.toInt8.toInt32)])])) rfl ?_
      refine Run.ifcF K at_232 (pT := 279) (pF := 235) (by decide) (by decide) rfl (show ¬ ((1 : Int32) = (0 : Int32)) from by decide) ?_
      refine Run.aload K at_235 (pc' := 237) rfl rfl rfl ?_
      refine Run.iload K at_237 (pc' := 239) rfl rfl ?_
      refine Run.iload K at_239 (pc' := 241) rfl rfl ?_
      refine Run.iconst K at_241 (pc' := 242) rfl (v := (4 : Int32)) rfl ?_
      refine Run.callS K at_242 (pc' := 245) rfl (hw _ (List.mem_of_getElem? (i := 6) rfl)) (hw _ (List.mem_of_getElem? (i := 7) rfl)) (hw _ (List.mem_of_getElem? (i := 8) rfl)) (hw _ (List.mem_of_getElem? (i := 9) rfl)) (by decide) (rm2 l Z a0 n0 hw [] (r39) (((p4 &&& (2147483647 : Int32)) % (2 : Int32))) ((Int32.ofNat c42)) ((4 : Int32)) ([c40.toInt8.toInt32]) ((own_mod p4 2)) (c42) (4) ([]) ([]) (own_modE p4 _ 2 (by decide) (by decide)) (rfl) (rfl) (hc43) (hc43.2.1) (by simp) (by decide)) (argsL := [(.ref r39), (.int ((p4 &&& (2147483647 : Int32)) % (2 : Int32))), (.int (Int32.ofNat c42)), (.int (4 : Int32))]) (rest := []) rfl rfl pd_2 rfl (W := 0) rfl (by decide) (by decide) (cells' := 1) (slots' := 1) rfl rfl (by decide) (by decide) (Ret.k (S' := [(.int (1 : Int32))]) rfl ?_)
      refine Run.as (D' := ([], [(r39, .byte, [(.int c40.toInt8.toInt32)])])) rfl ?_
      refine Run.ifcF K at_245 (pT := 279) (pF := 248) (by decide) (by decide) rfl (show ¬ ((1 : Int32) = (0 : Int32)) from by decide) ?_
      refine Run.aload K at_248 (pc' := 250) rfl rfl rfl ?_
      refine Run.iload K at_250 (pc' := 252) rfl rfl ?_
      refine Run.iload K at_252 (pc' := 254) rfl rfl ?_
      refine Run.iconst K at_254 (pc' := 255) rfl (v := (5 : Int32)) rfl ?_
      refine Run.callS K at_255 (pc' := 258) rfl (hw _ (List.mem_of_getElem? (i := 6) rfl)) (hw _ (List.mem_of_getElem? (i := 7) rfl)) (hw _ (List.mem_of_getElem? (i := 8) rfl)) (hw _ (List.mem_of_getElem? (i := 9) rfl)) (by decide) (rm2 l Z a0 n0 hw [] (r39) (((p4 &&& (2147483647 : Int32)) % (2 : Int32))) ((Int32.ofNat c42)) ((5 : Int32)) ([c40.toInt8.toInt32]) ((own_mod p4 2)) (c42) (5) ([]) ([]) (own_modE p4 _ 2 (by decide) (by decide)) (rfl) (rfl) (hc43) (hc43.2.1) (by simp) (by decide)) (argsL := [(.ref r39), (.int ((p4 &&& (2147483647 : Int32)) % (2 : Int32))), (.int (Int32.ofNat c42)), (.int (5 : Int32))]) (rest := []) rfl rfl pd_2 rfl (W := 0) rfl (by decide) (by decide) (cells' := 1) (slots' := 1) rfl rfl (by decide) (by decide) (Ret.k (S' := [(.int (1 : Int32))]) rfl ?_)
      refine Run.as (D' := ([], [(r39, .byte, [(.int c40.toInt8.toInt32)])])) rfl ?_
      refine Run.ifcF K at_258 (pT := 279) (pF := 261) (by decide) (by decide) rfl (show ¬ ((1 : Int32) = (0 : Int32)) from by decide) ?_
      refine Run.aload K at_261 (pc' := 263) rfl rfl rfl ?_
      refine Run.iload K at_263 (pc' := 265) rfl rfl ?_
      refine Run.iload K at_265 (pc' := 267) rfl rfl ?_
      refine Run.bipush K at_267 (pc' := 269) rfl (v := (6 : Int32)) rfl ?_
      refine Run.callS K at_269 (pc' := 272) rfl (hw _ (List.mem_of_getElem? (i := 6) rfl)) (hw _ (List.mem_of_getElem? (i := 7) rfl)) (hw _ (List.mem_of_getElem? (i := 8) rfl)) (hw _ (List.mem_of_getElem? (i := 9) rfl)) (by decide) (rm2 l Z a0 n0 hw [] (r39) (((p4 &&& (2147483647 : Int32)) % (2 : Int32))) ((Int32.ofNat c42)) ((6 : Int32)) ([c40.toInt8.toInt32]) ((own_mod p4 2)) (c42) (6) ([]) ([]) (own_modE p4 _ 2 (by decide) (by decide)) (rfl) (rfl) (hc43) (hc43.2.1) (by simp) (by decide)) (argsL := [(.ref r39), (.int ((p4 &&& (2147483647 : Int32)) % (2 : Int32))), (.int (Int32.ofNat c42)), (.int (6 : Int32))]) (rest := []) rfl rfl pd_2 rfl (W := 0) rfl (by decide) (by decide) (cells' := 1) (slots' := 1) rfl rfl (by decide) (by decide) (Ret.k (S' := [(.int (1 : Int32))]) rfl ?_)
      refine Run.as (D' := ([], [(r39, .byte, [(.int c40.toInt8.toInt32)])])) rfl ?_
      refine Run.ifcF K at_272 (pT := 279) (pF := 275) (by decide) (by decide) rfl (show ¬ ((1 : Int32) = (0 : Int32)) from by decide) ?_
      refine Run.iconst K at_275 (pc' := 276) rfl (v := (1 : Int32)) rfl ?_
      refine Run.goto K at_276 (pc' := 280) (by decide) (by decide) ?_
      exact Run.retN K at_280 (w := (1 : Int32)) rfl (by decide) (by decide) (by decide) (by decide) rfl
    · skip
      refine Run.icmp K at_167 (pT := 183) (pF := 170) (by decide) (by decide) rfl (fun (h167_47 : (1 : Int32) ≤ (Int32.ofNat c42)) => ?_) (fun (h167_47 : ¬ ((1 : Int32) ≤ (Int32.ofNat c42))) => ?_)
      · skip
        exact J167
      · skip
        refine Run.aload K at_170 (pc' := 172) rfl rfl rfl ?_
        refine Run.iload K at_172 (pc' := 174) rfl rfl ?_
        refine Run.baload K at_174 (pc' := 175) rfl (i := 0) (q := c42) rfl (own_nn (own_rs (bs := [c40.toInt8.toInt32]) hc43.2.1 (by simp))) (own_clamp (own_rs (bs := [c40.toInt8.toInt32]) hc43.2.1 (by simp))) (v := (.int ([c40.toInt8.toInt32].getD c42 0))) (own_at (bs := [c40.toInt8.toInt32]) (own_inb (bs := [c40.toInt8.toInt32]) hc43.2.1 (by simp) h167_47)) ?_
        refine Run.callS K at_175 (pc' := 178) rfl (hw _ (List.mem_of_getElem? (i := 13) rfl)) (hw _ (List.mem_of_getElem? (i := 14) rfl)) (hw _ (List.mem_of_getElem? (i := 8) rfl)) (hw _ (List.mem_of_getElem? (i := 15) rfl)) (by decide) (rm4 l Z a0 n0 hw [] (([c40.toInt8.toInt32].getD c42 0)) ([]) ([(r39, .byte, [(.int c40.toInt8.toInt32)])]) ) (argsL := [(.int ([c40.toInt8.toInt32].getD c42 0))]) (rest := []) rfl rfl pd_0 rfl (W := 0) rfl (by decide) (by decide) (cells' := 1) (slots' := 1) rfl rfl (by decide) (by decide) ?_
        intro vq Dq hq
        obtain ⟨c49, hc50, rfl, rfl⟩ := hq
        refine Run.as2 (D' := ([], [(r39, .byte, [(.int c40.toInt8.toInt32)])])) (S' := [(.int c49)]) rfl rfl ?_
        refine Run.ifcT K at_178 (pT := 183) (pF := 181) (by decide) (by decide) rfl (show c49 = (0 : Int32) from own_nb (bs := [c40.toInt8.toInt32]) hc43 (own_inb (bs := [c40.toInt8.toInt32]) hc43.2.1 (by simp) h167_47) hc50) ?_
        exact J167
  · rw [hq28]
    refine Run.istore K at_4 (pc' := 6) rfl (L' := #[.val (.int p1), .val (.int p2), .val (.long p3), .second, .val (.int p4), .val (.int (2 : Int32)), .unset, .unset, .unset]) rfl ?_
    refine Run.iload K at_6 (pc' := 8) rfl rfl ?_
    refine Run.newA K at_8 (pc' := 10) rfl (ty := .byte) rfl (hw _ (List.mem_of_getElem? (i := 0) rfl)) (by decide) (vs := [(.int (0 : Int32)), (.int (0 : Int32))]) (rfl) (cap := 2) (by decide) (by decide) (cells' := 1) (slots' := 2) rfl rfl (by decide) (by decide) rfl (fun r51 => ?_)
    refine Run.as (D' := ([], [(r51, .byte, [(.int (0 : Int32)), (.int (0 : Int32))])])) rfl ?_
    refine Run.astore K at_10 (pc' := 12) rfl rfl (L' := #[.val (.int p1), .val (.int p2), .val (.long p3), .second, .val (.int p4), .val (.int (2 : Int32)), .val (.ref r51), .unset, .unset]) rfl ?_
    refine Run.iload K at_12 (pc' := 14) rfl rfl ?_
    refine Run.ifcF K at_14 (pT := 27) (pF := 17) (by decide) (by decide) rfl (show ¬ ((2 : Int32) ≤ (0 : Int32)) from by decide) ?_
    refine Run.aload K at_17 (pc' := 19) rfl rfl rfl ?_
    refine Run.iconst K at_19 (pc' := 20) rfl (v := (0 : Int32)) rfl ?_
    refine Run.iloadN K at_20 (pc' := 21) rfl rfl ?_
    refine Run.lloadN K at_21 (pc' := 22) rfl rfl ?_
    refine Run.iconst K at_22 (pc' := 23) rfl (v := (0 : Int32)) rfl ?_
    refine Run.callS K at_23 (pc' := 26) rfl (hw _ (List.mem_of_getElem? (i := 10) rfl)) (hw _ (List.mem_of_getElem? (i := 11) rfl)) (hw _ (List.mem_of_getElem? (i := 8) rfl)) (hw _ (List.mem_of_getElem? (i := 12) rfl)) (by decide) (rm3 l Z a0 n0 hw [] (p2) (p3) ((0 : Int32)) ([]) ([(r51, .byte, [(.int (0 : Int32)), (.int (0 : Int32))])]) ) (argsL := [(.int p2), (.long p3), (.int (0 : Int32))]) (rest := [(.int (0 : Int32)), (.ref r51)]) rfl rfl pd_3 rfl (W := 2) rfl (by decide) (by decide) (cells' := 1) (slots' := 2) rfl rfl (by decide) (by decide) ?_
    intro vq Dq hq
    obtain ⟨c52, hc53, rfl, rfl⟩ := hq
    refine Run.as2 (D' := ([], [(r51, .byte, [(.int (0 : Int32)), (.int (0 : Int32))])])) (S' := [(.int c52), (.int (0 : Int32)), (.ref r51)]) rfl rfl ?_
    refine Run.bastore K at_26 (pc' := 27) rfl (i := 0) (q := 0) rfl (by decide) (by decide) (v := (.int (0 : Int32))) (rfl) (D' := ([], [(r51, .byte, [(.int c52.toInt8.toInt32), (.int (0 : Int32))])])) rfl ?_
    refine Run.iload K at_27 (pc' := 29) rfl rfl ?_
    refine Run.iconst K at_29 (pc' := 30) rfl (v := (1 : Int32)) rfl ?_
    refine Run.icmpF K at_30 (pT := 43) (pF := 33) (by decide) (by decide) rfl (show ¬ ((2 : Int32) ≤ (1 : Int32)) from by decide) ?_
    refine Run.aload K at_33 (pc' := 35) rfl rfl rfl ?_
    refine Run.iconst K at_35 (pc' := 36) rfl (v := (1 : Int32)) rfl ?_
    refine Run.iloadN K at_36 (pc' := 37) rfl rfl ?_
    refine Run.lloadN K at_37 (pc' := 38) rfl rfl ?_
    refine Run.iconst K at_38 (pc' := 39) rfl (v := (1 : Int32)) rfl ?_
    refine Run.callS K at_39 (pc' := 42) rfl (hw _ (List.mem_of_getElem? (i := 10) rfl)) (hw _ (List.mem_of_getElem? (i := 11) rfl)) (hw _ (List.mem_of_getElem? (i := 8) rfl)) (hw _ (List.mem_of_getElem? (i := 12) rfl)) (by decide) (rm3 l Z a0 n0 hw [] (p2) (p3) ((1 : Int32)) ([]) ([(r51, .byte, [(.int c52.toInt8.toInt32), (.int (0 : Int32))])]) ) (argsL := [(.int p2), (.long p3), (.int (1 : Int32))]) (rest := [(.int (1 : Int32)), (.ref r51)]) rfl rfl pd_3 rfl (W := 2) rfl (by decide) (by decide) (cells' := 1) (slots' := 2) rfl rfl (by decide) (by decide) ?_
    intro vq Dq hq
    obtain ⟨c54, hc55, rfl, rfl⟩ := hq
    refine Run.as2 (D' := ([], [(r51, .byte, [(.int c52.toInt8.toInt32), (.int (0 : Int32))])])) (S' := [(.int c54), (.int (1 : Int32)), (.ref r51)]) rfl rfl ?_
    refine Run.bastore K at_42 (pc' := 43) rfl (i := 0) (q := 1) rfl (by decide) (by decide) (v := (.int (0 : Int32))) (rfl) (D' := ([], [(r51, .byte, [(.int c52.toInt8.toInt32), (.int c54.toInt8.toInt32)])])) rfl ?_
    refine Run.iload K at_43 (pc' := 45) rfl rfl ?_
    refine Run.iconst K at_45 (pc' := 46) rfl (v := (2 : Int32)) rfl ?_
    refine Run.icmpT K at_46 (pT := 59) (pF := 49) (by decide) (by decide) rfl (show (2 : Int32) ≤ (2 : Int32) from by decide) ?_
    refine Run.iload K at_59 (pc' := 61) rfl rfl ?_
    refine Run.iconst K at_61 (pc' := 62) rfl (v := (3 : Int32)) rfl ?_
    refine Run.icmpT K at_62 (pT := 75) (pF := 65) (by decide) (by decide) rfl (show (2 : Int32) ≤ (3 : Int32) from by decide) ?_
    refine Run.iload K at_75 (pc' := 77) rfl rfl ?_
    refine Run.iconst K at_77 (pc' := 78) rfl (v := (4 : Int32)) rfl ?_
    refine Run.icmpT K at_78 (pT := 91) (pF := 81) (by decide) (by decide) rfl (show (2 : Int32) ≤ (4 : Int32) from by decide) ?_
    refine Run.iload K at_91 (pc' := 93) rfl rfl ?_
    refine Run.iconst K at_93 (pc' := 94) rfl (v := (5 : Int32)) rfl ?_
    refine Run.icmpT K at_94 (pT := 107) (pF := 97) (by decide) (by decide) rfl (show (2 : Int32) ≤ (5 : Int32) from by decide) ?_
    refine Run.iload K at_107 (pc' := 109) rfl rfl ?_
    refine Run.bipush K at_109 (pc' := 111) rfl (v := (6 : Int32)) rfl ?_
    refine Run.icmpT K at_111 (pT := 126) (pF := 114) (by decide) (by decide) rfl (show (2 : Int32) ≤ (6 : Int32) from by decide) ?_
    refine Run.iload K at_126 (pc' := 128) rfl rfl ?_
    refine Run.ldcI K at_128 (pc' := 130) rfl (v := (2147483647 : Int32)) (hw _ (List.mem_of_getElem? (i := 1) rfl)) ?_
    refine Run.iand K at_130 (pc' := 131) rfl ?_
    refine Run.iload K at_131 (pc' := 133) rfl rfl ?_
    refine Run.iconst K at_133 (pc' := 134) rfl (v := (1 : Int32)) rfl ?_
    refine Run.iaddV K at_134 (pc' := 135) rfl (v := (3 : Int32)) (by decide) ?_
    refine Run.irem K at_135 (pc' := 136) rfl (by decide) ?_
    refine Run.istore K at_136 (pc' := 138) rfl (L' := #[.val (.int p1), .val (.int p2), .val (.long p3), .second, .val (.int p4), .val (.int (2 : Int32)), .val (.ref r51), .val (.int ((p4 &&& (2147483647 : Int32)) % (3 : Int32))), .unset]) rfl ?_
    refine Run.aload K at_138 (pc' := 140) rfl rfl rfl ?_
    refine Run.iload K at_140 (pc' := 142) rfl rfl ?_
    refine Run.callS K at_142 (pc' := 145) rfl (hw _ (List.mem_of_getElem? (i := 2) rfl)) (hw _ (List.mem_of_getElem? (i := 3) rfl)) (hw _ (List.mem_of_getElem? (i := 4) rfl)) (hw _ (List.mem_of_getElem? (i := 5) rfl)) (by decide) (rm1 l Z a0 n0 hw [] (r51) (((p4 &&& (2147483647 : Int32)) % (3 : Int32))) ([c52.toInt8.toInt32, c54.toInt8.toInt32]) ((own_mod p4 3)) ([]) ([]) (own_modE p4 _ 3 (by decide) (by decide)) (own_modL p4 2) (by simp)) (argsL := [(.ref r51), (.int ((p4 &&& (2147483647 : Int32)) % (3 : Int32)))]) (rest := []) rfl rfl pd_1 rfl (W := 0) rfl (by decide) (by decide) (cells' := 1) (slots' := 2) rfl rfl (by decide) (by decide) ?_
    intro vq Dq hq
    obtain ⟨c56, hc57, rfl, rfl⟩ := hq
    refine Run.as2 (D' := ([], [(r51, .byte, [(.int c52.toInt8.toInt32), (.int c54.toInt8.toInt32)])])) (S' := [(.int (Int32.ofNat c56))]) rfl rfl ?_
    refine Run.istore K at_145 (pc' := 147) rfl (L' := #[.val (.int p1), .val (.int p2), .val (.long p3), .second, .val (.int p4), .val (.int (2 : Int32)), .val (.ref r51), .val (.int ((p4 &&& (2147483647 : Int32)) % (3 : Int32))), .val (.int (Int32.ofNat c56))]) rfl ?_
    refine Run.iload K at_147 (pc' := 149) rfl rfl ?_
    refine Run.iload K at_149 (pc' := 151) rfl rfl ?_
    refine Run.icmpF K at_151 (pT := 161) (pF := 154) (by decide) (by decide) rfl (show ¬ ((Int32.ofNat c56) < ((p4 &&& (2147483647 : Int32)) % (3 : Int32))) from own_c1 p4 _ 3 (by decide) (by decide) (by decide) (bs := [c52.toInt8.toInt32, c54.toInt8.toInt32]) hc57 (by simp)) ?_
    refine Run.iload K at_154 (pc' := 156) rfl rfl ?_
    refine Run.iload K at_156 (pc' := 158) rfl rfl ?_
    refine Run.icmpT K at_158 (pT := 163) (pF := 161) (by decide) (by decide) rfl (show (Int32.ofNat c56) ≤ (2 : Int32) from own_c2 (bs := [c52.toInt8.toInt32, c54.toInt8.toInt32]) rfl hc57.2.1 (by simp)) ?_
    refine Run.iload K at_163 (pc' := 165) rfl rfl ?_
    refine Run.iload K at_165 (pc' := 167) rfl rfl ?_
    refine Run.join0 (D' := ([], [(r51, .byte, [(.int c52.toInt8.toInt32), (.int c54.toInt8.toInt32)])])) (cells' := 1) (slots' := 2) (pc' := 183) (L' := #[.val (.int p1), .val (.int p2), .val (.long p3), .second, .val (.int p4), .val (.int (2 : Int32)), .val (.ref r51), .val (.int ((p4 &&& (2147483647 : Int32)) % (3 : Int32))), .val (.int (Int32.ofNat c56))]) (S' := []) ?_ (fun J167 => ?_)
    · skip
      refine Run.aload K at_183 (pc' := 185) rfl rfl rfl ?_
      refine Run.iload K at_185 (pc' := 187) rfl rfl ?_
      refine Run.iload K at_187 (pc' := 189) rfl rfl ?_
      refine Run.iconst K at_189 (pc' := 190) rfl (v := (0 : Int32)) rfl ?_
      refine Run.callS K at_190 (pc' := 193) rfl (hw _ (List.mem_of_getElem? (i := 6) rfl)) (hw _ (List.mem_of_getElem? (i := 7) rfl)) (hw _ (List.mem_of_getElem? (i := 8) rfl)) (hw _ (List.mem_of_getElem? (i := 9) rfl)) (by decide) (rm2 l Z a0 n0 hw [] (r51) (((p4 &&& (2147483647 : Int32)) % (3 : Int32))) ((Int32.ofNat c56)) ((0 : Int32)) ([c52.toInt8.toInt32, c54.toInt8.toInt32]) ((own_mod p4 3)) (c56) (0) ([]) ([]) (own_modE p4 _ 3 (by decide) (by decide)) (rfl) (rfl) (hc57) (hc57.2.1) (by simp) (by decide)) (argsL := [(.ref r51), (.int ((p4 &&& (2147483647 : Int32)) % (3 : Int32))), (.int (Int32.ofNat c56)), (.int (0 : Int32))]) (rest := []) rfl rfl pd_2 rfl (W := 0) rfl (by decide) (by decide) (cells' := 1) (slots' := 2) rfl rfl (by decide) (by decide) (Ret.k (S' := [(.int (1 : Int32))]) rfl ?_)
      refine Run.as (D' := ([], [(r51, .byte, [(.int c52.toInt8.toInt32), (.int c54.toInt8.toInt32)])])) rfl ?_
      refine Run.ifcF K at_193 (pT := 279) (pF := 196) (by decide) (by decide) rfl (show ¬ ((1 : Int32) = (0 : Int32)) from by decide) ?_
      refine Run.aload K at_196 (pc' := 198) rfl rfl rfl ?_
      refine Run.iload K at_198 (pc' := 200) rfl rfl ?_
      refine Run.iload K at_200 (pc' := 202) rfl rfl ?_
      refine Run.iconst K at_202 (pc' := 203) rfl (v := (1 : Int32)) rfl ?_
      refine Run.callS K at_203 (pc' := 206) rfl (hw _ (List.mem_of_getElem? (i := 6) rfl)) (hw _ (List.mem_of_getElem? (i := 7) rfl)) (hw _ (List.mem_of_getElem? (i := 8) rfl)) (hw _ (List.mem_of_getElem? (i := 9) rfl)) (by decide) (rm2 l Z a0 n0 hw [] (r51) (((p4 &&& (2147483647 : Int32)) % (3 : Int32))) ((Int32.ofNat c56)) ((1 : Int32)) ([c52.toInt8.toInt32, c54.toInt8.toInt32]) ((own_mod p4 3)) (c56) (1) ([]) ([]) (own_modE p4 _ 3 (by decide) (by decide)) (rfl) (rfl) (hc57) (hc57.2.1) (by simp) (by decide)) (argsL := [(.ref r51), (.int ((p4 &&& (2147483647 : Int32)) % (3 : Int32))), (.int (Int32.ofNat c56)), (.int (1 : Int32))]) (rest := []) rfl rfl pd_2 rfl (W := 0) rfl (by decide) (by decide) (cells' := 1) (slots' := 2) rfl rfl (by decide) (by decide) (Ret.k (S' := [(.int (1 : Int32))]) rfl ?_)
      refine Run.as (D' := ([], [(r51, .byte, [(.int c52.toInt8.toInt32), (.int c54.toInt8.toInt32)])])) rfl ?_
      refine Run.ifcF K at_206 (pT := 279) (pF := 209) (by decide) (by decide) rfl (show ¬ ((1 : Int32) = (0 : Int32)) from by decide) ?_
      refine Run.aload K at_209 (pc' := 211) rfl rfl rfl ?_
      refine Run.iload K at_211 (pc' := 213) rfl rfl ?_
      refine Run.iload K at_213 (pc' := 215) rfl rfl ?_
      refine Run.iconst K at_215 (pc' := 216) rfl (v := (2 : Int32)) rfl ?_
      refine Run.callS K at_216 (pc' := 219) rfl (hw _ (List.mem_of_getElem? (i := 6) rfl)) (hw _ (List.mem_of_getElem? (i := 7) rfl)) (hw _ (List.mem_of_getElem? (i := 8) rfl)) (hw _ (List.mem_of_getElem? (i := 9) rfl)) (by decide) (rm2 l Z a0 n0 hw [] (r51) (((p4 &&& (2147483647 : Int32)) % (3 : Int32))) ((Int32.ofNat c56)) ((2 : Int32)) ([c52.toInt8.toInt32, c54.toInt8.toInt32]) ((own_mod p4 3)) (c56) (2) ([]) ([]) (own_modE p4 _ 3 (by decide) (by decide)) (rfl) (rfl) (hc57) (hc57.2.1) (by simp) (by decide)) (argsL := [(.ref r51), (.int ((p4 &&& (2147483647 : Int32)) % (3 : Int32))), (.int (Int32.ofNat c56)), (.int (2 : Int32))]) (rest := []) rfl rfl pd_2 rfl (W := 0) rfl (by decide) (by decide) (cells' := 1) (slots' := 2) rfl rfl (by decide) (by decide) (Ret.k (S' := [(.int (1 : Int32))]) rfl ?_)
      refine Run.as (D' := ([], [(r51, .byte, [(.int c52.toInt8.toInt32), (.int c54.toInt8.toInt32)])])) rfl ?_
      refine Run.ifcF K at_219 (pT := 279) (pF := 222) (by decide) (by decide) rfl (show ¬ ((1 : Int32) = (0 : Int32)) from by decide) ?_
      refine Run.aload K at_222 (pc' := 224) rfl rfl rfl ?_
      refine Run.iload K at_224 (pc' := 226) rfl rfl ?_
      refine Run.iload K at_226 (pc' := 228) rfl rfl ?_
      refine Run.iconst K at_228 (pc' := 229) rfl (v := (3 : Int32)) rfl ?_
      refine Run.callS K at_229 (pc' := 232) rfl (hw _ (List.mem_of_getElem? (i := 6) rfl)) (hw _ (List.mem_of_getElem? (i := 7) rfl)) (hw _ (List.mem_of_getElem? (i := 8) rfl)) (hw _ (List.mem_of_getElem? (i := 9) rfl)) (by decide) (rm2 l Z a0 n0 hw [] (r51) (((p4 &&& (2147483647 : Int32)) % (3 : Int32))) ((Int32.ofNat c56)) ((3 : Int32)) ([c52.toInt8.toInt32, c54.toInt8.toInt32]) ((own_mod p4 3)) (c56) (3) ([]) ([]) (own_modE p4 _ 3 (by decide) (by decide)) (rfl) (rfl) (hc57) (hc57.2.1) (by simp) (by decide)) (argsL := [(.ref r51), (.int ((p4 &&& (2147483647 : Int32)) % (3 : Int32))), (.int (Int32.ofNat c56)), (.int (3 : Int32))]) (rest := []) rfl rfl pd_2 rfl (W := 0) rfl (by decide) (by decide) (cells' := 1) (slots' := 2) rfl rfl (by decide) (by decide) (Ret.k (S' := [(.int (1 : Int32))]) rfl ?_)
      refine Run.as (D' := ([], [(r51, .byte, [(.int c52.toInt8.toInt32), (.int c54.toInt8.toInt32)])])) rfl ?_
      refine Run.ifcF K at_232 (pT := 279) (pF := 235) (by decide) (by decide) rfl (show ¬ ((1 : Int32) = (0 : Int32)) from by decide) ?_
      refine Run.aload K at_235 (pc' := 237) rfl rfl rfl ?_
      refine Run.iload K at_237 (pc' := 239) rfl rfl ?_
      refine Run.iload K at_239 (pc' := 241) rfl rfl ?_
      refine Run.iconst K at_241 (pc' := 242) rfl (v := (4 : Int32)) rfl ?_
      refine Run.callS K at_242 (pc' := 245) rfl (hw _ (List.mem_of_getElem? (i := 6) rfl)) (hw _ (List.mem_of_getElem? (i := 7) rfl)) (hw _ (List.mem_of_getElem? (i := 8) rfl)) (hw _ (List.mem_of_getElem? (i := 9) rfl)) (by decide) (rm2 l Z a0 n0 hw [] (r51) (((p4 &&& (2147483647 : Int32)) % (3 : Int32))) ((Int32.ofNat c56)) ((4 : Int32)) ([c52.toInt8.toInt32, c54.toInt8.toInt32]) ((own_mod p4 3)) (c56) (4) ([]) ([]) (own_modE p4 _ 3 (by decide) (by decide)) (rfl) (rfl) (hc57) (hc57.2.1) (by simp) (by decide)) (argsL := [(.ref r51), (.int ((p4 &&& (2147483647 : Int32)) % (3 : Int32))), (.int (Int32.ofNat c56)), (.int (4 : Int32))]) (rest := []) rfl rfl pd_2 rfl (W := 0) rfl (by decide) (by decide) (cells' := 1) (slots' := 2) rfl rfl (by decide) (by decide) (Ret.k (S' := [(.int (1 : Int32))]) rfl ?_)
      refine Run.as (D' := ([], [(r51, .byte, [(.int c52.toInt8.toInt32), (.int c54.toInt8.toInt32)])])) rfl ?_
      refine Run.ifcF K at_245 (pT := 279) (pF := 248) (by decide) (by decide) rfl (show ¬ ((1 : Int32) = (0 : Int32)) from by decide) ?_
      refine Run.aload K at_248 (pc' := 250) rfl rfl rfl ?_
      refine Run.iload K at_250 (pc' := 252) rfl rfl ?_
      refine Run.iload K at_252 (pc' := 254) rfl rfl ?_
      refine Run.iconst K at_254 (pc' := 255) rfl (v := (5 : Int32)) rfl ?_
      refine Run.callS K at_255 (pc' := 258) rfl (hw _ (List.mem_of_getElem? (i := 6) rfl)) (hw _ (List.mem_of_getElem? (i := 7) rfl)) (hw _ (List.mem_of_getElem? (i := 8) rfl)) (hw _ (List.mem_of_getElem? (i := 9) rfl)) (by decide) (rm2 l Z a0 n0 hw [] (r51) (((p4 &&& (2147483647 : Int32)) % (3 : Int32))) ((Int32.ofNat c56)) ((5 : Int32)) ([c52.toInt8.toInt32, c54.toInt8.toInt32]) ((own_mod p4 3)) (c56) (5) ([]) ([]) (own_modE p4 _ 3 (by decide) (by decide)) (rfl) (rfl) (hc57) (hc57.2.1) (by simp) (by decide)) (argsL := [(.ref r51), (.int ((p4 &&& (2147483647 : Int32)) % (3 : Int32))), (.int (Int32.ofNat c56)), (.int (5 : Int32))]) (rest := []) rfl rfl pd_2 rfl (W := 0) rfl (by decide) (by decide) (cells' := 1) (slots' := 2) rfl rfl (by decide) (by decide) (Ret.k (S' := [(.int (1 : Int32))]) rfl ?_)
      refine Run.as (D' := ([], [(r51, .byte, [(.int c52.toInt8.toInt32), (.int c54.toInt8.toInt32)])])) rfl ?_
      refine Run.ifcF K at_258 (pT := 279) (pF := 261) (by decide) (by decide) rfl (show ¬ ((1 : Int32) = (0 : Int32)) from by decide) ?_
      refine Run.aload K at_261 (pc' := 263) rfl rfl rfl ?_
      refine Run.iload K at_263 (pc' := 265) rfl rfl ?_
      refine Run.iload K at_265 (pc' := 267) rfl rfl ?_
      refine Run.bipush K at_267 (pc' := 269) rfl (v := (6 : Int32)) rfl ?_
      refine Run.callS K at_269 (pc' := 272) rfl (hw _ (List.mem_of_getElem? (i := 6) rfl)) (hw _ (List.mem_of_getElem? (i := 7) rfl)) (hw _ (List.mem_of_getElem? (i := 8) rfl)) (hw _ (List.mem_of_getElem? (i := 9) rfl)) (by decide) (rm2 l Z a0 n0 hw [] (r51) (((p4 &&& (2147483647 : Int32)) % (3 : Int32))) ((Int32.ofNat c56)) ((6 : Int32)) ([c52.toInt8.toInt32, c54.toInt8.toInt32]) ((own_mod p4 3)) (c56) (6) ([]) ([]) (own_modE p4 _ 3 (by decide) (by decide)) (rfl) (rfl) (hc57) (hc57.2.1) (by simp) (by decide)) (argsL := [(.ref r51), (.int ((p4 &&& (2147483647 : Int32)) % (3 : Int32))), (.int (Int32.ofNat c56)), (.int (6 : Int32))]) (rest := []) rfl rfl pd_2 rfl (W := 0) rfl (by decide) (by decide) (cells' := 1) (slots' := 2) rfl rfl (by decide) (by decide) (Ret.k (S' := [(.int (1 : Int32))]) rfl ?_)
      refine Run.as (D' := ([], [(r51, .byte, [(.int c52.toInt8.toInt32), (.int c54.toInt8.toInt32)])])) rfl ?_
      refine Run.ifcF K at_272 (pT := 279) (pF := 275) (by decide) (by decide) rfl (show ¬ ((1 : Int32) = (0 : Int32)) from by decide) ?_
      refine Run.iconst K at_275 (pc' := 276) rfl (v := (1 : Int32)) rfl ?_
      refine Run.goto K at_276 (pc' := 280) (by decide) (by decide) ?_
      exact Run.retN K at_280 (w := (1 : Int32)) rfl (by decide) (by decide) (by decide) (by decide) rfl
    · skip
      refine Run.icmp K at_167 (pT := 183) (pF := 170) (by decide) (by decide) rfl (fun (h167_61 : (2 : Int32) ≤ (Int32.ofNat c56)) => ?_) (fun (h167_61 : ¬ ((2 : Int32) ≤ (Int32.ofNat c56))) => ?_)
      · skip
        exact J167
      · skip
        refine Run.aload K at_170 (pc' := 172) rfl rfl rfl ?_
        refine Run.iload K at_172 (pc' := 174) rfl rfl ?_
        refine Run.baload K at_174 (pc' := 175) rfl (i := 0) (q := c56) rfl (own_nn (own_rs (bs := [c52.toInt8.toInt32, c54.toInt8.toInt32]) hc57.2.1 (by simp))) (own_clamp (own_rs (bs := [c52.toInt8.toInt32, c54.toInt8.toInt32]) hc57.2.1 (by simp))) (v := (.int ([c52.toInt8.toInt32, c54.toInt8.toInt32].getD c56 0))) (own_at (bs := [c52.toInt8.toInt32, c54.toInt8.toInt32]) (own_inb (bs := [c52.toInt8.toInt32, c54.toInt8.toInt32]) hc57.2.1 (by simp) h167_61)) ?_
        refine Run.callS K at_175 (pc' := 178) rfl (hw _ (List.mem_of_getElem? (i := 13) rfl)) (hw _ (List.mem_of_getElem? (i := 14) rfl)) (hw _ (List.mem_of_getElem? (i := 8) rfl)) (hw _ (List.mem_of_getElem? (i := 15) rfl)) (by decide) (rm4 l Z a0 n0 hw [] (([c52.toInt8.toInt32, c54.toInt8.toInt32].getD c56 0)) ([]) ([(r51, .byte, [(.int c52.toInt8.toInt32), (.int c54.toInt8.toInt32)])]) ) (argsL := [(.int ([c52.toInt8.toInt32, c54.toInt8.toInt32].getD c56 0))]) (rest := []) rfl rfl pd_0 rfl (W := 0) rfl (by decide) (by decide) (cells' := 1) (slots' := 2) rfl rfl (by decide) (by decide) ?_
        intro vq Dq hq
        obtain ⟨c63, hc64, rfl, rfl⟩ := hq
        refine Run.as2 (D' := ([], [(r51, .byte, [(.int c52.toInt8.toInt32), (.int c54.toInt8.toInt32)])])) (S' := [(.int c63)]) rfl rfl ?_
        refine Run.ifcT K at_178 (pT := 183) (pF := 181) (by decide) (by decide) rfl (show c63 = (0 : Int32) from own_nb (bs := [c52.toInt8.toInt32, c54.toInt8.toInt32]) hc57 (own_inb (bs := [c52.toInt8.toInt32, c54.toInt8.toInt32]) hc57.2.1 (by simp) h167_61) hc64) ?_
        exact J167
  · rw [hq28]
    refine Run.istore K at_4 (pc' := 6) rfl (L' := #[.val (.int p1), .val (.int p2), .val (.long p3), .second, .val (.int p4), .val (.int (3 : Int32)), .unset, .unset, .unset]) rfl ?_
    refine Run.iload K at_6 (pc' := 8) rfl rfl ?_
    refine Run.newA K at_8 (pc' := 10) rfl (ty := .byte) rfl (hw _ (List.mem_of_getElem? (i := 0) rfl)) (by decide) (vs := [(.int (0 : Int32)), (.int (0 : Int32)), (.int (0 : Int32))]) (rfl) (cap := 3) (by decide) (by decide) (cells' := 1) (slots' := 3) rfl rfl (by decide) (by decide) rfl (fun r65 => ?_)
    refine Run.as (D' := ([], [(r65, .byte, [(.int (0 : Int32)), (.int (0 : Int32)), (.int (0 : Int32))])])) rfl ?_
    refine Run.astore K at_10 (pc' := 12) rfl rfl (L' := #[.val (.int p1), .val (.int p2), .val (.long p3), .second, .val (.int p4), .val (.int (3 : Int32)), .val (.ref r65), .unset, .unset]) rfl ?_
    refine Run.iload K at_12 (pc' := 14) rfl rfl ?_
    refine Run.ifcF K at_14 (pT := 27) (pF := 17) (by decide) (by decide) rfl (show ¬ ((3 : Int32) ≤ (0 : Int32)) from by decide) ?_
    refine Run.aload K at_17 (pc' := 19) rfl rfl rfl ?_
    refine Run.iconst K at_19 (pc' := 20) rfl (v := (0 : Int32)) rfl ?_
    refine Run.iloadN K at_20 (pc' := 21) rfl rfl ?_
    refine Run.lloadN K at_21 (pc' := 22) rfl rfl ?_
    refine Run.iconst K at_22 (pc' := 23) rfl (v := (0 : Int32)) rfl ?_
    refine Run.callS K at_23 (pc' := 26) rfl (hw _ (List.mem_of_getElem? (i := 10) rfl)) (hw _ (List.mem_of_getElem? (i := 11) rfl)) (hw _ (List.mem_of_getElem? (i := 8) rfl)) (hw _ (List.mem_of_getElem? (i := 12) rfl)) (by decide) (rm3 l Z a0 n0 hw [] (p2) (p3) ((0 : Int32)) ([]) ([(r65, .byte, [(.int (0 : Int32)), (.int (0 : Int32)), (.int (0 : Int32))])]) ) (argsL := [(.int p2), (.long p3), (.int (0 : Int32))]) (rest := [(.int (0 : Int32)), (.ref r65)]) rfl rfl pd_3 rfl (W := 2) rfl (by decide) (by decide) (cells' := 1) (slots' := 3) rfl rfl (by decide) (by decide) ?_
    intro vq Dq hq
    obtain ⟨c66, hc67, rfl, rfl⟩ := hq
    refine Run.as2 (D' := ([], [(r65, .byte, [(.int (0 : Int32)), (.int (0 : Int32)), (.int (0 : Int32))])])) (S' := [(.int c66), (.int (0 : Int32)), (.ref r65)]) rfl rfl ?_
    refine Run.bastore K at_26 (pc' := 27) rfl (i := 0) (q := 0) rfl (by decide) (by decide) (v := (.int (0 : Int32))) (rfl) (D' := ([], [(r65, .byte, [(.int c66.toInt8.toInt32), (.int (0 : Int32)), (.int (0 : Int32))])])) rfl ?_
    refine Run.iload K at_27 (pc' := 29) rfl rfl ?_
    refine Run.iconst K at_29 (pc' := 30) rfl (v := (1 : Int32)) rfl ?_
    refine Run.icmpF K at_30 (pT := 43) (pF := 33) (by decide) (by decide) rfl (show ¬ ((3 : Int32) ≤ (1 : Int32)) from by decide) ?_
    refine Run.aload K at_33 (pc' := 35) rfl rfl rfl ?_
    refine Run.iconst K at_35 (pc' := 36) rfl (v := (1 : Int32)) rfl ?_
    refine Run.iloadN K at_36 (pc' := 37) rfl rfl ?_
    refine Run.lloadN K at_37 (pc' := 38) rfl rfl ?_
    refine Run.iconst K at_38 (pc' := 39) rfl (v := (1 : Int32)) rfl ?_
    refine Run.callS K at_39 (pc' := 42) rfl (hw _ (List.mem_of_getElem? (i := 10) rfl)) (hw _ (List.mem_of_getElem? (i := 11) rfl)) (hw _ (List.mem_of_getElem? (i := 8) rfl)) (hw _ (List.mem_of_getElem? (i := 12) rfl)) (by decide) (rm3 l Z a0 n0 hw [] (p2) (p3) ((1 : Int32)) ([]) ([(r65, .byte, [(.int c66.toInt8.toInt32), (.int (0 : Int32)), (.int (0 : Int32))])]) ) (argsL := [(.int p2), (.long p3), (.int (1 : Int32))]) (rest := [(.int (1 : Int32)), (.ref r65)]) rfl rfl pd_3 rfl (W := 2) rfl (by decide) (by decide) (cells' := 1) (slots' := 3) rfl rfl (by decide) (by decide) ?_
    intro vq Dq hq
    obtain ⟨c68, hc69, rfl, rfl⟩ := hq
    refine Run.as2 (D' := ([], [(r65, .byte, [(.int c66.toInt8.toInt32), (.int (0 : Int32)), (.int (0 : Int32))])])) (S' := [(.int c68), (.int (1 : Int32)), (.ref r65)]) rfl rfl ?_
    refine Run.bastore K at_42 (pc' := 43) rfl (i := 0) (q := 1) rfl (by decide) (by decide) (v := (.int (0 : Int32))) (rfl) (D' := ([], [(r65, .byte, [(.int c66.toInt8.toInt32), (.int c68.toInt8.toInt32), (.int (0 : Int32))])])) rfl ?_
    refine Run.iload K at_43 (pc' := 45) rfl rfl ?_
    refine Run.iconst K at_45 (pc' := 46) rfl (v := (2 : Int32)) rfl ?_
    refine Run.icmpF K at_46 (pT := 59) (pF := 49) (by decide) (by decide) rfl (show ¬ ((3 : Int32) ≤ (2 : Int32)) from by decide) ?_
    refine Run.aload K at_49 (pc' := 51) rfl rfl rfl ?_
    refine Run.iconst K at_51 (pc' := 52) rfl (v := (2 : Int32)) rfl ?_
    refine Run.iloadN K at_52 (pc' := 53) rfl rfl ?_
    refine Run.lloadN K at_53 (pc' := 54) rfl rfl ?_
    refine Run.iconst K at_54 (pc' := 55) rfl (v := (2 : Int32)) rfl ?_
    refine Run.callS K at_55 (pc' := 58) rfl (hw _ (List.mem_of_getElem? (i := 10) rfl)) (hw _ (List.mem_of_getElem? (i := 11) rfl)) (hw _ (List.mem_of_getElem? (i := 8) rfl)) (hw _ (List.mem_of_getElem? (i := 12) rfl)) (by decide) (rm3 l Z a0 n0 hw [] (p2) (p3) ((2 : Int32)) ([]) ([(r65, .byte, [(.int c66.toInt8.toInt32), (.int c68.toInt8.toInt32), (.int (0 : Int32))])]) ) (argsL := [(.int p2), (.long p3), (.int (2 : Int32))]) (rest := [(.int (2 : Int32)), (.ref r65)]) rfl rfl pd_3 rfl (W := 2) rfl (by decide) (by decide) (cells' := 1) (slots' := 3) rfl rfl (by decide) (by decide) ?_
    intro vq Dq hq
    obtain ⟨c70, hc71, rfl, rfl⟩ := hq
    refine Run.as2 (D' := ([], [(r65, .byte, [(.int c66.toInt8.toInt32), (.int c68.toInt8.toInt32), (.int (0 : Int32))])])) (S' := [(.int c70), (.int (2 : Int32)), (.ref r65)]) rfl rfl ?_
    refine Run.bastore K at_58 (pc' := 59) rfl (i := 0) (q := 2) rfl (by decide) (by decide) (v := (.int (0 : Int32))) (rfl) (D' := ([], [(r65, .byte, [(.int c66.toInt8.toInt32), (.int c68.toInt8.toInt32), (.int c70.toInt8.toInt32)])])) rfl ?_
    refine Run.iload K at_59 (pc' := 61) rfl rfl ?_
    refine Run.iconst K at_61 (pc' := 62) rfl (v := (3 : Int32)) rfl ?_
    refine Run.icmpT K at_62 (pT := 75) (pF := 65) (by decide) (by decide) rfl (show (3 : Int32) ≤ (3 : Int32) from by decide) ?_
    refine Run.iload K at_75 (pc' := 77) rfl rfl ?_
    refine Run.iconst K at_77 (pc' := 78) rfl (v := (4 : Int32)) rfl ?_
    refine Run.icmpT K at_78 (pT := 91) (pF := 81) (by decide) (by decide) rfl (show (3 : Int32) ≤ (4 : Int32) from by decide) ?_
    refine Run.iload K at_91 (pc' := 93) rfl rfl ?_
    refine Run.iconst K at_93 (pc' := 94) rfl (v := (5 : Int32)) rfl ?_
    refine Run.icmpT K at_94 (pT := 107) (pF := 97) (by decide) (by decide) rfl (show (3 : Int32) ≤ (5 : Int32) from by decide) ?_
    refine Run.iload K at_107 (pc' := 109) rfl rfl ?_
    refine Run.bipush K at_109 (pc' := 111) rfl (v := (6 : Int32)) rfl ?_
    refine Run.icmpT K at_111 (pT := 126) (pF := 114) (by decide) (by decide) rfl (show (3 : Int32) ≤ (6 : Int32) from by decide) ?_
    refine Run.iload K at_126 (pc' := 128) rfl rfl ?_
    refine Run.ldcI K at_128 (pc' := 130) rfl (v := (2147483647 : Int32)) (hw _ (List.mem_of_getElem? (i := 1) rfl)) ?_
    refine Run.iand K at_130 (pc' := 131) rfl ?_
    refine Run.iload K at_131 (pc' := 133) rfl rfl ?_
    refine Run.iconst K at_133 (pc' := 134) rfl (v := (1 : Int32)) rfl ?_
    refine Run.iaddV K at_134 (pc' := 135) rfl (v := (4 : Int32)) (by decide) ?_
    refine Run.irem K at_135 (pc' := 136) rfl (by decide) ?_
    refine Run.istore K at_136 (pc' := 138) rfl (L' := #[.val (.int p1), .val (.int p2), .val (.long p3), .second, .val (.int p4), .val (.int (3 : Int32)), .val (.ref r65), .val (.int ((p4 &&& (2147483647 : Int32)) % (4 : Int32))), .unset]) rfl ?_
    refine Run.aload K at_138 (pc' := 140) rfl rfl rfl ?_
    refine Run.iload K at_140 (pc' := 142) rfl rfl ?_
    refine Run.callS K at_142 (pc' := 145) rfl (hw _ (List.mem_of_getElem? (i := 2) rfl)) (hw _ (List.mem_of_getElem? (i := 3) rfl)) (hw _ (List.mem_of_getElem? (i := 4) rfl)) (hw _ (List.mem_of_getElem? (i := 5) rfl)) (by decide) (rm1 l Z a0 n0 hw [] (r65) (((p4 &&& (2147483647 : Int32)) % (4 : Int32))) ([c66.toInt8.toInt32, c68.toInt8.toInt32, c70.toInt8.toInt32]) ((own_mod p4 4)) ([]) ([]) (own_modE p4 _ 4 (by decide) (by decide)) (own_modL p4 3) (by simp)) (argsL := [(.ref r65), (.int ((p4 &&& (2147483647 : Int32)) % (4 : Int32)))]) (rest := []) rfl rfl pd_1 rfl (W := 0) rfl (by decide) (by decide) (cells' := 1) (slots' := 3) rfl rfl (by decide) (by decide) ?_
    intro vq Dq hq
    obtain ⟨c72, hc73, rfl, rfl⟩ := hq
    refine Run.as2 (D' := ([], [(r65, .byte, [(.int c66.toInt8.toInt32), (.int c68.toInt8.toInt32), (.int c70.toInt8.toInt32)])])) (S' := [(.int (Int32.ofNat c72))]) rfl rfl ?_
    refine Run.istore K at_145 (pc' := 147) rfl (L' := #[.val (.int p1), .val (.int p2), .val (.long p3), .second, .val (.int p4), .val (.int (3 : Int32)), .val (.ref r65), .val (.int ((p4 &&& (2147483647 : Int32)) % (4 : Int32))), .val (.int (Int32.ofNat c72))]) rfl ?_
    refine Run.iload K at_147 (pc' := 149) rfl rfl ?_
    refine Run.iload K at_149 (pc' := 151) rfl rfl ?_
    refine Run.icmpF K at_151 (pT := 161) (pF := 154) (by decide) (by decide) rfl (show ¬ ((Int32.ofNat c72) < ((p4 &&& (2147483647 : Int32)) % (4 : Int32))) from own_c1 p4 _ 4 (by decide) (by decide) (by decide) (bs := [c66.toInt8.toInt32, c68.toInt8.toInt32, c70.toInt8.toInt32]) hc73 (by simp)) ?_
    refine Run.iload K at_154 (pc' := 156) rfl rfl ?_
    refine Run.iload K at_156 (pc' := 158) rfl rfl ?_
    refine Run.icmpT K at_158 (pT := 163) (pF := 161) (by decide) (by decide) rfl (show (Int32.ofNat c72) ≤ (3 : Int32) from own_c2 (bs := [c66.toInt8.toInt32, c68.toInt8.toInt32, c70.toInt8.toInt32]) rfl hc73.2.1 (by simp)) ?_
    refine Run.iload K at_163 (pc' := 165) rfl rfl ?_
    refine Run.iload K at_165 (pc' := 167) rfl rfl ?_
    refine Run.join0 (D' := ([], [(r65, .byte, [(.int c66.toInt8.toInt32), (.int c68.toInt8.toInt32), (.int c70.toInt8.toInt32)])])) (cells' := 1) (slots' := 3) (pc' := 183) (L' := #[.val (.int p1), .val (.int p2), .val (.long p3), .second, .val (.int p4), .val (.int (3 : Int32)), .val (.ref r65), .val (.int ((p4 &&& (2147483647 : Int32)) % (4 : Int32))), .val (.int (Int32.ofNat c72))]) (S' := []) ?_ (fun J167 => ?_)
    · skip
      refine Run.aload K at_183 (pc' := 185) rfl rfl rfl ?_
      refine Run.iload K at_185 (pc' := 187) rfl rfl ?_
      refine Run.iload K at_187 (pc' := 189) rfl rfl ?_
      refine Run.iconst K at_189 (pc' := 190) rfl (v := (0 : Int32)) rfl ?_
      refine Run.callS K at_190 (pc' := 193) rfl (hw _ (List.mem_of_getElem? (i := 6) rfl)) (hw _ (List.mem_of_getElem? (i := 7) rfl)) (hw _ (List.mem_of_getElem? (i := 8) rfl)) (hw _ (List.mem_of_getElem? (i := 9) rfl)) (by decide) (rm2 l Z a0 n0 hw [] (r65) (((p4 &&& (2147483647 : Int32)) % (4 : Int32))) ((Int32.ofNat c72)) ((0 : Int32)) ([c66.toInt8.toInt32, c68.toInt8.toInt32, c70.toInt8.toInt32]) ((own_mod p4 4)) (c72) (0) ([]) ([]) (own_modE p4 _ 4 (by decide) (by decide)) (rfl) (rfl) (hc73) (hc73.2.1) (by simp) (by decide)) (argsL := [(.ref r65), (.int ((p4 &&& (2147483647 : Int32)) % (4 : Int32))), (.int (Int32.ofNat c72)), (.int (0 : Int32))]) (rest := []) rfl rfl pd_2 rfl (W := 0) rfl (by decide) (by decide) (cells' := 1) (slots' := 3) rfl rfl (by decide) (by decide) (Ret.k (S' := [(.int (1 : Int32))]) rfl ?_)
      refine Run.as (D' := ([], [(r65, .byte, [(.int c66.toInt8.toInt32), (.int c68.toInt8.toInt32), (.int c70.toInt8.toInt32)])])) rfl ?_
      refine Run.ifcF K at_193 (pT := 279) (pF := 196) (by decide) (by decide) rfl (show ¬ ((1 : Int32) = (0 : Int32)) from by decide) ?_
      refine Run.aload K at_196 (pc' := 198) rfl rfl rfl ?_
      refine Run.iload K at_198 (pc' := 200) rfl rfl ?_
      refine Run.iload K at_200 (pc' := 202) rfl rfl ?_
      refine Run.iconst K at_202 (pc' := 203) rfl (v := (1 : Int32)) rfl ?_
      refine Run.callS K at_203 (pc' := 206) rfl (hw _ (List.mem_of_getElem? (i := 6) rfl)) (hw _ (List.mem_of_getElem? (i := 7) rfl)) (hw _ (List.mem_of_getElem? (i := 8) rfl)) (hw _ (List.mem_of_getElem? (i := 9) rfl)) (by decide) (rm2 l Z a0 n0 hw [] (r65) (((p4 &&& (2147483647 : Int32)) % (4 : Int32))) ((Int32.ofNat c72)) ((1 : Int32)) ([c66.toInt8.toInt32, c68.toInt8.toInt32, c70.toInt8.toInt32]) ((own_mod p4 4)) (c72) (1) ([]) ([]) (own_modE p4 _ 4 (by decide) (by decide)) (rfl) (rfl) (hc73) (hc73.2.1) (by simp) (by decide)) (argsL := [(.ref r65), (.int ((p4 &&& (2147483647 : Int32)) % (4 : Int32))), (.int (Int32.ofNat c72)), (.int (1 : Int32))]) (rest := []) rfl rfl pd_2 rfl (W := 0) rfl (by decide) (by decide) (cells' := 1) (slots' := 3) rfl rfl (by decide) (by decide) (Ret.k (S' := [(.int (1 : Int32))]) rfl ?_)
      refine Run.as (D' := ([], [(r65, .byte, [(.int c66.toInt8.toInt32), (.int c68.toInt8.toInt32), (.int c70.toInt8.toInt32)])])) rfl ?_
      refine Run.ifcF K at_206 (pT := 279) (pF := 209) (by decide) (by decide) rfl (show ¬ ((1 : Int32) = (0 : Int32)) from by decide) ?_
      refine Run.aload K at_209 (pc' := 211) rfl rfl rfl ?_
      refine Run.iload K at_211 (pc' := 213) rfl rfl ?_
      refine Run.iload K at_213 (pc' := 215) rfl rfl ?_
      refine Run.iconst K at_215 (pc' := 216) rfl (v := (2 : Int32)) rfl ?_
      refine Run.callS K at_216 (pc' := 219) rfl (hw _ (List.mem_of_getElem? (i := 6) rfl)) (hw _ (List.mem_of_getElem? (i := 7) rfl)) (hw _ (List.mem_of_getElem? (i := 8) rfl)) (hw _ (List.mem_of_getElem? (i := 9) rfl)) (by decide) (rm2 l Z a0 n0 hw [] (r65) (((p4 &&& (2147483647 : Int32)) % (4 : Int32))) ((Int32.ofNat c72)) ((2 : Int32)) ([c66.toInt8.toInt32, c68.toInt8.toInt32, c70.toInt8.toInt32]) ((own_mod p4 4)) (c72) (2) ([]) ([]) (own_modE p4 _ 4 (by decide) (by decide)) (rfl) (rfl) (hc73) (hc73.2.1) (by simp) (by decide)) (argsL := [(.ref r65), (.int ((p4 &&& (2147483647 : Int32)) % (4 : Int32))), (.int (Int32.ofNat c72)), (.int (2 : Int32))]) (rest := []) rfl rfl pd_2 rfl (W := 0) rfl (by decide) (by decide) (cells' := 1) (slots' := 3) rfl rfl (by decide) (by decide) (Ret.k (S' := [(.int (1 : Int32))]) rfl ?_)
      refine Run.as (D' := ([], [(r65, .byte, [(.int c66.toInt8.toInt32), (.int c68.toInt8.toInt32), (.int c70.toInt8.toInt32)])])) rfl ?_
      refine Run.ifcF K at_219 (pT := 279) (pF := 222) (by decide) (by decide) rfl (show ¬ ((1 : Int32) = (0 : Int32)) from by decide) ?_
      refine Run.aload K at_222 (pc' := 224) rfl rfl rfl ?_
      refine Run.iload K at_224 (pc' := 226) rfl rfl ?_
      refine Run.iload K at_226 (pc' := 228) rfl rfl ?_
      refine Run.iconst K at_228 (pc' := 229) rfl (v := (3 : Int32)) rfl ?_
      refine Run.callS K at_229 (pc' := 232) rfl (hw _ (List.mem_of_getElem? (i := 6) rfl)) (hw _ (List.mem_of_getElem? (i := 7) rfl)) (hw _ (List.mem_of_getElem? (i := 8) rfl)) (hw _ (List.mem_of_getElem? (i := 9) rfl)) (by decide) (rm2 l Z a0 n0 hw [] (r65) (((p4 &&& (2147483647 : Int32)) % (4 : Int32))) ((Int32.ofNat c72)) ((3 : Int32)) ([c66.toInt8.toInt32, c68.toInt8.toInt32, c70.toInt8.toInt32]) ((own_mod p4 4)) (c72) (3) ([]) ([]) (own_modE p4 _ 4 (by decide) (by decide)) (rfl) (rfl) (hc73) (hc73.2.1) (by simp) (by decide)) (argsL := [(.ref r65), (.int ((p4 &&& (2147483647 : Int32)) % (4 : Int32))), (.int (Int32.ofNat c72)), (.int (3 : Int32))]) (rest := []) rfl rfl pd_2 rfl (W := 0) rfl (by decide) (by decide) (cells' := 1) (slots' := 3) rfl rfl (by decide) (by decide) (Ret.k (S' := [(.int (1 : Int32))]) rfl ?_)
      refine Run.as (D' := ([], [(r65, .byte, [(.int c66.toInt8.toInt32), (.int c68.toInt8.toInt32), (.int c70.toInt8.toInt32)])])) rfl ?_
      refine Run.ifcF K at_232 (pT := 279) (pF := 235) (by decide) (by decide) rfl (show ¬ ((1 : Int32) = (0 : Int32)) from by decide) ?_
      refine Run.aload K at_235 (pc' := 237) rfl rfl rfl ?_
      refine Run.iload K at_237 (pc' := 239) rfl rfl ?_
      refine Run.iload K at_239 (pc' := 241) rfl rfl ?_
      refine Run.iconst K at_241 (pc' := 242) rfl (v := (4 : Int32)) rfl ?_
      refine Run.callS K at_242 (pc' := 245) rfl (hw _ (List.mem_of_getElem? (i := 6) rfl)) (hw _ (List.mem_of_getElem? (i := 7) rfl)) (hw _ (List.mem_of_getElem? (i := 8) rfl)) (hw _ (List.mem_of_getElem? (i := 9) rfl)) (by decide) (rm2 l Z a0 n0 hw [] (r65) (((p4 &&& (2147483647 : Int32)) % (4 : Int32))) ((Int32.ofNat c72)) ((4 : Int32)) ([c66.toInt8.toInt32, c68.toInt8.toInt32, c70.toInt8.toInt32]) ((own_mod p4 4)) (c72) (4) ([]) ([]) (own_modE p4 _ 4 (by decide) (by decide)) (rfl) (rfl) (hc73) (hc73.2.1) (by simp) (by decide)) (argsL := [(.ref r65), (.int ((p4 &&& (2147483647 : Int32)) % (4 : Int32))), (.int (Int32.ofNat c72)), (.int (4 : Int32))]) (rest := []) rfl rfl pd_2 rfl (W := 0) rfl (by decide) (by decide) (cells' := 1) (slots' := 3) rfl rfl (by decide) (by decide) (Ret.k (S' := [(.int (1 : Int32))]) rfl ?_)
      refine Run.as (D' := ([], [(r65, .byte, [(.int c66.toInt8.toInt32), (.int c68.toInt8.toInt32), (.int c70.toInt8.toInt32)])])) rfl ?_
      refine Run.ifcF K at_245 (pT := 279) (pF := 248) (by decide) (by decide) rfl (show ¬ ((1 : Int32) = (0 : Int32)) from by decide) ?_
      refine Run.aload K at_248 (pc' := 250) rfl rfl rfl ?_
      refine Run.iload K at_250 (pc' := 252) rfl rfl ?_
      refine Run.iload K at_252 (pc' := 254) rfl rfl ?_
      refine Run.iconst K at_254 (pc' := 255) rfl (v := (5 : Int32)) rfl ?_
      refine Run.callS K at_255 (pc' := 258) rfl (hw _ (List.mem_of_getElem? (i := 6) rfl)) (hw _ (List.mem_of_getElem? (i := 7) rfl)) (hw _ (List.mem_of_getElem? (i := 8) rfl)) (hw _ (List.mem_of_getElem? (i := 9) rfl)) (by decide) (rm2 l Z a0 n0 hw [] (r65) (((p4 &&& (2147483647 : Int32)) % (4 : Int32))) ((Int32.ofNat c72)) ((5 : Int32)) ([c66.toInt8.toInt32, c68.toInt8.toInt32, c70.toInt8.toInt32]) ((own_mod p4 4)) (c72) (5) ([]) ([]) (own_modE p4 _ 4 (by decide) (by decide)) (rfl) (rfl) (hc73) (hc73.2.1) (by simp) (by decide)) (argsL := [(.ref r65), (.int ((p4 &&& (2147483647 : Int32)) % (4 : Int32))), (.int (Int32.ofNat c72)), (.int (5 : Int32))]) (rest := []) rfl rfl pd_2 rfl (W := 0) rfl (by decide) (by decide) (cells' := 1) (slots' := 3) rfl rfl (by decide) (by decide) (Ret.k (S' := [(.int (1 : Int32))]) rfl ?_)
      refine Run.as (D' := ([], [(r65, .byte, [(.int c66.toInt8.toInt32), (.int c68.toInt8.toInt32), (.int c70.toInt8.toInt32)])])) rfl ?_
      refine Run.ifcF K at_258 (pT := 279) (pF := 261) (by decide) (by decide) rfl (show ¬ ((1 : Int32) = (0 : Int32)) from by decide) ?_
      refine Run.aload K at_261 (pc' := 263) rfl rfl rfl ?_
      refine Run.iload K at_263 (pc' := 265) rfl rfl ?_
      refine Run.iload K at_265 (pc' := 267) rfl rfl ?_
      refine Run.bipush K at_267 (pc' := 269) rfl (v := (6 : Int32)) rfl ?_
      refine Run.callS K at_269 (pc' := 272) rfl (hw _ (List.mem_of_getElem? (i := 6) rfl)) (hw _ (List.mem_of_getElem? (i := 7) rfl)) (hw _ (List.mem_of_getElem? (i := 8) rfl)) (hw _ (List.mem_of_getElem? (i := 9) rfl)) (by decide) (rm2 l Z a0 n0 hw [] (r65) (((p4 &&& (2147483647 : Int32)) % (4 : Int32))) ((Int32.ofNat c72)) ((6 : Int32)) ([c66.toInt8.toInt32, c68.toInt8.toInt32, c70.toInt8.toInt32]) ((own_mod p4 4)) (c72) (6) ([]) ([]) (own_modE p4 _ 4 (by decide) (by decide)) (rfl) (rfl) (hc73) (hc73.2.1) (by simp) (by decide)) (argsL := [(.ref r65), (.int ((p4 &&& (2147483647 : Int32)) % (4 : Int32))), (.int (Int32.ofNat c72)), (.int (6 : Int32))]) (rest := []) rfl rfl pd_2 rfl (W := 0) rfl (by decide) (by decide) (cells' := 1) (slots' := 3) rfl rfl (by decide) (by decide) (Ret.k (S' := [(.int (1 : Int32))]) rfl ?_)
      refine Run.as (D' := ([], [(r65, .byte, [(.int c66.toInt8.toInt32), (.int c68.toInt8.toInt32), (.int c70.toInt8.toInt32)])])) rfl ?_
      refine Run.ifcF K at_272 (pT := 279) (pF := 275) (by decide) (by decide) rfl (show ¬ ((1 : Int32) = (0 : Int32)) from by decide) ?_
      refine Run.iconst K at_275 (pc' := 276) rfl (v := (1 : Int32)) rfl ?_
      refine Run.goto K at_276 (pc' := 280) (by decide) (by decide) ?_
      exact Run.retN K at_280 (w := (1 : Int32)) rfl (by decide) (by decide) (by decide) (by decide) rfl
    · skip
      refine Run.icmp K at_167 (pT := 183) (pF := 170) (by decide) (by decide) rfl (fun (h167_77 : (3 : Int32) ≤ (Int32.ofNat c72)) => ?_) (fun (h167_77 : ¬ ((3 : Int32) ≤ (Int32.ofNat c72))) => ?_)
      · skip
        exact J167
      · skip
        refine Run.aload K at_170 (pc' := 172) rfl rfl rfl ?_
        refine Run.iload K at_172 (pc' := 174) rfl rfl ?_
        refine Run.baload K at_174 (pc' := 175) rfl (i := 0) (q := c72) rfl (own_nn (own_rs (bs := [c66.toInt8.toInt32, c68.toInt8.toInt32, c70.toInt8.toInt32]) hc73.2.1 (by simp))) (own_clamp (own_rs (bs := [c66.toInt8.toInt32, c68.toInt8.toInt32, c70.toInt8.toInt32]) hc73.2.1 (by simp))) (v := (.int ([c66.toInt8.toInt32, c68.toInt8.toInt32, c70.toInt8.toInt32].getD c72 0))) (own_at (bs := [c66.toInt8.toInt32, c68.toInt8.toInt32, c70.toInt8.toInt32]) (own_inb (bs := [c66.toInt8.toInt32, c68.toInt8.toInt32, c70.toInt8.toInt32]) hc73.2.1 (by simp) h167_77)) ?_
        refine Run.callS K at_175 (pc' := 178) rfl (hw _ (List.mem_of_getElem? (i := 13) rfl)) (hw _ (List.mem_of_getElem? (i := 14) rfl)) (hw _ (List.mem_of_getElem? (i := 8) rfl)) (hw _ (List.mem_of_getElem? (i := 15) rfl)) (by decide) (rm4 l Z a0 n0 hw [] (([c66.toInt8.toInt32, c68.toInt8.toInt32, c70.toInt8.toInt32].getD c72 0)) ([]) ([(r65, .byte, [(.int c66.toInt8.toInt32), (.int c68.toInt8.toInt32), (.int c70.toInt8.toInt32)])]) ) (argsL := [(.int ([c66.toInt8.toInt32, c68.toInt8.toInt32, c70.toInt8.toInt32].getD c72 0))]) (rest := []) rfl rfl pd_0 rfl (W := 0) rfl (by decide) (by decide) (cells' := 1) (slots' := 3) rfl rfl (by decide) (by decide) ?_
        intro vq Dq hq
        obtain ⟨c79, hc80, rfl, rfl⟩ := hq
        refine Run.as2 (D' := ([], [(r65, .byte, [(.int c66.toInt8.toInt32), (.int c68.toInt8.toInt32), (.int c70.toInt8.toInt32)])])) (S' := [(.int c79)]) rfl rfl ?_
        refine Run.ifcT K at_178 (pT := 183) (pF := 181) (by decide) (by decide) rfl (show c79 = (0 : Int32) from own_nb (bs := [c66.toInt8.toInt32, c68.toInt8.toInt32, c70.toInt8.toInt32]) hc73 (own_inb (bs := [c66.toInt8.toInt32, c68.toInt8.toInt32, c70.toInt8.toInt32]) hc73.2.1 (by simp) h167_77) hc80) ?_
        exact J167
  · rw [hq28]
    refine Run.istore K at_4 (pc' := 6) rfl (L' := #[.val (.int p1), .val (.int p2), .val (.long p3), .second, .val (.int p4), .val (.int (4 : Int32)), .unset, .unset, .unset]) rfl ?_
    refine Run.iload K at_6 (pc' := 8) rfl rfl ?_
    refine Run.newA K at_8 (pc' := 10) rfl (ty := .byte) rfl (hw _ (List.mem_of_getElem? (i := 0) rfl)) (by decide) (vs := [(.int (0 : Int32)), (.int (0 : Int32)), (.int (0 : Int32)), (.int (0 : Int32))]) (rfl) (cap := 4) (by decide) (by decide) (cells' := 1) (slots' := 4) rfl rfl (by decide) (by decide) rfl (fun r81 => ?_)
    refine Run.as (D' := ([], [(r81, .byte, [(.int (0 : Int32)), (.int (0 : Int32)), (.int (0 : Int32)), (.int (0 : Int32))])])) rfl ?_
    refine Run.astore K at_10 (pc' := 12) rfl rfl (L' := #[.val (.int p1), .val (.int p2), .val (.long p3), .second, .val (.int p4), .val (.int (4 : Int32)), .val (.ref r81), .unset, .unset]) rfl ?_
    refine Run.iload K at_12 (pc' := 14) rfl rfl ?_
    refine Run.ifcF K at_14 (pT := 27) (pF := 17) (by decide) (by decide) rfl (show ¬ ((4 : Int32) ≤ (0 : Int32)) from by decide) ?_
    refine Run.aload K at_17 (pc' := 19) rfl rfl rfl ?_
    refine Run.iconst K at_19 (pc' := 20) rfl (v := (0 : Int32)) rfl ?_
    refine Run.iloadN K at_20 (pc' := 21) rfl rfl ?_
    refine Run.lloadN K at_21 (pc' := 22) rfl rfl ?_
    refine Run.iconst K at_22 (pc' := 23) rfl (v := (0 : Int32)) rfl ?_
    refine Run.callS K at_23 (pc' := 26) rfl (hw _ (List.mem_of_getElem? (i := 10) rfl)) (hw _ (List.mem_of_getElem? (i := 11) rfl)) (hw _ (List.mem_of_getElem? (i := 8) rfl)) (hw _ (List.mem_of_getElem? (i := 12) rfl)) (by decide) (rm3 l Z a0 n0 hw [] (p2) (p3) ((0 : Int32)) ([]) ([(r81, .byte, [(.int (0 : Int32)), (.int (0 : Int32)), (.int (0 : Int32)), (.int (0 : Int32))])]) ) (argsL := [(.int p2), (.long p3), (.int (0 : Int32))]) (rest := [(.int (0 : Int32)), (.ref r81)]) rfl rfl pd_3 rfl (W := 2) rfl (by decide) (by decide) (cells' := 1) (slots' := 4) rfl rfl (by decide) (by decide) ?_
    intro vq Dq hq
    obtain ⟨c82, hc83, rfl, rfl⟩ := hq
    refine Run.as2 (D' := ([], [(r81, .byte, [(.int (0 : Int32)), (.int (0 : Int32)), (.int (0 : Int32)), (.int (0 : Int32))])])) (S' := [(.int c82), (.int (0 : Int32)), (.ref r81)]) rfl rfl ?_
    refine Run.bastore K at_26 (pc' := 27) rfl (i := 0) (q := 0) rfl (by decide) (by decide) (v := (.int (0 : Int32))) (rfl) (D' := ([], [(r81, .byte, [(.int c82.toInt8.toInt32), (.int (0 : Int32)), (.int (0 : Int32)), (.int (0 : Int32))])])) rfl ?_
    refine Run.iload K at_27 (pc' := 29) rfl rfl ?_
    refine Run.iconst K at_29 (pc' := 30) rfl (v := (1 : Int32)) rfl ?_
    refine Run.icmpF K at_30 (pT := 43) (pF := 33) (by decide) (by decide) rfl (show ¬ ((4 : Int32) ≤ (1 : Int32)) from by decide) ?_
    refine Run.aload K at_33 (pc' := 35) rfl rfl rfl ?_
    refine Run.iconst K at_35 (pc' := 36) rfl (v := (1 : Int32)) rfl ?_
    refine Run.iloadN K at_36 (pc' := 37) rfl rfl ?_
    refine Run.lloadN K at_37 (pc' := 38) rfl rfl ?_
    refine Run.iconst K at_38 (pc' := 39) rfl (v := (1 : Int32)) rfl ?_
    refine Run.callS K at_39 (pc' := 42) rfl (hw _ (List.mem_of_getElem? (i := 10) rfl)) (hw _ (List.mem_of_getElem? (i := 11) rfl)) (hw _ (List.mem_of_getElem? (i := 8) rfl)) (hw _ (List.mem_of_getElem? (i := 12) rfl)) (by decide) (rm3 l Z a0 n0 hw [] (p2) (p3) ((1 : Int32)) ([]) ([(r81, .byte, [(.int c82.toInt8.toInt32), (.int (0 : Int32)), (.int (0 : Int32)), (.int (0 : Int32))])]) ) (argsL := [(.int p2), (.long p3), (.int (1 : Int32))]) (rest := [(.int (1 : Int32)), (.ref r81)]) rfl rfl pd_3 rfl (W := 2) rfl (by decide) (by decide) (cells' := 1) (slots' := 4) rfl rfl (by decide) (by decide) ?_
    intro vq Dq hq
    obtain ⟨c84, hc85, rfl, rfl⟩ := hq
    refine Run.as2 (D' := ([], [(r81, .byte, [(.int c82.toInt8.toInt32), (.int (0 : Int32)), (.int (0 : Int32)), (.int (0 : Int32))])])) (S' := [(.int c84), (.int (1 : Int32)), (.ref r81)]) rfl rfl ?_
    refine Run.bastore K at_42 (pc' := 43) rfl (i := 0) (q := 1) rfl (by decide) (by decide) (v := (.int (0 : Int32))) (rfl) (D' := ([], [(r81, .byte, [(.int c82.toInt8.toInt32), (.int c84.toInt8.toInt32), (.int (0 : Int32)), (.int (0 : Int32))])])) rfl ?_
    refine Run.iload K at_43 (pc' := 45) rfl rfl ?_
    refine Run.iconst K at_45 (pc' := 46) rfl (v := (2 : Int32)) rfl ?_
    refine Run.icmpF K at_46 (pT := 59) (pF := 49) (by decide) (by decide) rfl (show ¬ ((4 : Int32) ≤ (2 : Int32)) from by decide) ?_
    refine Run.aload K at_49 (pc' := 51) rfl rfl rfl ?_
    refine Run.iconst K at_51 (pc' := 52) rfl (v := (2 : Int32)) rfl ?_
    refine Run.iloadN K at_52 (pc' := 53) rfl rfl ?_
    refine Run.lloadN K at_53 (pc' := 54) rfl rfl ?_
    refine Run.iconst K at_54 (pc' := 55) rfl (v := (2 : Int32)) rfl ?_
    refine Run.callS K at_55 (pc' := 58) rfl (hw _ (List.mem_of_getElem? (i := 10) rfl)) (hw _ (List.mem_of_getElem? (i := 11) rfl)) (hw _ (List.mem_of_getElem? (i := 8) rfl)) (hw _ (List.mem_of_getElem? (i := 12) rfl)) (by decide) (rm3 l Z a0 n0 hw [] (p2) (p3) ((2 : Int32)) ([]) ([(r81, .byte, [(.int c82.toInt8.toInt32), (.int c84.toInt8.toInt32), (.int (0 : Int32)), (.int (0 : Int32))])]) ) (argsL := [(.int p2), (.long p3), (.int (2 : Int32))]) (rest := [(.int (2 : Int32)), (.ref r81)]) rfl rfl pd_3 rfl (W := 2) rfl (by decide) (by decide) (cells' := 1) (slots' := 4) rfl rfl (by decide) (by decide) ?_
    intro vq Dq hq
    obtain ⟨c86, hc87, rfl, rfl⟩ := hq
    refine Run.as2 (D' := ([], [(r81, .byte, [(.int c82.toInt8.toInt32), (.int c84.toInt8.toInt32), (.int (0 : Int32)), (.int (0 : Int32))])])) (S' := [(.int c86), (.int (2 : Int32)), (.ref r81)]) rfl rfl ?_
    refine Run.bastore K at_58 (pc' := 59) rfl (i := 0) (q := 2) rfl (by decide) (by decide) (v := (.int (0 : Int32))) (rfl) (D' := ([], [(r81, .byte, [(.int c82.toInt8.toInt32), (.int c84.toInt8.toInt32), (.int c86.toInt8.toInt32), (.int (0 : Int32))])])) rfl ?_
    refine Run.iload K at_59 (pc' := 61) rfl rfl ?_
    refine Run.iconst K at_61 (pc' := 62) rfl (v := (3 : Int32)) rfl ?_
    refine Run.icmpF K at_62 (pT := 75) (pF := 65) (by decide) (by decide) rfl (show ¬ ((4 : Int32) ≤ (3 : Int32)) from by decide) ?_
    refine Run.aload K at_65 (pc' := 67) rfl rfl rfl ?_
    refine Run.iconst K at_67 (pc' := 68) rfl (v := (3 : Int32)) rfl ?_
    refine Run.iloadN K at_68 (pc' := 69) rfl rfl ?_
    refine Run.lloadN K at_69 (pc' := 70) rfl rfl ?_
    refine Run.iconst K at_70 (pc' := 71) rfl (v := (3 : Int32)) rfl ?_
    refine Run.callS K at_71 (pc' := 74) rfl (hw _ (List.mem_of_getElem? (i := 10) rfl)) (hw _ (List.mem_of_getElem? (i := 11) rfl)) (hw _ (List.mem_of_getElem? (i := 8) rfl)) (hw _ (List.mem_of_getElem? (i := 12) rfl)) (by decide) (rm3 l Z a0 n0 hw [] (p2) (p3) ((3 : Int32)) ([]) ([(r81, .byte, [(.int c82.toInt8.toInt32), (.int c84.toInt8.toInt32), (.int c86.toInt8.toInt32), (.int (0 : Int32))])]) ) (argsL := [(.int p2), (.long p3), (.int (3 : Int32))]) (rest := [(.int (3 : Int32)), (.ref r81)]) rfl rfl pd_3 rfl (W := 2) rfl (by decide) (by decide) (cells' := 1) (slots' := 4) rfl rfl (by decide) (by decide) ?_
    intro vq Dq hq
    obtain ⟨c88, hc89, rfl, rfl⟩ := hq
    refine Run.as2 (D' := ([], [(r81, .byte, [(.int c82.toInt8.toInt32), (.int c84.toInt8.toInt32), (.int c86.toInt8.toInt32), (.int (0 : Int32))])])) (S' := [(.int c88), (.int (3 : Int32)), (.ref r81)]) rfl rfl ?_
    refine Run.bastore K at_74 (pc' := 75) rfl (i := 0) (q := 3) rfl (by decide) (by decide) (v := (.int (0 : Int32))) (rfl) (D' := ([], [(r81, .byte, [(.int c82.toInt8.toInt32), (.int c84.toInt8.toInt32), (.int c86.toInt8.toInt32), (.int c88.toInt8.toInt32)])])) rfl ?_
    refine Run.iload K at_75 (pc' := 77) rfl rfl ?_
    refine Run.iconst K at_77 (pc' := 78) rfl (v := (4 : Int32)) rfl ?_
    refine Run.icmpT K at_78 (pT := 91) (pF := 81) (by decide) (by decide) rfl (show (4 : Int32) ≤ (4 : Int32) from by decide) ?_
    refine Run.iload K at_91 (pc' := 93) rfl rfl ?_
    refine Run.iconst K at_93 (pc' := 94) rfl (v := (5 : Int32)) rfl ?_
    refine Run.icmpT K at_94 (pT := 107) (pF := 97) (by decide) (by decide) rfl (show (4 : Int32) ≤ (5 : Int32) from by decide) ?_
    refine Run.iload K at_107 (pc' := 109) rfl rfl ?_
    refine Run.bipush K at_109 (pc' := 111) rfl (v := (6 : Int32)) rfl ?_
    refine Run.icmpT K at_111 (pT := 126) (pF := 114) (by decide) (by decide) rfl (show (4 : Int32) ≤ (6 : Int32) from by decide) ?_
    refine Run.iload K at_126 (pc' := 128) rfl rfl ?_
    refine Run.ldcI K at_128 (pc' := 130) rfl (v := (2147483647 : Int32)) (hw _ (List.mem_of_getElem? (i := 1) rfl)) ?_
    refine Run.iand K at_130 (pc' := 131) rfl ?_
    refine Run.iload K at_131 (pc' := 133) rfl rfl ?_
    refine Run.iconst K at_133 (pc' := 134) rfl (v := (1 : Int32)) rfl ?_
    refine Run.iaddV K at_134 (pc' := 135) rfl (v := (5 : Int32)) (by decide) ?_
    refine Run.irem K at_135 (pc' := 136) rfl (by decide) ?_
    refine Run.istore K at_136 (pc' := 138) rfl (L' := #[.val (.int p1), .val (.int p2), .val (.long p3), .second, .val (.int p4), .val (.int (4 : Int32)), .val (.ref r81), .val (.int ((p4 &&& (2147483647 : Int32)) % (5 : Int32))), .unset]) rfl ?_
    refine Run.aload K at_138 (pc' := 140) rfl rfl rfl ?_
    refine Run.iload K at_140 (pc' := 142) rfl rfl ?_
    refine Run.callS K at_142 (pc' := 145) rfl (hw _ (List.mem_of_getElem? (i := 2) rfl)) (hw _ (List.mem_of_getElem? (i := 3) rfl)) (hw _ (List.mem_of_getElem? (i := 4) rfl)) (hw _ (List.mem_of_getElem? (i := 5) rfl)) (by decide) (rm1 l Z a0 n0 hw [] (r81) (((p4 &&& (2147483647 : Int32)) % (5 : Int32))) ([c82.toInt8.toInt32, c84.toInt8.toInt32, c86.toInt8.toInt32, c88.toInt8.toInt32]) ((own_mod p4 5)) ([]) ([]) (own_modE p4 _ 5 (by decide) (by decide)) (own_modL p4 4) (by simp)) (argsL := [(.ref r81), (.int ((p4 &&& (2147483647 : Int32)) % (5 : Int32)))]) (rest := []) rfl rfl pd_1 rfl (W := 0) rfl (by decide) (by decide) (cells' := 1) (slots' := 4) rfl rfl (by decide) (by decide) ?_
    intro vq Dq hq
    obtain ⟨c90, hc91, rfl, rfl⟩ := hq
    refine Run.as2 (D' := ([], [(r81, .byte, [(.int c82.toInt8.toInt32), (.int c84.toInt8.toInt32), (.int c86.toInt8.toInt32), (.int c88.toInt8.toInt32)])])) (S' := [(.int (Int32.ofNat c90))]) rfl rfl ?_
    refine Run.istore K at_145 (pc' := 147) rfl (L' := #[.val (.int p1), .val (.int p2), .val (.long p3), .second, .val (.int p4), .val (.int (4 : Int32)), .val (.ref r81), .val (.int ((p4 &&& (2147483647 : Int32)) % (5 : Int32))), .val (.int (Int32.ofNat c90))]) rfl ?_
    refine Run.iload K at_147 (pc' := 149) rfl rfl ?_
    refine Run.iload K at_149 (pc' := 151) rfl rfl ?_
    refine Run.icmpF K at_151 (pT := 161) (pF := 154) (by decide) (by decide) rfl (show ¬ ((Int32.ofNat c90) < ((p4 &&& (2147483647 : Int32)) % (5 : Int32))) from own_c1 p4 _ 5 (by decide) (by decide) (by decide) (bs := [c82.toInt8.toInt32, c84.toInt8.toInt32, c86.toInt8.toInt32, c88.toInt8.toInt32]) hc91 (by simp)) ?_
    refine Run.iload K at_154 (pc' := 156) rfl rfl ?_
    refine Run.iload K at_156 (pc' := 158) rfl rfl ?_
    refine Run.icmpT K at_158 (pT := 163) (pF := 161) (by decide) (by decide) rfl (show (Int32.ofNat c90) ≤ (4 : Int32) from own_c2 (bs := [c82.toInt8.toInt32, c84.toInt8.toInt32, c86.toInt8.toInt32, c88.toInt8.toInt32]) rfl hc91.2.1 (by simp)) ?_
    refine Run.iload K at_163 (pc' := 165) rfl rfl ?_
    refine Run.iload K at_165 (pc' := 167) rfl rfl ?_
    refine Run.join0 (D' := ([], [(r81, .byte, [(.int c82.toInt8.toInt32), (.int c84.toInt8.toInt32), (.int c86.toInt8.toInt32), (.int c88.toInt8.toInt32)])])) (cells' := 1) (slots' := 4) (pc' := 183) (L' := #[.val (.int p1), .val (.int p2), .val (.long p3), .second, .val (.int p4), .val (.int (4 : Int32)), .val (.ref r81), .val (.int ((p4 &&& (2147483647 : Int32)) % (5 : Int32))), .val (.int (Int32.ofNat c90))]) (S' := []) ?_ (fun J167 => ?_)
    · skip
      refine Run.aload K at_183 (pc' := 185) rfl rfl rfl ?_
      refine Run.iload K at_185 (pc' := 187) rfl rfl ?_
      refine Run.iload K at_187 (pc' := 189) rfl rfl ?_
      refine Run.iconst K at_189 (pc' := 190) rfl (v := (0 : Int32)) rfl ?_
      refine Run.callS K at_190 (pc' := 193) rfl (hw _ (List.mem_of_getElem? (i := 6) rfl)) (hw _ (List.mem_of_getElem? (i := 7) rfl)) (hw _ (List.mem_of_getElem? (i := 8) rfl)) (hw _ (List.mem_of_getElem? (i := 9) rfl)) (by decide) (rm2 l Z a0 n0 hw [] (r81) (((p4 &&& (2147483647 : Int32)) % (5 : Int32))) ((Int32.ofNat c90)) ((0 : Int32)) ([c82.toInt8.toInt32, c84.toInt8.toInt32, c86.toInt8.toInt32, c88.toInt8.toInt32]) ((own_mod p4 5)) (c90) (0) ([]) ([]) (own_modE p4 _ 5 (by decide) (by decide)) (rfl) (rfl) (hc91) (hc91.2.1) (by simp) (by decide)) (argsL := [(.ref r81), (.int ((p4 &&& (2147483647 : Int32)) % (5 : Int32))), (.int (Int32.ofNat c90)), (.int (0 : Int32))]) (rest := []) rfl rfl pd_2 rfl (W := 0) rfl (by decide) (by decide) (cells' := 1) (slots' := 4) rfl rfl (by decide) (by decide) (Ret.k (S' := [(.int (1 : Int32))]) rfl ?_)
      refine Run.as (D' := ([], [(r81, .byte, [(.int c82.toInt8.toInt32), (.int c84.toInt8.toInt32), (.int c86.toInt8.toInt32), (.int c88.toInt8.toInt32)])])) rfl ?_
      refine Run.ifcF K at_193 (pT := 279) (pF := 196) (by decide) (by decide) rfl (show ¬ ((1 : Int32) = (0 : Int32)) from by decide) ?_
      refine Run.aload K at_196 (pc' := 198) rfl rfl rfl ?_
      refine Run.iload K at_198 (pc' := 200) rfl rfl ?_
      refine Run.iload K at_200 (pc' := 202) rfl rfl ?_
      refine Run.iconst K at_202 (pc' := 203) rfl (v := (1 : Int32)) rfl ?_
      refine Run.callS K at_203 (pc' := 206) rfl (hw _ (List.mem_of_getElem? (i := 6) rfl)) (hw _ (List.mem_of_getElem? (i := 7) rfl)) (hw _ (List.mem_of_getElem? (i := 8) rfl)) (hw _ (List.mem_of_getElem? (i := 9) rfl)) (by decide) (rm2 l Z a0 n0 hw [] (r81) (((p4 &&& (2147483647 : Int32)) % (5 : Int32))) ((Int32.ofNat c90)) ((1 : Int32)) ([c82.toInt8.toInt32, c84.toInt8.toInt32, c86.toInt8.toInt32, c88.toInt8.toInt32]) ((own_mod p4 5)) (c90) (1) ([]) ([]) (own_modE p4 _ 5 (by decide) (by decide)) (rfl) (rfl) (hc91) (hc91.2.1) (by simp) (by decide)) (argsL := [(.ref r81), (.int ((p4 &&& (2147483647 : Int32)) % (5 : Int32))), (.int (Int32.ofNat c90)), (.int (1 : Int32))]) (rest := []) rfl rfl pd_2 rfl (W := 0) rfl (by decide) (by decide) (cells' := 1) (slots' := 4) rfl rfl (by decide) (by decide) (Ret.k (S' := [(.int (1 : Int32))]) rfl ?_)
      refine Run.as (D' := ([], [(r81, .byte, [(.int c82.toInt8.toInt32), (.int c84.toInt8.toInt32), (.int c86.toInt8.toInt32), (.int c88.toInt8.toInt32)])])) rfl ?_
      refine Run.ifcF K at_206 (pT := 279) (pF := 209) (by decide) (by decide) rfl (show ¬ ((1 : Int32) = (0 : Int32)) from by decide) ?_
      refine Run.aload K at_209 (pc' := 211) rfl rfl rfl ?_
      refine Run.iload K at_211 (pc' := 213) rfl rfl ?_
      refine Run.iload K at_213 (pc' := 215) rfl rfl ?_
      refine Run.iconst K at_215 (pc' := 216) rfl (v := (2 : Int32)) rfl ?_
      refine Run.callS K at_216 (pc' := 219) rfl (hw _ (List.mem_of_getElem? (i := 6) rfl)) (hw _ (List.mem_of_getElem? (i := 7) rfl)) (hw _ (List.mem_of_getElem? (i := 8) rfl)) (hw _ (List.mem_of_getElem? (i := 9) rfl)) (by decide) (rm2 l Z a0 n0 hw [] (r81) (((p4 &&& (2147483647 : Int32)) % (5 : Int32))) ((Int32.ofNat c90)) ((2 : Int32)) ([c82.toInt8.toInt32, c84.toInt8.toInt32, c86.toInt8.toInt32, c88.toInt8.toInt32]) ((own_mod p4 5)) (c90) (2) ([]) ([]) (own_modE p4 _ 5 (by decide) (by decide)) (rfl) (rfl) (hc91) (hc91.2.1) (by simp) (by decide)) (argsL := [(.ref r81), (.int ((p4 &&& (2147483647 : Int32)) % (5 : Int32))), (.int (Int32.ofNat c90)), (.int (2 : Int32))]) (rest := []) rfl rfl pd_2 rfl (W := 0) rfl (by decide) (by decide) (cells' := 1) (slots' := 4) rfl rfl (by decide) (by decide) (Ret.k (S' := [(.int (1 : Int32))]) rfl ?_)
      refine Run.as (D' := ([], [(r81, .byte, [(.int c82.toInt8.toInt32), (.int c84.toInt8.toInt32), (.int c86.toInt8.toInt32), (.int c88.toInt8.toInt32)])])) rfl ?_
      refine Run.ifcF K at_219 (pT := 279) (pF := 222) (by decide) (by decide) rfl (show ¬ ((1 : Int32) = (0 : Int32)) from by decide) ?_
      refine Run.aload K at_222 (pc' := 224) rfl rfl rfl ?_
      refine Run.iload K at_224 (pc' := 226) rfl rfl ?_
      refine Run.iload K at_226 (pc' := 228) rfl rfl ?_
      refine Run.iconst K at_228 (pc' := 229) rfl (v := (3 : Int32)) rfl ?_
      refine Run.callS K at_229 (pc' := 232) rfl (hw _ (List.mem_of_getElem? (i := 6) rfl)) (hw _ (List.mem_of_getElem? (i := 7) rfl)) (hw _ (List.mem_of_getElem? (i := 8) rfl)) (hw _ (List.mem_of_getElem? (i := 9) rfl)) (by decide) (rm2 l Z a0 n0 hw [] (r81) (((p4 &&& (2147483647 : Int32)) % (5 : Int32))) ((Int32.ofNat c90)) ((3 : Int32)) ([c82.toInt8.toInt32, c84.toInt8.toInt32, c86.toInt8.toInt32, c88.toInt8.toInt32]) ((own_mod p4 5)) (c90) (3) ([]) ([]) (own_modE p4 _ 5 (by decide) (by decide)) (rfl) (rfl) (hc91) (hc91.2.1) (by simp) (by decide)) (argsL := [(.ref r81), (.int ((p4 &&& (2147483647 : Int32)) % (5 : Int32))), (.int (Int32.ofNat c90)), (.int (3 : Int32))]) (rest := []) rfl rfl pd_2 rfl (W := 0) rfl (by decide) (by decide) (cells' := 1) (slots' := 4) rfl rfl (by decide) (by decide) (Ret.k (S' := [(.int (1 : Int32))]) rfl ?_)
      refine Run.as (D' := ([], [(r81, .byte, [(.int c82.toInt8.toInt32), (.int c84.toInt8.toInt32), (.int c86.toInt8.toInt32), (.int c88.toInt8.toInt32)])])) rfl ?_
      refine Run.ifcF K at_232 (pT := 279) (pF := 235) (by decide) (by decide) rfl (show ¬ ((1 : Int32) = (0 : Int32)) from by decide) ?_
      refine Run.aload K at_235 (pc' := 237) rfl rfl rfl ?_
      refine Run.iload K at_237 (pc' := 239) rfl rfl ?_
      refine Run.iload K at_239 (pc' := 241) rfl rfl ?_
      refine Run.iconst K at_241 (pc' := 242) rfl (v := (4 : Int32)) rfl ?_
      refine Run.callS K at_242 (pc' := 245) rfl (hw _ (List.mem_of_getElem? (i := 6) rfl)) (hw _ (List.mem_of_getElem? (i := 7) rfl)) (hw _ (List.mem_of_getElem? (i := 8) rfl)) (hw _ (List.mem_of_getElem? (i := 9) rfl)) (by decide) (rm2 l Z a0 n0 hw [] (r81) (((p4 &&& (2147483647 : Int32)) % (5 : Int32))) ((Int32.ofNat c90)) ((4 : Int32)) ([c82.toInt8.toInt32, c84.toInt8.toInt32, c86.toInt8.toInt32, c88.toInt8.toInt32]) ((own_mod p4 5)) (c90) (4) ([]) ([]) (own_modE p4 _ 5 (by decide) (by decide)) (rfl) (rfl) (hc91) (hc91.2.1) (by simp) (by decide)) (argsL := [(.ref r81), (.int ((p4 &&& (2147483647 : Int32)) % (5 : Int32))), (.int (Int32.ofNat c90)), (.int (4 : Int32))]) (rest := []) rfl rfl pd_2 rfl (W := 0) rfl (by decide) (by decide) (cells' := 1) (slots' := 4) rfl rfl (by decide) (by decide) (Ret.k (S' := [(.int (1 : Int32))]) rfl ?_)
      refine Run.as (D' := ([], [(r81, .byte, [(.int c82.toInt8.toInt32), (.int c84.toInt8.toInt32), (.int c86.toInt8.toInt32), (.int c88.toInt8.toInt32)])])) rfl ?_
      refine Run.ifcF K at_245 (pT := 279) (pF := 248) (by decide) (by decide) rfl (show ¬ ((1 : Int32) = (0 : Int32)) from by decide) ?_
      refine Run.aload K at_248 (pc' := 250) rfl rfl rfl ?_
      refine Run.iload K at_250 (pc' := 252) rfl rfl ?_
      refine Run.iload K at_252 (pc' := 254) rfl rfl ?_
      refine Run.iconst K at_254 (pc' := 255) rfl (v := (5 : Int32)) rfl ?_
      refine Run.callS K at_255 (pc' := 258) rfl (hw _ (List.mem_of_getElem? (i := 6) rfl)) (hw _ (List.mem_of_getElem? (i := 7) rfl)) (hw _ (List.mem_of_getElem? (i := 8) rfl)) (hw _ (List.mem_of_getElem? (i := 9) rfl)) (by decide) (rm2 l Z a0 n0 hw [] (r81) (((p4 &&& (2147483647 : Int32)) % (5 : Int32))) ((Int32.ofNat c90)) ((5 : Int32)) ([c82.toInt8.toInt32, c84.toInt8.toInt32, c86.toInt8.toInt32, c88.toInt8.toInt32]) ((own_mod p4 5)) (c90) (5) ([]) ([]) (own_modE p4 _ 5 (by decide) (by decide)) (rfl) (rfl) (hc91) (hc91.2.1) (by simp) (by decide)) (argsL := [(.ref r81), (.int ((p4 &&& (2147483647 : Int32)) % (5 : Int32))), (.int (Int32.ofNat c90)), (.int (5 : Int32))]) (rest := []) rfl rfl pd_2 rfl (W := 0) rfl (by decide) (by decide) (cells' := 1) (slots' := 4) rfl rfl (by decide) (by decide) (Ret.k (S' := [(.int (1 : Int32))]) rfl ?_)
      refine Run.as (D' := ([], [(r81, .byte, [(.int c82.toInt8.toInt32), (.int c84.toInt8.toInt32), (.int c86.toInt8.toInt32), (.int c88.toInt8.toInt32)])])) rfl ?_
      refine Run.ifcF K at_258 (pT := 279) (pF := 261) (by decide) (by decide) rfl (show ¬ ((1 : Int32) = (0 : Int32)) from by decide) ?_
      refine Run.aload K at_261 (pc' := 263) rfl rfl rfl ?_
      refine Run.iload K at_263 (pc' := 265) rfl rfl ?_
      refine Run.iload K at_265 (pc' := 267) rfl rfl ?_
      refine Run.bipush K at_267 (pc' := 269) rfl (v := (6 : Int32)) rfl ?_
      refine Run.callS K at_269 (pc' := 272) rfl (hw _ (List.mem_of_getElem? (i := 6) rfl)) (hw _ (List.mem_of_getElem? (i := 7) rfl)) (hw _ (List.mem_of_getElem? (i := 8) rfl)) (hw _ (List.mem_of_getElem? (i := 9) rfl)) (by decide) (rm2 l Z a0 n0 hw [] (r81) (((p4 &&& (2147483647 : Int32)) % (5 : Int32))) ((Int32.ofNat c90)) ((6 : Int32)) ([c82.toInt8.toInt32, c84.toInt8.toInt32, c86.toInt8.toInt32, c88.toInt8.toInt32]) ((own_mod p4 5)) (c90) (6) ([]) ([]) (own_modE p4 _ 5 (by decide) (by decide)) (rfl) (rfl) (hc91) (hc91.2.1) (by simp) (by decide)) (argsL := [(.ref r81), (.int ((p4 &&& (2147483647 : Int32)) % (5 : Int32))), (.int (Int32.ofNat c90)), (.int (6 : Int32))]) (rest := []) rfl rfl pd_2 rfl (W := 0) rfl (by decide) (by decide) (cells' := 1) (slots' := 4) rfl rfl (by decide) (by decide) (Ret.k (S' := [(.int (1 : Int32))]) rfl ?_)
      refine Run.as (D' := ([], [(r81, .byte, [(.int c82.toInt8.toInt32), (.int c84.toInt8.toInt32), (.int c86.toInt8.toInt32), (.int c88.toInt8.toInt32)])])) rfl ?_
      refine Run.ifcF K at_272 (pT := 279) (pF := 275) (by decide) (by decide) rfl (show ¬ ((1 : Int32) = (0 : Int32)) from by decide) ?_
      refine Run.iconst K at_275 (pc' := 276) rfl (v := (1 : Int32)) rfl ?_
      refine Run.goto K at_276 (pc' := 280) (by decide) (by decide) ?_
      exact Run.retN K at_280 (w := (1 : Int32)) rfl (by decide) (by decide) (by decide) (by decide) rfl
    · skip
      refine Run.icmp K at_167 (pT := 183) (pF := 170) (by decide) (by decide) rfl (fun (h167_95 : (4 : Int32) ≤ (Int32.ofNat c90)) => ?_) (fun (h167_95 : ¬ ((4 : Int32) ≤ (Int32.ofNat c90))) => ?_)
      · skip
        exact J167
      · skip
        refine Run.aload K at_170 (pc' := 172) rfl rfl rfl ?_
        refine Run.iload K at_172 (pc' := 174) rfl rfl ?_
        refine Run.baload K at_174 (pc' := 175) rfl (i := 0) (q := c90) rfl (own_nn (own_rs (bs := [c82.toInt8.toInt32, c84.toInt8.toInt32, c86.toInt8.toInt32, c88.toInt8.toInt32]) hc91.2.1 (by simp))) (own_clamp (own_rs (bs := [c82.toInt8.toInt32, c84.toInt8.toInt32, c86.toInt8.toInt32, c88.toInt8.toInt32]) hc91.2.1 (by simp))) (v := (.int ([c82.toInt8.toInt32, c84.toInt8.toInt32, c86.toInt8.toInt32, c88.toInt8.toInt32].getD c90 0))) (own_at (bs := [c82.toInt8.toInt32, c84.toInt8.toInt32, c86.toInt8.toInt32, c88.toInt8.toInt32]) (own_inb (bs := [c82.toInt8.toInt32, c84.toInt8.toInt32, c86.toInt8.toInt32, c88.toInt8.toInt32]) hc91.2.1 (by simp) h167_95)) ?_
        refine Run.callS K at_175 (pc' := 178) rfl (hw _ (List.mem_of_getElem? (i := 13) rfl)) (hw _ (List.mem_of_getElem? (i := 14) rfl)) (hw _ (List.mem_of_getElem? (i := 8) rfl)) (hw _ (List.mem_of_getElem? (i := 15) rfl)) (by decide) (rm4 l Z a0 n0 hw [] (([c82.toInt8.toInt32, c84.toInt8.toInt32, c86.toInt8.toInt32, c88.toInt8.toInt32].getD c90 0)) ([]) ([(r81, .byte, [(.int c82.toInt8.toInt32), (.int c84.toInt8.toInt32), (.int c86.toInt8.toInt32), (.int c88.toInt8.toInt32)])]) ) (argsL := [(.int ([c82.toInt8.toInt32, c84.toInt8.toInt32, c86.toInt8.toInt32, c88.toInt8.toInt32].getD c90 0))]) (rest := []) rfl rfl pd_0 rfl (W := 0) rfl (by decide) (by decide) (cells' := 1) (slots' := 4) rfl rfl (by decide) (by decide) ?_
        intro vq Dq hq
        obtain ⟨c97, hc98, rfl, rfl⟩ := hq
        refine Run.as2 (D' := ([], [(r81, .byte, [(.int c82.toInt8.toInt32), (.int c84.toInt8.toInt32), (.int c86.toInt8.toInt32), (.int c88.toInt8.toInt32)])])) (S' := [(.int c97)]) rfl rfl ?_
        refine Run.ifcT K at_178 (pT := 183) (pF := 181) (by decide) (by decide) rfl (show c97 = (0 : Int32) from own_nb (bs := [c82.toInt8.toInt32, c84.toInt8.toInt32, c86.toInt8.toInt32, c88.toInt8.toInt32]) hc91 (own_inb (bs := [c82.toInt8.toInt32, c84.toInt8.toInt32, c86.toInt8.toInt32, c88.toInt8.toInt32]) hc91.2.1 (by simp) h167_95) hc98) ?_
        exact J167
  · rw [hq28]
    refine Run.istore K at_4 (pc' := 6) rfl (L' := #[.val (.int p1), .val (.int p2), .val (.long p3), .second, .val (.int p4), .val (.int (5 : Int32)), .unset, .unset, .unset]) rfl ?_
    refine Run.iload K at_6 (pc' := 8) rfl rfl ?_
    refine Run.newA K at_8 (pc' := 10) rfl (ty := .byte) rfl (hw _ (List.mem_of_getElem? (i := 0) rfl)) (by decide) (vs := [(.int (0 : Int32)), (.int (0 : Int32)), (.int (0 : Int32)), (.int (0 : Int32)), (.int (0 : Int32))]) (rfl) (cap := 5) (by decide) (by decide) (cells' := 1) (slots' := 5) rfl rfl (by decide) (by decide) rfl (fun r99 => ?_)
    refine Run.as (D' := ([], [(r99, .byte, [(.int (0 : Int32)), (.int (0 : Int32)), (.int (0 : Int32)), (.int (0 : Int32)), (.int (0 : Int32))])])) rfl ?_
    refine Run.astore K at_10 (pc' := 12) rfl rfl (L' := #[.val (.int p1), .val (.int p2), .val (.long p3), .second, .val (.int p4), .val (.int (5 : Int32)), .val (.ref r99), .unset, .unset]) rfl ?_
    refine Run.iload K at_12 (pc' := 14) rfl rfl ?_
    refine Run.ifcF K at_14 (pT := 27) (pF := 17) (by decide) (by decide) rfl (show ¬ ((5 : Int32) ≤ (0 : Int32)) from by decide) ?_
    refine Run.aload K at_17 (pc' := 19) rfl rfl rfl ?_
    refine Run.iconst K at_19 (pc' := 20) rfl (v := (0 : Int32)) rfl ?_
    refine Run.iloadN K at_20 (pc' := 21) rfl rfl ?_
    refine Run.lloadN K at_21 (pc' := 22) rfl rfl ?_
    refine Run.iconst K at_22 (pc' := 23) rfl (v := (0 : Int32)) rfl ?_
    refine Run.callS K at_23 (pc' := 26) rfl (hw _ (List.mem_of_getElem? (i := 10) rfl)) (hw _ (List.mem_of_getElem? (i := 11) rfl)) (hw _ (List.mem_of_getElem? (i := 8) rfl)) (hw _ (List.mem_of_getElem? (i := 12) rfl)) (by decide) (rm3 l Z a0 n0 hw [] (p2) (p3) ((0 : Int32)) ([]) ([(r99, .byte, [(.int (0 : Int32)), (.int (0 : Int32)), (.int (0 : Int32)), (.int (0 : Int32)), (.int (0 : Int32))])]) ) (argsL := [(.int p2), (.long p3), (.int (0 : Int32))]) (rest := [(.int (0 : Int32)), (.ref r99)]) rfl rfl pd_3 rfl (W := 2) rfl (by decide) (by decide) (cells' := 1) (slots' := 5) rfl rfl (by decide) (by decide) ?_
    intro vq Dq hq
    obtain ⟨c100, hc101, rfl, rfl⟩ := hq
    refine Run.as2 (D' := ([], [(r99, .byte, [(.int (0 : Int32)), (.int (0 : Int32)), (.int (0 : Int32)), (.int (0 : Int32)), (.int (0 : Int32))])])) (S' := [(.int c100), (.int (0 : Int32)), (.ref r99)]) rfl rfl ?_
    refine Run.bastore K at_26 (pc' := 27) rfl (i := 0) (q := 0) rfl (by decide) (by decide) (v := (.int (0 : Int32))) (rfl) (D' := ([], [(r99, .byte, [(.int c100.toInt8.toInt32), (.int (0 : Int32)), (.int (0 : Int32)), (.int (0 : Int32)), (.int (0 : Int32))])])) rfl ?_
    refine Run.iload K at_27 (pc' := 29) rfl rfl ?_
    refine Run.iconst K at_29 (pc' := 30) rfl (v := (1 : Int32)) rfl ?_
    refine Run.icmpF K at_30 (pT := 43) (pF := 33) (by decide) (by decide) rfl (show ¬ ((5 : Int32) ≤ (1 : Int32)) from by decide) ?_
    refine Run.aload K at_33 (pc' := 35) rfl rfl rfl ?_
    refine Run.iconst K at_35 (pc' := 36) rfl (v := (1 : Int32)) rfl ?_
    refine Run.iloadN K at_36 (pc' := 37) rfl rfl ?_
    refine Run.lloadN K at_37 (pc' := 38) rfl rfl ?_
    refine Run.iconst K at_38 (pc' := 39) rfl (v := (1 : Int32)) rfl ?_
    refine Run.callS K at_39 (pc' := 42) rfl (hw _ (List.mem_of_getElem? (i := 10) rfl)) (hw _ (List.mem_of_getElem? (i := 11) rfl)) (hw _ (List.mem_of_getElem? (i := 8) rfl)) (hw _ (List.mem_of_getElem? (i := 12) rfl)) (by decide) (rm3 l Z a0 n0 hw [] (p2) (p3) ((1 : Int32)) ([]) ([(r99, .byte, [(.int c100.toInt8.toInt32), (.int (0 : Int32)), (.int (0 : Int32)), (.int (0 : Int32)), (.int (0 : Int32))])]) ) (argsL := [(.int p2), (.long p3), (.int (1 : Int32))]) (rest := [(.int (1 : Int32)), (.ref r99)]) rfl rfl pd_3 rfl (W := 2) rfl (by decide) (by decide) (cells' := 1) (slots' := 5) rfl rfl (by decide) (by decide) ?_
    intro vq Dq hq
    obtain ⟨c102, hc103, rfl, rfl⟩ := hq
    refine Run.as2 (D' := ([], [(r99, .byte, [(.int c100.toInt8.toInt32), (.int (0 : Int32)), (.int (0 : Int32)), (.int (0 : Int32)), (.int (0 : Int32))])])) (S' := [(.int c102), (.int (1 : Int32)), (.ref r99)]) rfl rfl ?_
    refine Run.bastore K at_42 (pc' := 43) rfl (i := 0) (q := 1) rfl (by decide) (by decide) (v := (.int (0 : Int32))) (rfl) (D' := ([], [(r99, .byte, [(.int c100.toInt8.toInt32), (.int c102.toInt8.toInt32), (.int (0 : Int32)), (.int (0 : Int32)), (.int (0 : Int32))])])) rfl ?_
    refine Run.iload K at_43 (pc' := 45) rfl rfl ?_
    refine Run.iconst K at_45 (pc' := 46) rfl (v := (2 : Int32)) rfl ?_
    refine Run.icmpF K at_46 (pT := 59) (pF := 49) (by decide) (by decide) rfl (show ¬ ((5 : Int32) ≤ (2 : Int32)) from by decide) ?_
    refine Run.aload K at_49 (pc' := 51) rfl rfl rfl ?_
    refine Run.iconst K at_51 (pc' := 52) rfl (v := (2 : Int32)) rfl ?_
    refine Run.iloadN K at_52 (pc' := 53) rfl rfl ?_
    refine Run.lloadN K at_53 (pc' := 54) rfl rfl ?_
    refine Run.iconst K at_54 (pc' := 55) rfl (v := (2 : Int32)) rfl ?_
    refine Run.callS K at_55 (pc' := 58) rfl (hw _ (List.mem_of_getElem? (i := 10) rfl)) (hw _ (List.mem_of_getElem? (i := 11) rfl)) (hw _ (List.mem_of_getElem? (i := 8) rfl)) (hw _ (List.mem_of_getElem? (i := 12) rfl)) (by decide) (rm3 l Z a0 n0 hw [] (p2) (p3) ((2 : Int32)) ([]) ([(r99, .byte, [(.int c100.toInt8.toInt32), (.int c102.toInt8.toInt32), (.int (0 : Int32)), (.int (0 : Int32)), (.int (0 : Int32))])]) ) (argsL := [(.int p2), (.long p3), (.int (2 : Int32))]) (rest := [(.int (2 : Int32)), (.ref r99)]) rfl rfl pd_3 rfl (W := 2) rfl (by decide) (by decide) (cells' := 1) (slots' := 5) rfl rfl (by decide) (by decide) ?_
    intro vq Dq hq
    obtain ⟨c104, hc105, rfl, rfl⟩ := hq
    refine Run.as2 (D' := ([], [(r99, .byte, [(.int c100.toInt8.toInt32), (.int c102.toInt8.toInt32), (.int (0 : Int32)), (.int (0 : Int32)), (.int (0 : Int32))])])) (S' := [(.int c104), (.int (2 : Int32)), (.ref r99)]) rfl rfl ?_
    refine Run.bastore K at_58 (pc' := 59) rfl (i := 0) (q := 2) rfl (by decide) (by decide) (v := (.int (0 : Int32))) (rfl) (D' := ([], [(r99, .byte, [(.int c100.toInt8.toInt32), (.int c102.toInt8.toInt32), (.int c104.toInt8.toInt32), (.int (0 : Int32)), (.int (0 : Int32))])])) rfl ?_
    refine Run.iload K at_59 (pc' := 61) rfl rfl ?_
    refine Run.iconst K at_61 (pc' := 62) rfl (v := (3 : Int32)) rfl ?_
    refine Run.icmpF K at_62 (pT := 75) (pF := 65) (by decide) (by decide) rfl (show ¬ ((5 : Int32) ≤ (3 : Int32)) from by decide) ?_
    refine Run.aload K at_65 (pc' := 67) rfl rfl rfl ?_
    refine Run.iconst K at_67 (pc' := 68) rfl (v := (3 : Int32)) rfl ?_
    refine Run.iloadN K at_68 (pc' := 69) rfl rfl ?_
    refine Run.lloadN K at_69 (pc' := 70) rfl rfl ?_
    refine Run.iconst K at_70 (pc' := 71) rfl (v := (3 : Int32)) rfl ?_
    refine Run.callS K at_71 (pc' := 74) rfl (hw _ (List.mem_of_getElem? (i := 10) rfl)) (hw _ (List.mem_of_getElem? (i := 11) rfl)) (hw _ (List.mem_of_getElem? (i := 8) rfl)) (hw _ (List.mem_of_getElem? (i := 12) rfl)) (by decide) (rm3 l Z a0 n0 hw [] (p2) (p3) ((3 : Int32)) ([]) ([(r99, .byte, [(.int c100.toInt8.toInt32), (.int c102.toInt8.toInt32), (.int c104.toInt8.toInt32), (.int (0 : Int32)), (.int (0 : Int32))])]) ) (argsL := [(.int p2), (.long p3), (.int (3 : Int32))]) (rest := [(.int (3 : Int32)), (.ref r99)]) rfl rfl pd_3 rfl (W := 2) rfl (by decide) (by decide) (cells' := 1) (slots' := 5) rfl rfl (by decide) (by decide) ?_
    intro vq Dq hq
    obtain ⟨c106, hc107, rfl, rfl⟩ := hq
    refine Run.as2 (D' := ([], [(r99, .byte, [(.int c100.toInt8.toInt32), (.int c102.toInt8.toInt32), (.int c104.toInt8.toInt32), (.int (0 : Int32)), (.int (0 : Int32))])])) (S' := [(.int c106), (.int (3 : Int32)), (.ref r99)]) rfl rfl ?_
    refine Run.bastore K at_74 (pc' := 75) rfl (i := 0) (q := 3) rfl (by decide) (by decide) (v := (.int (0 : Int32))) (rfl) (D' := ([], [(r99, .byte, [(.int c100.toInt8.toInt32), (.int c102.toInt8.toInt32), (.int c104.toInt8.toInt32), (.int c106.toInt8.toInt32), (.int (0 : Int32))])])) rfl ?_
    refine Run.iload K at_75 (pc' := 77) rfl rfl ?_
    refine Run.iconst K at_77 (pc' := 78) rfl (v := (4 : Int32)) rfl ?_
    refine Run.icmpF K at_78 (pT := 91) (pF := 81) (by decide) (by decide) rfl (show ¬ ((5 : Int32) ≤ (4 : Int32)) from by decide) ?_
    refine Run.aload K at_81 (pc' := 83) rfl rfl rfl ?_
    refine Run.iconst K at_83 (pc' := 84) rfl (v := (4 : Int32)) rfl ?_
    refine Run.iloadN K at_84 (pc' := 85) rfl rfl ?_
    refine Run.lloadN K at_85 (pc' := 86) rfl rfl ?_
    refine Run.iconst K at_86 (pc' := 87) rfl (v := (4 : Int32)) rfl ?_
    refine Run.callS K at_87 (pc' := 90) rfl (hw _ (List.mem_of_getElem? (i := 10) rfl)) (hw _ (List.mem_of_getElem? (i := 11) rfl)) (hw _ (List.mem_of_getElem? (i := 8) rfl)) (hw _ (List.mem_of_getElem? (i := 12) rfl)) (by decide) (rm3 l Z a0 n0 hw [] (p2) (p3) ((4 : Int32)) ([]) ([(r99, .byte, [(.int c100.toInt8.toInt32), (.int c102.toInt8.toInt32), (.int c104.toInt8.toInt32), (.int c106.toInt8.toInt32), (.int (0 : Int32))])]) ) (argsL := [(.int p2), (.long p3), (.int (4 : Int32))]) (rest := [(.int (4 : Int32)), (.ref r99)]) rfl rfl pd_3 rfl (W := 2) rfl (by decide) (by decide) (cells' := 1) (slots' := 5) rfl rfl (by decide) (by decide) ?_
    intro vq Dq hq
    obtain ⟨c108, hc109, rfl, rfl⟩ := hq
    refine Run.as2 (D' := ([], [(r99, .byte, [(.int c100.toInt8.toInt32), (.int c102.toInt8.toInt32), (.int c104.toInt8.toInt32), (.int c106.toInt8.toInt32), (.int (0 : Int32))])])) (S' := [(.int c108), (.int (4 : Int32)), (.ref r99)]) rfl rfl ?_
    refine Run.bastore K at_90 (pc' := 91) rfl (i := 0) (q := 4) rfl (by decide) (by decide) (v := (.int (0 : Int32))) (rfl) (D' := ([], [(r99, .byte, [(.int c100.toInt8.toInt32), (.int c102.toInt8.toInt32), (.int c104.toInt8.toInt32), (.int c106.toInt8.toInt32), (.int c108.toInt8.toInt32)])])) rfl ?_
    refine Run.iload K at_91 (pc' := 93) rfl rfl ?_
    refine Run.iconst K at_93 (pc' := 94) rfl (v := (5 : Int32)) rfl ?_
    refine Run.icmpT K at_94 (pT := 107) (pF := 97) (by decide) (by decide) rfl (show (5 : Int32) ≤ (5 : Int32) from by decide) ?_
    refine Run.iload K at_107 (pc' := 109) rfl rfl ?_
    refine Run.bipush K at_109 (pc' := 111) rfl (v := (6 : Int32)) rfl ?_
    refine Run.icmpT K at_111 (pT := 126) (pF := 114) (by decide) (by decide) rfl (show (5 : Int32) ≤ (6 : Int32) from by decide) ?_
    refine Run.iload K at_126 (pc' := 128) rfl rfl ?_
    refine Run.ldcI K at_128 (pc' := 130) rfl (v := (2147483647 : Int32)) (hw _ (List.mem_of_getElem? (i := 1) rfl)) ?_
    refine Run.iand K at_130 (pc' := 131) rfl ?_
    refine Run.iload K at_131 (pc' := 133) rfl rfl ?_
    refine Run.iconst K at_133 (pc' := 134) rfl (v := (1 : Int32)) rfl ?_
    refine Run.iaddV K at_134 (pc' := 135) rfl (v := (6 : Int32)) (by decide) ?_
    refine Run.irem K at_135 (pc' := 136) rfl (by decide) ?_
    refine Run.istore K at_136 (pc' := 138) rfl (L' := #[.val (.int p1), .val (.int p2), .val (.long p3), .second, .val (.int p4), .val (.int (5 : Int32)), .val (.ref r99), .val (.int ((p4 &&& (2147483647 : Int32)) % (6 : Int32))), .unset]) rfl ?_
    refine Run.aload K at_138 (pc' := 140) rfl rfl rfl ?_
    refine Run.iload K at_140 (pc' := 142) rfl rfl ?_
    refine Run.callS K at_142 (pc' := 145) rfl (hw _ (List.mem_of_getElem? (i := 2) rfl)) (hw _ (List.mem_of_getElem? (i := 3) rfl)) (hw _ (List.mem_of_getElem? (i := 4) rfl)) (hw _ (List.mem_of_getElem? (i := 5) rfl)) (by decide) (rm1 l Z a0 n0 hw [] (r99) (((p4 &&& (2147483647 : Int32)) % (6 : Int32))) ([c100.toInt8.toInt32, c102.toInt8.toInt32, c104.toInt8.toInt32, c106.toInt8.toInt32, c108.toInt8.toInt32]) ((own_mod p4 6)) ([]) ([]) (own_modE p4 _ 6 (by decide) (by decide)) (own_modL p4 5) (by simp)) (argsL := [(.ref r99), (.int ((p4 &&& (2147483647 : Int32)) % (6 : Int32)))]) (rest := []) rfl rfl pd_1 rfl (W := 0) rfl (by decide) (by decide) (cells' := 1) (slots' := 5) rfl rfl (by decide) (by decide) ?_
    intro vq Dq hq
    obtain ⟨c110, hc111, rfl, rfl⟩ := hq
    refine Run.as2 (D' := ([], [(r99, .byte, [(.int c100.toInt8.toInt32), (.int c102.toInt8.toInt32), (.int c104.toInt8.toInt32), (.int c106.toInt8.toInt32), (.int c108.toInt8.toInt32)])])) (S' := [(.int (Int32.ofNat c110))]) rfl rfl ?_
    refine Run.istore K at_145 (pc' := 147) rfl (L' := #[.val (.int p1), .val (.int p2), .val (.long p3), .second, .val (.int p4), .val (.int (5 : Int32)), .val (.ref r99), .val (.int ((p4 &&& (2147483647 : Int32)) % (6 : Int32))), .val (.int (Int32.ofNat c110))]) rfl ?_
    refine Run.iload K at_147 (pc' := 149) rfl rfl ?_
    refine Run.iload K at_149 (pc' := 151) rfl rfl ?_
    refine Run.icmpF K at_151 (pT := 161) (pF := 154) (by decide) (by decide) rfl (show ¬ ((Int32.ofNat c110) < ((p4 &&& (2147483647 : Int32)) % (6 : Int32))) from own_c1 p4 _ 6 (by decide) (by decide) (by decide) (bs := [c100.toInt8.toInt32, c102.toInt8.toInt32, c104.toInt8.toInt32, c106.toInt8.toInt32, c108.toInt8.toInt32]) hc111 (by simp)) ?_
    refine Run.iload K at_154 (pc' := 156) rfl rfl ?_
    refine Run.iload K at_156 (pc' := 158) rfl rfl ?_
    refine Run.icmpT K at_158 (pT := 163) (pF := 161) (by decide) (by decide) rfl (show (Int32.ofNat c110) ≤ (5 : Int32) from own_c2 (bs := [c100.toInt8.toInt32, c102.toInt8.toInt32, c104.toInt8.toInt32, c106.toInt8.toInt32, c108.toInt8.toInt32]) rfl hc111.2.1 (by simp)) ?_
    refine Run.iload K at_163 (pc' := 165) rfl rfl ?_
    refine Run.iload K at_165 (pc' := 167) rfl rfl ?_
    refine Run.join0 (D' := ([], [(r99, .byte, [(.int c100.toInt8.toInt32), (.int c102.toInt8.toInt32), (.int c104.toInt8.toInt32), (.int c106.toInt8.toInt32), (.int c108.toInt8.toInt32)])])) (cells' := 1) (slots' := 5) (pc' := 183) (L' := #[.val (.int p1), .val (.int p2), .val (.long p3), .second, .val (.int p4), .val (.int (5 : Int32)), .val (.ref r99), .val (.int ((p4 &&& (2147483647 : Int32)) % (6 : Int32))), .val (.int (Int32.ofNat c110))]) (S' := []) ?_ (fun J167 => ?_)
    · skip
      refine Run.aload K at_183 (pc' := 185) rfl rfl rfl ?_
      refine Run.iload K at_185 (pc' := 187) rfl rfl ?_
      refine Run.iload K at_187 (pc' := 189) rfl rfl ?_
      refine Run.iconst K at_189 (pc' := 190) rfl (v := (0 : Int32)) rfl ?_
      refine Run.callS K at_190 (pc' := 193) rfl (hw _ (List.mem_of_getElem? (i := 6) rfl)) (hw _ (List.mem_of_getElem? (i := 7) rfl)) (hw _ (List.mem_of_getElem? (i := 8) rfl)) (hw _ (List.mem_of_getElem? (i := 9) rfl)) (by decide) (rm2 l Z a0 n0 hw [] (r99) (((p4 &&& (2147483647 : Int32)) % (6 : Int32))) ((Int32.ofNat c110)) ((0 : Int32)) ([c100.toInt8.toInt32, c102.toInt8.toInt32, c104.toInt8.toInt32, c106.toInt8.toInt32, c108.toInt8.toInt32]) ((own_mod p4 6)) (c110) (0) ([]) ([]) (own_modE p4 _ 6 (by decide) (by decide)) (rfl) (rfl) (hc111) (hc111.2.1) (by simp) (by decide)) (argsL := [(.ref r99), (.int ((p4 &&& (2147483647 : Int32)) % (6 : Int32))), (.int (Int32.ofNat c110)), (.int (0 : Int32))]) (rest := []) rfl rfl pd_2 rfl (W := 0) rfl (by decide) (by decide) (cells' := 1) (slots' := 5) rfl rfl (by decide) (by decide) (Ret.k (S' := [(.int (1 : Int32))]) rfl ?_)
      refine Run.as (D' := ([], [(r99, .byte, [(.int c100.toInt8.toInt32), (.int c102.toInt8.toInt32), (.int c104.toInt8.toInt32), (.int c106.toInt8.toInt32), (.int c108.toInt8.toInt32)])])) rfl ?_
      refine Run.ifcF K at_193 (pT := 279) (pF := 196) (by decide) (by decide) rfl (show ¬ ((1 : Int32) = (0 : Int32)) from by decide) ?_
      refine Run.aload K at_196 (pc' := 198) rfl rfl rfl ?_
      refine Run.iload K at_198 (pc' := 200) rfl rfl ?_
      refine Run.iload K at_200 (pc' := 202) rfl rfl ?_
      refine Run.iconst K at_202 (pc' := 203) rfl (v := (1 : Int32)) rfl ?_
      refine Run.callS K at_203 (pc' := 206) rfl (hw _ (List.mem_of_getElem? (i := 6) rfl)) (hw _ (List.mem_of_getElem? (i := 7) rfl)) (hw _ (List.mem_of_getElem? (i := 8) rfl)) (hw _ (List.mem_of_getElem? (i := 9) rfl)) (by decide) (rm2 l Z a0 n0 hw [] (r99) (((p4 &&& (2147483647 : Int32)) % (6 : Int32))) ((Int32.ofNat c110)) ((1 : Int32)) ([c100.toInt8.toInt32, c102.toInt8.toInt32, c104.toInt8.toInt32, c106.toInt8.toInt32, c108.toInt8.toInt32]) ((own_mod p4 6)) (c110) (1) ([]) ([]) (own_modE p4 _ 6 (by decide) (by decide)) (rfl) (rfl) (hc111) (hc111.2.1) (by simp) (by decide)) (argsL := [(.ref r99), (.int ((p4 &&& (2147483647 : Int32)) % (6 : Int32))), (.int (Int32.ofNat c110)), (.int (1 : Int32))]) (rest := []) rfl rfl pd_2 rfl (W := 0) rfl (by decide) (by decide) (cells' := 1) (slots' := 5) rfl rfl (by decide) (by decide) (Ret.k (S' := [(.int (1 : Int32))]) rfl ?_)
      refine Run.as (D' := ([], [(r99, .byte, [(.int c100.toInt8.toInt32), (.int c102.toInt8.toInt32), (.int c104.toInt8.toInt32), (.int c106.toInt8.toInt32), (.int c108.toInt8.toInt32)])])) rfl ?_
      refine Run.ifcF K at_206 (pT := 279) (pF := 209) (by decide) (by decide) rfl (show ¬ ((1 : Int32) = (0 : Int32)) from by decide) ?_
      refine Run.aload K at_209 (pc' := 211) rfl rfl rfl ?_
      refine Run.iload K at_211 (pc' := 213) rfl rfl ?_
      refine Run.iload K at_213 (pc' := 215) rfl rfl ?_
      refine Run.iconst K at_215 (pc' := 216) rfl (v := (2 : Int32)) rfl ?_
      refine Run.callS K at_216 (pc' := 219) rfl (hw _ (List.mem_of_getElem? (i := 6) rfl)) (hw _ (List.mem_of_getElem? (i := 7) rfl)) (hw _ (List.mem_of_getElem? (i := 8) rfl)) (hw _ (List.mem_of_getElem? (i := 9) rfl)) (by decide) (rm2 l Z a0 n0 hw [] (r99) (((p4 &&& (2147483647 : Int32)) % (6 : Int32))) ((Int32.ofNat c110)) ((2 : Int32)) ([c100.toInt8.toInt32, c102.toInt8.toInt32, c104.toInt8.toInt32, c106.toInt8.toInt32, c108.toInt8.toInt32]) ((own_mod p4 6)) (c110) (2) ([]) ([]) (own_modE p4 _ 6 (by decide) (by decide)) (rfl) (rfl) (hc111) (hc111.2.1) (by simp) (by decide)) (argsL := [(.ref r99), (.int ((p4 &&& (2147483647 : Int32)) % (6 : Int32))), (.int (Int32.ofNat c110)), (.int (2 : Int32))]) (rest := []) rfl rfl pd_2 rfl (W := 0) rfl (by decide) (by decide) (cells' := 1) (slots' := 5) rfl rfl (by decide) (by decide) (Ret.k (S' := [(.int (1 : Int32))]) rfl ?_)
      refine Run.as (D' := ([], [(r99, .byte, [(.int c100.toInt8.toInt32), (.int c102.toInt8.toInt32), (.int c104.toInt8.toInt32), (.int c106.toInt8.toInt32), (.int c108.toInt8.toInt32)])])) rfl ?_
      refine Run.ifcF K at_219 (pT := 279) (pF := 222) (by decide) (by decide) rfl (show ¬ ((1 : Int32) = (0 : Int32)) from by decide) ?_
      refine Run.aload K at_222 (pc' := 224) rfl rfl rfl ?_
      refine Run.iload K at_224 (pc' := 226) rfl rfl ?_
      refine Run.iload K at_226 (pc' := 228) rfl rfl ?_
      refine Run.iconst K at_228 (pc' := 229) rfl (v := (3 : Int32)) rfl ?_
      refine Run.callS K at_229 (pc' := 232) rfl (hw _ (List.mem_of_getElem? (i := 6) rfl)) (hw _ (List.mem_of_getElem? (i := 7) rfl)) (hw _ (List.mem_of_getElem? (i := 8) rfl)) (hw _ (List.mem_of_getElem? (i := 9) rfl)) (by decide) (rm2 l Z a0 n0 hw [] (r99) (((p4 &&& (2147483647 : Int32)) % (6 : Int32))) ((Int32.ofNat c110)) ((3 : Int32)) ([c100.toInt8.toInt32, c102.toInt8.toInt32, c104.toInt8.toInt32, c106.toInt8.toInt32, c108.toInt8.toInt32]) ((own_mod p4 6)) (c110) (3) ([]) ([]) (own_modE p4 _ 6 (by decide) (by decide)) (rfl) (rfl) (hc111) (hc111.2.1) (by simp) (by decide)) (argsL := [(.ref r99), (.int ((p4 &&& (2147483647 : Int32)) % (6 : Int32))), (.int (Int32.ofNat c110)), (.int (3 : Int32))]) (rest := []) rfl rfl pd_2 rfl (W := 0) rfl (by decide) (by decide) (cells' := 1) (slots' := 5) rfl rfl (by decide) (by decide) (Ret.k (S' := [(.int (1 : Int32))]) rfl ?_)
      refine Run.as (D' := ([], [(r99, .byte, [(.int c100.toInt8.toInt32), (.int c102.toInt8.toInt32), (.int c104.toInt8.toInt32), (.int c106.toInt8.toInt32), (.int c108.toInt8.toInt32)])])) rfl ?_
      refine Run.ifcF K at_232 (pT := 279) (pF := 235) (by decide) (by decide) rfl (show ¬ ((1 : Int32) = (0 : Int32)) from by decide) ?_
      refine Run.aload K at_235 (pc' := 237) rfl rfl rfl ?_
      refine Run.iload K at_237 (pc' := 239) rfl rfl ?_
      refine Run.iload K at_239 (pc' := 241) rfl rfl ?_
      refine Run.iconst K at_241 (pc' := 242) rfl (v := (4 : Int32)) rfl ?_
      refine Run.callS K at_242 (pc' := 245) rfl (hw _ (List.mem_of_getElem? (i := 6) rfl)) (hw _ (List.mem_of_getElem? (i := 7) rfl)) (hw _ (List.mem_of_getElem? (i := 8) rfl)) (hw _ (List.mem_of_getElem? (i := 9) rfl)) (by decide) (rm2 l Z a0 n0 hw [] (r99) (((p4 &&& (2147483647 : Int32)) % (6 : Int32))) ((Int32.ofNat c110)) ((4 : Int32)) ([c100.toInt8.toInt32, c102.toInt8.toInt32, c104.toInt8.toInt32, c106.toInt8.toInt32, c108.toInt8.toInt32]) ((own_mod p4 6)) (c110) (4) ([]) ([]) (own_modE p4 _ 6 (by decide) (by decide)) (rfl) (rfl) (hc111) (hc111.2.1) (by simp) (by decide)) (argsL := [(.ref r99), (.int ((p4 &&& (2147483647 : Int32)) % (6 : Int32))), (.int (Int32.ofNat c110)), (.int (4 : Int32))]) (rest := []) rfl rfl pd_2 rfl (W := 0) rfl (by decide) (by decide) (cells' := 1) (slots' := 5) rfl rfl (by decide) (by decide) (Ret.k (S' := [(.int (1 : Int32))]) rfl ?_)
      refine Run.as (D' := ([], [(r99, .byte, [(.int c100.toInt8.toInt32), (.int c102.toInt8.toInt32), (.int c104.toInt8.toInt32), (.int c106.toInt8.toInt32), (.int c108.toInt8.toInt32)])])) rfl ?_
      refine Run.ifcF K at_245 (pT := 279) (pF := 248) (by decide) (by decide) rfl (show ¬ ((1 : Int32) = (0 : Int32)) from by decide) ?_
      refine Run.aload K at_248 (pc' := 250) rfl rfl rfl ?_
      refine Run.iload K at_250 (pc' := 252) rfl rfl ?_
      refine Run.iload K at_252 (pc' := 254) rfl rfl ?_
      refine Run.iconst K at_254 (pc' := 255) rfl (v := (5 : Int32)) rfl ?_
      refine Run.callS K at_255 (pc' := 258) rfl (hw _ (List.mem_of_getElem? (i := 6) rfl)) (hw _ (List.mem_of_getElem? (i := 7) rfl)) (hw _ (List.mem_of_getElem? (i := 8) rfl)) (hw _ (List.mem_of_getElem? (i := 9) rfl)) (by decide) (rm2 l Z a0 n0 hw [] (r99) (((p4 &&& (2147483647 : Int32)) % (6 : Int32))) ((Int32.ofNat c110)) ((5 : Int32)) ([c100.toInt8.toInt32, c102.toInt8.toInt32, c104.toInt8.toInt32, c106.toInt8.toInt32, c108.toInt8.toInt32]) ((own_mod p4 6)) (c110) (5) ([]) ([]) (own_modE p4 _ 6 (by decide) (by decide)) (rfl) (rfl) (hc111) (hc111.2.1) (by simp) (by decide)) (argsL := [(.ref r99), (.int ((p4 &&& (2147483647 : Int32)) % (6 : Int32))), (.int (Int32.ofNat c110)), (.int (5 : Int32))]) (rest := []) rfl rfl pd_2 rfl (W := 0) rfl (by decide) (by decide) (cells' := 1) (slots' := 5) rfl rfl (by decide) (by decide) (Ret.k (S' := [(.int (1 : Int32))]) rfl ?_)
      refine Run.as (D' := ([], [(r99, .byte, [(.int c100.toInt8.toInt32), (.int c102.toInt8.toInt32), (.int c104.toInt8.toInt32), (.int c106.toInt8.toInt32), (.int c108.toInt8.toInt32)])])) rfl ?_
      refine Run.ifcF K at_258 (pT := 279) (pF := 261) (by decide) (by decide) rfl (show ¬ ((1 : Int32) = (0 : Int32)) from by decide) ?_
      refine Run.aload K at_261 (pc' := 263) rfl rfl rfl ?_
      refine Run.iload K at_263 (pc' := 265) rfl rfl ?_
      refine Run.iload K at_265 (pc' := 267) rfl rfl ?_
      refine Run.bipush K at_267 (pc' := 269) rfl (v := (6 : Int32)) rfl ?_
      refine Run.callS K at_269 (pc' := 272) rfl (hw _ (List.mem_of_getElem? (i := 6) rfl)) (hw _ (List.mem_of_getElem? (i := 7) rfl)) (hw _ (List.mem_of_getElem? (i := 8) rfl)) (hw _ (List.mem_of_getElem? (i := 9) rfl)) (by decide) (rm2 l Z a0 n0 hw [] (r99) (((p4 &&& (2147483647 : Int32)) % (6 : Int32))) ((Int32.ofNat c110)) ((6 : Int32)) ([c100.toInt8.toInt32, c102.toInt8.toInt32, c104.toInt8.toInt32, c106.toInt8.toInt32, c108.toInt8.toInt32]) ((own_mod p4 6)) (c110) (6) ([]) ([]) (own_modE p4 _ 6 (by decide) (by decide)) (rfl) (rfl) (hc111) (hc111.2.1) (by simp) (by decide)) (argsL := [(.ref r99), (.int ((p4 &&& (2147483647 : Int32)) % (6 : Int32))), (.int (Int32.ofNat c110)), (.int (6 : Int32))]) (rest := []) rfl rfl pd_2 rfl (W := 0) rfl (by decide) (by decide) (cells' := 1) (slots' := 5) rfl rfl (by decide) (by decide) (Ret.k (S' := [(.int (1 : Int32))]) rfl ?_)
      refine Run.as (D' := ([], [(r99, .byte, [(.int c100.toInt8.toInt32), (.int c102.toInt8.toInt32), (.int c104.toInt8.toInt32), (.int c106.toInt8.toInt32), (.int c108.toInt8.toInt32)])])) rfl ?_
      refine Run.ifcF K at_272 (pT := 279) (pF := 275) (by decide) (by decide) rfl (show ¬ ((1 : Int32) = (0 : Int32)) from by decide) ?_
      refine Run.iconst K at_275 (pc' := 276) rfl (v := (1 : Int32)) rfl ?_
      refine Run.goto K at_276 (pc' := 280) (by decide) (by decide) ?_
      exact Run.retN K at_280 (w := (1 : Int32)) rfl (by decide) (by decide) (by decide) (by decide) rfl
    · skip
      refine Run.icmp K at_167 (pT := 183) (pF := 170) (by decide) (by decide) rfl (fun (h167_115 : (5 : Int32) ≤ (Int32.ofNat c110)) => ?_) (fun (h167_115 : ¬ ((5 : Int32) ≤ (Int32.ofNat c110))) => ?_)
      · skip
        exact J167
      · skip
        refine Run.aload K at_170 (pc' := 172) rfl rfl rfl ?_
        refine Run.iload K at_172 (pc' := 174) rfl rfl ?_
        refine Run.baload K at_174 (pc' := 175) rfl (i := 0) (q := c110) rfl (own_nn (own_rs (bs := [c100.toInt8.toInt32, c102.toInt8.toInt32, c104.toInt8.toInt32, c106.toInt8.toInt32, c108.toInt8.toInt32]) hc111.2.1 (by simp))) (own_clamp (own_rs (bs := [c100.toInt8.toInt32, c102.toInt8.toInt32, c104.toInt8.toInt32, c106.toInt8.toInt32, c108.toInt8.toInt32]) hc111.2.1 (by simp))) (v := (.int ([c100.toInt8.toInt32, c102.toInt8.toInt32, c104.toInt8.toInt32, c106.toInt8.toInt32, c108.toInt8.toInt32].getD c110 0))) (own_at (bs := [c100.toInt8.toInt32, c102.toInt8.toInt32, c104.toInt8.toInt32, c106.toInt8.toInt32, c108.toInt8.toInt32]) (own_inb (bs := [c100.toInt8.toInt32, c102.toInt8.toInt32, c104.toInt8.toInt32, c106.toInt8.toInt32, c108.toInt8.toInt32]) hc111.2.1 (by simp) h167_115)) ?_
        refine Run.callS K at_175 (pc' := 178) rfl (hw _ (List.mem_of_getElem? (i := 13) rfl)) (hw _ (List.mem_of_getElem? (i := 14) rfl)) (hw _ (List.mem_of_getElem? (i := 8) rfl)) (hw _ (List.mem_of_getElem? (i := 15) rfl)) (by decide) (rm4 l Z a0 n0 hw [] (([c100.toInt8.toInt32, c102.toInt8.toInt32, c104.toInt8.toInt32, c106.toInt8.toInt32, c108.toInt8.toInt32].getD c110 0)) ([]) ([(r99, .byte, [(.int c100.toInt8.toInt32), (.int c102.toInt8.toInt32), (.int c104.toInt8.toInt32), (.int c106.toInt8.toInt32), (.int c108.toInt8.toInt32)])]) ) (argsL := [(.int ([c100.toInt8.toInt32, c102.toInt8.toInt32, c104.toInt8.toInt32, c106.toInt8.toInt32, c108.toInt8.toInt32].getD c110 0))]) (rest := []) rfl rfl pd_0 rfl (W := 0) rfl (by decide) (by decide) (cells' := 1) (slots' := 5) rfl rfl (by decide) (by decide) ?_
        intro vq Dq hq
        obtain ⟨c117, hc118, rfl, rfl⟩ := hq
        refine Run.as2 (D' := ([], [(r99, .byte, [(.int c100.toInt8.toInt32), (.int c102.toInt8.toInt32), (.int c104.toInt8.toInt32), (.int c106.toInt8.toInt32), (.int c108.toInt8.toInt32)])])) (S' := [(.int c117)]) rfl rfl ?_
        refine Run.ifcT K at_178 (pT := 183) (pF := 181) (by decide) (by decide) rfl (show c117 = (0 : Int32) from own_nb (bs := [c100.toInt8.toInt32, c102.toInt8.toInt32, c104.toInt8.toInt32, c106.toInt8.toInt32, c108.toInt8.toInt32]) hc111 (own_inb (bs := [c100.toInt8.toInt32, c102.toInt8.toInt32, c104.toInt8.toInt32, c106.toInt8.toInt32, c108.toInt8.toInt32]) hc111.2.1 (by simp) h167_115) hc118) ?_
        exact J167
  · rw [hq28]
    refine Run.istore K at_4 (pc' := 6) rfl (L' := #[.val (.int p1), .val (.int p2), .val (.long p3), .second, .val (.int p4), .val (.int (6 : Int32)), .unset, .unset, .unset]) rfl ?_
    refine Run.iload K at_6 (pc' := 8) rfl rfl ?_
    refine Run.newA K at_8 (pc' := 10) rfl (ty := .byte) rfl (hw _ (List.mem_of_getElem? (i := 0) rfl)) (by decide) (vs := [(.int (0 : Int32)), (.int (0 : Int32)), (.int (0 : Int32)), (.int (0 : Int32)), (.int (0 : Int32)), (.int (0 : Int32))]) (rfl) (cap := 6) (by decide) (by decide) (cells' := 1) (slots' := 6) rfl rfl (by decide) (by decide) rfl (fun r119 => ?_)
    refine Run.as (D' := ([], [(r119, .byte, [(.int (0 : Int32)), (.int (0 : Int32)), (.int (0 : Int32)), (.int (0 : Int32)), (.int (0 : Int32)), (.int (0 : Int32))])])) rfl ?_
    refine Run.astore K at_10 (pc' := 12) rfl rfl (L' := #[.val (.int p1), .val (.int p2), .val (.long p3), .second, .val (.int p4), .val (.int (6 : Int32)), .val (.ref r119), .unset, .unset]) rfl ?_
    refine Run.iload K at_12 (pc' := 14) rfl rfl ?_
    refine Run.ifcF K at_14 (pT := 27) (pF := 17) (by decide) (by decide) rfl (show ¬ ((6 : Int32) ≤ (0 : Int32)) from by decide) ?_
    refine Run.aload K at_17 (pc' := 19) rfl rfl rfl ?_
    refine Run.iconst K at_19 (pc' := 20) rfl (v := (0 : Int32)) rfl ?_
    refine Run.iloadN K at_20 (pc' := 21) rfl rfl ?_
    refine Run.lloadN K at_21 (pc' := 22) rfl rfl ?_
    refine Run.iconst K at_22 (pc' := 23) rfl (v := (0 : Int32)) rfl ?_
    refine Run.callS K at_23 (pc' := 26) rfl (hw _ (List.mem_of_getElem? (i := 10) rfl)) (hw _ (List.mem_of_getElem? (i := 11) rfl)) (hw _ (List.mem_of_getElem? (i := 8) rfl)) (hw _ (List.mem_of_getElem? (i := 12) rfl)) (by decide) (rm3 l Z a0 n0 hw [] (p2) (p3) ((0 : Int32)) ([]) ([(r119, .byte, [(.int (0 : Int32)), (.int (0 : Int32)), (.int (0 : Int32)), (.int (0 : Int32)), (.int (0 : Int32)), (.int (0 : Int32))])]) ) (argsL := [(.int p2), (.long p3), (.int (0 : Int32))]) (rest := [(.int (0 : Int32)), (.ref r119)]) rfl rfl pd_3 rfl (W := 2) rfl (by decide) (by decide) (cells' := 1) (slots' := 6) rfl rfl (by decide) (by decide) ?_
    intro vq Dq hq
    obtain ⟨c120, hc121, rfl, rfl⟩ := hq
    refine Run.as2 (D' := ([], [(r119, .byte, [(.int (0 : Int32)), (.int (0 : Int32)), (.int (0 : Int32)), (.int (0 : Int32)), (.int (0 : Int32)), (.int (0 : Int32))])])) (S' := [(.int c120), (.int (0 : Int32)), (.ref r119)]) rfl rfl ?_
    refine Run.bastore K at_26 (pc' := 27) rfl (i := 0) (q := 0) rfl (by decide) (by decide) (v := (.int (0 : Int32))) (rfl) (D' := ([], [(r119, .byte, [(.int c120.toInt8.toInt32), (.int (0 : Int32)), (.int (0 : Int32)), (.int (0 : Int32)), (.int (0 : Int32)), (.int (0 : Int32))])])) rfl ?_
    refine Run.iload K at_27 (pc' := 29) rfl rfl ?_
    refine Run.iconst K at_29 (pc' := 30) rfl (v := (1 : Int32)) rfl ?_
    refine Run.icmpF K at_30 (pT := 43) (pF := 33) (by decide) (by decide) rfl (show ¬ ((6 : Int32) ≤ (1 : Int32)) from by decide) ?_
    refine Run.aload K at_33 (pc' := 35) rfl rfl rfl ?_
    refine Run.iconst K at_35 (pc' := 36) rfl (v := (1 : Int32)) rfl ?_
    refine Run.iloadN K at_36 (pc' := 37) rfl rfl ?_
    refine Run.lloadN K at_37 (pc' := 38) rfl rfl ?_
    refine Run.iconst K at_38 (pc' := 39) rfl (v := (1 : Int32)) rfl ?_
    refine Run.callS K at_39 (pc' := 42) rfl (hw _ (List.mem_of_getElem? (i := 10) rfl)) (hw _ (List.mem_of_getElem? (i := 11) rfl)) (hw _ (List.mem_of_getElem? (i := 8) rfl)) (hw _ (List.mem_of_getElem? (i := 12) rfl)) (by decide) (rm3 l Z a0 n0 hw [] (p2) (p3) ((1 : Int32)) ([]) ([(r119, .byte, [(.int c120.toInt8.toInt32), (.int (0 : Int32)), (.int (0 : Int32)), (.int (0 : Int32)), (.int (0 : Int32)), (.int (0 : Int32))])]) ) (argsL := [(.int p2), (.long p3), (.int (1 : Int32))]) (rest := [(.int (1 : Int32)), (.ref r119)]) rfl rfl pd_3 rfl (W := 2) rfl (by decide) (by decide) (cells' := 1) (slots' := 6) rfl rfl (by decide) (by decide) ?_
    intro vq Dq hq
    obtain ⟨c122, hc123, rfl, rfl⟩ := hq
    refine Run.as2 (D' := ([], [(r119, .byte, [(.int c120.toInt8.toInt32), (.int (0 : Int32)), (.int (0 : Int32)), (.int (0 : Int32)), (.int (0 : Int32)), (.int (0 : Int32))])])) (S' := [(.int c122), (.int (1 : Int32)), (.ref r119)]) rfl rfl ?_
    refine Run.bastore K at_42 (pc' := 43) rfl (i := 0) (q := 1) rfl (by decide) (by decide) (v := (.int (0 : Int32))) (rfl) (D' := ([], [(r119, .byte, [(.int c120.toInt8.toInt32), (.int c122.toInt8.toInt32), (.int (0 : Int32)), (.int (0 : Int32)), (.int (0 : Int32)), (.int (0 : Int32))])])) rfl ?_
    refine Run.iload K at_43 (pc' := 45) rfl rfl ?_
    refine Run.iconst K at_45 (pc' := 46) rfl (v := (2 : Int32)) rfl ?_
    refine Run.icmpF K at_46 (pT := 59) (pF := 49) (by decide) (by decide) rfl (show ¬ ((6 : Int32) ≤ (2 : Int32)) from by decide) ?_
    refine Run.aload K at_49 (pc' := 51) rfl rfl rfl ?_
    refine Run.iconst K at_51 (pc' := 52) rfl (v := (2 : Int32)) rfl ?_
    refine Run.iloadN K at_52 (pc' := 53) rfl rfl ?_
    refine Run.lloadN K at_53 (pc' := 54) rfl rfl ?_
    refine Run.iconst K at_54 (pc' := 55) rfl (v := (2 : Int32)) rfl ?_
    refine Run.callS K at_55 (pc' := 58) rfl (hw _ (List.mem_of_getElem? (i := 10) rfl)) (hw _ (List.mem_of_getElem? (i := 11) rfl)) (hw _ (List.mem_of_getElem? (i := 8) rfl)) (hw _ (List.mem_of_getElem? (i := 12) rfl)) (by decide) (rm3 l Z a0 n0 hw [] (p2) (p3) ((2 : Int32)) ([]) ([(r119, .byte, [(.int c120.toInt8.toInt32), (.int c122.toInt8.toInt32), (.int (0 : Int32)), (.int (0 : Int32)), (.int (0 : Int32)), (.int (0 : Int32))])]) ) (argsL := [(.int p2), (.long p3), (.int (2 : Int32))]) (rest := [(.int (2 : Int32)), (.ref r119)]) rfl rfl pd_3 rfl (W := 2) rfl (by decide) (by decide) (cells' := 1) (slots' := 6) rfl rfl (by decide) (by decide) ?_
    intro vq Dq hq
    obtain ⟨c124, hc125, rfl, rfl⟩ := hq
    refine Run.as2 (D' := ([], [(r119, .byte, [(.int c120.toInt8.toInt32), (.int c122.toInt8.toInt32), (.int (0 : Int32)), (.int (0 : Int32)), (.int (0 : Int32)), (.int (0 : Int32))])])) (S' := [(.int c124), (.int (2 : Int32)), (.ref r119)]) rfl rfl ?_
    refine Run.bastore K at_58 (pc' := 59) rfl (i := 0) (q := 2) rfl (by decide) (by decide) (v := (.int (0 : Int32))) (rfl) (D' := ([], [(r119, .byte, [(.int c120.toInt8.toInt32), (.int c122.toInt8.toInt32), (.int c124.toInt8.toInt32), (.int (0 : Int32)), (.int (0 : Int32)), (.int (0 : Int32))])])) rfl ?_
    refine Run.iload K at_59 (pc' := 61) rfl rfl ?_
    refine Run.iconst K at_61 (pc' := 62) rfl (v := (3 : Int32)) rfl ?_
    refine Run.icmpF K at_62 (pT := 75) (pF := 65) (by decide) (by decide) rfl (show ¬ ((6 : Int32) ≤ (3 : Int32)) from by decide) ?_
    refine Run.aload K at_65 (pc' := 67) rfl rfl rfl ?_
    refine Run.iconst K at_67 (pc' := 68) rfl (v := (3 : Int32)) rfl ?_
    refine Run.iloadN K at_68 (pc' := 69) rfl rfl ?_
    refine Run.lloadN K at_69 (pc' := 70) rfl rfl ?_
    refine Run.iconst K at_70 (pc' := 71) rfl (v := (3 : Int32)) rfl ?_
    refine Run.callS K at_71 (pc' := 74) rfl (hw _ (List.mem_of_getElem? (i := 10) rfl)) (hw _ (List.mem_of_getElem? (i := 11) rfl)) (hw _ (List.mem_of_getElem? (i := 8) rfl)) (hw _ (List.mem_of_getElem? (i := 12) rfl)) (by decide) (rm3 l Z a0 n0 hw [] (p2) (p3) ((3 : Int32)) ([]) ([(r119, .byte, [(.int c120.toInt8.toInt32), (.int c122.toInt8.toInt32), (.int c124.toInt8.toInt32), (.int (0 : Int32)), (.int (0 : Int32)), (.int (0 : Int32))])]) ) (argsL := [(.int p2), (.long p3), (.int (3 : Int32))]) (rest := [(.int (3 : Int32)), (.ref r119)]) rfl rfl pd_3 rfl (W := 2) rfl (by decide) (by decide) (cells' := 1) (slots' := 6) rfl rfl (by decide) (by decide) ?_
    intro vq Dq hq
    obtain ⟨c126, hc127, rfl, rfl⟩ := hq
    refine Run.as2 (D' := ([], [(r119, .byte, [(.int c120.toInt8.toInt32), (.int c122.toInt8.toInt32), (.int c124.toInt8.toInt32), (.int (0 : Int32)), (.int (0 : Int32)), (.int (0 : Int32))])])) (S' := [(.int c126), (.int (3 : Int32)), (.ref r119)]) rfl rfl ?_
    refine Run.bastore K at_74 (pc' := 75) rfl (i := 0) (q := 3) rfl (by decide) (by decide) (v := (.int (0 : Int32))) (rfl) (D' := ([], [(r119, .byte, [(.int c120.toInt8.toInt32), (.int c122.toInt8.toInt32), (.int c124.toInt8.toInt32), (.int c126.toInt8.toInt32), (.int (0 : Int32)), (.int (0 : Int32))])])) rfl ?_
    refine Run.iload K at_75 (pc' := 77) rfl rfl ?_
    refine Run.iconst K at_77 (pc' := 78) rfl (v := (4 : Int32)) rfl ?_
    refine Run.icmpF K at_78 (pT := 91) (pF := 81) (by decide) (by decide) rfl (show ¬ ((6 : Int32) ≤ (4 : Int32)) from by decide) ?_
    refine Run.aload K at_81 (pc' := 83) rfl rfl rfl ?_
    refine Run.iconst K at_83 (pc' := 84) rfl (v := (4 : Int32)) rfl ?_
    refine Run.iloadN K at_84 (pc' := 85) rfl rfl ?_
    refine Run.lloadN K at_85 (pc' := 86) rfl rfl ?_
    refine Run.iconst K at_86 (pc' := 87) rfl (v := (4 : Int32)) rfl ?_
    refine Run.callS K at_87 (pc' := 90) rfl (hw _ (List.mem_of_getElem? (i := 10) rfl)) (hw _ (List.mem_of_getElem? (i := 11) rfl)) (hw _ (List.mem_of_getElem? (i := 8) rfl)) (hw _ (List.mem_of_getElem? (i := 12) rfl)) (by decide) (rm3 l Z a0 n0 hw [] (p2) (p3) ((4 : Int32)) ([]) ([(r119, .byte, [(.int c120.toInt8.toInt32), (.int c122.toInt8.toInt32), (.int c124.toInt8.toInt32), (.int c126.toInt8.toInt32), (.int (0 : Int32)), (.int (0 : Int32))])]) ) (argsL := [(.int p2), (.long p3), (.int (4 : Int32))]) (rest := [(.int (4 : Int32)), (.ref r119)]) rfl rfl pd_3 rfl (W := 2) rfl (by decide) (by decide) (cells' := 1) (slots' := 6) rfl rfl (by decide) (by decide) ?_
    intro vq Dq hq
    obtain ⟨c128, hc129, rfl, rfl⟩ := hq
    refine Run.as2 (D' := ([], [(r119, .byte, [(.int c120.toInt8.toInt32), (.int c122.toInt8.toInt32), (.int c124.toInt8.toInt32), (.int c126.toInt8.toInt32), (.int (0 : Int32)), (.int (0 : Int32))])])) (S' := [(.int c128), (.int (4 : Int32)), (.ref r119)]) rfl rfl ?_
    refine Run.bastore K at_90 (pc' := 91) rfl (i := 0) (q := 4) rfl (by decide) (by decide) (v := (.int (0 : Int32))) (rfl) (D' := ([], [(r119, .byte, [(.int c120.toInt8.toInt32), (.int c122.toInt8.toInt32), (.int c124.toInt8.toInt32), (.int c126.toInt8.toInt32), (.int c128.toInt8.toInt32), (.int (0 : Int32))])])) rfl ?_
    refine Run.iload K at_91 (pc' := 93) rfl rfl ?_
    refine Run.iconst K at_93 (pc' := 94) rfl (v := (5 : Int32)) rfl ?_
    refine Run.icmpF K at_94 (pT := 107) (pF := 97) (by decide) (by decide) rfl (show ¬ ((6 : Int32) ≤ (5 : Int32)) from by decide) ?_
    refine Run.aload K at_97 (pc' := 99) rfl rfl rfl ?_
    refine Run.iconst K at_99 (pc' := 100) rfl (v := (5 : Int32)) rfl ?_
    refine Run.iloadN K at_100 (pc' := 101) rfl rfl ?_
    refine Run.lloadN K at_101 (pc' := 102) rfl rfl ?_
    refine Run.iconst K at_102 (pc' := 103) rfl (v := (5 : Int32)) rfl ?_
    refine Run.callS K at_103 (pc' := 106) rfl (hw _ (List.mem_of_getElem? (i := 10) rfl)) (hw _ (List.mem_of_getElem? (i := 11) rfl)) (hw _ (List.mem_of_getElem? (i := 8) rfl)) (hw _ (List.mem_of_getElem? (i := 12) rfl)) (by decide) (rm3 l Z a0 n0 hw [] (p2) (p3) ((5 : Int32)) ([]) ([(r119, .byte, [(.int c120.toInt8.toInt32), (.int c122.toInt8.toInt32), (.int c124.toInt8.toInt32), (.int c126.toInt8.toInt32), (.int c128.toInt8.toInt32), (.int (0 : Int32))])]) ) (argsL := [(.int p2), (.long p3), (.int (5 : Int32))]) (rest := [(.int (5 : Int32)), (.ref r119)]) rfl rfl pd_3 rfl (W := 2) rfl (by decide) (by decide) (cells' := 1) (slots' := 6) rfl rfl (by decide) (by decide) ?_
    intro vq Dq hq
    obtain ⟨c130, hc131, rfl, rfl⟩ := hq
    refine Run.as2 (D' := ([], [(r119, .byte, [(.int c120.toInt8.toInt32), (.int c122.toInt8.toInt32), (.int c124.toInt8.toInt32), (.int c126.toInt8.toInt32), (.int c128.toInt8.toInt32), (.int (0 : Int32))])])) (S' := [(.int c130), (.int (5 : Int32)), (.ref r119)]) rfl rfl ?_
    refine Run.bastore K at_106 (pc' := 107) rfl (i := 0) (q := 5) rfl (by decide) (by decide) (v := (.int (0 : Int32))) (rfl) (D' := ([], [(r119, .byte, [(.int c120.toInt8.toInt32), (.int c122.toInt8.toInt32), (.int c124.toInt8.toInt32), (.int c126.toInt8.toInt32), (.int c128.toInt8.toInt32), (.int c130.toInt8.toInt32)])])) rfl ?_
    refine Run.iload K at_107 (pc' := 109) rfl rfl ?_
    refine Run.bipush K at_109 (pc' := 111) rfl (v := (6 : Int32)) rfl ?_
    refine Run.icmpT K at_111 (pT := 126) (pF := 114) (by decide) (by decide) rfl (show (6 : Int32) ≤ (6 : Int32) from by decide) ?_
    refine Run.iload K at_126 (pc' := 128) rfl rfl ?_
    refine Run.ldcI K at_128 (pc' := 130) rfl (v := (2147483647 : Int32)) (hw _ (List.mem_of_getElem? (i := 1) rfl)) ?_
    refine Run.iand K at_130 (pc' := 131) rfl ?_
    refine Run.iload K at_131 (pc' := 133) rfl rfl ?_
    refine Run.iconst K at_133 (pc' := 134) rfl (v := (1 : Int32)) rfl ?_
    refine Run.iaddV K at_134 (pc' := 135) rfl (v := (7 : Int32)) (by decide) ?_
    refine Run.irem K at_135 (pc' := 136) rfl (by decide) ?_
    refine Run.istore K at_136 (pc' := 138) rfl (L' := #[.val (.int p1), .val (.int p2), .val (.long p3), .second, .val (.int p4), .val (.int (6 : Int32)), .val (.ref r119), .val (.int ((p4 &&& (2147483647 : Int32)) % (7 : Int32))), .unset]) rfl ?_
    refine Run.aload K at_138 (pc' := 140) rfl rfl rfl ?_
    refine Run.iload K at_140 (pc' := 142) rfl rfl ?_
    refine Run.callS K at_142 (pc' := 145) rfl (hw _ (List.mem_of_getElem? (i := 2) rfl)) (hw _ (List.mem_of_getElem? (i := 3) rfl)) (hw _ (List.mem_of_getElem? (i := 4) rfl)) (hw _ (List.mem_of_getElem? (i := 5) rfl)) (by decide) (rm1 l Z a0 n0 hw [] (r119) (((p4 &&& (2147483647 : Int32)) % (7 : Int32))) ([c120.toInt8.toInt32, c122.toInt8.toInt32, c124.toInt8.toInt32, c126.toInt8.toInt32, c128.toInt8.toInt32, c130.toInt8.toInt32]) ((own_mod p4 7)) ([]) ([]) (own_modE p4 _ 7 (by decide) (by decide)) (own_modL p4 6) (by simp)) (argsL := [(.ref r119), (.int ((p4 &&& (2147483647 : Int32)) % (7 : Int32)))]) (rest := []) rfl rfl pd_1 rfl (W := 0) rfl (by decide) (by decide) (cells' := 1) (slots' := 6) rfl rfl (by decide) (by decide) ?_
    intro vq Dq hq
    obtain ⟨c132, hc133, rfl, rfl⟩ := hq
    refine Run.as2 (D' := ([], [(r119, .byte, [(.int c120.toInt8.toInt32), (.int c122.toInt8.toInt32), (.int c124.toInt8.toInt32), (.int c126.toInt8.toInt32), (.int c128.toInt8.toInt32), (.int c130.toInt8.toInt32)])])) (S' := [(.int (Int32.ofNat c132))]) rfl rfl ?_
    refine Run.istore K at_145 (pc' := 147) rfl (L' := #[.val (.int p1), .val (.int p2), .val (.long p3), .second, .val (.int p4), .val (.int (6 : Int32)), .val (.ref r119), .val (.int ((p4 &&& (2147483647 : Int32)) % (7 : Int32))), .val (.int (Int32.ofNat c132))]) rfl ?_
    refine Run.iload K at_147 (pc' := 149) rfl rfl ?_
    refine Run.iload K at_149 (pc' := 151) rfl rfl ?_
    refine Run.icmpF K at_151 (pT := 161) (pF := 154) (by decide) (by decide) rfl (show ¬ ((Int32.ofNat c132) < ((p4 &&& (2147483647 : Int32)) % (7 : Int32))) from own_c1 p4 _ 7 (by decide) (by decide) (by decide) (bs := [c120.toInt8.toInt32, c122.toInt8.toInt32, c124.toInt8.toInt32, c126.toInt8.toInt32, c128.toInt8.toInt32, c130.toInt8.toInt32]) hc133 (by simp)) ?_
    refine Run.iload K at_154 (pc' := 156) rfl rfl ?_
    refine Run.iload K at_156 (pc' := 158) rfl rfl ?_
    refine Run.icmpT K at_158 (pT := 163) (pF := 161) (by decide) (by decide) rfl (show (Int32.ofNat c132) ≤ (6 : Int32) from own_c2 (bs := [c120.toInt8.toInt32, c122.toInt8.toInt32, c124.toInt8.toInt32, c126.toInt8.toInt32, c128.toInt8.toInt32, c130.toInt8.toInt32]) rfl hc133.2.1 (by simp)) ?_
    refine Run.iload K at_163 (pc' := 165) rfl rfl ?_
    refine Run.iload K at_165 (pc' := 167) rfl rfl ?_
    refine Run.join0 (D' := ([], [(r119, .byte, [(.int c120.toInt8.toInt32), (.int c122.toInt8.toInt32), (.int c124.toInt8.toInt32), (.int c126.toInt8.toInt32), (.int c128.toInt8.toInt32), (.int c130.toInt8.toInt32)])])) (cells' := 1) (slots' := 6) (pc' := 183) (L' := #[.val (.int p1), .val (.int p2), .val (.long p3), .second, .val (.int p4), .val (.int (6 : Int32)), .val (.ref r119), .val (.int ((p4 &&& (2147483647 : Int32)) % (7 : Int32))), .val (.int (Int32.ofNat c132))]) (S' := []) ?_ (fun J167 => ?_)
    · skip
      refine Run.aload K at_183 (pc' := 185) rfl rfl rfl ?_
      refine Run.iload K at_185 (pc' := 187) rfl rfl ?_
      refine Run.iload K at_187 (pc' := 189) rfl rfl ?_
      refine Run.iconst K at_189 (pc' := 190) rfl (v := (0 : Int32)) rfl ?_
      refine Run.callS K at_190 (pc' := 193) rfl (hw _ (List.mem_of_getElem? (i := 6) rfl)) (hw _ (List.mem_of_getElem? (i := 7) rfl)) (hw _ (List.mem_of_getElem? (i := 8) rfl)) (hw _ (List.mem_of_getElem? (i := 9) rfl)) (by decide) (rm2 l Z a0 n0 hw [] (r119) (((p4 &&& (2147483647 : Int32)) % (7 : Int32))) ((Int32.ofNat c132)) ((0 : Int32)) ([c120.toInt8.toInt32, c122.toInt8.toInt32, c124.toInt8.toInt32, c126.toInt8.toInt32, c128.toInt8.toInt32, c130.toInt8.toInt32]) ((own_mod p4 7)) (c132) (0) ([]) ([]) (own_modE p4 _ 7 (by decide) (by decide)) (rfl) (rfl) (hc133) (hc133.2.1) (by simp) (by decide)) (argsL := [(.ref r119), (.int ((p4 &&& (2147483647 : Int32)) % (7 : Int32))), (.int (Int32.ofNat c132)), (.int (0 : Int32))]) (rest := []) rfl rfl pd_2 rfl (W := 0) rfl (by decide) (by decide) (cells' := 1) (slots' := 6) rfl rfl (by decide) (by decide) (Ret.k (S' := [(.int (1 : Int32))]) rfl ?_)
      refine Run.as (D' := ([], [(r119, .byte, [(.int c120.toInt8.toInt32), (.int c122.toInt8.toInt32), (.int c124.toInt8.toInt32), (.int c126.toInt8.toInt32), (.int c128.toInt8.toInt32), (.int c130.toInt8.toInt32)])])) rfl ?_
      refine Run.ifcF K at_193 (pT := 279) (pF := 196) (by decide) (by decide) rfl (show ¬ ((1 : Int32) = (0 : Int32)) from by decide) ?_
      refine Run.aload K at_196 (pc' := 198) rfl rfl rfl ?_
      refine Run.iload K at_198 (pc' := 200) rfl rfl ?_
      refine Run.iload K at_200 (pc' := 202) rfl rfl ?_
      refine Run.iconst K at_202 (pc' := 203) rfl (v := (1 : Int32)) rfl ?_
      refine Run.callS K at_203 (pc' := 206) rfl (hw _ (List.mem_of_getElem? (i := 6) rfl)) (hw _ (List.mem_of_getElem? (i := 7) rfl)) (hw _ (List.mem_of_getElem? (i := 8) rfl)) (hw _ (List.mem_of_getElem? (i := 9) rfl)) (by decide) (rm2 l Z a0 n0 hw [] (r119) (((p4 &&& (2147483647 : Int32)) % (7 : Int32))) ((Int32.ofNat c132)) ((1 : Int32)) ([c120.toInt8.toInt32, c122.toInt8.toInt32, c124.toInt8.toInt32, c126.toInt8.toInt32, c128.toInt8.toInt32, c130.toInt8.toInt32]) ((own_mod p4 7)) (c132) (1) ([]) ([]) (own_modE p4 _ 7 (by decide) (by decide)) (rfl) (rfl) (hc133) (hc133.2.1) (by simp) (by decide)) (argsL := [(.ref r119), (.int ((p4 &&& (2147483647 : Int32)) % (7 : Int32))), (.int (Int32.ofNat c132)), (.int (1 : Int32))]) (rest := []) rfl rfl pd_2 rfl (W := 0) rfl (by decide) (by decide) (cells' := 1) (slots' := 6) rfl rfl (by decide) (by decide) (Ret.k (S' := [(.int (1 : Int32))]) rfl ?_)
      refine Run.as (D' := ([], [(r119, .byte, [(.int c120.toInt8.toInt32), (.int c122.toInt8.toInt32), (.int c124.toInt8.toInt32), (.int c126.toInt8.toInt32), (.int c128.toInt8.toInt32), (.int c130.toInt8.toInt32)])])) rfl ?_
      refine Run.ifcF K at_206 (pT := 279) (pF := 209) (by decide) (by decide) rfl (show ¬ ((1 : Int32) = (0 : Int32)) from by decide) ?_
      refine Run.aload K at_209 (pc' := 211) rfl rfl rfl ?_
      refine Run.iload K at_211 (pc' := 213) rfl rfl ?_
      refine Run.iload K at_213 (pc' := 215) rfl rfl ?_
      refine Run.iconst K at_215 (pc' := 216) rfl (v := (2 : Int32)) rfl ?_
      refine Run.callS K at_216 (pc' := 219) rfl (hw _ (List.mem_of_getElem? (i := 6) rfl)) (hw _ (List.mem_of_getElem? (i := 7) rfl)) (hw _ (List.mem_of_getElem? (i := 8) rfl)) (hw _ (List.mem_of_getElem? (i := 9) rfl)) (by decide) (rm2 l Z a0 n0 hw [] (r119) (((p4 &&& (2147483647 : Int32)) % (7 : Int32))) ((Int32.ofNat c132)) ((2 : Int32)) ([c120.toInt8.toInt32, c122.toInt8.toInt32, c124.toInt8.toInt32, c126.toInt8.toInt32, c128.toInt8.toInt32, c130.toInt8.toInt32]) ((own_mod p4 7)) (c132) (2) ([]) ([]) (own_modE p4 _ 7 (by decide) (by decide)) (rfl) (rfl) (hc133) (hc133.2.1) (by simp) (by decide)) (argsL := [(.ref r119), (.int ((p4 &&& (2147483647 : Int32)) % (7 : Int32))), (.int (Int32.ofNat c132)), (.int (2 : Int32))]) (rest := []) rfl rfl pd_2 rfl (W := 0) rfl (by decide) (by decide) (cells' := 1) (slots' := 6) rfl rfl (by decide) (by decide) (Ret.k (S' := [(.int (1 : Int32))]) rfl ?_)
      refine Run.as (D' := ([], [(r119, .byte, [(.int c120.toInt8.toInt32), (.int c122.toInt8.toInt32), (.int c124.toInt8.toInt32), (.int c126.toInt8.toInt32), (.int c128.toInt8.toInt32), (.int c130.toInt8.toInt32)])])) rfl ?_
      refine Run.ifcF K at_219 (pT := 279) (pF := 222) (by decide) (by decide) rfl (show ¬ ((1 : Int32) = (0 : Int32)) from by decide) ?_
      refine Run.aload K at_222 (pc' := 224) rfl rfl rfl ?_
      refine Run.iload K at_224 (pc' := 226) rfl rfl ?_
      refine Run.iload K at_226 (pc' := 228) rfl rfl ?_
      refine Run.iconst K at_228 (pc' := 229) rfl (v := (3 : Int32)) rfl ?_
      refine Run.callS K at_229 (pc' := 232) rfl (hw _ (List.mem_of_getElem? (i := 6) rfl)) (hw _ (List.mem_of_getElem? (i := 7) rfl)) (hw _ (List.mem_of_getElem? (i := 8) rfl)) (hw _ (List.mem_of_getElem? (i := 9) rfl)) (by decide) (rm2 l Z a0 n0 hw [] (r119) (((p4 &&& (2147483647 : Int32)) % (7 : Int32))) ((Int32.ofNat c132)) ((3 : Int32)) ([c120.toInt8.toInt32, c122.toInt8.toInt32, c124.toInt8.toInt32, c126.toInt8.toInt32, c128.toInt8.toInt32, c130.toInt8.toInt32]) ((own_mod p4 7)) (c132) (3) ([]) ([]) (own_modE p4 _ 7 (by decide) (by decide)) (rfl) (rfl) (hc133) (hc133.2.1) (by simp) (by decide)) (argsL := [(.ref r119), (.int ((p4 &&& (2147483647 : Int32)) % (7 : Int32))), (.int (Int32.ofNat c132)), (.int (3 : Int32))]) (rest := []) rfl rfl pd_2 rfl (W := 0) rfl (by decide) (by decide) (cells' := 1) (slots' := 6) rfl rfl (by decide) (by decide) (Ret.k (S' := [(.int (1 : Int32))]) rfl ?_)
      refine Run.as (D' := ([], [(r119, .byte, [(.int c120.toInt8.toInt32), (.int c122.toInt8.toInt32), (.int c124.toInt8.toInt32), (.int c126.toInt8.toInt32), (.int c128.toInt8.toInt32), (.int c130.toInt8.toInt32)])])) rfl ?_
      refine Run.ifcF K at_232 (pT := 279) (pF := 235) (by decide) (by decide) rfl (show ¬ ((1 : Int32) = (0 : Int32)) from by decide) ?_
      refine Run.aload K at_235 (pc' := 237) rfl rfl rfl ?_
      refine Run.iload K at_237 (pc' := 239) rfl rfl ?_
      refine Run.iload K at_239 (pc' := 241) rfl rfl ?_
      refine Run.iconst K at_241 (pc' := 242) rfl (v := (4 : Int32)) rfl ?_
      refine Run.callS K at_242 (pc' := 245) rfl (hw _ (List.mem_of_getElem? (i := 6) rfl)) (hw _ (List.mem_of_getElem? (i := 7) rfl)) (hw _ (List.mem_of_getElem? (i := 8) rfl)) (hw _ (List.mem_of_getElem? (i := 9) rfl)) (by decide) (rm2 l Z a0 n0 hw [] (r119) (((p4 &&& (2147483647 : Int32)) % (7 : Int32))) ((Int32.ofNat c132)) ((4 : Int32)) ([c120.toInt8.toInt32, c122.toInt8.toInt32, c124.toInt8.toInt32, c126.toInt8.toInt32, c128.toInt8.toInt32, c130.toInt8.toInt32]) ((own_mod p4 7)) (c132) (4) ([]) ([]) (own_modE p4 _ 7 (by decide) (by decide)) (rfl) (rfl) (hc133) (hc133.2.1) (by simp) (by decide)) (argsL := [(.ref r119), (.int ((p4 &&& (2147483647 : Int32)) % (7 : Int32))), (.int (Int32.ofNat c132)), (.int (4 : Int32))]) (rest := []) rfl rfl pd_2 rfl (W := 0) rfl (by decide) (by decide) (cells' := 1) (slots' := 6) rfl rfl (by decide) (by decide) (Ret.k (S' := [(.int (1 : Int32))]) rfl ?_)
      refine Run.as (D' := ([], [(r119, .byte, [(.int c120.toInt8.toInt32), (.int c122.toInt8.toInt32), (.int c124.toInt8.toInt32), (.int c126.toInt8.toInt32), (.int c128.toInt8.toInt32), (.int c130.toInt8.toInt32)])])) rfl ?_
      refine Run.ifcF K at_245 (pT := 279) (pF := 248) (by decide) (by decide) rfl (show ¬ ((1 : Int32) = (0 : Int32)) from by decide) ?_
      refine Run.aload K at_248 (pc' := 250) rfl rfl rfl ?_
      refine Run.iload K at_250 (pc' := 252) rfl rfl ?_
      refine Run.iload K at_252 (pc' := 254) rfl rfl ?_
      refine Run.iconst K at_254 (pc' := 255) rfl (v := (5 : Int32)) rfl ?_
      refine Run.callS K at_255 (pc' := 258) rfl (hw _ (List.mem_of_getElem? (i := 6) rfl)) (hw _ (List.mem_of_getElem? (i := 7) rfl)) (hw _ (List.mem_of_getElem? (i := 8) rfl)) (hw _ (List.mem_of_getElem? (i := 9) rfl)) (by decide) (rm2 l Z a0 n0 hw [] (r119) (((p4 &&& (2147483647 : Int32)) % (7 : Int32))) ((Int32.ofNat c132)) ((5 : Int32)) ([c120.toInt8.toInt32, c122.toInt8.toInt32, c124.toInt8.toInt32, c126.toInt8.toInt32, c128.toInt8.toInt32, c130.toInt8.toInt32]) ((own_mod p4 7)) (c132) (5) ([]) ([]) (own_modE p4 _ 7 (by decide) (by decide)) (rfl) (rfl) (hc133) (hc133.2.1) (by simp) (by decide)) (argsL := [(.ref r119), (.int ((p4 &&& (2147483647 : Int32)) % (7 : Int32))), (.int (Int32.ofNat c132)), (.int (5 : Int32))]) (rest := []) rfl rfl pd_2 rfl (W := 0) rfl (by decide) (by decide) (cells' := 1) (slots' := 6) rfl rfl (by decide) (by decide) (Ret.k (S' := [(.int (1 : Int32))]) rfl ?_)
      refine Run.as (D' := ([], [(r119, .byte, [(.int c120.toInt8.toInt32), (.int c122.toInt8.toInt32), (.int c124.toInt8.toInt32), (.int c126.toInt8.toInt32), (.int c128.toInt8.toInt32), (.int c130.toInt8.toInt32)])])) rfl ?_
      refine Run.ifcF K at_258 (pT := 279) (pF := 261) (by decide) (by decide) rfl (show ¬ ((1 : Int32) = (0 : Int32)) from by decide) ?_
      refine Run.aload K at_261 (pc' := 263) rfl rfl rfl ?_
      refine Run.iload K at_263 (pc' := 265) rfl rfl ?_
      refine Run.iload K at_265 (pc' := 267) rfl rfl ?_
      refine Run.bipush K at_267 (pc' := 269) rfl (v := (6 : Int32)) rfl ?_
      refine Run.callS K at_269 (pc' := 272) rfl (hw _ (List.mem_of_getElem? (i := 6) rfl)) (hw _ (List.mem_of_getElem? (i := 7) rfl)) (hw _ (List.mem_of_getElem? (i := 8) rfl)) (hw _ (List.mem_of_getElem? (i := 9) rfl)) (by decide) (rm2 l Z a0 n0 hw [] (r119) (((p4 &&& (2147483647 : Int32)) % (7 : Int32))) ((Int32.ofNat c132)) ((6 : Int32)) ([c120.toInt8.toInt32, c122.toInt8.toInt32, c124.toInt8.toInt32, c126.toInt8.toInt32, c128.toInt8.toInt32, c130.toInt8.toInt32]) ((own_mod p4 7)) (c132) (6) ([]) ([]) (own_modE p4 _ 7 (by decide) (by decide)) (rfl) (rfl) (hc133) (hc133.2.1) (by simp) (by decide)) (argsL := [(.ref r119), (.int ((p4 &&& (2147483647 : Int32)) % (7 : Int32))), (.int (Int32.ofNat c132)), (.int (6 : Int32))]) (rest := []) rfl rfl pd_2 rfl (W := 0) rfl (by decide) (by decide) (cells' := 1) (slots' := 6) rfl rfl (by decide) (by decide) (Ret.k (S' := [(.int (1 : Int32))]) rfl ?_)
      refine Run.as (D' := ([], [(r119, .byte, [(.int c120.toInt8.toInt32), (.int c122.toInt8.toInt32), (.int c124.toInt8.toInt32), (.int c126.toInt8.toInt32), (.int c128.toInt8.toInt32), (.int c130.toInt8.toInt32)])])) rfl ?_
      refine Run.ifcF K at_272 (pT := 279) (pF := 275) (by decide) (by decide) rfl (show ¬ ((1 : Int32) = (0 : Int32)) from by decide) ?_
      refine Run.iconst K at_275 (pc' := 276) rfl (v := (1 : Int32)) rfl ?_
      refine Run.goto K at_276 (pc' := 280) (by decide) (by decide) ?_
      exact Run.retN K at_280 (w := (1 : Int32)) rfl (by decide) (by decide) (by decide) (by decide) rfl
    · skip
      refine Run.icmp K at_167 (pT := 183) (pF := 170) (by decide) (by decide) rfl (fun (h167_137 : (6 : Int32) ≤ (Int32.ofNat c132)) => ?_) (fun (h167_137 : ¬ ((6 : Int32) ≤ (Int32.ofNat c132))) => ?_)
      · skip
        exact J167
      · skip
        refine Run.aload K at_170 (pc' := 172) rfl rfl rfl ?_
        refine Run.iload K at_172 (pc' := 174) rfl rfl ?_
        refine Run.baload K at_174 (pc' := 175) rfl (i := 0) (q := c132) rfl (own_nn (own_rs (bs := [c120.toInt8.toInt32, c122.toInt8.toInt32, c124.toInt8.toInt32, c126.toInt8.toInt32, c128.toInt8.toInt32, c130.toInt8.toInt32]) hc133.2.1 (by simp))) (own_clamp (own_rs (bs := [c120.toInt8.toInt32, c122.toInt8.toInt32, c124.toInt8.toInt32, c126.toInt8.toInt32, c128.toInt8.toInt32, c130.toInt8.toInt32]) hc133.2.1 (by simp))) (v := (.int ([c120.toInt8.toInt32, c122.toInt8.toInt32, c124.toInt8.toInt32, c126.toInt8.toInt32, c128.toInt8.toInt32, c130.toInt8.toInt32].getD c132 0))) (own_at (bs := [c120.toInt8.toInt32, c122.toInt8.toInt32, c124.toInt8.toInt32, c126.toInt8.toInt32, c128.toInt8.toInt32, c130.toInt8.toInt32]) (own_inb (bs := [c120.toInt8.toInt32, c122.toInt8.toInt32, c124.toInt8.toInt32, c126.toInt8.toInt32, c128.toInt8.toInt32, c130.toInt8.toInt32]) hc133.2.1 (by simp) h167_137)) ?_
        refine Run.callS K at_175 (pc' := 178) rfl (hw _ (List.mem_of_getElem? (i := 13) rfl)) (hw _ (List.mem_of_getElem? (i := 14) rfl)) (hw _ (List.mem_of_getElem? (i := 8) rfl)) (hw _ (List.mem_of_getElem? (i := 15) rfl)) (by decide) (rm4 l Z a0 n0 hw [] (([c120.toInt8.toInt32, c122.toInt8.toInt32, c124.toInt8.toInt32, c126.toInt8.toInt32, c128.toInt8.toInt32, c130.toInt8.toInt32].getD c132 0)) ([]) ([(r119, .byte, [(.int c120.toInt8.toInt32), (.int c122.toInt8.toInt32), (.int c124.toInt8.toInt32), (.int c126.toInt8.toInt32), (.int c128.toInt8.toInt32), (.int c130.toInt8.toInt32)])]) ) (argsL := [(.int ([c120.toInt8.toInt32, c122.toInt8.toInt32, c124.toInt8.toInt32, c126.toInt8.toInt32, c128.toInt8.toInt32, c130.toInt8.toInt32].getD c132 0))]) (rest := []) rfl rfl pd_0 rfl (W := 0) rfl (by decide) (by decide) (cells' := 1) (slots' := 6) rfl rfl (by decide) (by decide) ?_
        intro vq Dq hq
        obtain ⟨c139, hc140, rfl, rfl⟩ := hq
        refine Run.as2 (D' := ([], [(r119, .byte, [(.int c120.toInt8.toInt32), (.int c122.toInt8.toInt32), (.int c124.toInt8.toInt32), (.int c126.toInt8.toInt32), (.int c128.toInt8.toInt32), (.int c130.toInt8.toInt32)])])) (S' := [(.int c139)]) rfl rfl ?_
        refine Run.ifcT K at_178 (pT := 183) (pF := 181) (by decide) (by decide) rfl (show c139 = (0 : Int32) from own_nb (bs := [c120.toInt8.toInt32, c122.toInt8.toInt32, c124.toInt8.toInt32, c126.toInt8.toInt32, c128.toInt8.toInt32, c130.toInt8.toInt32]) hc133 (own_inb (bs := [c120.toInt8.toInt32, c122.toInt8.toInt32, c124.toInt8.toInt32, c126.toInt8.toInt32, c128.toInt8.toInt32, c130.toInt8.toInt32]) hc133.2.1 (by simp) h167_137) hc140) ?_
        exact J167
  · rw [hq28]
    refine Run.istore K at_4 (pc' := 6) rfl (L' := #[.val (.int p1), .val (.int p2), .val (.long p3), .second, .val (.int p4), .val (.int (7 : Int32)), .unset, .unset, .unset]) rfl ?_
    refine Run.iload K at_6 (pc' := 8) rfl rfl ?_
    refine Run.newA K at_8 (pc' := 10) rfl (ty := .byte) rfl (hw _ (List.mem_of_getElem? (i := 0) rfl)) (by decide) (vs := [(.int (0 : Int32)), (.int (0 : Int32)), (.int (0 : Int32)), (.int (0 : Int32)), (.int (0 : Int32)), (.int (0 : Int32)), (.int (0 : Int32))]) (rfl) (cap := 7) (by decide) (by decide) (cells' := 1) (slots' := 7) rfl rfl (by decide) (by decide) rfl (fun r141 => ?_)
    refine Run.as (D' := ([], [(r141, .byte, [(.int (0 : Int32)), (.int (0 : Int32)), (.int (0 : Int32)), (.int (0 : Int32)), (.int (0 : Int32)), (.int (0 : Int32)), (.int (0 : Int32))])])) rfl ?_
    refine Run.astore K at_10 (pc' := 12) rfl rfl (L' := #[.val (.int p1), .val (.int p2), .val (.long p3), .second, .val (.int p4), .val (.int (7 : Int32)), .val (.ref r141), .unset, .unset]) rfl ?_
    refine Run.iload K at_12 (pc' := 14) rfl rfl ?_
    refine Run.ifcF K at_14 (pT := 27) (pF := 17) (by decide) (by decide) rfl (show ¬ ((7 : Int32) ≤ (0 : Int32)) from by decide) ?_
    refine Run.aload K at_17 (pc' := 19) rfl rfl rfl ?_
    refine Run.iconst K at_19 (pc' := 20) rfl (v := (0 : Int32)) rfl ?_
    refine Run.iloadN K at_20 (pc' := 21) rfl rfl ?_
    refine Run.lloadN K at_21 (pc' := 22) rfl rfl ?_
    refine Run.iconst K at_22 (pc' := 23) rfl (v := (0 : Int32)) rfl ?_
    refine Run.callS K at_23 (pc' := 26) rfl (hw _ (List.mem_of_getElem? (i := 10) rfl)) (hw _ (List.mem_of_getElem? (i := 11) rfl)) (hw _ (List.mem_of_getElem? (i := 8) rfl)) (hw _ (List.mem_of_getElem? (i := 12) rfl)) (by decide) (rm3 l Z a0 n0 hw [] (p2) (p3) ((0 : Int32)) ([]) ([(r141, .byte, [(.int (0 : Int32)), (.int (0 : Int32)), (.int (0 : Int32)), (.int (0 : Int32)), (.int (0 : Int32)), (.int (0 : Int32)), (.int (0 : Int32))])]) ) (argsL := [(.int p2), (.long p3), (.int (0 : Int32))]) (rest := [(.int (0 : Int32)), (.ref r141)]) rfl rfl pd_3 rfl (W := 2) rfl (by decide) (by decide) (cells' := 1) (slots' := 7) rfl rfl (by decide) (by decide) ?_
    intro vq Dq hq
    obtain ⟨c142, hc143, rfl, rfl⟩ := hq
    refine Run.as2 (D' := ([], [(r141, .byte, [(.int (0 : Int32)), (.int (0 : Int32)), (.int (0 : Int32)), (.int (0 : Int32)), (.int (0 : Int32)), (.int (0 : Int32)), (.int (0 : Int32))])])) (S' := [(.int c142), (.int (0 : Int32)), (.ref r141)]) rfl rfl ?_
    refine Run.bastore K at_26 (pc' := 27) rfl (i := 0) (q := 0) rfl (by decide) (by decide) (v := (.int (0 : Int32))) (rfl) (D' := ([], [(r141, .byte, [(.int c142.toInt8.toInt32), (.int (0 : Int32)), (.int (0 : Int32)), (.int (0 : Int32)), (.int (0 : Int32)), (.int (0 : Int32)), (.int (0 : Int32))])])) rfl ?_
    refine Run.iload K at_27 (pc' := 29) rfl rfl ?_
    refine Run.iconst K at_29 (pc' := 30) rfl (v := (1 : Int32)) rfl ?_
    refine Run.icmpF K at_30 (pT := 43) (pF := 33) (by decide) (by decide) rfl (show ¬ ((7 : Int32) ≤ (1 : Int32)) from by decide) ?_
    refine Run.aload K at_33 (pc' := 35) rfl rfl rfl ?_
    refine Run.iconst K at_35 (pc' := 36) rfl (v := (1 : Int32)) rfl ?_
    refine Run.iloadN K at_36 (pc' := 37) rfl rfl ?_
    refine Run.lloadN K at_37 (pc' := 38) rfl rfl ?_
    refine Run.iconst K at_38 (pc' := 39) rfl (v := (1 : Int32)) rfl ?_
    refine Run.callS K at_39 (pc' := 42) rfl (hw _ (List.mem_of_getElem? (i := 10) rfl)) (hw _ (List.mem_of_getElem? (i := 11) rfl)) (hw _ (List.mem_of_getElem? (i := 8) rfl)) (hw _ (List.mem_of_getElem? (i := 12) rfl)) (by decide) (rm3 l Z a0 n0 hw [] (p2) (p3) ((1 : Int32)) ([]) ([(r141, .byte, [(.int c142.toInt8.toInt32), (.int (0 : Int32)), (.int (0 : Int32)), (.int (0 : Int32)), (.int (0 : Int32)), (.int (0 : Int32)), (.int (0 : Int32))])]) ) (argsL := [(.int p2), (.long p3), (.int (1 : Int32))]) (rest := [(.int (1 : Int32)), (.ref r141)]) rfl rfl pd_3 rfl (W := 2) rfl (by decide) (by decide) (cells' := 1) (slots' := 7) rfl rfl (by decide) (by decide) ?_
    intro vq Dq hq
    obtain ⟨c144, hc145, rfl, rfl⟩ := hq
    refine Run.as2 (D' := ([], [(r141, .byte, [(.int c142.toInt8.toInt32), (.int (0 : Int32)), (.int (0 : Int32)), (.int (0 : Int32)), (.int (0 : Int32)), (.int (0 : Int32)), (.int (0 : Int32))])])) (S' := [(.int c144), (.int (1 : Int32)), (.ref r141)]) rfl rfl ?_
    refine Run.bastore K at_42 (pc' := 43) rfl (i := 0) (q := 1) rfl (by decide) (by decide) (v := (.int (0 : Int32))) (rfl) (D' := ([], [(r141, .byte, [(.int c142.toInt8.toInt32), (.int c144.toInt8.toInt32), (.int (0 : Int32)), (.int (0 : Int32)), (.int (0 : Int32)), (.int (0 : Int32)), (.int (0 : Int32))])])) rfl ?_
    refine Run.iload K at_43 (pc' := 45) rfl rfl ?_
    refine Run.iconst K at_45 (pc' := 46) rfl (v := (2 : Int32)) rfl ?_
    refine Run.icmpF K at_46 (pT := 59) (pF := 49) (by decide) (by decide) rfl (show ¬ ((7 : Int32) ≤ (2 : Int32)) from by decide) ?_
    refine Run.aload K at_49 (pc' := 51) rfl rfl rfl ?_
    refine Run.iconst K at_51 (pc' := 52) rfl (v := (2 : Int32)) rfl ?_
    refine Run.iloadN K at_52 (pc' := 53) rfl rfl ?_
    refine Run.lloadN K at_53 (pc' := 54) rfl rfl ?_
    refine Run.iconst K at_54 (pc' := 55) rfl (v := (2 : Int32)) rfl ?_
    refine Run.callS K at_55 (pc' := 58) rfl (hw _ (List.mem_of_getElem? (i := 10) rfl)) (hw _ (List.mem_of_getElem? (i := 11) rfl)) (hw _ (List.mem_of_getElem? (i := 8) rfl)) (hw _ (List.mem_of_getElem? (i := 12) rfl)) (by decide) (rm3 l Z a0 n0 hw [] (p2) (p3) ((2 : Int32)) ([]) ([(r141, .byte, [(.int c142.toInt8.toInt32), (.int c144.toInt8.toInt32), (.int (0 : Int32)), (.int (0 : Int32)), (.int (0 : Int32)), (.int (0 : Int32)), (.int (0 : Int32))])]) ) (argsL := [(.int p2), (.long p3), (.int (2 : Int32))]) (rest := [(.int (2 : Int32)), (.ref r141)]) rfl rfl pd_3 rfl (W := 2) rfl (by decide) (by decide) (cells' := 1) (slots' := 7) rfl rfl (by decide) (by decide) ?_
    intro vq Dq hq
    obtain ⟨c146, hc147, rfl, rfl⟩ := hq
    refine Run.as2 (D' := ([], [(r141, .byte, [(.int c142.toInt8.toInt32), (.int c144.toInt8.toInt32), (.int (0 : Int32)), (.int (0 : Int32)), (.int (0 : Int32)), (.int (0 : Int32)), (.int (0 : Int32))])])) (S' := [(.int c146), (.int (2 : Int32)), (.ref r141)]) rfl rfl ?_
    refine Run.bastore K at_58 (pc' := 59) rfl (i := 0) (q := 2) rfl (by decide) (by decide) (v := (.int (0 : Int32))) (rfl) (D' := ([], [(r141, .byte, [(.int c142.toInt8.toInt32), (.int c144.toInt8.toInt32), (.int c146.toInt8.toInt32), (.int (0 : Int32)), (.int (0 : Int32)), (.int (0 : Int32)), (.int (0 : Int32))])])) rfl ?_
    refine Run.iload K at_59 (pc' := 61) rfl rfl ?_
    refine Run.iconst K at_61 (pc' := 62) rfl (v := (3 : Int32)) rfl ?_
    refine Run.icmpF K at_62 (pT := 75) (pF := 65) (by decide) (by decide) rfl (show ¬ ((7 : Int32) ≤ (3 : Int32)) from by decide) ?_
    refine Run.aload K at_65 (pc' := 67) rfl rfl rfl ?_
    refine Run.iconst K at_67 (pc' := 68) rfl (v := (3 : Int32)) rfl ?_
    refine Run.iloadN K at_68 (pc' := 69) rfl rfl ?_
    refine Run.lloadN K at_69 (pc' := 70) rfl rfl ?_
    refine Run.iconst K at_70 (pc' := 71) rfl (v := (3 : Int32)) rfl ?_
    refine Run.callS K at_71 (pc' := 74) rfl (hw _ (List.mem_of_getElem? (i := 10) rfl)) (hw _ (List.mem_of_getElem? (i := 11) rfl)) (hw _ (List.mem_of_getElem? (i := 8) rfl)) (hw _ (List.mem_of_getElem? (i := 12) rfl)) (by decide) (rm3 l Z a0 n0 hw [] (p2) (p3) ((3 : Int32)) ([]) ([(r141, .byte, [(.int c142.toInt8.toInt32), (.int c144.toInt8.toInt32), (.int c146.toInt8.toInt32), (.int (0 : Int32)), (.int (0 : Int32)), (.int (0 : Int32)), (.int (0 : Int32))])]) ) (argsL := [(.int p2), (.long p3), (.int (3 : Int32))]) (rest := [(.int (3 : Int32)), (.ref r141)]) rfl rfl pd_3 rfl (W := 2) rfl (by decide) (by decide) (cells' := 1) (slots' := 7) rfl rfl (by decide) (by decide) ?_
    intro vq Dq hq
    obtain ⟨c148, hc149, rfl, rfl⟩ := hq
    refine Run.as2 (D' := ([], [(r141, .byte, [(.int c142.toInt8.toInt32), (.int c144.toInt8.toInt32), (.int c146.toInt8.toInt32), (.int (0 : Int32)), (.int (0 : Int32)), (.int (0 : Int32)), (.int (0 : Int32))])])) (S' := [(.int c148), (.int (3 : Int32)), (.ref r141)]) rfl rfl ?_
    refine Run.bastore K at_74 (pc' := 75) rfl (i := 0) (q := 3) rfl (by decide) (by decide) (v := (.int (0 : Int32))) (rfl) (D' := ([], [(r141, .byte, [(.int c142.toInt8.toInt32), (.int c144.toInt8.toInt32), (.int c146.toInt8.toInt32), (.int c148.toInt8.toInt32), (.int (0 : Int32)), (.int (0 : Int32)), (.int (0 : Int32))])])) rfl ?_
    refine Run.iload K at_75 (pc' := 77) rfl rfl ?_
    refine Run.iconst K at_77 (pc' := 78) rfl (v := (4 : Int32)) rfl ?_
    refine Run.icmpF K at_78 (pT := 91) (pF := 81) (by decide) (by decide) rfl (show ¬ ((7 : Int32) ≤ (4 : Int32)) from by decide) ?_
    refine Run.aload K at_81 (pc' := 83) rfl rfl rfl ?_
    refine Run.iconst K at_83 (pc' := 84) rfl (v := (4 : Int32)) rfl ?_
    refine Run.iloadN K at_84 (pc' := 85) rfl rfl ?_
    refine Run.lloadN K at_85 (pc' := 86) rfl rfl ?_
    refine Run.iconst K at_86 (pc' := 87) rfl (v := (4 : Int32)) rfl ?_
    refine Run.callS K at_87 (pc' := 90) rfl (hw _ (List.mem_of_getElem? (i := 10) rfl)) (hw _ (List.mem_of_getElem? (i := 11) rfl)) (hw _ (List.mem_of_getElem? (i := 8) rfl)) (hw _ (List.mem_of_getElem? (i := 12) rfl)) (by decide) (rm3 l Z a0 n0 hw [] (p2) (p3) ((4 : Int32)) ([]) ([(r141, .byte, [(.int c142.toInt8.toInt32), (.int c144.toInt8.toInt32), (.int c146.toInt8.toInt32), (.int c148.toInt8.toInt32), (.int (0 : Int32)), (.int (0 : Int32)), (.int (0 : Int32))])]) ) (argsL := [(.int p2), (.long p3), (.int (4 : Int32))]) (rest := [(.int (4 : Int32)), (.ref r141)]) rfl rfl pd_3 rfl (W := 2) rfl (by decide) (by decide) (cells' := 1) (slots' := 7) rfl rfl (by decide) (by decide) ?_
    intro vq Dq hq
    obtain ⟨c150, hc151, rfl, rfl⟩ := hq
    refine Run.as2 (D' := ([], [(r141, .byte, [(.int c142.toInt8.toInt32), (.int c144.toInt8.toInt32), (.int c146.toInt8.toInt32), (.int c148.toInt8.toInt32), (.int (0 : Int32)), (.int (0 : Int32)), (.int (0 : Int32))])])) (S' := [(.int c150), (.int (4 : Int32)), (.ref r141)]) rfl rfl ?_
    refine Run.bastore K at_90 (pc' := 91) rfl (i := 0) (q := 4) rfl (by decide) (by decide) (v := (.int (0 : Int32))) (rfl) (D' := ([], [(r141, .byte, [(.int c142.toInt8.toInt32), (.int c144.toInt8.toInt32), (.int c146.toInt8.toInt32), (.int c148.toInt8.toInt32), (.int c150.toInt8.toInt32), (.int (0 : Int32)), (.int (0 : Int32))])])) rfl ?_
    refine Run.iload K at_91 (pc' := 93) rfl rfl ?_
    refine Run.iconst K at_93 (pc' := 94) rfl (v := (5 : Int32)) rfl ?_
    refine Run.icmpF K at_94 (pT := 107) (pF := 97) (by decide) (by decide) rfl (show ¬ ((7 : Int32) ≤ (5 : Int32)) from by decide) ?_
    refine Run.aload K at_97 (pc' := 99) rfl rfl rfl ?_
    refine Run.iconst K at_99 (pc' := 100) rfl (v := (5 : Int32)) rfl ?_
    refine Run.iloadN K at_100 (pc' := 101) rfl rfl ?_
    refine Run.lloadN K at_101 (pc' := 102) rfl rfl ?_
    refine Run.iconst K at_102 (pc' := 103) rfl (v := (5 : Int32)) rfl ?_
    refine Run.callS K at_103 (pc' := 106) rfl (hw _ (List.mem_of_getElem? (i := 10) rfl)) (hw _ (List.mem_of_getElem? (i := 11) rfl)) (hw _ (List.mem_of_getElem? (i := 8) rfl)) (hw _ (List.mem_of_getElem? (i := 12) rfl)) (by decide) (rm3 l Z a0 n0 hw [] (p2) (p3) ((5 : Int32)) ([]) ([(r141, .byte, [(.int c142.toInt8.toInt32), (.int c144.toInt8.toInt32), (.int c146.toInt8.toInt32), (.int c148.toInt8.toInt32), (.int c150.toInt8.toInt32), (.int (0 : Int32)), (.int (0 : Int32))])]) ) (argsL := [(.int p2), (.long p3), (.int (5 : Int32))]) (rest := [(.int (5 : Int32)), (.ref r141)]) rfl rfl pd_3 rfl (W := 2) rfl (by decide) (by decide) (cells' := 1) (slots' := 7) rfl rfl (by decide) (by decide) ?_
    intro vq Dq hq
    obtain ⟨c152, hc153, rfl, rfl⟩ := hq
    refine Run.as2 (D' := ([], [(r141, .byte, [(.int c142.toInt8.toInt32), (.int c144.toInt8.toInt32), (.int c146.toInt8.toInt32), (.int c148.toInt8.toInt32), (.int c150.toInt8.toInt32), (.int (0 : Int32)), (.int (0 : Int32))])])) (S' := [(.int c152), (.int (5 : Int32)), (.ref r141)]) rfl rfl ?_
    refine Run.bastore K at_106 (pc' := 107) rfl (i := 0) (q := 5) rfl (by decide) (by decide) (v := (.int (0 : Int32))) (rfl) (D' := ([], [(r141, .byte, [(.int c142.toInt8.toInt32), (.int c144.toInt8.toInt32), (.int c146.toInt8.toInt32), (.int c148.toInt8.toInt32), (.int c150.toInt8.toInt32), (.int c152.toInt8.toInt32), (.int (0 : Int32))])])) rfl ?_
    refine Run.iload K at_107 (pc' := 109) rfl rfl ?_
    refine Run.bipush K at_109 (pc' := 111) rfl (v := (6 : Int32)) rfl ?_
    refine Run.icmpF K at_111 (pT := 126) (pF := 114) (by decide) (by decide) rfl (show ¬ ((7 : Int32) ≤ (6 : Int32)) from by decide) ?_
    refine Run.aload K at_114 (pc' := 116) rfl rfl rfl ?_
    refine Run.bipush K at_116 (pc' := 118) rfl (v := (6 : Int32)) rfl ?_
    refine Run.iloadN K at_118 (pc' := 119) rfl rfl ?_
    refine Run.lloadN K at_119 (pc' := 120) rfl rfl ?_
    refine Run.bipush K at_120 (pc' := 122) rfl (v := (6 : Int32)) rfl ?_
    refine Run.callS K at_122 (pc' := 125) rfl (hw _ (List.mem_of_getElem? (i := 10) rfl)) (hw _ (List.mem_of_getElem? (i := 11) rfl)) (hw _ (List.mem_of_getElem? (i := 8) rfl)) (hw _ (List.mem_of_getElem? (i := 12) rfl)) (by decide) (rm3 l Z a0 n0 hw [] (p2) (p3) ((6 : Int32)) ([]) ([(r141, .byte, [(.int c142.toInt8.toInt32), (.int c144.toInt8.toInt32), (.int c146.toInt8.toInt32), (.int c148.toInt8.toInt32), (.int c150.toInt8.toInt32), (.int c152.toInt8.toInt32), (.int (0 : Int32))])]) ) (argsL := [(.int p2), (.long p3), (.int (6 : Int32))]) (rest := [(.int (6 : Int32)), (.ref r141)]) rfl rfl pd_3 rfl (W := 2) rfl (by decide) (by decide) (cells' := 1) (slots' := 7) rfl rfl (by decide) (by decide) ?_
    intro vq Dq hq
    obtain ⟨c154, hc155, rfl, rfl⟩ := hq
    refine Run.as2 (D' := ([], [(r141, .byte, [(.int c142.toInt8.toInt32), (.int c144.toInt8.toInt32), (.int c146.toInt8.toInt32), (.int c148.toInt8.toInt32), (.int c150.toInt8.toInt32), (.int c152.toInt8.toInt32), (.int (0 : Int32))])])) (S' := [(.int c154), (.int (6 : Int32)), (.ref r141)]) rfl rfl ?_
    refine Run.bastore K at_125 (pc' := 126) rfl (i := 0) (q := 6) rfl (by decide) (by decide) (v := (.int (0 : Int32))) (rfl) (D' := ([], [(r141, .byte, [(.int c142.toInt8.toInt32), (.int c144.toInt8.toInt32), (.int c146.toInt8.toInt32), (.int c148.toInt8.toInt32), (.int c150.toInt8.toInt32), (.int c152.toInt8.toInt32), (.int c154.toInt8.toInt32)])])) rfl ?_
    refine Run.iload K at_126 (pc' := 128) rfl rfl ?_
    refine Run.ldcI K at_128 (pc' := 130) rfl (v := (2147483647 : Int32)) (hw _ (List.mem_of_getElem? (i := 1) rfl)) ?_
    refine Run.iand K at_130 (pc' := 131) rfl ?_
    refine Run.iload K at_131 (pc' := 133) rfl rfl ?_
    refine Run.iconst K at_133 (pc' := 134) rfl (v := (1 : Int32)) rfl ?_
    refine Run.iaddV K at_134 (pc' := 135) rfl (v := (8 : Int32)) (by decide) ?_
    refine Run.irem K at_135 (pc' := 136) rfl (by decide) ?_
    refine Run.istore K at_136 (pc' := 138) rfl (L' := #[.val (.int p1), .val (.int p2), .val (.long p3), .second, .val (.int p4), .val (.int (7 : Int32)), .val (.ref r141), .val (.int ((p4 &&& (2147483647 : Int32)) % (8 : Int32))), .unset]) rfl ?_
    refine Run.aload K at_138 (pc' := 140) rfl rfl rfl ?_
    refine Run.iload K at_140 (pc' := 142) rfl rfl ?_
    refine Run.callS K at_142 (pc' := 145) rfl (hw _ (List.mem_of_getElem? (i := 2) rfl)) (hw _ (List.mem_of_getElem? (i := 3) rfl)) (hw _ (List.mem_of_getElem? (i := 4) rfl)) (hw _ (List.mem_of_getElem? (i := 5) rfl)) (by decide) (rm1 l Z a0 n0 hw [] (r141) (((p4 &&& (2147483647 : Int32)) % (8 : Int32))) ([c142.toInt8.toInt32, c144.toInt8.toInt32, c146.toInt8.toInt32, c148.toInt8.toInt32, c150.toInt8.toInt32, c152.toInt8.toInt32, c154.toInt8.toInt32]) ((own_mod p4 8)) ([]) ([]) (own_modE p4 _ 8 (by decide) (by decide)) (own_modL p4 7) (by simp)) (argsL := [(.ref r141), (.int ((p4 &&& (2147483647 : Int32)) % (8 : Int32)))]) (rest := []) rfl rfl pd_1 rfl (W := 0) rfl (by decide) (by decide) (cells' := 1) (slots' := 7) rfl rfl (by decide) (by decide) ?_
    intro vq Dq hq
    obtain ⟨c156, hc157, rfl, rfl⟩ := hq
    refine Run.as2 (D' := ([], [(r141, .byte, [(.int c142.toInt8.toInt32), (.int c144.toInt8.toInt32), (.int c146.toInt8.toInt32), (.int c148.toInt8.toInt32), (.int c150.toInt8.toInt32), (.int c152.toInt8.toInt32), (.int c154.toInt8.toInt32)])])) (S' := [(.int (Int32.ofNat c156))]) rfl rfl ?_
    refine Run.istore K at_145 (pc' := 147) rfl (L' := #[.val (.int p1), .val (.int p2), .val (.long p3), .second, .val (.int p4), .val (.int (7 : Int32)), .val (.ref r141), .val (.int ((p4 &&& (2147483647 : Int32)) % (8 : Int32))), .val (.int (Int32.ofNat c156))]) rfl ?_
    refine Run.iload K at_147 (pc' := 149) rfl rfl ?_
    refine Run.iload K at_149 (pc' := 151) rfl rfl ?_
    refine Run.icmpF K at_151 (pT := 161) (pF := 154) (by decide) (by decide) rfl (show ¬ ((Int32.ofNat c156) < ((p4 &&& (2147483647 : Int32)) % (8 : Int32))) from own_c1 p4 _ 8 (by decide) (by decide) (by decide) (bs := [c142.toInt8.toInt32, c144.toInt8.toInt32, c146.toInt8.toInt32, c148.toInt8.toInt32, c150.toInt8.toInt32, c152.toInt8.toInt32, c154.toInt8.toInt32]) hc157 (by simp)) ?_
    refine Run.iload K at_154 (pc' := 156) rfl rfl ?_
    refine Run.iload K at_156 (pc' := 158) rfl rfl ?_
    refine Run.icmpT K at_158 (pT := 163) (pF := 161) (by decide) (by decide) rfl (show (Int32.ofNat c156) ≤ (7 : Int32) from own_c2 (bs := [c142.toInt8.toInt32, c144.toInt8.toInt32, c146.toInt8.toInt32, c148.toInt8.toInt32, c150.toInt8.toInt32, c152.toInt8.toInt32, c154.toInt8.toInt32]) rfl hc157.2.1 (by simp)) ?_
    refine Run.iload K at_163 (pc' := 165) rfl rfl ?_
    refine Run.iload K at_165 (pc' := 167) rfl rfl ?_
    refine Run.join0 (D' := ([], [(r141, .byte, [(.int c142.toInt8.toInt32), (.int c144.toInt8.toInt32), (.int c146.toInt8.toInt32), (.int c148.toInt8.toInt32), (.int c150.toInt8.toInt32), (.int c152.toInt8.toInt32), (.int c154.toInt8.toInt32)])])) (cells' := 1) (slots' := 7) (pc' := 183) (L' := #[.val (.int p1), .val (.int p2), .val (.long p3), .second, .val (.int p4), .val (.int (7 : Int32)), .val (.ref r141), .val (.int ((p4 &&& (2147483647 : Int32)) % (8 : Int32))), .val (.int (Int32.ofNat c156))]) (S' := []) ?_ (fun J167 => ?_)
    · skip
      refine Run.aload K at_183 (pc' := 185) rfl rfl rfl ?_
      refine Run.iload K at_185 (pc' := 187) rfl rfl ?_
      refine Run.iload K at_187 (pc' := 189) rfl rfl ?_
      refine Run.iconst K at_189 (pc' := 190) rfl (v := (0 : Int32)) rfl ?_
      refine Run.callS K at_190 (pc' := 193) rfl (hw _ (List.mem_of_getElem? (i := 6) rfl)) (hw _ (List.mem_of_getElem? (i := 7) rfl)) (hw _ (List.mem_of_getElem? (i := 8) rfl)) (hw _ (List.mem_of_getElem? (i := 9) rfl)) (by decide) (rm2 l Z a0 n0 hw [] (r141) (((p4 &&& (2147483647 : Int32)) % (8 : Int32))) ((Int32.ofNat c156)) ((0 : Int32)) ([c142.toInt8.toInt32, c144.toInt8.toInt32, c146.toInt8.toInt32, c148.toInt8.toInt32, c150.toInt8.toInt32, c152.toInt8.toInt32, c154.toInt8.toInt32]) ((own_mod p4 8)) (c156) (0) ([]) ([]) (own_modE p4 _ 8 (by decide) (by decide)) (rfl) (rfl) (hc157) (hc157.2.1) (by simp) (by decide)) (argsL := [(.ref r141), (.int ((p4 &&& (2147483647 : Int32)) % (8 : Int32))), (.int (Int32.ofNat c156)), (.int (0 : Int32))]) (rest := []) rfl rfl pd_2 rfl (W := 0) rfl (by decide) (by decide) (cells' := 1) (slots' := 7) rfl rfl (by decide) (by decide) (Ret.k (S' := [(.int (1 : Int32))]) rfl ?_)
      refine Run.as (D' := ([], [(r141, .byte, [(.int c142.toInt8.toInt32), (.int c144.toInt8.toInt32), (.int c146.toInt8.toInt32), (.int c148.toInt8.toInt32), (.int c150.toInt8.toInt32), (.int c152.toInt8.toInt32), (.int c154.toInt8.toInt32)])])) rfl ?_
      refine Run.ifcF K at_193 (pT := 279) (pF := 196) (by decide) (by decide) rfl (show ¬ ((1 : Int32) = (0 : Int32)) from by decide) ?_
      refine Run.aload K at_196 (pc' := 198) rfl rfl rfl ?_
      refine Run.iload K at_198 (pc' := 200) rfl rfl ?_
      refine Run.iload K at_200 (pc' := 202) rfl rfl ?_
      refine Run.iconst K at_202 (pc' := 203) rfl (v := (1 : Int32)) rfl ?_
      refine Run.callS K at_203 (pc' := 206) rfl (hw _ (List.mem_of_getElem? (i := 6) rfl)) (hw _ (List.mem_of_getElem? (i := 7) rfl)) (hw _ (List.mem_of_getElem? (i := 8) rfl)) (hw _ (List.mem_of_getElem? (i := 9) rfl)) (by decide) (rm2 l Z a0 n0 hw [] (r141) (((p4 &&& (2147483647 : Int32)) % (8 : Int32))) ((Int32.ofNat c156)) ((1 : Int32)) ([c142.toInt8.toInt32, c144.toInt8.toInt32, c146.toInt8.toInt32, c148.toInt8.toInt32, c150.toInt8.toInt32, c152.toInt8.toInt32, c154.toInt8.toInt32]) ((own_mod p4 8)) (c156) (1) ([]) ([]) (own_modE p4 _ 8 (by decide) (by decide)) (rfl) (rfl) (hc157) (hc157.2.1) (by simp) (by decide)) (argsL := [(.ref r141), (.int ((p4 &&& (2147483647 : Int32)) % (8 : Int32))), (.int (Int32.ofNat c156)), (.int (1 : Int32))]) (rest := []) rfl rfl pd_2 rfl (W := 0) rfl (by decide) (by decide) (cells' := 1) (slots' := 7) rfl rfl (by decide) (by decide) (Ret.k (S' := [(.int (1 : Int32))]) rfl ?_)
      refine Run.as (D' := ([], [(r141, .byte, [(.int c142.toInt8.toInt32), (.int c144.toInt8.toInt32), (.int c146.toInt8.toInt32), (.int c148.toInt8.toInt32), (.int c150.toInt8.toInt32), (.int c152.toInt8.toInt32), (.int c154.toInt8.toInt32)])])) rfl ?_
      refine Run.ifcF K at_206 (pT := 279) (pF := 209) (by decide) (by decide) rfl (show ¬ ((1 : Int32) = (0 : Int32)) from by decide) ?_
      refine Run.aload K at_209 (pc' := 211) rfl rfl rfl ?_
      refine Run.iload K at_211 (pc' := 213) rfl rfl ?_
      refine Run.iload K at_213 (pc' := 215) rfl rfl ?_
      refine Run.iconst K at_215 (pc' := 216) rfl (v := (2 : Int32)) rfl ?_
      refine Run.callS K at_216 (pc' := 219) rfl (hw _ (List.mem_of_getElem? (i := 6) rfl)) (hw _ (List.mem_of_getElem? (i := 7) rfl)) (hw _ (List.mem_of_getElem? (i := 8) rfl)) (hw _ (List.mem_of_getElem? (i := 9) rfl)) (by decide) (rm2 l Z a0 n0 hw [] (r141) (((p4 &&& (2147483647 : Int32)) % (8 : Int32))) ((Int32.ofNat c156)) ((2 : Int32)) ([c142.toInt8.toInt32, c144.toInt8.toInt32, c146.toInt8.toInt32, c148.toInt8.toInt32, c150.toInt8.toInt32, c152.toInt8.toInt32, c154.toInt8.toInt32]) ((own_mod p4 8)) (c156) (2) ([]) ([]) (own_modE p4 _ 8 (by decide) (by decide)) (rfl) (rfl) (hc157) (hc157.2.1) (by simp) (by decide)) (argsL := [(.ref r141), (.int ((p4 &&& (2147483647 : Int32)) % (8 : Int32))), (.int (Int32.ofNat c156)), (.int (2 : Int32))]) (rest := []) rfl rfl pd_2 rfl (W := 0) rfl (by decide) (by decide) (cells' := 1) (slots' := 7) rfl rfl (by decide) (by decide) (Ret.k (S' := [(.int (1 : Int32))]) rfl ?_)
      refine Run.as (D' := ([], [(r141, .byte, [(.int c142.toInt8.toInt32), (.int c144.toInt8.toInt32), (.int c146.toInt8.toInt32), (.int c148.toInt8.toInt32), (.int c150.toInt8.toInt32), (.int c152.toInt8.toInt32), (.int c154.toInt8.toInt32)])])) rfl ?_
      refine Run.ifcF K at_219 (pT := 279) (pF := 222) (by decide) (by decide) rfl (show ¬ ((1 : Int32) = (0 : Int32)) from by decide) ?_
      refine Run.aload K at_222 (pc' := 224) rfl rfl rfl ?_
      refine Run.iload K at_224 (pc' := 226) rfl rfl ?_
      refine Run.iload K at_226 (pc' := 228) rfl rfl ?_
      refine Run.iconst K at_228 (pc' := 229) rfl (v := (3 : Int32)) rfl ?_
      refine Run.callS K at_229 (pc' := 232) rfl (hw _ (List.mem_of_getElem? (i := 6) rfl)) (hw _ (List.mem_of_getElem? (i := 7) rfl)) (hw _ (List.mem_of_getElem? (i := 8) rfl)) (hw _ (List.mem_of_getElem? (i := 9) rfl)) (by decide) (rm2 l Z a0 n0 hw [] (r141) (((p4 &&& (2147483647 : Int32)) % (8 : Int32))) ((Int32.ofNat c156)) ((3 : Int32)) ([c142.toInt8.toInt32, c144.toInt8.toInt32, c146.toInt8.toInt32, c148.toInt8.toInt32, c150.toInt8.toInt32, c152.toInt8.toInt32, c154.toInt8.toInt32]) ((own_mod p4 8)) (c156) (3) ([]) ([]) (own_modE p4 _ 8 (by decide) (by decide)) (rfl) (rfl) (hc157) (hc157.2.1) (by simp) (by decide)) (argsL := [(.ref r141), (.int ((p4 &&& (2147483647 : Int32)) % (8 : Int32))), (.int (Int32.ofNat c156)), (.int (3 : Int32))]) (rest := []) rfl rfl pd_2 rfl (W := 0) rfl (by decide) (by decide) (cells' := 1) (slots' := 7) rfl rfl (by decide) (by decide) (Ret.k (S' := [(.int (1 : Int32))]) rfl ?_)
      refine Run.as (D' := ([], [(r141, .byte, [(.int c142.toInt8.toInt32), (.int c144.toInt8.toInt32), (.int c146.toInt8.toInt32), (.int c148.toInt8.toInt32), (.int c150.toInt8.toInt32), (.int c152.toInt8.toInt32), (.int c154.toInt8.toInt32)])])) rfl ?_
      refine Run.ifcF K at_232 (pT := 279) (pF := 235) (by decide) (by decide) rfl (show ¬ ((1 : Int32) = (0 : Int32)) from by decide) ?_
      refine Run.aload K at_235 (pc' := 237) rfl rfl rfl ?_
      refine Run.iload K at_237 (pc' := 239) rfl rfl ?_
      refine Run.iload K at_239 (pc' := 241) rfl rfl ?_
      refine Run.iconst K at_241 (pc' := 242) rfl (v := (4 : Int32)) rfl ?_
      refine Run.callS K at_242 (pc' := 245) rfl (hw _ (List.mem_of_getElem? (i := 6) rfl)) (hw _ (List.mem_of_getElem? (i := 7) rfl)) (hw _ (List.mem_of_getElem? (i := 8) rfl)) (hw _ (List.mem_of_getElem? (i := 9) rfl)) (by decide) (rm2 l Z a0 n0 hw [] (r141) (((p4 &&& (2147483647 : Int32)) % (8 : Int32))) ((Int32.ofNat c156)) ((4 : Int32)) ([c142.toInt8.toInt32, c144.toInt8.toInt32, c146.toInt8.toInt32, c148.toInt8.toInt32, c150.toInt8.toInt32, c152.toInt8.toInt32, c154.toInt8.toInt32]) ((own_mod p4 8)) (c156) (4) ([]) ([]) (own_modE p4 _ 8 (by decide) (by decide)) (rfl) (rfl) (hc157) (hc157.2.1) (by simp) (by decide)) (argsL := [(.ref r141), (.int ((p4 &&& (2147483647 : Int32)) % (8 : Int32))), (.int (Int32.ofNat c156)), (.int (4 : Int32))]) (rest := []) rfl rfl pd_2 rfl (W := 0) rfl (by decide) (by decide) (cells' := 1) (slots' := 7) rfl rfl (by decide) (by decide) (Ret.k (S' := [(.int (1 : Int32))]) rfl ?_)
      refine Run.as (D' := ([], [(r141, .byte, [(.int c142.toInt8.toInt32), (.int c144.toInt8.toInt32), (.int c146.toInt8.toInt32), (.int c148.toInt8.toInt32), (.int c150.toInt8.toInt32), (.int c152.toInt8.toInt32), (.int c154.toInt8.toInt32)])])) rfl ?_
      refine Run.ifcF K at_245 (pT := 279) (pF := 248) (by decide) (by decide) rfl (show ¬ ((1 : Int32) = (0 : Int32)) from by decide) ?_
      refine Run.aload K at_248 (pc' := 250) rfl rfl rfl ?_
      refine Run.iload K at_250 (pc' := 252) rfl rfl ?_
      refine Run.iload K at_252 (pc' := 254) rfl rfl ?_
      refine Run.iconst K at_254 (pc' := 255) rfl (v := (5 : Int32)) rfl ?_
      refine Run.callS K at_255 (pc' := 258) rfl (hw _ (List.mem_of_getElem? (i := 6) rfl)) (hw _ (List.mem_of_getElem? (i := 7) rfl)) (hw _ (List.mem_of_getElem? (i := 8) rfl)) (hw _ (List.mem_of_getElem? (i := 9) rfl)) (by decide) (rm2 l Z a0 n0 hw [] (r141) (((p4 &&& (2147483647 : Int32)) % (8 : Int32))) ((Int32.ofNat c156)) ((5 : Int32)) ([c142.toInt8.toInt32, c144.toInt8.toInt32, c146.toInt8.toInt32, c148.toInt8.toInt32, c150.toInt8.toInt32, c152.toInt8.toInt32, c154.toInt8.toInt32]) ((own_mod p4 8)) (c156) (5) ([]) ([]) (own_modE p4 _ 8 (by decide) (by decide)) (rfl) (rfl) (hc157) (hc157.2.1) (by simp) (by decide)) (argsL := [(.ref r141), (.int ((p4 &&& (2147483647 : Int32)) % (8 : Int32))), (.int (Int32.ofNat c156)), (.int (5 : Int32))]) (rest := []) rfl rfl pd_2 rfl (W := 0) rfl (by decide) (by decide) (cells' := 1) (slots' := 7) rfl rfl (by decide) (by decide) (Ret.k (S' := [(.int (1 : Int32))]) rfl ?_)
      refine Run.as (D' := ([], [(r141, .byte, [(.int c142.toInt8.toInt32), (.int c144.toInt8.toInt32), (.int c146.toInt8.toInt32), (.int c148.toInt8.toInt32), (.int c150.toInt8.toInt32), (.int c152.toInt8.toInt32), (.int c154.toInt8.toInt32)])])) rfl ?_
      refine Run.ifcF K at_258 (pT := 279) (pF := 261) (by decide) (by decide) rfl (show ¬ ((1 : Int32) = (0 : Int32)) from by decide) ?_
      refine Run.aload K at_261 (pc' := 263) rfl rfl rfl ?_
      refine Run.iload K at_263 (pc' := 265) rfl rfl ?_
      refine Run.iload K at_265 (pc' := 267) rfl rfl ?_
      refine Run.bipush K at_267 (pc' := 269) rfl (v := (6 : Int32)) rfl ?_
      refine Run.callS K at_269 (pc' := 272) rfl (hw _ (List.mem_of_getElem? (i := 6) rfl)) (hw _ (List.mem_of_getElem? (i := 7) rfl)) (hw _ (List.mem_of_getElem? (i := 8) rfl)) (hw _ (List.mem_of_getElem? (i := 9) rfl)) (by decide) (rm2 l Z a0 n0 hw [] (r141) (((p4 &&& (2147483647 : Int32)) % (8 : Int32))) ((Int32.ofNat c156)) ((6 : Int32)) ([c142.toInt8.toInt32, c144.toInt8.toInt32, c146.toInt8.toInt32, c148.toInt8.toInt32, c150.toInt8.toInt32, c152.toInt8.toInt32, c154.toInt8.toInt32]) ((own_mod p4 8)) (c156) (6) ([]) ([]) (own_modE p4 _ 8 (by decide) (by decide)) (rfl) (rfl) (hc157) (hc157.2.1) (by simp) (by decide)) (argsL := [(.ref r141), (.int ((p4 &&& (2147483647 : Int32)) % (8 : Int32))), (.int (Int32.ofNat c156)), (.int (6 : Int32))]) (rest := []) rfl rfl pd_2 rfl (W := 0) rfl (by decide) (by decide) (cells' := 1) (slots' := 7) rfl rfl (by decide) (by decide) (Ret.k (S' := [(.int (1 : Int32))]) rfl ?_)
      refine Run.as (D' := ([], [(r141, .byte, [(.int c142.toInt8.toInt32), (.int c144.toInt8.toInt32), (.int c146.toInt8.toInt32), (.int c148.toInt8.toInt32), (.int c150.toInt8.toInt32), (.int c152.toInt8.toInt32), (.int c154.toInt8.toInt32)])])) rfl ?_
      refine Run.ifcF K at_272 (pT := 279) (pF := 275) (by decide) (by decide) rfl (show ¬ ((1 : Int32) = (0 : Int32)) from by decide) ?_
      refine Run.iconst K at_275 (pc' := 276) rfl (v := (1 : Int32)) rfl ?_
      refine Run.goto K at_276 (pc' := 280) (by decide) (by decide) ?_
      exact Run.retN K at_280 (w := (1 : Int32)) rfl (by decide) (by decide) (by decide) (by decide) rfl
    · skip
      refine Run.icmp K at_167 (pT := 183) (pF := 170) (by decide) (by decide) rfl (fun (h167_161 : (7 : Int32) ≤ (Int32.ofNat c156)) => ?_) (fun (h167_161 : ¬ ((7 : Int32) ≤ (Int32.ofNat c156))) => ?_)
      · skip
        exact J167
      · skip
        refine Run.aload K at_170 (pc' := 172) rfl rfl rfl ?_
        refine Run.iload K at_172 (pc' := 174) rfl rfl ?_
        refine Run.baload K at_174 (pc' := 175) rfl (i := 0) (q := c156) rfl (own_nn (own_rs (bs := [c142.toInt8.toInt32, c144.toInt8.toInt32, c146.toInt8.toInt32, c148.toInt8.toInt32, c150.toInt8.toInt32, c152.toInt8.toInt32, c154.toInt8.toInt32]) hc157.2.1 (by simp))) (own_clamp (own_rs (bs := [c142.toInt8.toInt32, c144.toInt8.toInt32, c146.toInt8.toInt32, c148.toInt8.toInt32, c150.toInt8.toInt32, c152.toInt8.toInt32, c154.toInt8.toInt32]) hc157.2.1 (by simp))) (v := (.int ([c142.toInt8.toInt32, c144.toInt8.toInt32, c146.toInt8.toInt32, c148.toInt8.toInt32, c150.toInt8.toInt32, c152.toInt8.toInt32, c154.toInt8.toInt32].getD c156 0))) (own_at (bs := [c142.toInt8.toInt32, c144.toInt8.toInt32, c146.toInt8.toInt32, c148.toInt8.toInt32, c150.toInt8.toInt32, c152.toInt8.toInt32, c154.toInt8.toInt32]) (own_inb (bs := [c142.toInt8.toInt32, c144.toInt8.toInt32, c146.toInt8.toInt32, c148.toInt8.toInt32, c150.toInt8.toInt32, c152.toInt8.toInt32, c154.toInt8.toInt32]) hc157.2.1 (by simp) h167_161)) ?_
        refine Run.callS K at_175 (pc' := 178) rfl (hw _ (List.mem_of_getElem? (i := 13) rfl)) (hw _ (List.mem_of_getElem? (i := 14) rfl)) (hw _ (List.mem_of_getElem? (i := 8) rfl)) (hw _ (List.mem_of_getElem? (i := 15) rfl)) (by decide) (rm4 l Z a0 n0 hw [] (([c142.toInt8.toInt32, c144.toInt8.toInt32, c146.toInt8.toInt32, c148.toInt8.toInt32, c150.toInt8.toInt32, c152.toInt8.toInt32, c154.toInt8.toInt32].getD c156 0)) ([]) ([(r141, .byte, [(.int c142.toInt8.toInt32), (.int c144.toInt8.toInt32), (.int c146.toInt8.toInt32), (.int c148.toInt8.toInt32), (.int c150.toInt8.toInt32), (.int c152.toInt8.toInt32), (.int c154.toInt8.toInt32)])]) ) (argsL := [(.int ([c142.toInt8.toInt32, c144.toInt8.toInt32, c146.toInt8.toInt32, c148.toInt8.toInt32, c150.toInt8.toInt32, c152.toInt8.toInt32, c154.toInt8.toInt32].getD c156 0))]) (rest := []) rfl rfl pd_0 rfl (W := 0) rfl (by decide) (by decide) (cells' := 1) (slots' := 7) rfl rfl (by decide) (by decide) ?_
        intro vq Dq hq
        obtain ⟨c163, hc164, rfl, rfl⟩ := hq
        refine Run.as2 (D' := ([], [(r141, .byte, [(.int c142.toInt8.toInt32), (.int c144.toInt8.toInt32), (.int c146.toInt8.toInt32), (.int c148.toInt8.toInt32), (.int c150.toInt8.toInt32), (.int c152.toInt8.toInt32), (.int c154.toInt8.toInt32)])])) (S' := [(.int c163)]) rfl rfl ?_
        refine Run.ifcT K at_178 (pT := 183) (pF := 181) (by decide) (by decide) rfl (show c163 = (0 : Int32) from own_nb (bs := [c142.toInt8.toInt32, c144.toInt8.toInt32, c146.toInt8.toInt32, c148.toInt8.toInt32, c150.toInt8.toInt32, c152.toInt8.toInt32, c154.toInt8.toInt32]) hc157 (own_inb (bs := [c142.toInt8.toInt32, c144.toInt8.toInt32, c146.toInt8.toInt32, c148.toInt8.toInt32, c150.toInt8.toInt32, c152.toInt8.toInt32, c154.toInt8.toInt32]) hc157.2.1 (by simp) h167_161) hc164) ?_
        exact J167
set_option maxRecDepth 65536 in
set_option maxHeartbeats 40000000 in
theorem comes_1 {Post : Tables → Env → Array Value → State → Outcome → State → Prop} (hpost : ∀ tb e args s v u, (limb_1_1.after args s (.returned v) u = true ∧ limb_1_2.after args s (.returned v) u = true ∧ True) → FrameEnd s (.returned v) u (Jvm.fieldLocs frame_1_writes args s ++ Jvm.arrayLocs frame_1_arrays args s ++ Jvm.staticLocs frame_1_statics s) 16 128 → Post tb e args s (.returned v) u) :
    ArmFor flags0 classFile x code maxLocals ret World_1 tables_1 room_1 Calls_1 rest_1 Pre_1 Post := by
  intro l hfl _ _ p e ha hc hk s m args below hf hA hF happ hP
  obtain ⟨hcalls, hrest, hpre⟩ := hP
  obtain ⟨-, -, -, hnamed, -, -, -, hat⟩ := (Spec.applies_iff hf).mp happ
  obtain ⟨hg, hn⟩ := and_e (Cond.before_iff.mp (show (Jvm.Cond.and given_1 narrow_1).before args s = true from hpre))
  obtain ⟨g0, q0⟩ := and_e hg
  obtain ⟨w0, w1, w2, w3, rfl⟩ : ∃ w0 w1 w2 w3 : Value, args = #[w0, w1, w2, w3] := by
    have hs : args.size = 4 := by simpa [Cond.value, given_1] using g0
    obtain ⟨L⟩ := args
    match L, hs with
    | [w0, w1, w2, w3], _ => exact ⟨w0, w1, w2, w3, rfl⟩
  have hw := fun d (hd : d ∈ tables_1) => atoms_spec (ws := Jvm.Cond.code x code maxLocals ret :: tables_1) hat d (List.mem_cons_of_mem _ hd)
  obtain ⟨f0, q1⟩ := and_e q0
  obtain ⟨i0, e0⟩ := is_v f0
  obtain rfl : w0 = (.int i0) := Option.some.inj e0
  obtain ⟨f1, q2⟩ := and_e q1
  obtain ⟨i1, e1⟩ := is_v f1
  obtain rfl : w1 = (.int i1) := Option.some.inj e1
  obtain ⟨f2, q3⟩ := and_e q2
  obtain ⟨i2, e2⟩ := isL_v f2
  obtain rfl : w2 = (.long i2) := Option.some.inj e2
  obtain ⟨i3, e3⟩ := is_v q3
  obtain rfl : w3 = (.int i3) := Option.some.inj e3
  obtain ⟨n, o, h1, h2, h3, _, L, rfl, ⟨N, D', rfl, -⟩, hq⟩ := rm0 l s _ s.heap.size hw tables_1 i0 i1 i2 i3 s.heap ⟨Old.start s, fun _ h => (nomatch h), fun _ h => (nomatch h), List.nodup_nil⟩ p e ha hc hk s m _ below hf ((Spec.applies_iff_loose hf).mp happ).1 ⟨rfl, State.Warmed39.refl s, rfl⟩ trivial
  refine ⟨n, _, h1, h2, h3, hpost _ _ _ _ _ _ ⟨Cond.after_iff.mpr rfl, Cond.after_iff.mpr (eq_i res_at (Term.int_eval (1)) rfl), trivial⟩ ⟨hq.1, hq.2.1, (hq.2.2.sift fun y hy => Or.inr (N y hy)).mono (by decide) (by decide)⟩⟩
theorem main_1_1 : Claimed_1_1 := comes_1 fun _ _ _ _ _ _ h hF => ⟨h.1, hF⟩
theorem main_1_2 : Claimed_1_2 := comes_1 fun _ _ _ _ _ _ h hF => ⟨h.2.1, hF⟩
end Jvm.Pilot.@@N@@
namespace Jvm.Pilot.@@N@@
open Jvm Jvm.ClassFile Sem Op Lib Jvm.Free Jvm.Stand Jvm.Pilot.@@N@@.Jvm.D
/-! MADE BY PROGRAM (witnessworld.py) out of the Statement's table words and the real class files: 9 classes; the members and pool entries that the words name. The judged class is class 1, her method 4. -/
namespace start1
open Jvm.ClassFile
def u (s : String) : CpInfo := .utf8 (stringToUtf16 s)
/-- a pool by its gaps: so many unusable entries, then the entry; so many at the end -/
def gap : Nat → List CpInfo → List CpInfo
  | 0, r => r
  | n + 1, r => .unusable :: gap n r
def poolList (es : List (Nat × CpInfo)) (last : Nat) : List CpInfo := es.foldr (fun e r => gap e.1 (e.2 :: r)) (gap last [])
def pool (es : List (Nat × CpInfo)) (last : Nat) : Array CpInfo := ⟨poolList es last⟩
def fileOf (pool : Array CpInfo) (this : Nat) (attrs : Array Attribute := #[]) (ms : Array MethodInfo := #[]) (fl : Nat := 33) (sup : Nat := 0) (ifs : Array Nat := #[]) (fds : Array FieldInfo := #[]) : ClassFile where
  minorVersion := 0
  majorVersion := 65
  constantPool := pool
  accessFlags := fl
  thisClass := this
  superClass := sup
  interfaces := ifs
  fields := fds
  methods := ms
  attributes := attrs
def plain (name : String) (sup : Option ClassId) : Class where
  name := name
  kind := .ordinary
  loader := none
  accessFlags := 33
  super := sup
  interfaces := #[]
  cf := none
  fields := #[]
  methods := #[]
  instanceTypes := #[]
  staticTypes := #[]
  resolved := #[]
  callSites := []
  init := .initialized
  statics := none
  mirror := none

def pool0 : Array CpInfo := pool [(5, u "<init>"), (0, u "()V"), (1, .class_ 10), (1, u "java/lang/Object")] 113

def k0m0 : Method := { name := "<init>", desc := "()V", sig := { parameters := [], returnType := none }, accessFlags := 1, code := none }
/-- java/lang/Object -/
def k0 : Class := { plain "java/lang/Object" none with
  accessFlags := 33
  interfaces := #[]
  cf := some (fileOf pool0 8 #[] #[{ accessFlags := 1, nameIndex := 5, descriptorIndex := 6, attributes := #[] }] 33 0 #[] #[])
  fields := #[]
  methods := #[k0m0]
  instanceTypes := #[]
  staticTypes := #[]
  resolved := Array.replicate 124 none
  statics := none }

def pool1 : Array CpInfo := pool [(2, .class_ 4), (1, u "java/lang/Object"), (0, u "<init>"), (0, u "()V"), (0, .methodref 8 9), (0, .class_ 10), (0, .nameAndType 11 12), (0, u "com/example/estafeta/estafeta/SegmentNextPinLaw"), (0, u "isBreak"), (0, u "(B)Z"), (0, .methodref 8 14), (0, .nameAndType 15 16), (0, u "pick"), (0, u "(IJI)B"), (0, .integer 2147483647), (0, .methodref 19 20), (0, .class_ 21), (0, .nameAndType 22 23), (0, u "com/example/estafeta/estafeta/Segment"), (0, u "next"), (0, u "([BI)I"), (0, .methodref 8 25), (0, .nameAndType 26 27), (0, u "skipped"), (0, u "([BIII)Z"), (3, u "law"), (0, u "(IIJI)Z")] 4

def k1m0 : Method := { name := "<init>", desc := "()V", sig := { parameters := [], returnType := none }, accessFlags := 1, code := none }
def k1c1 : Code := { maxStack := 2, maxLocals := 1, code := method_2_code, exceptionTable := #[], attributes := #[] }
def k1m1 : Method := { name := "isBreak", desc := "(B)Z", sig := { parameters := [.byte], returnType := some .boolean }, accessFlags := 10, code := some k1c1 }
def k1c2 : Code := { maxStack := 4, maxLocals := 5, code := method_3_code, exceptionTable := #[], attributes := #[] }
def k1m2 : Method := { name := "pick", desc := "(IJI)B", sig := { parameters := [.int, .long, .int], returnType := some .byte }, accessFlags := 10, code := some k1c2 }
def k1c3 : Code := { maxStack := 2, maxLocals := 4, code := method_4_code, exceptionTable := #[], attributes := #[] }
def k1m3 : Method := { name := "skipped", desc := "([BIII)Z", sig := { parameters := [(.array .byte), .int, .int, .int], returnType := some .boolean }, accessFlags := 10, code := some k1c3 }
def k1c4 : Code := { maxStack := 6, maxLocals := 9, code := code, exceptionTable := #[], attributes := #[] }
def k1m4 : Method := { name := "law", desc := "(IIJI)Z", sig := { parameters := [.int, .int, .long, .int], returnType := some .boolean }, accessFlags := 9, code := some k1c4 }
/-- com/example/estafeta/estafeta/SegmentNextPinLaw -/
def k1 : Class := { plain "com/example/estafeta/estafeta/SegmentNextPinLaw" (some 0) with
  accessFlags := 49
  interfaces := #[]
  cf := some (fileOf pool1 8 #[] #[{ accessFlags := 1, nameIndex := 5, descriptorIndex := 6, attributes := #[] }, { accessFlags := 10, nameIndex := 11, descriptorIndex := 12, attributes := #[] }, { accessFlags := 10, nameIndex := 15, descriptorIndex := 16, attributes := #[] }, { accessFlags := 10, nameIndex := 26, descriptorIndex := 27, attributes := #[] }, { accessFlags := 9, nameIndex := 31, descriptorIndex := 32, attributes := #[] }] 49 2 #[] #[])
  fields := #[]
  methods := #[k1m0, k1m1, k1m2, k1m3, k1m4]
  instanceTypes := #[]
  staticTypes := #[]
  resolved := Array.replicate 37 none
  statics := none }

def pool2 : Array CpInfo := pool [(2, .class_ 4), (1, u "java/lang/Object"), (3, .class_ 10), (1, u "com/example/estafeta/estafeta/Segment"), (0, u "message"), (0, u "[B"), (2, u "encoding"), (0, u "Lcom/example/estafeta/estafeta/Encoding;"), (2, u "name"), (0, u "Ljava/lang/String;"), (2, u "fields"), (0, u "I"), (2, u "end"), (10, u "first"), (2, u "foundNumber"), (2, u "foundStart"), (15, u "([BI)I"), (9, u "next"), (36, u "NONE"), (32, .class_ 141), (0, u "com/example/estafeta/estafeta/Segment$Repetitions"), (10, u "HEADER"), (24, .class_ 178), (0, u "com/example/estafeta/estafeta/Segment$Repetitions$1")] 2

def k2c0 : Code := { maxStack := 2, maxLocals := 3, code := prog_80_method_4_code, exceptionTable := #[], attributes := #[] }
def k2m0 : Method := { name := "next", desc := "([BI)I", sig := { parameters := [(.array .byte), .int], returnType := some .int }, accessFlags := 8, code := some k2c0 }
/-- com/example/estafeta/estafeta/Segment -/
def k2 : Class := { plain "com/example/estafeta/estafeta/Segment" (some 0) with
  accessFlags := 48
  interfaces := #[]
  cf := some (fileOf pool2 8 #[.nestMembers #[140, 177]] #[{ accessFlags := 8, nameIndex := 70, descriptorIndex := 60, attributes := #[] }] 48 2 #[] #[{ accessFlags := 26, nameIndex := 107, descriptorIndex := 12, attributes := #[] }, { accessFlags := 26, nameIndex := 152, descriptorIndex := 20, attributes := #[] }, { accessFlags := 18, nameIndex := 11, descriptorIndex := 12, attributes := #[] }, { accessFlags := 18, nameIndex := 15, descriptorIndex := 16, attributes := #[] }, { accessFlags := 18, nameIndex := 19, descriptorIndex := 20, attributes := #[] }, { accessFlags := 18, nameIndex := 23, descriptorIndex := 24, attributes := #[] }, { accessFlags := 18, nameIndex := 27, descriptorIndex := 24, attributes := #[] }, { accessFlags := 18, nameIndex := 38, descriptorIndex := 24, attributes := #[] }, { accessFlags := 2, nameIndex := 41, descriptorIndex := 24, attributes := #[] }, { accessFlags := 2, nameIndex := 44, descriptorIndex := 24, attributes := #[] }])
  fields := #[{ name := "NONE", type := (.array .byte), accessFlags := 26, slot := 0, constantValue := 0 }, { name := "HEADER", type := (.object "java/lang/String"), accessFlags := 26, slot := 1, constantValue := 0 }, { name := "message", type := (.array .byte), accessFlags := 18, slot := 0, constantValue := 0 }, { name := "encoding", type := (.object "com/example/estafeta/estafeta/Encoding"), accessFlags := 18, slot := 1, constantValue := 0 }, { name := "name", type := (.object "java/lang/String"), accessFlags := 18, slot := 2, constantValue := 0 }, { name := "fields", type := .int, accessFlags := 18, slot := 3, constantValue := 0 }, { name := "end", type := .int, accessFlags := 18, slot := 4, constantValue := 0 }, { name := "first", type := .int, accessFlags := 18, slot := 5, constantValue := 0 }, { name := "foundNumber", type := .int, accessFlags := 2, slot := 6, constantValue := 0 }, { name := "foundStart", type := .int, accessFlags := 2, slot := 7, constantValue := 0 }]
  methods := #[k2m0]
  instanceTypes := #[(.array .byte), (.object "com/example/estafeta/estafeta/Encoding"), (.object "java/lang/String"), .int, .int, .int, .int, .int]
  staticTypes := #[(.array .byte), (.object "java/lang/String")]
  resolved := Array.replicate 181 none
  statics := none }

def pool3 : Array CpInfo := pool [(1, u "java/lang/Cloneable"), (0, .class_ 1), (0, u "java/lang/Object"), (0, .class_ 3)] 3

/-- java/lang/Cloneable -/
def k3 : Class := { plain "java/lang/Cloneable" (some 0) with
  accessFlags := 1537
  interfaces := #[]
  cf := some (fileOf pool3 2 #[] #[] 1537 4 #[] #[])
  fields := #[]
  methods := #[]
  instanceTypes := #[]
  staticTypes := #[]
  resolved := Array.replicate 8 none
  statics := none }

def pool4 : Array CpInfo := pool [(1, u "java/io/Serializable"), (0, .class_ 1), (0, u "java/lang/Object"), (0, .class_ 3)] 3

/-- java/io/Serializable -/
def k4 : Class := { plain "java/io/Serializable" (some 0) with
  accessFlags := 1537
  interfaces := #[]
  cf := some (fileOf pool4 2 #[] #[] 1537 4 #[] #[])
  fields := #[]
  methods := #[]
  instanceTypes := #[]
  staticTypes := #[]
  resolved := Array.replicate 8 none
  statics := none }

/-- the primitive byte -/
def k5 : Class := { plain "byte" none with kind := .primitive 'B', accessFlags := 0x411 }
/-- [B -/
def k6 : Class := { plain "[B" (some 0) with kind := .array 5 .byte, interfaces := #[3, 4], accessFlags := 1041 }

/-- the primitive int -/
def k7 : Class := { plain "int" none with kind := .primitive 'I', accessFlags := 0x411 }
/-- [I -/
def k8 : Class := { plain "[I" (some 0) with kind := .array 7 .int, interfaces := #[3, 4], accessFlags := 1041 }

def heap : Heap := #[]
def classes : Array Class := #[k0, k1, k2, k3, k4, k5, k6, k7, k8]
def interned : List (Array UInt16 × Addr) := []
def slotsUsed : Nat := 0
def theMethod : MethodId := ⟨1, 4⟩
def args0 : Array Value := #[.int 5, .int 5, .long 5, .int 5]
def aboutOver (below : List Frame) : State where
  vm := { classes := classes, interned := interned.toArray }
  heap := heap
  slotsUsed := slotsUsed
  threads := #[{ frames := .invoking theMethod args0 :: below }]
def below0 : List Frame := [.native { method := ⟨0, 0⟩, args := #[] }]
def about1 : State := aboutOver below0
def p0 : Program := .bare "" "" ""
def e0 : Env := launch0.env 0 0 0
theorem w_frames : about1.frames = Frame.invoking theMethod args0 :: below0 := rfl
set_option maxRecDepth 65536 in
theorem w_args : argsFit about1.vm theMethod args0 = true := by decide +kernel
set_option maxRecDepth 65536 in
theorem w_heap : heapFits about1 = true := by decide +kernel
set_option maxRecDepth 65536 in
theorem w_runnable : about1.curStatus? = some .runnable := by decide +kernel
set_option maxRecDepth 65536 in
theorem w_alone : about1.alone = true := by decide +kernel
set_option maxRecDepth 65536 in
theorem w_named : about1.methodNamed? x = some theMethod := by decide +kernel
set_option maxRecDepth 65536 in
theorem w_hears : about1.hears theMethod below0 = true := by decide +kernel
set_option maxRecDepth 65536 in
theorem w_ripe : about1.ripe theMethod args0 below0 = true := by decide +kernel
theorem w_running : about1.status = .running := rfl
set_option maxRecDepth 65536 in
theorem w_room : about1.hasRoom e0.platform room_1 = true :=
  launch0.hasRoom_least _ room_1 (by decide +kernel) (by decide +kernel) (by decide +kernel) (by decide +kernel) (by decide +kernel) (by decide +kernel)
theorem allAtoms_all (ts : List Jvm.Cond) (a : Array Jvm.Value) (st : Jvm.State) : (allAtoms ts).before a st = ts.all (fun c => c.before a st) := by
  induction ts with
  | nil => rfl
  | cons c t ih =>
    show (Jvm.Cond.and c (allAtoms t)).before a st = _
    rw [Jvm.Cond.before_and, ih, List.all_cons]
def words1 : List Jvm.Cond := Jvm.Cond.code x code maxLocals ret :: tables_1
/-- a 'code' word, met by the world's own term for the bytes: nothing is compared byte by byte -/
theorem code_word {y : MethodName} {bytes : ByteArray} {mx : Nat} {rt : Option FieldType} {a : Array Value} {s : State} {m : MethodId} {meth : Method} {c : Code} (h1 : s.methodNamed? y = some m) (h2 : s.vm.method? m = some meth) (h3 : meth.code = some c) (h4 : c.code = bytes)
    (h5 : (c.maxLocals == mx && c.exceptionTable.isEmpty && decide (c.maxStack ≤ mostOperands) && decide (meth.sig.returnType = rt) && !meth.locks && decide (parseMethodDescriptor y.desc = some meth.sig)) = true) : (Jvm.Cond.code y bytes mx rt).before a s = true := by
  simp only [Bool.and_eq_true, beq_iff_eq, Bool.not_eq_true', decide_eq_true_eq] at h5
  obtain ⟨⟨⟨⟨⟨g1, g2⟩, g3⟩, g4⟩, g5⟩, g6⟩ := h5
  simp [Cond.before, Cond.holds, Cond.value, h1, h2, h3, h4, g1, g2, g3, g4, g5, g6]
def isCode : Jvm.Cond → Bool
  | .code _ _ _ _ => true
  | _ => false
theorem all_split {L : List Jvm.Cond} {P : Jvm.Cond → Bool} (h1 : L.all (fun c => isCode c || P c) = true) (h2 : ∀ c ∈ L.filter isCode, P c = true) : L.all P = true := by
  refine List.all_eq_true.mpr fun c hc => ?_
  have h := List.all_eq_true.mp h1 c hc
  rcases Bool.eq_false_or_eq_true (isCode c) with hi | hi
  · exact h2 c (List.mem_filter.mpr ⟨hc, hi⟩)
  · simpa [hi] using h
set_option maxRecDepth 65536 in
theorem w_c0 : (Jvm.Cond.code x code maxLocals ret).before args0 about1 = true := code_word (m := ⟨1, 4⟩) (meth := k1m4) (c := k1c4) (by decide +kernel) rfl rfl rfl (by decide +kernel)
set_option maxRecDepth 65536 in
theorem w_c1 : (Jvm.Cond.code ({ cls := "com/example/estafeta/estafeta/Segment", name := "next", desc := "([BI)I" } : Jvm.MethodName) prog_80_method_4_code (3 : Nat) (Option.some Jvm.ClassFile.FieldType.int)).before args0 about1 = true := code_word (m := ⟨2, 0⟩) (meth := k2m0) (c := k2c0) (by decide +kernel) rfl rfl rfl (by decide +kernel)
set_option maxRecDepth 65536 in
theorem w_c2 : (Jvm.Cond.code ({ cls := "com/example/estafeta/estafeta/SegmentNextPinLaw", name := "skipped", desc := "([BIII)Z" } : Jvm.MethodName) method_4_code (4 : Nat) (Option.some Jvm.ClassFile.FieldType.boolean)).before args0 about1 = true := code_word (m := ⟨1, 3⟩) (meth := k1m3) (c := k1c3) (by decide +kernel) rfl rfl rfl (by decide +kernel)
set_option maxRecDepth 65536 in
theorem w_c3 : (Jvm.Cond.code ({ cls := "com/example/estafeta/estafeta/SegmentNextPinLaw", name := "pick", desc := "(IJI)B" } : Jvm.MethodName) method_3_code (5 : Nat) (Option.some Jvm.ClassFile.FieldType.byte)).before args0 about1 = true := code_word (m := ⟨1, 2⟩) (meth := k1m2) (c := k1c2) (by decide +kernel) rfl rfl rfl (by decide +kernel)
set_option maxRecDepth 65536 in
theorem w_c4 : (Jvm.Cond.code ({ cls := "com/example/estafeta/estafeta/SegmentNextPinLaw", name := "isBreak", desc := "(B)Z" } : Jvm.MethodName) method_2_code (1 : Nat) (Option.some Jvm.ClassFile.FieldType.boolean)).before args0 about1 = true := code_word (m := ⟨1, 1⟩) (meth := k1m1) (c := k1c1) (by decide +kernel) rfl rfl rfl (by decide +kernel)
def codes1 : List Jvm.Cond := [Jvm.Cond.code x code maxLocals ret, Jvm.Cond.code ({ cls := "com/example/estafeta/estafeta/Segment", name := "next", desc := "([BI)I" } : Jvm.MethodName) prog_80_method_4_code (3 : Nat) (Option.some Jvm.ClassFile.FieldType.int), Jvm.Cond.code ({ cls := "com/example/estafeta/estafeta/SegmentNextPinLaw", name := "skipped", desc := "([BIII)Z" } : Jvm.MethodName) method_4_code (4 : Nat) (Option.some Jvm.ClassFile.FieldType.boolean), Jvm.Cond.code ({ cls := "com/example/estafeta/estafeta/SegmentNextPinLaw", name := "pick", desc := "(IJI)B" } : Jvm.MethodName) method_3_code (5 : Nat) (Option.some Jvm.ClassFile.FieldType.byte), Jvm.Cond.code ({ cls := "com/example/estafeta/estafeta/SegmentNextPinLaw", name := "isBreak", desc := "(B)Z" } : Jvm.MethodName) method_2_code (1 : Nat) (Option.some Jvm.ClassFile.FieldType.boolean)]
set_option maxRecDepth 65536 in
theorem codes_eq : words1.filter isCode = codes1 := rfl
theorem w_codes : ∀ c ∈ words1.filter isCode, c.before args0 about1 = true := by
  rw [codes_eq]
  intro c hc
  simp only [codes1, List.mem_cons, List.not_mem_nil, or_false] at hc
  rcases hc with rfl | rfl | rfl | rfl | rfl
  · exact w_c0
  · exact w_c1
  · exact w_c2
  · exact w_c3
  · exact w_c4
set_option maxRecDepth 65536 in
theorem w_t1 : words1.all (fun c => isCode c || c.before args0 about1) = true := by decide +kernel
theorem w_tables : (allAtoms (Jvm.Cond.code x code maxLocals ret :: tables_1)).before args0 about1 = true := by
  rw [allAtoms_all]
  show words1.all (fun c => c.before args0 about1) = true
  refine all_split ?_ w_codes
  rw [w_t1]
set_option maxRecDepth 65536 in
theorem w_case : (Jvm.Cond.and given_1 narrow_1).before args0 about1 = true := by decide +kernel
theorem w_applies : (headSpec (Jvm.Cond.code x code maxLocals ret :: tables_1) room_1).applies x e0.platform about1 = true :=
  (Spec.applies_iff w_frames).mpr ⟨w_running, w_runnable, w_alone, w_named, w_hears, w_ripe, w_room, w_tables⟩
theorem atStart : AtStart classFile x code maxLocals ret World_1 tables_1 room_1 Calls_1 rest_1 Pre_1 launch0 p0 e0 about1 theMethod args0 below0 :=
  ⟨lists_1, trivial, launch0.admits_env _ _ _, launch0.least_env, fairChoices_fair.cas, fairChoices_fair.clock, w_frames, w_args, w_heap, w_applies, trivial, trivial, w_case⟩
end start1
theorem witness_1 : WitnessClaimed_1 := ⟨start1.p0, start1.e0, start1.about1, start1.theMethod, start1.args0, start1.below0, start1.atStart⟩
end Jvm.Pilot.@@N@@
