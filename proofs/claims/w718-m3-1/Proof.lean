import JvmDerived
import JvmDerived.Pilot.@@N@@Statement
import JvmDerived.Pilot.@@N@@Code
set_option linter.unusedVariables false
set_option linter.unusedSimpArgs false

namespace Jvm.Own
open Jvm Jvm.ClassFile Sem Op Lib Jvm.Free Jvm.Stand Jvm.LawKit Jvm.RoadKit
/-! the heap as a law knows it: its own objects (address, class, fields) and arrays (address, kind, values) -/
abbrev OFld := String × String × String × Value
abbrev OObj := Addr × String × List OFld
abbrev OArr := Addr × FieldType × List Value
abbrev HD := List OObj × List OArr
def FldOk (Z : State) (a0 : Array Value) (h : Heap) (a : Addr) (C : String) (x : OFld) : Prop := Fld Z h a x.1 x.2.1 x.2.2.1 x.2.2.2 ∧ Laid Z a0 C x.1 x.2.1 x.2.2.1 ∧ ∃ t, parseFieldDescriptor x.2.2.1 = some t
def ObjOk (Z : State) (a0 : Array Value) (n0 : Nat) (h : Heap) (o : OObj) : Prop := n0 ≤ o.1 ∧ Exa Z h o.1 o.2.1 ∧ (∀ x ∈ o.2.2, FldOk Z a0 h o.1 o.2.1 x) ∧ (o.2.2.map fun x => x.2.1).Nodup
def ArrOk (Z : State) (n0 : Nat) (h : Heap) (r : OArr) : Prop := n0 ≤ r.1 ∧ ∃ c : Cell, Arr Z h r.1 c r.2.1 ∧ c.slots = r.2.2.toArray ∧ r.2.2.length < 2 ^ 31 ∧ ∀ v ∈ r.2.2, fits r.2.1 v = true
def adrs (D : HD) : List Addr := D.1.map (fun o => o.1) ++ D.2.map (fun r => r.1)
def Heaped (Z : State) (a0 : Array Value) (n0 : Nat) (h : Heap) (D : HD) : Prop := Old Z n0 h ∧ (∀ o ∈ D.1, ObjOk Z a0 n0 h o) ∧ (∀ r ∈ D.2, ArrOk Z n0 h r) ∧ (adrs D).Nodup
section HeapFacts
variable {Z : State} {a0 : Array Value} {n0 : Nat} {h h' : Heap} {D : HD}
theorem FldOk.ext {a : Addr} {C : String} {x : OFld} (F : FldOk Z a0 h a C x) (E : Ext h h') : FldOk Z a0 h' a C x := ⟨F.1.ext E, F.2⟩
theorem ObjOk.ext {o : OObj} (F : ObjOk Z a0 n0 h o) (E : Ext h h') : ObjOk Z a0 n0 h' o := ⟨F.1, F.2.1.ext E, fun x hx => (F.2.2.1 x hx).ext E, F.2.2.2⟩
theorem ArrOk.ext {r : OArr} (F : ArrOk Z n0 h r) (E : Ext h h') : ArrOk Z n0 h' r := by
  obtain ⟨g, c, A, q⟩ := F
  exact ⟨g, c, A.ext E, q⟩
theorem ObjOk.lt {o : OObj} (F : ObjOk Z a0 n0 h o) : o.1 < h.size := F.2.1.lt
theorem ArrOk.lt {r : OArr} (F : ArrOk Z n0 h r) : r.1 < h.size := by
  obtain ⟨g, c, A, q⟩ := F
  exact A.lt
theorem Heaped.lt (H : Heaped Z a0 n0 h D) : ∀ a ∈ adrs D, a < h.size := by
  intro a ha
  rcases List.mem_append.mp ha with q | q
  · obtain ⟨o, ho, rfl⟩ := List.mem_map.mp q
    exact (H.2.1 o ho).lt
  · obtain ⟨o, ho, rfl⟩ := List.mem_map.mp q
    exact (H.2.2.1 o ho).lt
theorem Heaped.fresh (H : Heaped Z a0 n0 h D) : h.size ∉ adrs D := fun q => Nat.lt_irrefl _ (H.lt _ q)
theorem Heaped.base (H : Heaped Z a0 n0 h D) : n0 ≤ h.size := by
  have := H.1.1
  have := H.1.2.1
  omega
theorem ObjOk.other {o : OObj} {a : Addr} {sl : Nat} {v : Value} (F : ObjOk Z a0 n0 h o) (W : Wr h h' a sl v) (q : o.1 ≠ a) : ObjOk Z a0 n0 h' o := ⟨F.1, F.2.1.wr W, fun x hx => ⟨(F.2.2.1 x hx).1.other W (Or.inl q), (F.2.2.1 x hx).2⟩, F.2.2.2⟩
theorem ArrOk.other {r : OArr} {a : Addr} {sl : Nat} {v : Value} (F : ArrOk Z n0 h r) (W : Wr h h' a sl v) (q : r.1 ≠ a) : ArrOk Z n0 h' r := by
  obtain ⟨g, c, A, z⟩ := F
  exact ⟨g, c, A.other W q, z⟩
theorem nodup_of {β γ : Type} {L : List β} {f : β → γ} (N : (L.map f).Nodup) {i j : Nat} {x z : β} (hi : L[i]? = some x) (hj : L[j]? = some z) (e : f x = f z) : i = j := by
  have P := List.pairwise_iff_getElem.mp N
  obtain ⟨li, ei⟩ := List.getElem?_eq_some_iff.mp hi
  obtain ⟨lj, ej⟩ := List.getElem?_eq_some_iff.mp hj
  rcases Nat.lt_trichotomy i j with q | q | q
  · exact absurd (by rw [List.getElem_map, List.getElem_map, ei, ej]; exact e) (P i j (by simpa using li) (by simpa using lj) q)
  · exact q
  · exact absurd (by rw [List.getElem_map, List.getElem_map, ei, ej]; exact e.symm) (P j i (by simpa using lj) (by simpa using li) q)
theorem map_set_same {β γ : Type} (L : List β) (f : β → γ) {i : Nat} {x z : β} (hi : L[i]? = some x) (e : f z = f x) : (L.set i z).map f = L.map f := by
  rw [List.map_set, e]
  obtain ⟨li, rfl⟩ := List.getElem?_eq_some_iff.mp hi
  apply List.ext_getElem?
  intro j
  by_cases q : i = j
  · subst q; simp [li]
  · simp [List.getElem?_set, q]
theorem mem_set_cases {β : Type} {L : List β} {i : Nat} {z w : β} (hw : w ∈ L.set i z) : w = z ∨ ∃ j, j ≠ i ∧ L[j]? = some w := by
  obtain ⟨j, hj⟩ := List.mem_iff_getElem?.mp hw
  rw [List.getElem?_set] at hj
  by_cases q : i = j
  · subst q
    by_cases lt : i < L.length
    · simp [lt] at hj; exact Or.inl hj.symm
    · simp [lt] at hj
  · rw [if_neg q] at hj
    exact Or.inr ⟨j, fun e => q e.symm, hj⟩
theorem Heaped.put {i j : Nat} {a : Addr} {C O n d : String} {fs : List OFld} {v w : Value} (H : Heaped Z a0 n0 h D) (hi : D.1[i]? = some (a, C, fs)) (hj : fs[j]? = some (O, n, d, w)) (W : Wr h h' a (RoadKit.slotOf Z O n d) v) :
    Heaped Z a0 n0 h' (D.1.set i (a, C, fs.set j (O, n, d, v)), D.2) := by
  have HO := H.2.1 _ (List.mem_of_getElem? hi)
  have ND := H.2.2.2
  refine ⟨H.1.wr W HO.1, fun o ho => ?_, fun r hr => ?_, ?_⟩
  · rcases mem_set_cases ho with rfl | ⟨k, hk, ek⟩
    · refine ⟨HO.1, HO.2.1.wr W, fun x hx => ?_, ?_⟩
      · rcases mem_set_cases hx with rfl | ⟨q, hq, eq⟩
        · have F := HO.2.2.1 _ (List.mem_of_getElem? hj)
          exact ⟨F.1.same W, F.2⟩
        · have F := HO.2.2.1 _ (List.mem_of_getElem? eq)
          have G := HO.2.2.1 _ (List.mem_of_getElem? hj)
          refine ⟨F.1.other W (Or.inr ?_), F.2⟩
          obtain ⟨t1, e1⟩ := F.2.2
          obtain ⟨t2, e2⟩ := G.2.2
          exact slot_ne F.2.1 G.2.1 (fun e => hq (nodup_of HO.2.2.2 eq hj e)) e1 e2
      · show ((fs.set j (O, n, d, v)).map fun x => x.2.1).Nodup
        rw [map_set_same fs (fun x => x.2.1) (z := (O, n, d, v)) hj rfl]; exact HO.2.2.2
    · refine (H.2.1 o (List.mem_of_getElem? ek)).other W fun e => hk ?_
      exact nodup_of (List.nodup_append.mp ND).1 ek hi e
  · refine (H.2.2.1 r hr).other W fun e => ?_
    exact (List.nodup_append.mp ND).2.2 a (List.mem_map.mpr ⟨_, List.mem_of_getElem? hi, rfl⟩) r.1 (List.mem_map.mpr ⟨_, hr, rfl⟩) e.symm
  · show (adrs (D.1.set i (a, C, fs.set j (O, n, d, v)), D.2)).Nodup
    have q : adrs (D.1.set i (a, C, fs.set j (O, n, d, v)), D.2) = adrs D := congrArg (fun q => q ++ D.2.map (fun r => r.1)) (map_set_same D.1 (fun o => o.1) (z := (a, C, fs.set j (O, n, d, v))) hi rfl)
    rw [q]; exact ND
theorem Heaped.store {i k : Nat} {a : Addr} {ty : FieldType} {vs : List Value} {v : Value} (H : Heaped Z a0 n0 h D) (hi : D.2[i]? = some (a, ty, vs)) (hv : fits ty v = true) (W : Wr h h' a k v) :
    Heaped Z a0 n0 h' (D.1, D.2.set i (a, ty, vs.set k v)) := by
  have HA := H.2.2.1 _ (List.mem_of_getElem? hi)
  have ND := H.2.2.2
  refine ⟨H.1.wr W HA.1, fun o ho => ?_, fun r hr => ?_, ?_⟩
  · refine (H.2.1 o ho).other W fun e => ?_
    exact (List.nodup_append.mp ND).2.2 o.1 (List.mem_map.mpr ⟨_, ho, rfl⟩) a (List.mem_map.mpr ⟨_, List.mem_of_getElem? hi, rfl⟩) e
  · rcases mem_set_cases hr with rfl | ⟨q, hq, eq⟩
    · obtain ⟨g, c, A, e1, e2, e3⟩ := HA
      refine ⟨g, _, A.same W, ?_, ?_, fun w hw => ?_⟩
      · show c.slots.setIfInBounds k v = _
        rw [e1]; simp
      · show (vs.set k v).length < _
        rw [List.length_set]; exact e2
      · rcases List.mem_or_eq_of_mem_set hw with q | q
        · exact e3 w q
        · rw [q]; exact hv
    · refine (H.2.2.1 r (List.mem_of_getElem? eq)).other W fun e => hq ?_
      exact nodup_of (List.nodup_append.mp ND).2.1 eq hi e
  · show (adrs (D.1, D.2.set i (a, ty, vs.set k v))).Nodup
    have q : adrs (D.1, D.2.set i (a, ty, vs.set k v)) = adrs D := congrArg (fun q => D.1.map (fun r => r.1) ++ q) (map_set_same D.2 (fun o => o.1) (z := (a, ty, vs.set k v)) hi rfl)
    rw [q]; exact ND
theorem Old.ext' {n0 : Nat} (X : Old Z n0 h) (E : Ext h h') : Old Z n0 h' := X.ext E
def FieldsOk (Z : State) (a0 : Array Value) (C : String) (fs : List OFld) : Prop := (∀ x ∈ fs, Laid Z a0 C x.1 x.2.1 x.2.2.1 ∧ ∃ ty, parseFieldDescriptor x.2.2.1 = some ty ∧ x.2.2.2 = defaultValue ty) ∧ (fs.map fun x => x.2.1).Nodup
theorem FieldsOk.nil (C : String) : FieldsOk Z a0 C [] := ⟨fun _ h => (nomatch h), List.nodup_nil⟩
theorem FieldsOk.cons {C O n d : String} {v : Value} {fs : List OFld} {ty : FieldType} (L : Laid Z a0 C O n d) (hty : parseFieldDescriptor d = some ty) (hv : v = defaultValue ty) (hn : n ∉ fs.map fun x => x.2.1) (F : FieldsOk Z a0 C fs) : FieldsOk Z a0 C ((O, n, d, v) :: fs) := by
  refine ⟨fun x hx => ?_, ?_⟩
  · rcases List.mem_cons.mp hx with rfl | hx
    · exact ⟨L, ty, hty, hv⟩
    · exact F.1 x hx
  · rw [List.map_cons]; exact List.nodup_cons.mpr ⟨hn, F.2⟩
theorem Heaped.new {C : String} {fs : List OFld} (H : Heaped Z a0 n0 h D) (E : Ext h h') (A : Exa Z h' h.size C) (F : FieldsOk Z a0 C fs)
    (Dv : ∀ {O nm d : String} {ty : FieldType}, Laid Z a0 C O nm d → parseFieldDescriptor d = some ty → Fld Z h' h.size O nm d (defaultValue ty)) : Heaped Z a0 n0 h' ((h.size, C, fs) :: D.1, D.2) := by
  refine ⟨H.1.ext E, fun o ho => ?_, fun r hr => (H.2.2.1 r hr).ext E, ?_⟩
  · rcases List.mem_cons.mp ho with rfl | ho
    · refine ⟨H.base, A, fun x hx => ?_, F.2⟩
      obtain ⟨L, ty, h1, h2⟩ := F.1 x hx
      exact ⟨by rw [h2]; exact Dv L h1, L, ty, h1⟩
    · exact (H.2.1 o ho).ext E
  · exact List.nodup_cons.mpr ⟨H.fresh, H.2.2.2⟩
theorem Heaped.newArr {ty : FieldType} {c : Cell} {vs : List Value} (H : Heaped Z a0 n0 h D) (E : Ext h h') (A : Arr Z h' h.size c ty) (e1 : c.slots = vs.toArray) (e2 : vs.length < 2 ^ 31) (e3 : ∀ v ∈ vs, fits ty v = true) : Heaped Z a0 n0 h' (D.1, (h.size, ty, vs) :: D.2) := by
  refine ⟨H.1.ext E, fun o ho => (H.2.1 o ho).ext E, fun r hr => ?_, ?_⟩
  · rcases List.mem_cons.mp hr with rfl | hr
    · exact ⟨H.base, c, A, e1, e2, e3⟩
    · exact (H.2.2.1 r hr).ext E
  · have q : (adrs (D.1, (h.size, ty, vs) :: D.2)).Perm (h.size :: adrs D) := by
      unfold adrs; simp only [List.map_cons]; exact List.perm_middle
    exact q.nodup_iff.mpr (List.nodup_cons.mpr ⟨H.fresh, H.2.2.2⟩)
theorem Heaped.perm {D' : HD} (H : Heaped Z a0 n0 h D) (q1 : D'.1.Perm D.1) (q2 : D'.2.Perm D.2) : Heaped Z a0 n0 h D' := by
  refine ⟨H.1, fun o ho => H.2.1 o (q1.mem_iff.mp ho), fun o ho => H.2.2.1 o (q2.mem_iff.mp ho), ?_⟩
  exact ((q1.map _).append (q2.map _)).nodup_iff.mpr H.2.2.2
def bringL {β : Type} (i : Nat) (L : List β) : List β := match L[i]? with
  | some x => x :: (L.take i ++ L.drop (i + 1))
  | none => L
theorem bringL_perm {β : Type} (i : Nat) (L : List β) : (bringL i L).Perm L := by
  unfold bringL
  split
  · rename_i x hx
    obtain ⟨li, rfl⟩ := List.getElem?_eq_some_iff.mp hx
    have q : L = L.take i ++ L[i] :: L.drop (i + 1) := by rw [← List.drop_eq_getElem_cons li, List.take_append_drop]
    have p := (List.perm_middle (a := L[i]) (l₁ := L.take i) (l₂ := L.drop (i + 1))).symm
    rw [← q] at p
    exact p
  · exact List.Perm.refl _
end HeapFacts
/-! a contract, and a run from a point of a body to its end -/
def Con (l : Launch) (Z : State) (a0 : Array Value) (n0 : Nat) (ws : List Jvm.Cond) (y : MethodName) (bytes : ByteArray) (maxL : Nat) (ret : Option FieldType) (rm : Room) (as' : Array Value) (D : HD) (Ψ : Option Value → HD → Prop) : Prop :=
  ∀ h, Heaped Z a0 n0 h D → MetFree l y (head1 (Jvm.Cond.code y bytes maxL ret :: ws) rm) (fun a U => a = as' ∧ Z.Warmed39 U.vm ∧ U.heap = h) (fun _ _ _ _ _ => True) (fun _ U o U' => ∃ v L, o = .returned v ∧ (Fr n0 L ∧ ∃ D', Ψ v D' ∧ Heaped Z a0 n0 U'.heap D') ∧ FrameEnd U o U' L rm.cells rm.slots)
def Run (Z : State) (a0 : Array Value) (n0 : Nat) (p : Program) (l : Launch) (e : Env) (R : Room) (s : State) (m : MethodId) (args : Array Value) (below : List Frame) (meth : Method) (c : Code) (Ψ : Option Value → HD → Prop) (D : HD) (cells slots pc : Nat) (L : Array Slot) (S : List Value) : Prop :=
  ∀ (T : State) (locs : List Loc), Stand p l e R s m args below meth c T locs cells slots → Fr n0 locs → Heaped Z a0 n0 T.heap D →
    ∃ t o, Steps p.tables e below (T.setTop (mkF m pc L S)) t ∧ t.status = .running ∧ Ended t below o ∧ ∃ v L', o = .returned v ∧ (Fr n0 L' ∧ ∃ D', Ψ v D' ∧ Heaped Z a0 n0 t.heap D') ∧ FrameEnd s o t L' R.cells R.slots
def Ctx (Z : State) (y : MethodName) (bytes : ByteArray) (maxL : Nat) (ret : Option FieldType) (p : Program) (s : State) (m : MethodId) (meth : Method) (c : Code) : Prop :=
  p.tables.exec = Jvm.exec ∧ Z.Warmed39 s.vm ∧ c.code = bytes ∧ c.maxLocals = maxL ∧ s.vm.findClass y.cls = some m.cls ∧ meth.name = y.name ∧ meth.sig.returnType = ret ∧ meth.locks = false
def Ret (v : Option Value) (D : HD) (w : Option Value) (E : HD) : Prop := w = v ∧ E = D
theorem Con.of_run {l : Launch} {Z : State} {a0 : Array Value} {n0 : Nat} {ws : List Jvm.Cond} {y : MethodName} {bytes : ByteArray} {maxL : Nat} {ret : Option FieldType} {rm : Room} {as' : Array Value} {D : HD} {Ψ : Option Value → HD → Prop} (hp : plainFor y = true) {L0 : Array Slot} (hL : ∀ m, entryFrame m as' maxL = mkF m 0 L0 [])
    (B : ∀ p e s m below meth c, Ctx Z y bytes maxL ret p s m meth c → Run Z a0 n0 p l e rm s m as' below meth c Ψ D 0 0 0 L0 []) : Con l Z a0 n0 ws y bytes maxL ret rm as' D Ψ := by
  intro h H
  refine MetFree.of_bodySF hp hisR ?_
  intro p e s m args below meth c s₁ Bd hml0 hP hK
  obtain ⟨rfl, hZ, hh⟩ := hP
  have e0 : s₁.heap = h := by rw [← hh, Bd.state]; rfl
  have X0 : Stand p l e rm s m args below meth c s₁ [] 0 0 := Stand.of_body Bd
  obtain ⟨t, o, st, r⟩ := B p e s m below meth c ⟨Bd.exec, hZ, Bd.bytes, hml0, findClass_of_methodNamed Bd.named, (name_of_methodNamed Bd.named Bd.method).1, Bd.returns, Bd.notSynchronized⟩ s₁ [] X0 (Fr.nil n0) (by rw [e0]; exact H)
  exact ⟨t, o, castTop (hL m) st, r⟩
def rel (cd : ClassFile.Cond) (x y : Int32) : Prop := match cd with
  | .eq => x = y
  | .ne => x ≠ y
  | .lt => x < y
  | .ge => y ≤ x
  | .gt => y < x
  | .le => x ≤ y
def relL (cd : ClassFile.Cond) (x y : Int64) : Prop := match cd with
  | .eq => x = y
  | .ne => x ≠ y
  | .lt => x < y
  | .ge => y ≤ x
  | .gt => y < x
  | .le => x ≤ y
theorem rel_iff (cd : ClassFile.Cond) (x y : Int32) : if_icmp.holds cd x y = true ↔ rel cd x y := by
  cases cd
  · show _ ↔ x = y
    by_cases q : x = y
    · rw [(teq q).1]; exact ⟨fun _ => q, fun _ => rfl⟩
    · rw [(feq q).1]; exact ⟨fun h => (Bool.noConfusion h), fun h => absurd h q⟩
  · show _ ↔ x ≠ y
    by_cases q : x = y
    · rw [(teq q).2]; exact ⟨fun h => (Bool.noConfusion h), fun h => absurd q h⟩
    · rw [(feq q).2]; exact ⟨fun _ => q, fun _ => rfl⟩
  · show _ ↔ x < y
    by_cases q : x < y
    · rw [(tlt q).1]; exact ⟨fun _ => q, fun _ => rfl⟩
    · rw [(flt q).1]; exact ⟨fun h => (Bool.noConfusion h), fun h => absurd h q⟩
  · show _ ↔ y ≤ x
    by_cases q : x < y
    · rw [(tlt q).2.1]; exact ⟨fun h => (Bool.noConfusion h), fun h => absurd q (Int32.not_lt.mpr h)⟩
    · rw [(flt q).2.1]; exact ⟨fun _ => Int32.not_lt.mp q, fun _ => rfl⟩
  · show _ ↔ y < x
    by_cases q : y < x
    · rw [(tlt q).2.2.1]; exact ⟨fun _ => q, fun _ => rfl⟩
    · rw [(flt q).2.2.1]; exact ⟨fun h => (Bool.noConfusion h), fun h => absurd h q⟩
  · show _ ↔ x ≤ y
    by_cases q : y < x
    · rw [(tlt q).2.2.2]; exact ⟨fun h => (Bool.noConfusion h), fun h => absurd q (Int32.not_lt.mpr h)⟩
    · rw [(flt q).2.2.2]; exact ⟨fun _ => Int32.not_lt.mp q, fun _ => rfl⟩
theorem relL_iff (cd : ClassFile.Cond) (x y : Int64) : if_icmp.holds cd (lcmpW x y) 0 = true ↔ relL cd x y := by
  rw [rel_iff, lcW]
  cases cd
  · exact lc_eq x y
  · exact not_congr (lc_eq x y)
  · exact lc_lt x y
  · exact lc_ge x y
  · exact lc_gt x y
  · exact lc_le x y
section Runs
variable {Z : State} {a0 : Array Value} {n0 : Nat} {p : Program} {l : Launch} {e : Env} {R : Room} {s : State} {m : MethodId} {args : Array Value} {below : List Frame} {meth : Method} {c : Code} {Ψ : Option Value → HD → Prop} {D : HD} {cells slots pc : Nat} {L : Array Slot} {S : List Value} {y : MethodName} {bytes : ByteArray} {maxL : Nat} {ret : Option FieldType}

theorem Run.iconst (K : Ctx Z y bytes maxL ret p s m meth c) {i : Int} {v : Int32} {pc' : Nat} (hd : decode bytes pc = .ok (.iconst i, 1)) (hp : pc + 1 = pc') (hv : Int32.ofInt i = v) (k : Run Z a0 n0 p l e R s m args below meth c Ψ D cells slots pc' L (.int v :: S)) : Run Z a0 n0 p l e R s m args below meth c Ψ D cells slots pc L S := by
  subst hp hv
  intro T locs X N H
  obtain ⟨t, o, st, r⟩ := k T locs X N H
  exact ⟨t, o, XS.iconst X.here K.1 rfl (hb K.2.2.1 hd) st, r⟩
theorem Run.bipush (K : Ctx Z y bytes maxL ret p s m meth c) {i : Int} {v : Int32} {pc' : Nat} (hd : decode bytes pc = .ok (.bipush i, 2)) (hp : pc + 2 = pc') (hv : (Int8.ofInt i).toInt32 = v) (k : Run Z a0 n0 p l e R s m args below meth c Ψ D cells slots pc' L (.int v :: S)) : Run Z a0 n0 p l e R s m args below meth c Ψ D cells slots pc L S := by
  subst hp hv
  intro T locs X N H
  obtain ⟨t, o, st, r⟩ := k T locs X N H
  exact ⟨t, o, XS.bipush X.here K.1 rfl (hb K.2.2.1 hd) st, r⟩
theorem Run.sipush (K : Ctx Z y bytes maxL ret p s m meth c) {i : Int} {v : Int32} {pc' : Nat} (hd : decode bytes pc = .ok (.sipush i, 3)) (hp : pc + 3 = pc') (hv : (Int16.ofInt i).toInt32 = v) (k : Run Z a0 n0 p l e R s m args below meth c Ψ D cells slots pc' L (.int v :: S)) : Run Z a0 n0 p l e R s m args below meth c Ψ D cells slots pc L S := by
  subst hp hv
  intro T locs X N H
  obtain ⟨t, o, st, r⟩ := k T locs X N H
  exact ⟨t, o, XS.sipush X.here K.1 rfl (hb K.2.2.1 hd) st, r⟩
theorem Run.lconst (K : Ctx Z y bytes maxL ret p s m meth c) {i : Fin 2} {v : Int64} {pc' : Nat} (hd : decode bytes pc = .ok (.lconst i, 1)) (hp : pc + 1 = pc') (hv : Int64.ofNat i = v) (k : Run Z a0 n0 p l e R s m args below meth c Ψ D cells slots pc' L (.long v :: S)) : Run Z a0 n0 p l e R s m args below meth c Ψ D cells slots pc L S := by
  subst hp hv
  intro T locs X N H
  obtain ⟨t, o, st, r⟩ := k T locs X N H
  exact ⟨t, o, XS.lconst X.here K.1 rfl (hb K.2.2.1 hd) st, r⟩
theorem Run.aconstNull (K : Ctx Z y bytes maxL ret p s m meth c) {pc' : Nat} (hd : decode bytes pc = .ok (.aconst_null, 1)) (hp : pc + 1 = pc') (k : Run Z a0 n0 p l e R s m args below meth c Ψ D cells slots pc' L (.null :: S)) : Run Z a0 n0 p l e R s m args below meth c Ψ D cells slots pc L S := by
  subst hp
  intro T locs X N H
  obtain ⟨t, o, st, r⟩ := k T locs X N H
  exact ⟨t, o, XS.aconstNull X.here K.1 rfl (hb K.2.2.1 hd) st, r⟩
theorem Run.iadd (K : Ctx Z y bytes maxL ret p s m meth c) {x z : Int32} {pc' : Nat} (hd : decode bytes pc = .ok (.iadd, 1)) (hp : pc + 1 = pc') (k : Run Z a0 n0 p l e R s m args below meth c Ψ D cells slots pc' L (.int (x + z) :: S)) : Run Z a0 n0 p l e R s m args below meth c Ψ D cells slots pc L (.int z :: .int x :: S) := by
  subst hp
  intro T locs X N H
  obtain ⟨t, o, st, r⟩ := k T locs X N H
  exact ⟨t, o, XS.iadd X.here K.1 rfl (hb K.2.2.1 hd) rfl st, r⟩
theorem Run.isub (K : Ctx Z y bytes maxL ret p s m meth c) {x z : Int32} {pc' : Nat} (hd : decode bytes pc = .ok (.isub, 1)) (hp : pc + 1 = pc') (k : Run Z a0 n0 p l e R s m args below meth c Ψ D cells slots pc' L (.int (x - z) :: S)) : Run Z a0 n0 p l e R s m args below meth c Ψ D cells slots pc L (.int z :: .int x :: S) := by
  subst hp
  intro T locs X N H
  obtain ⟨t, o, st, r⟩ := k T locs X N H
  exact ⟨t, o, XS.isub X.here K.1 rfl (hb K.2.2.1 hd) rfl st, r⟩
theorem Run.imul (K : Ctx Z y bytes maxL ret p s m meth c) {x z : Int32} {pc' : Nat} (hd : decode bytes pc = .ok (.imul, 1)) (hp : pc + 1 = pc') (k : Run Z a0 n0 p l e R s m args below meth c Ψ D cells slots pc' L (.int (x * z) :: S)) : Run Z a0 n0 p l e R s m args below meth c Ψ D cells slots pc L (.int z :: .int x :: S) := by
  subst hp
  intro T locs X N H
  obtain ⟨t, o, st, r⟩ := k T locs X N H
  exact ⟨t, o, XS.imul X.here K.1 rfl (hb K.2.2.1 hd) rfl st, r⟩
theorem Run.iand (K : Ctx Z y bytes maxL ret p s m meth c) {x z : Int32} {pc' : Nat} (hd : decode bytes pc = .ok (.iand, 1)) (hp : pc + 1 = pc') (k : Run Z a0 n0 p l e R s m args below meth c Ψ D cells slots pc' L (.int (x &&& z) :: S)) : Run Z a0 n0 p l e R s m args below meth c Ψ D cells slots pc L (.int z :: .int x :: S) := by
  subst hp
  intro T locs X N H
  obtain ⟨t, o, st, r⟩ := k T locs X N H
  exact ⟨t, o, XS.iand X.here K.1 rfl (hb K.2.2.1 hd) rfl st, r⟩
theorem Run.ior (K : Ctx Z y bytes maxL ret p s m meth c) {x z : Int32} {pc' : Nat} (hd : decode bytes pc = .ok (.ior, 1)) (hp : pc + 1 = pc') (k : Run Z a0 n0 p l e R s m args below meth c Ψ D cells slots pc' L (.int (x ||| z) :: S)) : Run Z a0 n0 p l e R s m args below meth c Ψ D cells slots pc L (.int z :: .int x :: S) := by
  subst hp
  intro T locs X N H
  obtain ⟨t, o, st, r⟩ := k T locs X N H
  exact ⟨t, o, XS.ior X.here K.1 rfl (hb K.2.2.1 hd) rfl st, r⟩
theorem Run.ixor (K : Ctx Z y bytes maxL ret p s m meth c) {x z : Int32} {pc' : Nat} (hd : decode bytes pc = .ok (.ixor, 1)) (hp : pc + 1 = pc') (k : Run Z a0 n0 p l e R s m args below meth c Ψ D cells slots pc' L (.int (x ^^^ z) :: S)) : Run Z a0 n0 p l e R s m args below meth c Ψ D cells slots pc L (.int z :: .int x :: S) := by
  subst hp
  intro T locs X N H
  obtain ⟨t, o, st, r⟩ := k T locs X N H
  exact ⟨t, o, XS.ixor X.here K.1 rfl (hb K.2.2.1 hd) rfl st, r⟩
theorem Run.ishl (K : Ctx Z y bytes maxL ret p s m meth c) {x z : Int32} {pc' : Nat} (hd : decode bytes pc = .ok (.ishl, 1)) (hp : pc + 1 = pc') (k : Run Z a0 n0 p l e R s m args below meth c Ψ D cells slots pc' L (.int (x <<< (z &&& 31)) :: S)) : Run Z a0 n0 p l e R s m args below meth c Ψ D cells slots pc L (.int z :: .int x :: S) := by
  subst hp
  intro T locs X N H
  obtain ⟨t, o, st, r⟩ := k T locs X N H
  exact ⟨t, o, XS.ishl X.here K.1 rfl (hb K.2.2.1 hd) rfl st, r⟩
theorem Run.ishr (K : Ctx Z y bytes maxL ret p s m meth c) {x z : Int32} {pc' : Nat} (hd : decode bytes pc = .ok (.ishr, 1)) (hp : pc + 1 = pc') (k : Run Z a0 n0 p l e R s m args below meth c Ψ D cells slots pc' L (.int (x >>> (z &&& 31)) :: S)) : Run Z a0 n0 p l e R s m args below meth c Ψ D cells slots pc L (.int z :: .int x :: S) := by
  subst hp
  intro T locs X N H
  obtain ⟨t, o, st, r⟩ := k T locs X N H
  exact ⟨t, o, XS.ishr X.here K.1 rfl (hb K.2.2.1 hd) rfl st, r⟩
theorem Run.iushr (K : Ctx Z y bytes maxL ret p s m meth c) {x z : Int32} {pc' : Nat} (hd : decode bytes pc = .ok (.iushr, 1)) (hp : pc + 1 = pc') (k : Run Z a0 n0 p l e R s m args below meth c Ψ D cells slots pc' L (.int ((x.toUInt32 >>> (z &&& 31).toUInt32).toInt32) :: S)) : Run Z a0 n0 p l e R s m args below meth c Ψ D cells slots pc L (.int z :: .int x :: S) := by
  subst hp
  intro T locs X N H
  obtain ⟨t, o, st, r⟩ := k T locs X N H
  exact ⟨t, o, XS.iushr X.here K.1 rfl (hb K.2.2.1 hd) rfl st, r⟩
theorem Run.idiv (K : Ctx Z y bytes maxL ret p s m meth c) {x z : Int32} {pc' : Nat} (hd : decode bytes pc = .ok (.idiv, 1)) (hp : pc + 1 = pc') (hz : z ≠ 0) (k : Run Z a0 n0 p l e R s m args below meth c Ψ D cells slots pc' L (.int (x / z) :: S)) : Run Z a0 n0 p l e R s m args below meth c Ψ D cells slots pc L (.int z :: .int x :: S) := by
  subst hp
  intro T locs X N H
  obtain ⟨t, o, st, r⟩ := k T locs X N H
  exact ⟨t, o, XS.idiv X.here K.1 rfl (hb K.2.2.1 hd) rfl hz st, r⟩
theorem Run.irem (K : Ctx Z y bytes maxL ret p s m meth c) {x z : Int32} {pc' : Nat} (hd : decode bytes pc = .ok (.irem, 1)) (hp : pc + 1 = pc') (hz : z ≠ 0) (k : Run Z a0 n0 p l e R s m args below meth c Ψ D cells slots pc' L (.int (x % z) :: S)) : Run Z a0 n0 p l e R s m args below meth c Ψ D cells slots pc L (.int z :: .int x :: S) := by
  subst hp
  intro T locs X N H
  obtain ⟨t, o, st, r⟩ := k T locs X N H
  exact ⟨t, o, iremM X K.1 rfl (hb K.2.2.1 hd) rfl hz st, r⟩
theorem Run.ineg (K : Ctx Z y bytes maxL ret p s m meth c) {x : Int32} {pc' : Nat} (hd : decode bytes pc = .ok (.ineg, 1)) (hp : pc + 1 = pc') (k : Run Z a0 n0 p l e R s m args below meth c Ψ D cells slots pc' L (.int (-x) :: S)) : Run Z a0 n0 p l e R s m args below meth c Ψ D cells slots pc L (.int x :: S) := by
  subst hp
  intro T locs X N H
  obtain ⟨t, o, st, r⟩ := k T locs X N H
  exact ⟨t, o, XS.ineg X.here K.1 rfl (hb K.2.2.1 hd) rfl st, r⟩
theorem Run.ladd (K : Ctx Z y bytes maxL ret p s m meth c) {x z : Int64} {pc' : Nat} (hd : decode bytes pc = .ok (.ladd, 1)) (hp : pc + 1 = pc') (k : Run Z a0 n0 p l e R s m args below meth c Ψ D cells slots pc' L (.long (x + z) :: S)) : Run Z a0 n0 p l e R s m args below meth c Ψ D cells slots pc L (.long z :: .long x :: S) := by
  subst hp
  intro T locs X N H
  obtain ⟨t, o, st, r⟩ := k T locs X N H
  exact ⟨t, o, XS.ladd X.here K.1 rfl (hb K.2.2.1 hd) rfl st, r⟩
theorem Run.lsub (K : Ctx Z y bytes maxL ret p s m meth c) {x z : Int64} {pc' : Nat} (hd : decode bytes pc = .ok (.lsub, 1)) (hp : pc + 1 = pc') (k : Run Z a0 n0 p l e R s m args below meth c Ψ D cells slots pc' L (.long (x - z) :: S)) : Run Z a0 n0 p l e R s m args below meth c Ψ D cells slots pc L (.long z :: .long x :: S) := by
  subst hp
  intro T locs X N H
  obtain ⟨t, o, st, r⟩ := k T locs X N H
  exact ⟨t, o, XS.lsub X.here K.1 rfl (hb K.2.2.1 hd) rfl st, r⟩
theorem Run.lmul (K : Ctx Z y bytes maxL ret p s m meth c) {x z : Int64} {pc' : Nat} (hd : decode bytes pc = .ok (.lmul, 1)) (hp : pc + 1 = pc') (k : Run Z a0 n0 p l e R s m args below meth c Ψ D cells slots pc' L (.long (x * z) :: S)) : Run Z a0 n0 p l e R s m args below meth c Ψ D cells slots pc L (.long z :: .long x :: S) := by
  subst hp
  intro T locs X N H
  obtain ⟨t, o, st, r⟩ := k T locs X N H
  exact ⟨t, o, XS.lmul X.here K.1 rfl (hb K.2.2.1 hd) rfl st, r⟩
theorem Run.land (K : Ctx Z y bytes maxL ret p s m meth c) {x z : Int64} {pc' : Nat} (hd : decode bytes pc = .ok (.land, 1)) (hp : pc + 1 = pc') (k : Run Z a0 n0 p l e R s m args below meth c Ψ D cells slots pc' L (.long (x &&& z) :: S)) : Run Z a0 n0 p l e R s m args below meth c Ψ D cells slots pc L (.long z :: .long x :: S) := by
  subst hp
  intro T locs X N H
  obtain ⟨t, o, st, r⟩ := k T locs X N H
  exact ⟨t, o, XS.land X.here K.1 rfl (hb K.2.2.1 hd) rfl st, r⟩
theorem Run.lor (K : Ctx Z y bytes maxL ret p s m meth c) {x z : Int64} {pc' : Nat} (hd : decode bytes pc = .ok (.lor, 1)) (hp : pc + 1 = pc') (k : Run Z a0 n0 p l e R s m args below meth c Ψ D cells slots pc' L (.long (x ||| z) :: S)) : Run Z a0 n0 p l e R s m args below meth c Ψ D cells slots pc L (.long z :: .long x :: S) := by
  subst hp
  intro T locs X N H
  obtain ⟨t, o, st, r⟩ := k T locs X N H
  exact ⟨t, o, XS.lor X.here K.1 rfl (hb K.2.2.1 hd) rfl st, r⟩
theorem Run.lxor (K : Ctx Z y bytes maxL ret p s m meth c) {x z : Int64} {pc' : Nat} (hd : decode bytes pc = .ok (.lxor, 1)) (hp : pc + 1 = pc') (k : Run Z a0 n0 p l e R s m args below meth c Ψ D cells slots pc' L (.long (x ^^^ z) :: S)) : Run Z a0 n0 p l e R s m args below meth c Ψ D cells slots pc L (.long z :: .long x :: S) := by
  subst hp
  intro T locs X N H
  obtain ⟨t, o, st, r⟩ := k T locs X N H
  exact ⟨t, o, XS.lxor X.here K.1 rfl (hb K.2.2.1 hd) rfl st, r⟩
theorem Run.ldiv (K : Ctx Z y bytes maxL ret p s m meth c) {x z : Int64} {pc' : Nat} (hd : decode bytes pc = .ok (.ldiv, 1)) (hp : pc + 1 = pc') (hz : z ≠ 0) (k : Run Z a0 n0 p l e R s m args below meth c Ψ D cells slots pc' L (.long (x / z) :: S)) : Run Z a0 n0 p l e R s m args below meth c Ψ D cells slots pc L (.long z :: .long x :: S) := by
  subst hp
  intro T locs X N H
  obtain ⟨t, o, st, r⟩ := k T locs X N H
  exact ⟨t, o, XS.ldiv X.here K.1 rfl (hb K.2.2.1 hd) rfl hz st, r⟩
theorem Run.lrem (K : Ctx Z y bytes maxL ret p s m meth c) {x z : Int64} {pc' : Nat} (hd : decode bytes pc = .ok (.lrem, 1)) (hp : pc + 1 = pc') (hz : z ≠ 0) (k : Run Z a0 n0 p l e R s m args below meth c Ψ D cells slots pc' L (.long (x % z) :: S)) : Run Z a0 n0 p l e R s m args below meth c Ψ D cells slots pc L (.long z :: .long x :: S) := by
  subst hp
  rw [← lrem_mod] at k
  intro T locs X N H
  obtain ⟨t, o, st, r⟩ := k T locs X N H
  exact ⟨t, o, XS.lrem X.here K.1 rfl (hb K.2.2.1 hd) rfl hz st, r⟩
theorem Run.lneg (K : Ctx Z y bytes maxL ret p s m meth c) {x : Int64} {pc' : Nat} (hd : decode bytes pc = .ok (.lneg, 1)) (hp : pc + 1 = pc') (k : Run Z a0 n0 p l e R s m args below meth c Ψ D cells slots pc' L (.long (-x) :: S)) : Run Z a0 n0 p l e R s m args below meth c Ψ D cells slots pc L (.long x :: S) := by
  subst hp
  intro T locs X N H
  obtain ⟨t, o, st, r⟩ := k T locs X N H
  exact ⟨t, o, XS.lneg X.here K.1 rfl (hb K.2.2.1 hd) rfl st, r⟩
theorem Run.lshl (K : Ctx Z y bytes maxL ret p s m meth c) {x : Int64} {z : Int32} {pc' : Nat} (hd : decode bytes pc = .ok (.lshl, 1)) (hp : pc + 1 = pc') (k : Run Z a0 n0 p l e R s m args below meth c Ψ D cells slots pc' L (.long (x <<< (z &&& 0x3f).toInt64) :: S)) : Run Z a0 n0 p l e R s m args below meth c Ψ D cells slots pc L (.int z :: .long x :: S) := by
  subst hp
  intro T locs X N H
  obtain ⟨t, o, st, r⟩ := k T locs X N H
  exact ⟨t, o, XS.lshl X.here K.1 rfl (hb K.2.2.1 hd) rfl st, r⟩
theorem Run.lshr (K : Ctx Z y bytes maxL ret p s m meth c) {x : Int64} {z : Int32} {pc' : Nat} (hd : decode bytes pc = .ok (.lshr, 1)) (hp : pc + 1 = pc') (k : Run Z a0 n0 p l e R s m args below meth c Ψ D cells slots pc' L (.long (x >>> (z &&& 0x3f).toInt64) :: S)) : Run Z a0 n0 p l e R s m args below meth c Ψ D cells slots pc L (.int z :: .long x :: S) := by
  subst hp
  intro T locs X N H
  obtain ⟨t, o, st, r⟩ := k T locs X N H
  exact ⟨t, o, XS.lshr X.here K.1 rfl (hb K.2.2.1 hd) rfl st, r⟩
theorem Run.lushr (K : Ctx Z y bytes maxL ret p s m meth c) {x : Int64} {z : Int32} {pc' : Nat} (hd : decode bytes pc = .ok (.lushr, 1)) (hp : pc + 1 = pc') (k : Run Z a0 n0 p l e R s m args below meth c Ψ D cells slots pc' L (.long ((x.toUInt64 >>> (z &&& 0x3f).toInt64.toUInt64).toInt64) :: S)) : Run Z a0 n0 p l e R s m args below meth c Ψ D cells slots pc L (.int z :: .long x :: S) := by
  subst hp
  intro T locs X N H
  obtain ⟨t, o, st, r⟩ := k T locs X N H
  exact ⟨t, o, XS.lushr X.here K.1 rfl (hb K.2.2.1 hd) rfl st, r⟩
theorem Run.i2l (K : Ctx Z y bytes maxL ret p s m meth c) {x : Int32} {pc' : Nat} (hd : decode bytes pc = .ok (.i2l, 1)) (hp : pc + 1 = pc') (k : Run Z a0 n0 p l e R s m args below meth c Ψ D cells slots pc' L (.long (x.toInt64) :: S)) : Run Z a0 n0 p l e R s m args below meth c Ψ D cells slots pc L (.int x :: S) := by
  subst hp
  intro T locs X N H
  obtain ⟨t, o, st, r⟩ := k T locs X N H
  exact ⟨t, o, XS.i2l X.here K.1 rfl (hb K.2.2.1 hd) rfl st, r⟩
theorem Run.l2i (K : Ctx Z y bytes maxL ret p s m meth c) {x : Int64} {pc' : Nat} (hd : decode bytes pc = .ok (.l2i, 1)) (hp : pc + 1 = pc') (k : Run Z a0 n0 p l e R s m args below meth c Ψ D cells slots pc' L (.int (x.toInt32) :: S)) : Run Z a0 n0 p l e R s m args below meth c Ψ D cells slots pc L (.long x :: S) := by
  subst hp
  intro T locs X N H
  obtain ⟨t, o, st, r⟩ := k T locs X N H
  exact ⟨t, o, XS.l2i X.here K.1 rfl (hb K.2.2.1 hd) rfl st, r⟩
theorem Run.i2b (K : Ctx Z y bytes maxL ret p s m meth c) {x : Int32} {pc' : Nat} (hd : decode bytes pc = .ok (.i2b, 1)) (hp : pc + 1 = pc') (k : Run Z a0 n0 p l e R s m args below meth c Ψ D cells slots pc' L (.int (x.toInt8.toInt32) :: S)) : Run Z a0 n0 p l e R s m args below meth c Ψ D cells slots pc L (.int x :: S) := by
  subst hp
  intro T locs X N H
  obtain ⟨t, o, st, r⟩ := k T locs X N H
  exact ⟨t, o, XS.i2b X.here K.1 rfl (hb K.2.2.1 hd) rfl st, r⟩
theorem Run.i2c (K : Ctx Z y bytes maxL ret p s m meth c) {x : Int32} {pc' : Nat} (hd : decode bytes pc = .ok (.i2c, 1)) (hp : pc + 1 = pc') (k : Run Z a0 n0 p l e R s m args below meth c Ψ D cells slots pc' L (.int (x.toUInt32.toUInt16.toUInt32.toInt32) :: S)) : Run Z a0 n0 p l e R s m args below meth c Ψ D cells slots pc L (.int x :: S) := by
  subst hp
  intro T locs X N H
  obtain ⟨t, o, st, r⟩ := k T locs X N H
  exact ⟨t, o, XS.i2c X.here K.1 rfl (hb K.2.2.1 hd) rfl st, r⟩
theorem Run.i2s (K : Ctx Z y bytes maxL ret p s m meth c) {x : Int32} {pc' : Nat} (hd : decode bytes pc = .ok (.i2s, 1)) (hp : pc + 1 = pc') (k : Run Z a0 n0 p l e R s m args below meth c Ψ D cells slots pc' L (.int (x.toInt16.toInt32) :: S)) : Run Z a0 n0 p l e R s m args below meth c Ψ D cells slots pc L (.int x :: S) := by
  subst hp
  intro T locs X N H
  obtain ⟨t, o, st, r⟩ := k T locs X N H
  exact ⟨t, o, XS.i2s X.here K.1 rfl (hb K.2.2.1 hd) rfl st, r⟩
theorem Run.lcmp (K : Ctx Z y bytes maxL ret p s m meth c) {x z : Int64} {pc' : Nat} (hd : decode bytes pc = .ok (.lcmp, 1)) (hp : pc + 1 = pc') (k : Run Z a0 n0 p l e R s m args below meth c Ψ D cells slots pc' L (.int (lcmpW x z) :: S)) : Run Z a0 n0 p l e R s m args below meth c Ψ D cells slots pc L (.long z :: .long x :: S) := by
  subst hp
  intro T locs X N H
  obtain ⟨t, o, st, r⟩ := k T locs X N H
  exact ⟨t, o, XS.lcmp X.here K.1 rfl (hb K.2.2.1 hd) rfl st, r⟩
theorem Run.dup (K : Ctx Z y bytes maxL ret p s m meth c) {v : Value} {pc' : Nat} (hd : decode bytes pc = .ok (.dup, 1)) (hp : pc + 1 = pc') (hc : v.category = 1) (k : Run Z a0 n0 p l e R s m args below meth c Ψ D cells slots pc' L (v :: v :: S)) : Run Z a0 n0 p l e R s m args below meth c Ψ D cells slots pc L (v :: S) := by
  subst hp
  intro T locs X N H
  obtain ⟨t, o, st, r⟩ := k T locs X N H
  exact ⟨t, o, XS.dup X.here K.1 rfl (hb K.2.2.1 hd) rfl hc st, r⟩
theorem Run.pop (K : Ctx Z y bytes maxL ret p s m meth c) {v : Value} {pc' : Nat} (hd : decode bytes pc = .ok (.pop, 1)) (hp : pc + 1 = pc') (hc : v.category = 1) (k : Run Z a0 n0 p l e R s m args below meth c Ψ D cells slots pc' L S) : Run Z a0 n0 p l e R s m args below meth c Ψ D cells slots pc L (v :: S) := by
  subst hp
  intro T locs X N H
  obtain ⟨t, o, st, r⟩ := k T locs X N H
  exact ⟨t, o, XS.pop X.here K.1 rfl (hb K.2.2.1 hd) rfl hc st, r⟩
theorem Run.dupX1 (K : Ctx Z y bytes maxL ret p s m meth c) {v w : Value} {pc' : Nat} (hd : decode bytes pc = .ok (.dup_x1, 1)) (hp : pc + 1 = pc') (hc : v.category = 1) (hc2 : w.category = 1) (k : Run Z a0 n0 p l e R s m args below meth c Ψ D cells slots pc' L (v :: w :: v :: S)) : Run Z a0 n0 p l e R s m args below meth c Ψ D cells slots pc L (v :: w :: S) := by
  subst hp
  intro T locs X N H
  obtain ⟨t, o, st, r⟩ := k T locs X N H
  exact ⟨t, o, XS.dupX1 X.here K.1 rfl (hb K.2.2.1 hd) rfl hc hc2 st, r⟩
theorem Run.iload (K : Ctx Z y bytes maxL ret p s m meth c) {j : Nat} {v : Int32} {pc' : Nat} (hd : decode bytes pc = .ok (.iload j, 2)) (hp : pc + 2 = pc') (hl : L[j]? = some (.val (.int v))) (k : Run Z a0 n0 p l e R s m args below meth c Ψ D cells slots pc' L (.int v :: S)) : Run Z a0 n0 p l e R s m args below meth c Ψ D cells slots pc L S := by
  subst hp
  intro T locs X N H
  obtain ⟨t, o, st, r⟩ := k T locs X N H
  exact ⟨t, o, XS.iload X.here K.1 rfl (hb K.2.2.1 hd) hl st, r⟩
theorem Run.iloadN (K : Ctx Z y bytes maxL ret p s m meth c) {j : Fin 4} {v : Int32} {pc' : Nat} (hd : decode bytes pc = .ok (.iload_n j, 1)) (hp : pc + 1 = pc') (hl : L[j.val]? = some (.val (.int v))) (k : Run Z a0 n0 p l e R s m args below meth c Ψ D cells slots pc' L (.int v :: S)) : Run Z a0 n0 p l e R s m args below meth c Ψ D cells slots pc L S := by
  subst hp
  intro T locs X N H
  obtain ⟨t, o, st, r⟩ := k T locs X N H
  exact ⟨t, o, XS.iloadN X.here K.1 rfl (hb K.2.2.1 hd) hl st, r⟩
theorem Run.istore (K : Ctx Z y bytes maxL ret p s m meth c) {j : Nat} {v : Int32} {L' : Array Slot} {pc' : Nat} (hd : decode bytes pc = .ok (.istore j, 2)) (hp : pc + 2 = pc') (hl : storeLocals L j (.int v) = some L') (k : Run Z a0 n0 p l e R s m args below meth c Ψ D cells slots pc' L' S) : Run Z a0 n0 p l e R s m args below meth c Ψ D cells slots pc L (.int v :: S) := by
  subst hp
  intro T locs X N H
  obtain ⟨t, o, st, r⟩ := k T locs X N H
  exact ⟨t, o, XS.istore X.here K.1 rfl (hb K.2.2.1 hd) rfl hl st, r⟩
theorem Run.istoreN (K : Ctx Z y bytes maxL ret p s m meth c) {j : Fin 4} {v : Int32} {L' : Array Slot} {pc' : Nat} (hd : decode bytes pc = .ok (.istore_n j, 1)) (hp : pc + 1 = pc') (hl : storeLocals L j.val (.int v) = some L') (k : Run Z a0 n0 p l e R s m args below meth c Ψ D cells slots pc' L' S) : Run Z a0 n0 p l e R s m args below meth c Ψ D cells slots pc L (.int v :: S) := by
  subst hp
  intro T locs X N H
  obtain ⟨t, o, st, r⟩ := k T locs X N H
  exact ⟨t, o, XS.istoreN X.here K.1 rfl (hb K.2.2.1 hd) rfl hl st, r⟩
theorem Run.lload (K : Ctx Z y bytes maxL ret p s m meth c) {j : Nat} {v : Int64} {pc' : Nat} (hd : decode bytes pc = .ok (.lload j, 2)) (hp : pc + 2 = pc') (hl : L[j]? = some (.val (.long v))) (k : Run Z a0 n0 p l e R s m args below meth c Ψ D cells slots pc' L (.long v :: S)) : Run Z a0 n0 p l e R s m args below meth c Ψ D cells slots pc L S := by
  subst hp
  intro T locs X N H
  obtain ⟨t, o, st, r⟩ := k T locs X N H
  exact ⟨t, o, XS.lload X.here K.1 rfl (hb K.2.2.1 hd) hl st, r⟩
theorem Run.lloadN (K : Ctx Z y bytes maxL ret p s m meth c) {j : Fin 4} {v : Int64} {pc' : Nat} (hd : decode bytes pc = .ok (.lload_n j, 1)) (hp : pc + 1 = pc') (hl : L[j.val]? = some (.val (.long v))) (k : Run Z a0 n0 p l e R s m args below meth c Ψ D cells slots pc' L (.long v :: S)) : Run Z a0 n0 p l e R s m args below meth c Ψ D cells slots pc L S := by
  subst hp
  intro T locs X N H
  obtain ⟨t, o, st, r⟩ := k T locs X N H
  exact ⟨t, o, XS.lloadN X.here K.1 rfl (hb K.2.2.1 hd) hl st, r⟩
theorem Run.lstore (K : Ctx Z y bytes maxL ret p s m meth c) {j : Nat} {v : Int64} {L' : Array Slot} {pc' : Nat} (hd : decode bytes pc = .ok (.lstore j, 2)) (hp : pc + 2 = pc') (hl : storeLocals L j (.long v) = some L') (k : Run Z a0 n0 p l e R s m args below meth c Ψ D cells slots pc' L' S) : Run Z a0 n0 p l e R s m args below meth c Ψ D cells slots pc L (.long v :: S) := by
  subst hp
  intro T locs X N H
  obtain ⟨t, o, st, r⟩ := k T locs X N H
  exact ⟨t, o, XS.lstore X.here K.1 rfl (hb K.2.2.1 hd) rfl hl st, r⟩
theorem Run.lstoreN (K : Ctx Z y bytes maxL ret p s m meth c) {j : Fin 4} {v : Int64} {L' : Array Slot} {pc' : Nat} (hd : decode bytes pc = .ok (.lstore_n j, 1)) (hp : pc + 1 = pc') (hl : storeLocals L j.val (.long v) = some L') (k : Run Z a0 n0 p l e R s m args below meth c Ψ D cells slots pc' L' S) : Run Z a0 n0 p l e R s m args below meth c Ψ D cells slots pc L (.long v :: S) := by
  subst hp
  intro T locs X N H
  obtain ⟨t, o, st, r⟩ := k T locs X N H
  exact ⟨t, o, XS.lstoreN X.here K.1 rfl (hb K.2.2.1 hd) rfl hl st, r⟩
theorem Run.aload (K : Ctx Z y bytes maxL ret p s m meth c) {j : Nat} {v : Value} {pc' : Nat} (hd : decode bytes pc = .ok (.aload j, 2)) (hp : pc + 2 = pc') (hl : L[j]? = some (.val v)) (hv : v.isRef = true) (k : Run Z a0 n0 p l e R s m args below meth c Ψ D cells slots pc' L (v :: S)) : Run Z a0 n0 p l e R s m args below meth c Ψ D cells slots pc L S := by
  subst hp
  intro T locs X N H
  obtain ⟨t, o, st, r⟩ := k T locs X N H
  exact ⟨t, o, XS.aload X.here K.1 rfl (hb K.2.2.1 hd) hl hv st, r⟩
theorem Run.aloadN (K : Ctx Z y bytes maxL ret p s m meth c) {j : Fin 4} {v : Value} {pc' : Nat} (hd : decode bytes pc = .ok (.aload_n j, 1)) (hp : pc + 1 = pc') (hl : L[j.val]? = some (.val v)) (hv : v.isRef = true) (k : Run Z a0 n0 p l e R s m args below meth c Ψ D cells slots pc' L (v :: S)) : Run Z a0 n0 p l e R s m args below meth c Ψ D cells slots pc L S := by
  subst hp
  intro T locs X N H
  obtain ⟨t, o, st, r⟩ := k T locs X N H
  exact ⟨t, o, XS.aloadN X.here K.1 rfl (hb K.2.2.1 hd) hl hv st, r⟩
theorem Run.astore (K : Ctx Z y bytes maxL ret p s m meth c) {j : Nat} {v : Value} {L' : Array Slot} {pc' : Nat} (hd : decode bytes pc = .ok (.astore j, 2)) (hp : pc + 2 = pc') (hv : v.isRef = true) (hl : storeLocals L j v = some L') (k : Run Z a0 n0 p l e R s m args below meth c Ψ D cells slots pc' L' S) : Run Z a0 n0 p l e R s m args below meth c Ψ D cells slots pc L (v :: S) := by
  subst hp
  intro T locs X N H
  obtain ⟨t, o, st, r⟩ := k T locs X N H
  exact ⟨t, o, XS.astore X.here K.1 rfl (hb K.2.2.1 hd) rfl hv hl st, r⟩
theorem Run.astoreN (K : Ctx Z y bytes maxL ret p s m meth c) {j : Fin 4} {v : Value} {L' : Array Slot} {pc' : Nat} (hd : decode bytes pc = .ok (.astore_n j, 1)) (hp : pc + 1 = pc') (hv : v.isRef = true) (hl : storeLocals L j.val v = some L') (k : Run Z a0 n0 p l e R s m args below meth c Ψ D cells slots pc' L' S) : Run Z a0 n0 p l e R s m args below meth c Ψ D cells slots pc L (v :: S) := by
  subst hp
  intro T locs X N H
  obtain ⟨t, o, st, r⟩ := k T locs X N H
  exact ⟨t, o, XS.astoreN X.here K.1 rfl (hb K.2.2.1 hd) rfl hv hl st, r⟩
theorem Run.dup2 (K : Ctx Z y bytes maxL ret p s m meth c) {v w : Value} {pc' : Nat} (hd : decode bytes pc = .ok (.dup2, 1)) (hp : pc + 1 = pc') (hc : v.category = 1) (hc2 : w.category = 1) (k : Run Z a0 n0 p l e R s m args below meth c Ψ D cells slots pc' L (v :: w :: v :: w :: S)) : Run Z a0 n0 p l e R s m args below meth c Ψ D cells slots pc L (v :: w :: S) := by
  subst hp
  intro T locs X N H
  obtain ⟨t, o, st, r⟩ := k T locs X N H
  exact ⟨t, o, Jvm.Free.XT.dup2 X.here K.1 rfl (hb K.2.2.1 hd) rfl hc hc2 st, r⟩
theorem Run.dup2L (K : Ctx Z y bytes maxL ret p s m meth c) {x : Int64} {pc' : Nat} (hd : decode bytes pc = .ok (.dup2, 1)) (hp : pc + 1 = pc') (k : Run Z a0 n0 p l e R s m args below meth c Ψ D cells slots pc' L (.long x :: .long x :: S)) : Run Z a0 n0 p l e R s m args below meth c Ψ D cells slots pc L (.long x :: S) := by
  subst hp
  intro T locs X N H
  obtain ⟨t, o, st, r⟩ := k T locs X N H
  exact ⟨t, o, Jvm.Free.XT.dup2L X.here K.1 rfl (hb K.2.2.1 hd) rfl st, r⟩
theorem Run.iinc (K : Ctx Z y bytes maxL ret p s m meth c) {j : Nat} {i : Int} {v : Int32} {L' : Array Slot} {pc' : Nat} (hd : decode bytes pc = .ok (.iinc j i, 3)) (hp : pc + 3 = pc') (hl : L[j]? = some (.val (.int v))) (hl' : storeLocals L j (.int (v + Int32.ofInt i)) = some L') (k : Run Z a0 n0 p l e R s m args below meth c Ψ D cells slots pc' L' S) : Run Z a0 n0 p l e R s m args below meth c Ψ D cells slots pc L S := by
  subst hp
  intro T locs X N H
  obtain ⟨t, o, st, r⟩ := k T locs X N H
  exact ⟨t, o, XS.iinc X.here K.1 rfl (hb K.2.2.1 hd) hl hl' st, r⟩
theorem Run.iaddV (K : Ctx Z y bytes maxL ret p s m meth c) {x z : Int32} {v : Int32} {pc' : Nat} (hd : decode bytes pc = .ok (.iadd, 1)) (hp : pc + 1 = pc') (hv : x + z = v) (k : Run Z a0 n0 p l e R s m args below meth c Ψ D cells slots pc' L (.int v :: S)) : Run Z a0 n0 p l e R s m args below meth c Ψ D cells slots pc L (.int z :: .int x :: S) := Run.iadd K hd hp (by rw [hv]; exact k)
theorem Run.isubV (K : Ctx Z y bytes maxL ret p s m meth c) {x z : Int32} {v : Int32} {pc' : Nat} (hd : decode bytes pc = .ok (.isub, 1)) (hp : pc + 1 = pc') (hv : x - z = v) (k : Run Z a0 n0 p l e R s m args below meth c Ψ D cells slots pc' L (.int v :: S)) : Run Z a0 n0 p l e R s m args below meth c Ψ D cells slots pc L (.int z :: .int x :: S) := Run.isub K hd hp (by rw [hv]; exact k)
theorem Run.imulV (K : Ctx Z y bytes maxL ret p s m meth c) {x z : Int32} {v : Int32} {pc' : Nat} (hd : decode bytes pc = .ok (.imul, 1)) (hp : pc + 1 = pc') (hv : x * z = v) (k : Run Z a0 n0 p l e R s m args below meth c Ψ D cells slots pc' L (.int v :: S)) : Run Z a0 n0 p l e R s m args below meth c Ψ D cells slots pc L (.int z :: .int x :: S) := Run.imul K hd hp (by rw [hv]; exact k)
theorem Run.iandV (K : Ctx Z y bytes maxL ret p s m meth c) {x z : Int32} {v : Int32} {pc' : Nat} (hd : decode bytes pc = .ok (.iand, 1)) (hp : pc + 1 = pc') (hv : x &&& z = v) (k : Run Z a0 n0 p l e R s m args below meth c Ψ D cells slots pc' L (.int v :: S)) : Run Z a0 n0 p l e R s m args below meth c Ψ D cells slots pc L (.int z :: .int x :: S) := Run.iand K hd hp (by rw [hv]; exact k)
theorem Run.iorV (K : Ctx Z y bytes maxL ret p s m meth c) {x z : Int32} {v : Int32} {pc' : Nat} (hd : decode bytes pc = .ok (.ior, 1)) (hp : pc + 1 = pc') (hv : x ||| z = v) (k : Run Z a0 n0 p l e R s m args below meth c Ψ D cells slots pc' L (.int v :: S)) : Run Z a0 n0 p l e R s m args below meth c Ψ D cells slots pc L (.int z :: .int x :: S) := Run.ior K hd hp (by rw [hv]; exact k)
theorem Run.ixorV (K : Ctx Z y bytes maxL ret p s m meth c) {x z : Int32} {v : Int32} {pc' : Nat} (hd : decode bytes pc = .ok (.ixor, 1)) (hp : pc + 1 = pc') (hv : x ^^^ z = v) (k : Run Z a0 n0 p l e R s m args below meth c Ψ D cells slots pc' L (.int v :: S)) : Run Z a0 n0 p l e R s m args below meth c Ψ D cells slots pc L (.int z :: .int x :: S) := Run.ixor K hd hp (by rw [hv]; exact k)
theorem Run.ishlV (K : Ctx Z y bytes maxL ret p s m meth c) {x z : Int32} {v : Int32} {pc' : Nat} (hd : decode bytes pc = .ok (.ishl, 1)) (hp : pc + 1 = pc') (hv : x <<< (z &&& 31) = v) (k : Run Z a0 n0 p l e R s m args below meth c Ψ D cells slots pc' L (.int v :: S)) : Run Z a0 n0 p l e R s m args below meth c Ψ D cells slots pc L (.int z :: .int x :: S) := Run.ishl K hd hp (by rw [hv]; exact k)
theorem Run.ishrV (K : Ctx Z y bytes maxL ret p s m meth c) {x z : Int32} {v : Int32} {pc' : Nat} (hd : decode bytes pc = .ok (.ishr, 1)) (hp : pc + 1 = pc') (hv : x >>> (z &&& 31) = v) (k : Run Z a0 n0 p l e R s m args below meth c Ψ D cells slots pc' L (.int v :: S)) : Run Z a0 n0 p l e R s m args below meth c Ψ D cells slots pc L (.int z :: .int x :: S) := Run.ishr K hd hp (by rw [hv]; exact k)
theorem Run.iushrV (K : Ctx Z y bytes maxL ret p s m meth c) {x z : Int32} {v : Int32} {pc' : Nat} (hd : decode bytes pc = .ok (.iushr, 1)) (hp : pc + 1 = pc') (hv : (x.toUInt32 >>> (z &&& 31).toUInt32).toInt32 = v) (k : Run Z a0 n0 p l e R s m args below meth c Ψ D cells slots pc' L (.int v :: S)) : Run Z a0 n0 p l e R s m args below meth c Ψ D cells slots pc L (.int z :: .int x :: S) := Run.iushr K hd hp (by rw [hv]; exact k)
theorem Run.inegV (K : Ctx Z y bytes maxL ret p s m meth c) {x : Int32} {v : Int32} {pc' : Nat} (hd : decode bytes pc = .ok (.ineg, 1)) (hp : pc + 1 = pc') (hv : -x = v) (k : Run Z a0 n0 p l e R s m args below meth c Ψ D cells slots pc' L (.int v :: S)) : Run Z a0 n0 p l e R s m args below meth c Ψ D cells slots pc L (.int x :: S) := Run.ineg K hd hp (by rw [hv]; exact k)
theorem Run.laddV (K : Ctx Z y bytes maxL ret p s m meth c) {x z : Int64} {v : Int64} {pc' : Nat} (hd : decode bytes pc = .ok (.ladd, 1)) (hp : pc + 1 = pc') (hv : x + z = v) (k : Run Z a0 n0 p l e R s m args below meth c Ψ D cells slots pc' L (.long v :: S)) : Run Z a0 n0 p l e R s m args below meth c Ψ D cells slots pc L (.long z :: .long x :: S) := Run.ladd K hd hp (by rw [hv]; exact k)
theorem Run.lsubV (K : Ctx Z y bytes maxL ret p s m meth c) {x z : Int64} {v : Int64} {pc' : Nat} (hd : decode bytes pc = .ok (.lsub, 1)) (hp : pc + 1 = pc') (hv : x - z = v) (k : Run Z a0 n0 p l e R s m args below meth c Ψ D cells slots pc' L (.long v :: S)) : Run Z a0 n0 p l e R s m args below meth c Ψ D cells slots pc L (.long z :: .long x :: S) := Run.lsub K hd hp (by rw [hv]; exact k)
theorem Run.lmulV (K : Ctx Z y bytes maxL ret p s m meth c) {x z : Int64} {v : Int64} {pc' : Nat} (hd : decode bytes pc = .ok (.lmul, 1)) (hp : pc + 1 = pc') (hv : x * z = v) (k : Run Z a0 n0 p l e R s m args below meth c Ψ D cells slots pc' L (.long v :: S)) : Run Z a0 n0 p l e R s m args below meth c Ψ D cells slots pc L (.long z :: .long x :: S) := Run.lmul K hd hp (by rw [hv]; exact k)
theorem Run.landV (K : Ctx Z y bytes maxL ret p s m meth c) {x z : Int64} {v : Int64} {pc' : Nat} (hd : decode bytes pc = .ok (.land, 1)) (hp : pc + 1 = pc') (hv : x &&& z = v) (k : Run Z a0 n0 p l e R s m args below meth c Ψ D cells slots pc' L (.long v :: S)) : Run Z a0 n0 p l e R s m args below meth c Ψ D cells slots pc L (.long z :: .long x :: S) := Run.land K hd hp (by rw [hv]; exact k)
theorem Run.lorV (K : Ctx Z y bytes maxL ret p s m meth c) {x z : Int64} {v : Int64} {pc' : Nat} (hd : decode bytes pc = .ok (.lor, 1)) (hp : pc + 1 = pc') (hv : x ||| z = v) (k : Run Z a0 n0 p l e R s m args below meth c Ψ D cells slots pc' L (.long v :: S)) : Run Z a0 n0 p l e R s m args below meth c Ψ D cells slots pc L (.long z :: .long x :: S) := Run.lor K hd hp (by rw [hv]; exact k)
theorem Run.lxorV (K : Ctx Z y bytes maxL ret p s m meth c) {x z : Int64} {v : Int64} {pc' : Nat} (hd : decode bytes pc = .ok (.lxor, 1)) (hp : pc + 1 = pc') (hv : x ^^^ z = v) (k : Run Z a0 n0 p l e R s m args below meth c Ψ D cells slots pc' L (.long v :: S)) : Run Z a0 n0 p l e R s m args below meth c Ψ D cells slots pc L (.long z :: .long x :: S) := Run.lxor K hd hp (by rw [hv]; exact k)
theorem Run.lnegV (K : Ctx Z y bytes maxL ret p s m meth c) {x : Int64} {v : Int64} {pc' : Nat} (hd : decode bytes pc = .ok (.lneg, 1)) (hp : pc + 1 = pc') (hv : -x = v) (k : Run Z a0 n0 p l e R s m args below meth c Ψ D cells slots pc' L (.long v :: S)) : Run Z a0 n0 p l e R s m args below meth c Ψ D cells slots pc L (.long x :: S) := Run.lneg K hd hp (by rw [hv]; exact k)
theorem Run.lshlV (K : Ctx Z y bytes maxL ret p s m meth c) {x : Int64} {z : Int32} {v : Int64} {pc' : Nat} (hd : decode bytes pc = .ok (.lshl, 1)) (hp : pc + 1 = pc') (hv : x <<< (z &&& 0x3f).toInt64 = v) (k : Run Z a0 n0 p l e R s m args below meth c Ψ D cells slots pc' L (.long v :: S)) : Run Z a0 n0 p l e R s m args below meth c Ψ D cells slots pc L (.int z :: .long x :: S) := Run.lshl K hd hp (by rw [hv]; exact k)
theorem Run.lshrV (K : Ctx Z y bytes maxL ret p s m meth c) {x : Int64} {z : Int32} {v : Int64} {pc' : Nat} (hd : decode bytes pc = .ok (.lshr, 1)) (hp : pc + 1 = pc') (hv : x >>> (z &&& 0x3f).toInt64 = v) (k : Run Z a0 n0 p l e R s m args below meth c Ψ D cells slots pc' L (.long v :: S)) : Run Z a0 n0 p l e R s m args below meth c Ψ D cells slots pc L (.int z :: .long x :: S) := Run.lshr K hd hp (by rw [hv]; exact k)
theorem Run.lushrV (K : Ctx Z y bytes maxL ret p s m meth c) {x : Int64} {z : Int32} {v : Int64} {pc' : Nat} (hd : decode bytes pc = .ok (.lushr, 1)) (hp : pc + 1 = pc') (hv : (x.toUInt64 >>> (z &&& 0x3f).toInt64.toUInt64).toInt64 = v) (k : Run Z a0 n0 p l e R s m args below meth c Ψ D cells slots pc' L (.long v :: S)) : Run Z a0 n0 p l e R s m args below meth c Ψ D cells slots pc L (.int z :: .long x :: S) := Run.lushr K hd hp (by rw [hv]; exact k)
theorem Run.i2lV (K : Ctx Z y bytes maxL ret p s m meth c) {x : Int32} {v : Int64} {pc' : Nat} (hd : decode bytes pc = .ok (.i2l, 1)) (hp : pc + 1 = pc') (hv : x.toInt64 = v) (k : Run Z a0 n0 p l e R s m args below meth c Ψ D cells slots pc' L (.long v :: S)) : Run Z a0 n0 p l e R s m args below meth c Ψ D cells slots pc L (.int x :: S) := Run.i2l K hd hp (by rw [hv]; exact k)
theorem Run.l2iV (K : Ctx Z y bytes maxL ret p s m meth c) {x : Int64} {v : Int32} {pc' : Nat} (hd : decode bytes pc = .ok (.l2i, 1)) (hp : pc + 1 = pc') (hv : x.toInt32 = v) (k : Run Z a0 n0 p l e R s m args below meth c Ψ D cells slots pc' L (.int v :: S)) : Run Z a0 n0 p l e R s m args below meth c Ψ D cells slots pc L (.long x :: S) := Run.l2i K hd hp (by rw [hv]; exact k)
theorem Run.i2bV (K : Ctx Z y bytes maxL ret p s m meth c) {x : Int32} {v : Int32} {pc' : Nat} (hd : decode bytes pc = .ok (.i2b, 1)) (hp : pc + 1 = pc') (hv : x.toInt8.toInt32 = v) (k : Run Z a0 n0 p l e R s m args below meth c Ψ D cells slots pc' L (.int v :: S)) : Run Z a0 n0 p l e R s m args below meth c Ψ D cells slots pc L (.int x :: S) := Run.i2b K hd hp (by rw [hv]; exact k)
theorem Run.i2cV (K : Ctx Z y bytes maxL ret p s m meth c) {x : Int32} {v : Int32} {pc' : Nat} (hd : decode bytes pc = .ok (.i2c, 1)) (hp : pc + 1 = pc') (hv : x.toUInt32.toUInt16.toUInt32.toInt32 = v) (k : Run Z a0 n0 p l e R s m args below meth c Ψ D cells slots pc' L (.int v :: S)) : Run Z a0 n0 p l e R s m args below meth c Ψ D cells slots pc L (.int x :: S) := Run.i2c K hd hp (by rw [hv]; exact k)
theorem Run.i2sV (K : Ctx Z y bytes maxL ret p s m meth c) {x : Int32} {v : Int32} {pc' : Nat} (hd : decode bytes pc = .ok (.i2s, 1)) (hp : pc + 1 = pc') (hv : x.toInt16.toInt32 = v) (k : Run Z a0 n0 p l e R s m args below meth c Ψ D cells slots pc' L (.int v :: S)) : Run Z a0 n0 p l e R s m args below meth c Ψ D cells slots pc L (.int x :: S) := Run.i2s K hd hp (by rw [hv]; exact k)
theorem Run.lcmpV (K : Ctx Z y bytes maxL ret p s m meth c) {x z : Int64} {v : Int32} {pc' : Nat} (hd : decode bytes pc = .ok (.lcmp, 1)) (hp : pc + 1 = pc') (hv : lcmpW x z = v) (k : Run Z a0 n0 p l e R s m args below meth c Ψ D cells slots pc' L (.int v :: S)) : Run Z a0 n0 p l e R s m args below meth c Ψ D cells slots pc L (.long z :: .long x :: S) := Run.lcmp K hd hp (by rw [hv]; exact k)
theorem Run.pop2L (K : Ctx Z y bytes maxL ret p s m meth c) {x : Int64} {pc' : Nat} (hd : decode bytes pc = .ok (.pop2, 1)) (hp : pc + 1 = pc') (k : Run Z a0 n0 p l e R s m args below meth c Ψ D cells slots pc' L S) : Run Z a0 n0 p l e R s m args below meth c Ψ D cells slots pc L (.long x :: S) := by
  subst hp
  intro T locs X N H
  obtain ⟨t, o, st, r⟩ := k T locs X N H
  have hx := K.1
  have hd' := hb K.2.2.1 hd
  refine ⟨t, o, ?_, r⟩
  jvm_step X.here [X.here.top, hx, hd', Op.pop2.wp_sem, Value.category]
  exact st
theorem Run.goto (K : Ctx Z y bytes maxL ret p s m meth c) {i : Int} {pc' : Nat} (hd : decode bytes pc = .ok (.goto i, 3)) (ho : 0 ≤ (pc : Int) + i) (hp : ((pc : Int) + i).toNat = pc') (k : Run Z a0 n0 p l e R s m args below meth c Ψ D cells slots pc' L S) : Run Z a0 n0 p l e R s m args below meth c Ψ D cells slots pc L S := by
  intro T locs X N H
  obtain ⟨t, o, st, r⟩ := k T locs X N H
  exact ⟨t, o, XS.goto X.here K.1 rfl rfl (hb K.2.2.1 hd) ho hp st, r⟩
theorem Run.icmp (K : Ctx Z y bytes maxL ret p s m meth c) {x z : Int32} {cd : ClassFile.Cond} {i : Int} {pT pF : Nat} (hd : decode bytes pc = .ok (.if_icmp cd i, 3)) (ho : 0 ≤ (pc : Int) + i) (hT : ((pc : Int) + i).toNat = pT) (hF : pc + 3 = pF) (kT : rel cd x z → Run Z a0 n0 p l e R s m args below meth c Ψ D cells slots pT L S) (kF : ¬ rel cd x z → Run Z a0 n0 p l e R s m args below meth c Ψ D cells slots pF L S) : Run Z a0 n0 p l e R s m args below meth c Ψ D cells slots pc L (.int z :: .int x :: S) := by
  subst hF
  intro T locs X N H
  by_cases q : rel cd x z
  · obtain ⟨t, o, st, r⟩ := kT q T locs X N H
    exact ⟨t, o, XS.icmpYes X.here K.1 rfl rfl (hb K.2.2.1 hd) rfl ((rel_iff cd x z).mpr q) ho hT st, r⟩
  · obtain ⟨t, o, st, r⟩ := kF q T locs X N H
    exact ⟨t, o, XS.icmpNo X.here K.1 rfl (hb K.2.2.1 hd) rfl (Bool.eq_false_iff.mpr fun h => q ((rel_iff cd x z).mp h)) st, r⟩
theorem Run.ifc (K : Ctx Z y bytes maxL ret p s m meth c) {x : Int32} {cd : ClassFile.Cond} {i : Int} {pT pF : Nat} (hd : decode bytes pc = .ok (.ifCond cd i, 3)) (ho : 0 ≤ (pc : Int) + i) (hT : ((pc : Int) + i).toNat = pT) (hF : pc + 3 = pF) (kT : rel cd x 0 → Run Z a0 n0 p l e R s m args below meth c Ψ D cells slots pT L S) (kF : ¬ rel cd x 0 → Run Z a0 n0 p l e R s m args below meth c Ψ D cells slots pF L S) : Run Z a0 n0 p l e R s m args below meth c Ψ D cells slots pc L (.int x :: S) := by
  subst hF
  intro T locs X N H
  by_cases q : rel cd x 0
  · obtain ⟨t, o, st, r⟩ := kT q T locs X N H
    exact ⟨t, o, XS.ifYes X.here K.1 rfl rfl (hb K.2.2.1 hd) rfl ((if0 cd x).trans ((rel_iff cd x 0).mpr q)) ho hT st, r⟩
  · obtain ⟨t, o, st, r⟩ := kF q T locs X N H
    exact ⟨t, o, XS.ifNo X.here K.1 rfl (hb K.2.2.1 hd) rfl (Bool.eq_false_iff.mpr fun h => q ((rel_iff cd x 0).mp ((if0 cd x).symm.trans h))) st, r⟩
theorem Run.ifL (K : Ctx Z y bytes maxL ret p s m meth c) {x z : Int64} {cd : ClassFile.Cond} {i : Int} {pT pF : Nat} (hd : decode bytes pc = .ok (.ifCond cd i, 3)) (ho : 0 ≤ (pc : Int) + i) (hT : ((pc : Int) + i).toNat = pT) (hF : pc + 3 = pF) (kT : relL cd x z → Run Z a0 n0 p l e R s m args below meth c Ψ D cells slots pT L S) (kF : ¬ relL cd x z → Run Z a0 n0 p l e R s m args below meth c Ψ D cells slots pF L S) : Run Z a0 n0 p l e R s m args below meth c Ψ D cells slots pc L (.int (lcmpW x z) :: S) := by
  subst hF
  intro T locs X N H
  by_cases q : relL cd x z
  · obtain ⟨t, o, st, r⟩ := kT q T locs X N H
    exact ⟨t, o, XS.ifYes X.here K.1 rfl rfl (hb K.2.2.1 hd) rfl ((if0 cd _).trans ((relL_iff cd x z).mpr q)) ho hT st, r⟩
  · obtain ⟨t, o, st, r⟩ := kF q T locs X N H
    exact ⟨t, o, XS.ifNo X.here K.1 rfl (hb K.2.2.1 hd) rfl (Bool.eq_false_iff.mpr fun h => q ((relL_iff cd x z).mp ((if0 cd _).symm.trans h))) st, r⟩
theorem Run.icmpT (K : Ctx Z y bytes maxL ret p s m meth c) {x z : Int32} {cd : ClassFile.Cond} {i : Int} {pT pF : Nat} (hd : decode bytes pc = .ok (.if_icmp cd i, 3)) (ho : 0 ≤ (pc : Int) + i) (hT : ((pc : Int) + i).toNat = pT) (hF : pc + 3 = pF) (q : rel cd x z) (kT : Run Z a0 n0 p l e R s m args below meth c Ψ D cells slots pT L S) : Run Z a0 n0 p l e R s m args below meth c Ψ D cells slots pc L (.int z :: .int x :: S) := Run.icmp K hd ho hT hF (fun _ => kT) (fun h => absurd q h)
theorem Run.icmpF (K : Ctx Z y bytes maxL ret p s m meth c) {x z : Int32} {cd : ClassFile.Cond} {i : Int} {pT pF : Nat} (hd : decode bytes pc = .ok (.if_icmp cd i, 3)) (ho : 0 ≤ (pc : Int) + i) (hT : ((pc : Int) + i).toNat = pT) (hF : pc + 3 = pF) (q : ¬ rel cd x z) (kF : Run Z a0 n0 p l e R s m args below meth c Ψ D cells slots pF L S) : Run Z a0 n0 p l e R s m args below meth c Ψ D cells slots pc L (.int z :: .int x :: S) := Run.icmp K hd ho hT hF (fun h => absurd h q) (fun _ => kF)
theorem Run.ifcT (K : Ctx Z y bytes maxL ret p s m meth c) {x : Int32} {cd : ClassFile.Cond} {i : Int} {pT pF : Nat} (hd : decode bytes pc = .ok (.ifCond cd i, 3)) (ho : 0 ≤ (pc : Int) + i) (hT : ((pc : Int) + i).toNat = pT) (hF : pc + 3 = pF) (q : rel cd x 0) (kT : Run Z a0 n0 p l e R s m args below meth c Ψ D cells slots pT L S) : Run Z a0 n0 p l e R s m args below meth c Ψ D cells slots pc L (.int x :: S) := Run.ifc K hd ho hT hF (fun _ => kT) (fun h => absurd q h)
theorem Run.ifcF (K : Ctx Z y bytes maxL ret p s m meth c) {x : Int32} {cd : ClassFile.Cond} {i : Int} {pT pF : Nat} (hd : decode bytes pc = .ok (.ifCond cd i, 3)) (ho : 0 ≤ (pc : Int) + i) (hT : ((pc : Int) + i).toNat = pT) (hF : pc + 3 = pF) (q : ¬ rel cd x 0) (kF : Run Z a0 n0 p l e R s m args below meth c Ψ D cells slots pF L S) : Run Z a0 n0 p l e R s m args below meth c Ψ D cells slots pc L (.int x :: S) := Run.ifc K hd ho hT hF (fun h => absurd h q) (fun _ => kF)
theorem Run.ifLT (K : Ctx Z y bytes maxL ret p s m meth c) {x z : Int64} {cd : ClassFile.Cond} {i : Int} {pT pF : Nat} (hd : decode bytes pc = .ok (.ifCond cd i, 3)) (ho : 0 ≤ (pc : Int) + i) (hT : ((pc : Int) + i).toNat = pT) (hF : pc + 3 = pF) (q : relL cd x z) (kT : Run Z a0 n0 p l e R s m args below meth c Ψ D cells slots pT L S) : Run Z a0 n0 p l e R s m args below meth c Ψ D cells slots pc L (.int (lcmpW x z) :: S) := Run.ifL K hd ho hT hF (fun _ => kT) (fun h => absurd q h)
theorem Run.ifLF (K : Ctx Z y bytes maxL ret p s m meth c) {x z : Int64} {cd : ClassFile.Cond} {i : Int} {pT pF : Nat} (hd : decode bytes pc = .ok (.ifCond cd i, 3)) (ho : 0 ≤ (pc : Int) + i) (hT : ((pc : Int) + i).toNat = pT) (hF : pc + 3 = pF) (q : ¬ relL cd x z) (kF : Run Z a0 n0 p l e R s m args below meth c Ψ D cells slots pF L S) : Run Z a0 n0 p l e R s m args below meth c Ψ D cells slots pc L (.int (lcmpW x z) :: S) := Run.ifL K hd ho hT hF (fun h => absurd h q) (fun _ => kF)
theorem Run.ifnonnullT (K : Ctx Z y bytes maxL ret p s m meth c) {a : Addr} {i : Int} {pT : Nat} (hd : decode bytes pc = .ok (.ifnonnull i, 3)) (ho : 0 ≤ (pc : Int) + i) (hT : ((pc : Int) + i).toNat = pT) (k : Run Z a0 n0 p l e R s m args below meth c Ψ D cells slots pT L S) : Run Z a0 n0 p l e R s m args below meth c Ψ D cells slots pc L (.ref a :: S) := by
  intro T locs X N H
  obtain ⟨t, o, st, r⟩ := k T locs X N H
  exact ⟨t, o, XS.ifnonnullYes X.here K.1 rfl rfl (hb K.2.2.1 hd) rfl ho hT st, r⟩
theorem Run.as {D' : HD} (hD : D' = D) (k : Run Z a0 n0 p l e R s m args below meth c Ψ D' cells slots pc L S) : Run Z a0 n0 p l e R s m args below meth c Ψ D cells slots pc L S := by subst hD; exact k
theorem Run.asL {L' : Array Slot} (hL : L = L') (k : Run Z a0 n0 p l e R s m args below meth c Ψ D cells slots pc L' S) : Run Z a0 n0 p l e R s m args below meth c Ψ D cells slots pc L S := by subst hL; exact k
theorem Run.as2 {D' : HD} {S' : List Value} (hD : D' = D) (hS : S' = S) (k : Run Z a0 n0 p l e R s m args below meth c Ψ D' cells slots pc L S') : Run Z a0 n0 p l e R s m args below meth c Ψ D cells slots pc L S := by subst hD hS; exact k
theorem Ret.k {v : Option Value} {D1 : HD} {S' rest : List Value} {cells' slots' pc' : Nat} (hS : S' = v.toList ++ rest) (k : Run Z a0 n0 p l e R s m args below meth c Ψ D1 cells' slots' pc' L S') : ∀ (w : Option Value) (D' : HD), Ret v D1 w D' → Run Z a0 n0 p l e R s m args below meth c Ψ D' cells' slots' pc' L (w.toList ++ rest) := by rintro w D' ⟨rfl, rfl⟩; subst hS; exact k
theorem Run.join0 {D' : HD} {cells' slots' pc' : Nat} {L' : Array Slot} {S' : List Value} (k : Run Z a0 n0 p l e R s m args below meth c Ψ D' cells' slots' pc' L' S') (b : Run Z a0 n0 p l e R s m args below meth c Ψ D' cells' slots' pc' L' S' → Run Z a0 n0 p l e R s m args below meth c Ψ D cells slots pc L S) : Run Z a0 n0 p l e R s m args below meth c Ψ D cells slots pc L S := b k
theorem Run.join1 {α0 : Type} {F : α0 → Prop} {D' : α0 → HD} {cells' slots' pc' : Nat} {L' : α0 → Array Slot} {S' : α0 → List Value} (k : (∀ w0, F w0 → Run Z a0 n0 p l e R s m args below meth c Ψ (D' w0) cells' slots' pc' (L' w0) (S' w0))) (b : (∀ w0, F w0 → Run Z a0 n0 p l e R s m args below meth c Ψ (D' w0) cells' slots' pc' (L' w0) (S' w0)) → Run Z a0 n0 p l e R s m args below meth c Ψ D cells slots pc L S) : Run Z a0 n0 p l e R s m args below meth c Ψ D cells slots pc L S := b k
theorem Run.join2 {α0 : Type} {α1 : Type} {F : α0 → α1 → Prop} {D' : α0 → α1 → HD} {cells' slots' pc' : Nat} {L' : α0 → α1 → Array Slot} {S' : α0 → α1 → List Value} (k : (∀ w0 w1, F w0 w1 → Run Z a0 n0 p l e R s m args below meth c Ψ (D' w0 w1) cells' slots' pc' (L' w0 w1) (S' w0 w1))) (b : (∀ w0 w1, F w0 w1 → Run Z a0 n0 p l e R s m args below meth c Ψ (D' w0 w1) cells' slots' pc' (L' w0 w1) (S' w0 w1)) → Run Z a0 n0 p l e R s m args below meth c Ψ D cells slots pc L S) : Run Z a0 n0 p l e R s m args below meth c Ψ D cells slots pc L S := b k
theorem Run.join3 {α0 : Type} {α1 : Type} {α2 : Type} {F : α0 → α1 → α2 → Prop} {D' : α0 → α1 → α2 → HD} {cells' slots' pc' : Nat} {L' : α0 → α1 → α2 → Array Slot} {S' : α0 → α1 → α2 → List Value} (k : (∀ w0 w1 w2, F w0 w1 w2 → Run Z a0 n0 p l e R s m args below meth c Ψ (D' w0 w1 w2) cells' slots' pc' (L' w0 w1 w2) (S' w0 w1 w2))) (b : (∀ w0 w1 w2, F w0 w1 w2 → Run Z a0 n0 p l e R s m args below meth c Ψ (D' w0 w1 w2) cells' slots' pc' (L' w0 w1 w2) (S' w0 w1 w2)) → Run Z a0 n0 p l e R s m args below meth c Ψ D cells slots pc L S) : Run Z a0 n0 p l e R s m args below meth c Ψ D cells slots pc L S := b k
theorem Run.join4 {α0 : Type} {α1 : Type} {α2 : Type} {α3 : Type} {F : α0 → α1 → α2 → α3 → Prop} {D' : α0 → α1 → α2 → α3 → HD} {cells' slots' pc' : Nat} {L' : α0 → α1 → α2 → α3 → Array Slot} {S' : α0 → α1 → α2 → α3 → List Value} (k : (∀ w0 w1 w2 w3, F w0 w1 w2 w3 → Run Z a0 n0 p l e R s m args below meth c Ψ (D' w0 w1 w2 w3) cells' slots' pc' (L' w0 w1 w2 w3) (S' w0 w1 w2 w3))) (b : (∀ w0 w1 w2 w3, F w0 w1 w2 w3 → Run Z a0 n0 p l e R s m args below meth c Ψ (D' w0 w1 w2 w3) cells' slots' pc' (L' w0 w1 w2 w3) (S' w0 w1 w2 w3)) → Run Z a0 n0 p l e R s m args below meth c Ψ D cells slots pc L S) : Run Z a0 n0 p l e R s m args below meth c Ψ D cells slots pc L S := b k
theorem Run.join5 {α0 : Type} {α1 : Type} {α2 : Type} {α3 : Type} {α4 : Type} {F : α0 → α1 → α2 → α3 → α4 → Prop} {D' : α0 → α1 → α2 → α3 → α4 → HD} {cells' slots' pc' : Nat} {L' : α0 → α1 → α2 → α3 → α4 → Array Slot} {S' : α0 → α1 → α2 → α3 → α4 → List Value} (k : (∀ w0 w1 w2 w3 w4, F w0 w1 w2 w3 w4 → Run Z a0 n0 p l e R s m args below meth c Ψ (D' w0 w1 w2 w3 w4) cells' slots' pc' (L' w0 w1 w2 w3 w4) (S' w0 w1 w2 w3 w4))) (b : (∀ w0 w1 w2 w3 w4, F w0 w1 w2 w3 w4 → Run Z a0 n0 p l e R s m args below meth c Ψ (D' w0 w1 w2 w3 w4) cells' slots' pc' (L' w0 w1 w2 w3 w4) (S' w0 w1 w2 w3 w4)) → Run Z a0 n0 p l e R s m args below meth c Ψ D cells slots pc L S) : Run Z a0 n0 p l e R s m args below meth c Ψ D cells slots pc L S := b k
theorem Run.join6 {α0 : Type} {α1 : Type} {α2 : Type} {α3 : Type} {α4 : Type} {α5 : Type} {F : α0 → α1 → α2 → α3 → α4 → α5 → Prop} {D' : α0 → α1 → α2 → α3 → α4 → α5 → HD} {cells' slots' pc' : Nat} {L' : α0 → α1 → α2 → α3 → α4 → α5 → Array Slot} {S' : α0 → α1 → α2 → α3 → α4 → α5 → List Value} (k : (∀ w0 w1 w2 w3 w4 w5, F w0 w1 w2 w3 w4 w5 → Run Z a0 n0 p l e R s m args below meth c Ψ (D' w0 w1 w2 w3 w4 w5) cells' slots' pc' (L' w0 w1 w2 w3 w4 w5) (S' w0 w1 w2 w3 w4 w5))) (b : (∀ w0 w1 w2 w3 w4 w5, F w0 w1 w2 w3 w4 w5 → Run Z a0 n0 p l e R s m args below meth c Ψ (D' w0 w1 w2 w3 w4 w5) cells' slots' pc' (L' w0 w1 w2 w3 w4 w5) (S' w0 w1 w2 w3 w4 w5)) → Run Z a0 n0 p l e R s m args below meth c Ψ D cells slots pc L S) : Run Z a0 n0 p l e R s m args below meth c Ψ D cells slots pc L S := b k
theorem Run.ldcI (K : Ctx Z y bytes maxL ret p s m meth c) {idx : Nat} {v : Int32} {pc' : Nat} (hd : decode bytes pc = .ok (.ldc idx, 2)) (hp : pc + 2 = pc') (w : (Jvm.Cond.constant y.cls idx v).before a0 Z = true) (k : Run Z a0 n0 p l e R s m args below meth c Ψ D cells slots pc' L (.int v :: S)) : Run Z a0 n0 p l e R s m args below meth c Ψ D cells slots pc L S := by
  subst hp
  intro T locs X N H
  obtain ⟨t, o, st, r⟩ := k T locs X N H
  exact ⟨t, o, X.ldcInt K.1 K.2.2.2.2.1 (mvT K.2.1 w) (g := mkF m pc L S) rfl (hb K.2.2.1 hd) _ st, r⟩
theorem Run.ldcJ (K : Ctx Z y bytes maxL ret p s m meth c) {idx : Nat} {v : Int64} {pc' : Nat} (hd : decode bytes pc = .ok (.ldc2_w idx, 3)) (hp : pc + 3 = pc') (w : (Jvm.Cond.constantLong y.cls idx v).before a0 Z = true) (k : Run Z a0 n0 p l e R s m args below meth c Ψ D cells slots pc' L (.long v :: S)) : Run Z a0 n0 p l e R s m args below meth c Ψ D cells slots pc L S := by
  subst hp
  intro T locs X N H
  obtain ⟨t, o, st, r⟩ := k T locs X N H
  exact ⟨t, o, X.ldc2Long K.1 K.2.2.2.2.1 (mvT K.2.1 w) (g := mkF m pc L S) rfl (hb K.2.2.1 hd) _ st, r⟩
theorem Run.getF (K : Ctx Z y bytes maxL ret p s m meth c) {idx i j : Nat} {O n d C : String} {a : Addr} {fs : List OFld} {v : Value} {pc' : Nat} (hd : decode bytes pc = .ok (.getfield idx, 3)) (hp : pc + 3 = pc') (w : (Jvm.Cond.fieldLink y.cls idx O n d).before a0 Z = true) (hi : D.1[i]? = some (a, C, fs)) (hj : fs[j]? = some (O, n, d, v)) (k : Run Z a0 n0 p l e R s m args below meth c Ψ D cells slots pc' L (v :: S)) : Run Z a0 n0 p l e R s m args below meth c Ψ D cells slots pc L (.ref a :: S) := by
  subst hp
  intro T locs X N H
  have F := ((H.2.1 _ (List.mem_of_getElem? hi)).2.2.1 _ (List.mem_of_getElem? hj)).1
  obtain ⟨T', X', e', st'⟩ := RoadKit.getF X K.1 K.2.1 K.2.2.2.2.1 (host := "") (Or.inl w) Via.refl rfl F (g := mkF m pc L (.ref a :: S)) rfl rfl (hb K.2.2.1 hd)
  obtain ⟨t, o, st, r⟩ := k T' locs X' N (by rw [e']; exact H)
  exact ⟨t, o, st' _ st, r⟩
theorem Run.putF (K : Ctx Z y bytes maxL ret p s m meth c) {idx i j kk : Nat} {O n d C : String} {a : Addr} {fs : List OFld} {v old : Value} {ty : FieldType} {pc' : Nat} {D' : HD} (hd : decode bytes pc = .ok (.putfield idx, 3)) (hp : pc + 3 = pc') (w : (Jvm.Cond.fieldLink y.cls idx O n d).before a0 Z = true) (wl : (Jvm.Cond.lays C O n d).before a0 Z = true ∨ ((Jvm.Cond.laysFinal C O n d).before a0 Z = true ∧ y.cls = O ∧ y.name = "<init>")) (wi : (Jvm.Cond.instantiable C kk).before a0 Z = true) (hty : parseFieldDescriptor d = some ty) (hn : narrow ty v = v) (hf : fits ty v = true) (hi : D.1[i]? = some (a, C, fs)) (hj : fs[j]? = some (O, n, d, old)) (hD : D' = (D.1.set i (a, C, fs.set j (O, n, d, v)), D.2)) (k : Run Z a0 n0 p l e R s m args below meth c Ψ D' cells slots pc' L S) : Run Z a0 n0 p l e R s m args below meth c Ψ D cells slots pc L (v :: .ref a :: S) := by
  subst hp hD
  intro T locs X N H
  have HO := H.2.1 _ (List.mem_of_getElem? hi)
  have F := (HO.2.2.1 _ (List.mem_of_getElem? hj)).1
  obtain ⟨T', h', X', e', W, st'⟩ := RoadKit.putF X K.1 K.2.1 K.2.2.2.2.1 (host := "") (Or.inl w) Via.refl rfl F HO.2.1 (wl.imp id fun q => ⟨q.1, q.2.1, K.2.2.2.2.2.1.trans q.2.2⟩) wi hty hn hf (g := mkF m pc L (v :: .ref a :: S)) rfl rfl (hb K.2.2.1 hd)
  obtain ⟨t, o, st, r⟩ := k T' _ X' (Fr.snoc X' N HO.1) (by rw [e']; exact H.put hi hj W)
  exact ⟨t, o, st' _ st, r⟩
theorem Run.newO (K : Ctx Z y bytes maxL ret p s m meth c) {idx n : Nat} {C : String} {fs : List OFld} {pc' cells' slots' : Nat} (hd : decode bytes pc = .ok (.new idx, 3)) (hp : pc + 3 = pc') (w : (Jvm.Cond.classLink y.cls idx C).before a0 Z = true) (wi : (Jvm.Cond.instantiable C n).before a0 Z = true) (wz : (Jvm.Cond.initialized C).before a0 Z = true) (F : FieldsOk Z a0 C fs) (e1 : cells + 1 = cells') (e2 : slots + n = slots') (hc : cells' ≤ R.cells) (hs : slots' ≤ R.slots) (k : ∀ a : Addr, Run Z a0 n0 p l e R s m args below meth c Ψ ((a, C, fs) :: D.1, D.2) cells' slots' pc' L (.ref a :: S)) : Run Z a0 n0 p l e R s m args below meth c Ψ D cells slots pc L S := by
  subst hp e1 e2
  intro T locs X N H
  obtain ⟨T', h', X', e', E, A, Dv, -, st'⟩ := RoadKit.newO X K.1 K.2.1 K.2.2.2.2.1 w wi wz rfl (g := mkF m pc L S) rfl (hb K.2.2.1 hd) hc hs
  obtain ⟨t, o, st, r⟩ := k T.heap.size T' locs X' N (by rw [e']; exact H.new E A F Dv)
  exact ⟨t, o, st' _ st, r⟩
theorem Run.newA (K : Ctx Z y bytes maxL ret p s m meth c) {aty : ArrayType} {ty : FieldType} {n : Int32} {vs : List Value} {cap : Nat} {pc' cells' slots' : Nat} (hd : decode bytes pc = .ok (.newarray aty, 2)) (hp : pc + 2 = pc') (hty : newarray.typeOf aty = ty) (w : (Jvm.Cond.arrayClass ty).before a0 Z = true) (hn : ¬ n < 0) (hvs : vs = List.replicate n.toNatClampNeg (defaultValue ty)) (hcap : n.toNatClampNeg ≤ cap) (hb8 : cap * 8 ≤ 536870912) (e1 : cells + 1 = cells') (e2 : slots + cap = slots') (hc : cells' ≤ R.cells) (hs : slots' ≤ R.slots) (hfd : fits ty (defaultValue ty) = true) (k : ∀ a : Addr, Run Z a0 n0 p l e R s m args below meth c Ψ (D.1, (a, ty, vs) :: D.2) cells' slots' pc' L (.ref a :: S)) : Run Z a0 n0 p l e R s m args below meth c Ψ D cells slots pc L (.int n :: S) := by
  subst hp e1 e2 hty hvs
  intro T locs X N H
  obtain ⟨T', h', cA, X', e', E, A, st'⟩ := RoadKit.newP X K.1 K.2.1 w rfl (g := mkF m pc L (.int n :: S)) rfl (hb K.2.2.1 hd) rfl hn hcap hb8 hc hs
  obtain ⟨t, o, st, r⟩ := k T.heap.size T' locs X' N (by
    rw [e']
    refine H.newArr E A ?_ ?_ ?_
    · simp [RoadKit.newA]
    · rw [List.length_replicate]; exact (back32 hn).2
    · intro v hv; rw [List.eq_of_mem_replicate hv]; exact hfd)
  exact ⟨t, o, st' _ st, r⟩
theorem Run.alen (K : Ctx Z y bytes maxL ret p s m meth c) {i : Nat} {a : Addr} {ty : FieldType} {vs : List Value} {w : Int32} {pc' : Nat} (hd : decode bytes pc = .ok (.arraylength, 1)) (hp : pc + 1 = pc') (hi : D.2[i]? = some (a, ty, vs)) (hw : vs.length.toInt32 = w) (k : Run Z a0 n0 p l e R s m args below meth c Ψ D cells slots pc' L (.int w :: S)) : Run Z a0 n0 p l e R s m args below meth c Ψ D cells slots pc L (.ref a :: S) := by
  subst hp hw
  intro T locs X N H
  obtain ⟨-, c', A, e1, -⟩ := H.2.2.1 _ (List.mem_of_getElem? hi)
  have q : c'.slots.size = vs.length := by rw [e1]; simp
  obtain ⟨t, o, st, r⟩ := k T locs X N H
  rw [← q] at st
  exact ⟨t, o, X.arraylength K.1 A.1 (State.isArrayOf_alike K.2.1.alike A.2.1) (g := mkF m pc L (.ref a :: S)) rfl rfl (hb K.2.2.1 hd) _ st, r⟩
theorem nar_byte (x : Int32) : nar .byte (x.toInt8.toInt32) = x.toInt8.toInt32 := by
  show (x.toInt8.toInt32).toInt8.toInt32 = x.toInt8.toInt32
  rw [Int8.toInt8_toInt32]
theorem own_bool {j : Int32} (h : j = (0 : Int32) ∨ j = (1 : Int32)) : nar .boolean j = j := by rcases h with rfl | rfl <;> decide
theorem in_of {vs : List Value} {q : Nat} {v : Value} {j : Int32} (hj : ¬ j < 0) (hq : j.toNatClampNeg = q) (hv : vs[q]? = some v) {c' : Cell} (e1 : c'.slots = vs.toArray) : ¬ (j < 0 ∨ c'.slots.size ≤ j.toNatClampNeg) ∧ c'.slots[j.toNatClampNeg]? = some v := by
  subst hq
  obtain ⟨li, ei⟩ := List.getElem?_eq_some_iff.mp hv
  refine ⟨fun z => z.elim hj fun z => ?_, by rw [e1]; simpa using hv⟩
  rw [e1] at z
  simp at z
  omega
theorem Run.baload (K : Ctx Z y bytes maxL ret p s m meth c) {i q : Nat} {a : Addr} {vs : List Value} {j : Int32} {v : Value} {pc' : Nat} (hd : decode bytes pc = .ok (.baload, 1)) (hp : pc + 1 = pc') (hi : D.2[i]? = some (a, .byte, vs)) (hj : ¬ j < 0) (hq : j.toNatClampNeg = q) (hv : vs[q]? = some v) (k : Run Z a0 n0 p l e R s m args below meth c Ψ D cells slots pc' L (v :: S)) : Run Z a0 n0 p l e R s m args below meth c Ψ D cells slots pc L (.int j :: .ref a :: S) := by
  subst hp
  intro T locs X N H
  obtain ⟨-, c', A, e1, -⟩ := H.2.2.1 _ (List.mem_of_getElem? hi)
  obtain ⟨u1, u2⟩ := in_of hj hq hv e1
  obtain ⟨t, o, st, r⟩ := k T locs X N H
  exact ⟨t, o, X.baloadBytes K.1 A.1 (State.isArrayOf_alike K.2.1.alike A.2.1) A.2.2 u1 u2 (g := mkF m pc L (.int j :: .ref a :: S)) rfl rfl (hb K.2.2.1 hd) _ st, r⟩
theorem Run.iaload (K : Ctx Z y bytes maxL ret p s m meth c) {i q : Nat} {a : Addr} {vs : List Value} {j : Int32} {v : Value} {pc' : Nat} (hd : decode bytes pc = .ok (.iaload, 1)) (hp : pc + 1 = pc') (hi : D.2[i]? = some (a, .int, vs)) (hj : ¬ j < 0) (hq : j.toNatClampNeg = q) (hv : vs[q]? = some v) (k : Run Z a0 n0 p l e R s m args below meth c Ψ D cells slots pc' L (v :: S)) : Run Z a0 n0 p l e R s m args below meth c Ψ D cells slots pc L (.int j :: .ref a :: S) := by
  subst hp
  intro T locs X N H
  obtain ⟨-, c', A, e1, -⟩ := H.2.2.1 _ (List.mem_of_getElem? hi)
  obtain ⟨u1, u2⟩ := in_of hj hq hv e1
  obtain ⟨t, o, st, r⟩ := k T locs X N H
  exact ⟨t, o, X.iaload K.1 A.1 (State.isArrayOf_alike K.2.1.alike A.2.1) A.2.2 u1 u2 (g := mkF m pc L (.int j :: .ref a :: S)) rfl rfl (hb K.2.2.1 hd) _ st, r⟩
theorem Run.laload (K : Ctx Z y bytes maxL ret p s m meth c) {i q : Nat} {a : Addr} {vs : List Value} {j : Int32} {v : Value} {pc' : Nat} (hd : decode bytes pc = .ok (.laload, 1)) (hp : pc + 1 = pc') (hi : D.2[i]? = some (a, .long, vs)) (hj : ¬ j < 0) (hq : j.toNatClampNeg = q) (hv : vs[q]? = some v) (k : Run Z a0 n0 p l e R s m args below meth c Ψ D cells slots pc' L (v :: S)) : Run Z a0 n0 p l e R s m args below meth c Ψ D cells slots pc L (.int j :: .ref a :: S) := by
  subst hp
  intro T locs X N H
  obtain ⟨-, c', A, e1, -⟩ := H.2.2.1 _ (List.mem_of_getElem? hi)
  obtain ⟨u1, u2⟩ := in_of hj hq hv e1
  obtain ⟨t, o, st, r⟩ := k T locs X N H
  exact ⟨t, o, X.laload K.1 A.1 (State.isArrayOf_alike K.2.1.alike A.2.1) A.2.2 u1 u2 (g := mkF m pc L (.int j :: .ref a :: S)) rfl rfl (hb K.2.2.1 hd) _ st, r⟩
theorem Run.zaload (K : Ctx Z y bytes maxL ret p s m meth c) {i q : Nat} {a : Addr} {vs : List Value} {j : Int32} {v : Value} {pc' : Nat} (hd : decode bytes pc = .ok (.baload, 1)) (hp : pc + 1 = pc') (hi : D.2[i]? = some (a, .boolean, vs)) (hj : ¬ j < 0) (hq : j.toNatClampNeg = q) (hv : vs[q]? = some v) (k : Run Z a0 n0 p l e R s m args below meth c Ψ D cells slots pc' L (v :: S)) : Run Z a0 n0 p l e R s m args below meth c Ψ D cells slots pc L (.int j :: .ref a :: S) := by
  subst hp
  intro T locs X N H
  obtain ⟨-, c', A, e1, -⟩ := H.2.2.1 _ (List.mem_of_getElem? hi)
  obtain ⟨u1, u2⟩ := in_of hj hq hv e1
  obtain ⟨t, o, st, r⟩ := k T locs X N H
  exact ⟨t, o, X.baloadBooleans K.1 A.1 (State.isArrayOf_alike K.2.1.alike A.2.1) A.2.2 u1 u2 (g := mkF m pc L (.int j :: .ref a :: S)) rfl rfl (hb K.2.2.1 hd) _ st, r⟩
theorem Run.caload (K : Ctx Z y bytes maxL ret p s m meth c) {i q : Nat} {a : Addr} {vs : List Value} {j : Int32} {v : Value} {pc' : Nat} (hd : decode bytes pc = .ok (.caload, 1)) (hp : pc + 1 = pc') (hi : D.2[i]? = some (a, .char, vs)) (hj : ¬ j < 0) (hq : j.toNatClampNeg = q) (hv : vs[q]? = some v) (k : Run Z a0 n0 p l e R s m args below meth c Ψ D cells slots pc' L (v :: S)) : Run Z a0 n0 p l e R s m args below meth c Ψ D cells slots pc L (.int j :: .ref a :: S) := by
  subst hp
  intro T locs X N H
  obtain ⟨-, c', A, e1, -⟩ := H.2.2.1 _ (List.mem_of_getElem? hi)
  obtain ⟨u1, u2⟩ := in_of hj hq hv e1
  obtain ⟨t, o, st, r⟩ := k T locs X N H
  exact ⟨t, o, X.caload K.1 A.1 (State.isArrayOf_alike K.2.1.alike A.2.1) A.2.2 u1 u2 (g := mkF m pc L (.int j :: .ref a :: S)) rfl rfl (hb K.2.2.1 hd) _ st, r⟩
theorem Run.bastore (K : Ctx Z y bytes maxL ret p s m meth c) {i q : Nat} {a : Addr} {vs : List Value} {j : Int32} {x : Int32} {v : Value} {pc' : Nat} {D' : HD} (hd : decode bytes pc = .ok (.bastore, 1)) (hp : pc + 1 = pc') (hi : D.2[i]? = some (a, .byte, vs)) (hj : ¬ j < 0) (hq : j.toNatClampNeg = q) (hv : vs[q]? = some v) (hD : D' = (D.1, D.2.set i (a, .byte, vs.set q (.int x.toInt8.toInt32)))) (k : Run Z a0 n0 p l e R s m args below meth c Ψ D' cells slots pc' L S) : Run Z a0 n0 p l e R s m args below meth c Ψ D cells slots pc L (.int x :: .int j :: .ref a :: S) := by
  subst hp hD
  intro T locs X N H
  have HA := H.2.2.1 _ (List.mem_of_getElem? hi)
  have g1 := HA.1
  obtain ⟨-, c', A, e1, -⟩ := HA
  obtain ⟨u1, u2⟩ := in_of hj hq hv e1
  obtain ⟨T', h', X', e', W, st'⟩ := stB X K.1 K.2.1 rfl A u1 (g := mkF m pc L (.int x :: .int j :: .ref a :: S)) rfl rfl (hb K.2.2.1 hd)
  rw [hq] at W X'
  obtain ⟨t, o, st, r⟩ := k T' _ X' (Fr.snoc X' N g1) (by rw [e']; exact H.store hi (fits_nar_byte x) W)
  exact ⟨t, o, st' _ st, r⟩
theorem Run.iastore (K : Ctx Z y bytes maxL ret p s m meth c) {i q : Nat} {a : Addr} {vs : List Value} {j : Int32} {x : Int32} {v : Value} {pc' : Nat} {D' : HD} (hd : decode bytes pc = .ok (.iastore, 1)) (hp : pc + 1 = pc') (hi : D.2[i]? = some (a, .int, vs)) (hj : ¬ j < 0) (hq : j.toNatClampNeg = q) (hv : vs[q]? = some v) (hD : D' = (D.1, D.2.set i (a, .int, vs.set q (.int x)))) (k : Run Z a0 n0 p l e R s m args below meth c Ψ D' cells slots pc' L S) : Run Z a0 n0 p l e R s m args below meth c Ψ D cells slots pc L (.int x :: .int j :: .ref a :: S) := by
  subst hp hD
  intro T locs X N H
  have HA := H.2.2.1 _ (List.mem_of_getElem? hi)
  have g1 := HA.1
  obtain ⟨-, c', A, e1, -⟩ := HA
  obtain ⟨u1, u2⟩ := in_of hj hq hv e1
  obtain ⟨T', h', X', e', W, st'⟩ := stI X K.1 K.2.1 rfl A u1 (g := mkF m pc L (.int x :: .int j :: .ref a :: S)) rfl rfl (hb K.2.2.1 hd)
  rw [hq] at W X'
  obtain ⟨t, o, st, r⟩ := k T' _ X' (Fr.snoc X' N g1) (by rw [e']; exact H.store hi (rfl) W)
  exact ⟨t, o, st' _ st, r⟩
theorem Run.lastore (K : Ctx Z y bytes maxL ret p s m meth c) {i q : Nat} {a : Addr} {vs : List Value} {j : Int32} {x : Int64} {v : Value} {pc' : Nat} {D' : HD} (hd : decode bytes pc = .ok (.lastore, 1)) (hp : pc + 1 = pc') (hi : D.2[i]? = some (a, .long, vs)) (hj : ¬ j < 0) (hq : j.toNatClampNeg = q) (hv : vs[q]? = some v) (hD : D' = (D.1, D.2.set i (a, .long, vs.set q (.long x)))) (k : Run Z a0 n0 p l e R s m args below meth c Ψ D' cells slots pc' L S) : Run Z a0 n0 p l e R s m args below meth c Ψ D cells slots pc L (.long x :: .int j :: .ref a :: S) := by
  subst hp hD
  intro T locs X N H
  have HA := H.2.2.1 _ (List.mem_of_getElem? hi)
  have g1 := HA.1
  obtain ⟨-, c', A, e1, -⟩ := HA
  obtain ⟨u1, u2⟩ := in_of hj hq hv e1
  obtain ⟨T', h', X', e', W, st'⟩ := stJ X K.1 K.2.1 rfl A u1 (g := mkF m pc L (.long x :: .int j :: .ref a :: S)) rfl rfl (hb K.2.2.1 hd)
  rw [hq] at W X'
  obtain ⟨t, o, st, r⟩ := k T' _ X' (Fr.snoc X' N g1) (by rw [e']; exact H.store hi (rfl) W)
  exact ⟨t, o, st' _ st, r⟩
theorem Run.bring (i j : Nat) {D' : HD} (hD : D' = (bringL i D.1, bringL j D.2)) (k : Run Z a0 n0 p l e R s m args below meth c Ψ D' cells slots pc L S) : Run Z a0 n0 p l e R s m args below meth c Ψ D cells slots pc L S := by
  subst hD
  intro T locs X N H
  exact k T locs X N (H.perm (bringL_perm i _) (bringL_perm j _))
theorem Run.initO (K : Ctx Z y bytes maxL ret p s m meth c) {idx : Nat} {a : Addr} {W : Nat} {pc' : Nat} (hd : decode bytes pc = .ok (.invokespecial idx, 3)) (hp : pc + 3 = pc') (w1 : (Jvm.Cond.methodLink y.cls idx Lib.objectInit).before a0 Z = true) (w2 : (Jvm.Cond.instanceMethod Lib.objectInit).before a0 Z = true) (w3 : (Jvm.Cond.code Lib.objectInit ⟨#[0xb1]⟩ 1 none).before a0 Z = true) (hsz : L.size = maxL) (hf : 1 ≤ R.frames) (hW : (S.map fun v => v.category).sum = W) (hl : W + 12 ≤ R.locals) (k : Run Z a0 n0 p l e R s m args below meth c Ψ D cells slots pc' L S) : Run Z a0 n0 p l e R s m args below meth c Ψ D cells slots pc L (.ref a :: S) := by
  subst hp
  intro T locs X N H
  obtain ⟨T', X', e', st'⟩ := RoadKit.initO X K.1 K.2.1 K.2.2.2.2.1 w1 w2 w3 rfl (g := mkF m pc L (.ref a :: S)) rfl (by rw [K.2.2.2.1]; exact hsz) rfl (hb K.2.2.1 hd) hf (W := W) (by show 2 * 0 + _ ≤ _; rw [hW]; omega) hl
  obtain ⟨t, o, st, r⟩ := k T' locs X' N (by rw [e']; exact H)
  exact ⟨t, o, st' _ st, r⟩
theorem Run.callS (K : Ctx Z y bytes maxL ret p s m meth c) {idx W : Nat} {z : MethodName} {bs : ByteArray} {mL : Nat} {rt : Option FieldType} {rm : Room} {Φ : Option Value → HD → Prop} {argsL rest : List Value} {sg : MethodDescriptor} {cells' slots' pc' : Nat} (hd : decode bytes pc = .ok (.invokestatic idx, 3)) (hp : pc + 3 = pc') (w1 : (Jvm.Cond.methodLink y.cls idx z).before a0 Z = true) (w2 : (Jvm.Cond.static z).before a0 Z = true) (w3 : (Jvm.Cond.initialized z.cls).before a0 Z = true) (w4 : (Jvm.Cond.code z bs mL rt).before a0 Z = true) (hz : z.cls ≠ "java/lang/invoke/MethodHandle" ∧ z.cls ≠ "java/lang/invoke/VarHandle") (C : Con l Z a0 n0 [] z bs mL rt rm argsL.toArray D Φ) (hS : S = argsL.reverse ++ rest) (hsz : L.size = maxL) (hsg : parseMethodDescriptor z.desc = some sg) (hlen : argsL.length = sg.parameters.length) (hW : (rest.map fun v => v.category).sum = W) (hf : rm.frames + 1 ≤ R.frames) (hl : W + (mL + 11) + rm.locals ≤ R.locals) (e1 : cells + rm.cells = cells') (e2 : slots + rm.slots = slots') (hc : cells' ≤ R.cells) (hs : slots' ≤ R.slots) (k : ∀ (v : Option Value) (D' : HD), Φ v D' → Run Z a0 n0 p l e R s m args below meth c Ψ D' cells' slots' pc' L (v.toList ++ rest)) : Run Z a0 n0 p l e R s m args below meth c Ψ D cells slots pc L S := by
  subst hp e1 e2 hS
  intro T locs X N H
  have B := backOf (R := R) (p := p) (e := e) (below := below) (s := s) (args := args) (len := 3) (W := W) (Q := fun v h L => Fr n0 L ∧ ∃ D', Φ v D' ∧ Heaped Z a0 n0 h D') (C T.heap H) K.2.1 w4 w3 hf hl
  obtain ⟨v, _, ⟨T', L', k', n'⟩, -, X', ⟨Lc, hQ, l', y', z'⟩, st'⟩ := Jvm.LawKit.callS X K.1 (y := z) K.2.2.2.2.1 (mvT K.2.1 w1) (mvT K.2.1 w2) (mvT K.2.1 w3) (mvT K.2.1 w4) hz B (g := mkF m pc L (argsL.reverse ++ rest)) rfl (by rw [K.2.2.2.1]; exact hsz) (argsL := argsL) (rest := rest) (fun sig h => by cases hsg.symm.trans h; exact hlen) rfl (by show 2 * 0 + _ ≤ _; rw [hW]; omega) (hb K.2.2.1 hd) (fun _ _ => ⟨rfl, rfl, hc, hs⟩)
  dsimp only [Pt.U, Pt.locs, Pt.cells, Pt.slots] at X' st' hQ l' y' z'
  subst l' y' z'
  obtain ⟨N', D', hΦ, H'⟩ := hQ
  obtain ⟨t, o, st, r⟩ := k v D' hΦ T' _ X' (Fr.app N N') H'
  exact ⟨t, o, st' _ st, r⟩
theorem Run.callI (K : Ctx Z y bytes maxL ret p s m meth c) {idx W : Nat} {z : MethodName} {bs : ByteArray} {mL : Nat} {rm : Room} {Φ : Option Value → HD → Prop} {argsL rest : List Value} {sg : MethodDescriptor} {cells' slots' pc' : Nat} {a : Addr} (hd : decode bytes pc = .ok (.invokespecial idx, 3)) (hp : pc + 3 = pc') (hz1 : z.name = "<init>") (w1 : (Jvm.Cond.methodLink y.cls idx z).before a0 Z = true) (w2 : (Jvm.Cond.instanceMethod z).before a0 Z = true) (w3 : (Jvm.Cond.initialized z.cls).before a0 Z = true) (w4 : (Jvm.Cond.code z bs mL none).before a0 Z = true) (hz : z.cls ≠ "java/lang/invoke/MethodHandle" ∧ z.cls ≠ "java/lang/invoke/VarHandle") (C : Con l Z a0 n0 [] z bs mL none rm (.ref a :: argsL).toArray D Φ) (hS : S = argsL.reverse ++ .ref a :: rest) (hsz : L.size = maxL) (hsg : parseMethodDescriptor z.desc = some sg) (hlen : argsL.length = sg.parameters.length) (hW : (rest.map fun v => v.category).sum = W) (hf : rm.frames + 1 ≤ R.frames) (hl : W + (mL + 11) + rm.locals ≤ R.locals) (e1 : cells + rm.cells = cells') (e2 : slots + rm.slots = slots') (hc : cells' ≤ R.cells) (hs : slots' ≤ R.slots) (k : ∀ (v : Option Value) (D' : HD), Φ v D' → Run Z a0 n0 p l e R s m args below meth c Ψ D' cells' slots' pc' L (v.toList ++ rest)) : Run Z a0 n0 p l e R s m args below meth c Ψ D cells slots pc L S := by
  subst hp e1 e2 hS
  intro T locs X N H
  have B := backOf (R := R) (p := p) (e := e) (below := below) (s := s) (args := args) (len := 3) (W := W) (Q := fun v h L => Fr n0 L ∧ ∃ D', Φ v D' ∧ Heaped Z a0 n0 h D') (C T.heap H) K.2.1 w4 w3 hf hl
  obtain ⟨v, _, ⟨T', L', k', n'⟩, -, X', ⟨Lc, hQ, l', y', z'⟩, st'⟩ := X.specialBack K.1 (y := z) hz1 K.2.2.2.2.1 (mvT K.2.1 w1) (mvT K.2.1 w2) (mvT K.2.1 w4) hz B (g := mkF m pc L (argsL.reverse ++ .ref a :: rest)) rfl (by rw [K.2.2.2.1]; exact hsz) (Steps.refl _) (a := a) (argsL := argsL) (rest := rest) (fun sig h => by cases hsg.symm.trans h; exact hlen) rfl (by show 2 * 0 + _ ≤ _; rw [hW]; omega) (hb K.2.2.1 hd) (fun _ _ => ⟨rfl, rfl, hc, hs⟩)
  dsimp only [Pt.U, Pt.locs, Pt.cells, Pt.slots] at X' st' hQ l' y' z'
  subst l' y' z'
  obtain ⟨N', D', hΦ, H'⟩ := hQ
  obtain ⟨t, o, st, r⟩ := k v D' hΦ T' _ X' (Fr.app N N') H'
  exact ⟨t, o, st'.trans st, r⟩
theorem Run.callV (K : Ctx Z y bytes maxL ret p s m meth c) {idx W : Nat} {z : MethodName} {bs : ByteArray} {mL : Nat} {rt : Option FieldType} {rm : Room} {Φ : Option Value → HD → Prop} {argsL rest : List Value} {sg : MethodDescriptor} {cells' slots' pc' : Nat} {a : Addr} {Cn : String} {fs : List OFld} {i : Nat} (hd : decode bytes pc = .ok (.invokevirtual idx, 3)) (hp : pc + 3 = pc') (w1 : (Jvm.Cond.methodLink y.cls idx z).before a0 Z = true) (w5 : (Jvm.Cond.declares z).before a0 Z = true) (w6 : (Jvm.Cond.selects Cn z z).before a0 Z = true) (w2 : (Jvm.Cond.instanceMethod z).before a0 Z = true) (w3 : (Jvm.Cond.initialized z.cls).before a0 Z = true) (w4 : (Jvm.Cond.code z bs mL rt).before a0 Z = true) (hz : z.cls ≠ "java/lang/invoke/MethodHandle" ∧ z.cls ≠ "java/lang/invoke/VarHandle") (hi : D.1[i]? = some (a, Cn, fs)) (C : Con l Z a0 n0 [] z bs mL rt rm (.ref a :: argsL).toArray D Φ) (hS : S = argsL.reverse ++ .ref a :: rest) (hsz : L.size = maxL) (hsg : parseMethodDescriptor z.desc = some sg) (hlen : argsL.length = sg.parameters.length) (hW : (rest.map fun v => v.category).sum = W) (hf : rm.frames + 1 ≤ R.frames) (hl : W + (mL + 11) + rm.locals ≤ R.locals) (e1 : cells + rm.cells = cells') (e2 : slots + rm.slots = slots') (hc : cells' ≤ R.cells) (hs : slots' ≤ R.slots) (k : ∀ (v : Option Value) (D' : HD), Φ v D' → Run Z a0 n0 p l e R s m args below meth c Ψ D' cells' slots' pc' L (v.toList ++ rest)) : Run Z a0 n0 p l e R s m args below meth c Ψ D cells slots pc L S := by
  subst hp e1 e2 hS
  intro T locs X N H
  have B := backOf (R := R) (p := p) (e := e) (below := below) (s := s) (args := args) (len := 3) (W := W) (Q := fun v h L => Fr n0 L ∧ ∃ D', Φ v D' ∧ Heaped Z a0 n0 h D') (C T.heap H) K.2.1 w4 w3 hf hl
  obtain ⟨cq, kq, q1, q2, q3⟩ := isOf (T := T) K.2.1 rfl (H.2.1 _ (List.mem_of_getElem? hi)).2.1
  obtain ⟨v, _, ⟨T', L', k', n'⟩, -, X', ⟨Lc, hQ, l', y', z'⟩, st'⟩ := X.virtualBack K.1 (y := z) (z := z) K.2.2.2.2.1 (mvT K.2.1 w1) (mvT K.2.1 w5) (notFace_of_selects (args := #[]) (mvT K.2.1 w6)) (mvT K.2.1 w6) (mvT K.2.1 w2) hz B q1 q3 (g := mkF m pc L (argsL.reverse ++ .ref a :: rest)) rfl (by rw [K.2.2.2.1]; exact hsz) (Steps.refl _) (argsL := argsL) (rest := rest) (fun sig h => by cases hsg.symm.trans h; exact hlen) rfl (by show 2 * 0 + _ ≤ _; rw [hW]; omega) (hb K.2.2.1 hd) (fun _ _ => ⟨rfl, rfl, hc, hs⟩)
  dsimp only [Pt.U, Pt.locs, Pt.cells, Pt.slots] at X' st' hQ l' y' z'
  subst l' y' z'
  obtain ⟨N', D', hΦ, H'⟩ := hQ
  obtain ⟨t, o, st, r⟩ := k v D' hΦ T' _ X' (Fr.app N N') H'
  exact ⟨t, o, st'.trans st, r⟩
theorem Run.callP (K : Ctx Z y bytes maxL ret p s m meth c) {idx W : Nat} {z : MethodName} {bs : ByteArray} {mL : Nat} {rt : Option FieldType} {rm : Room} {Φ : Option Value → HD → Prop} {argsL rest : List Value} {sg : MethodDescriptor} {cells' slots' pc' : Nat} {a : Addr} {Cn C2 : String} {x2 z2 : MethodName} {fs : List OFld} {i : Nat} (hd : decode bytes pc = .ok (.invokevirtual idx, 3)) (hp : pc + 3 = pc') (w1 : (Jvm.Cond.methodLink y.cls idx z).before a0 Z = true) (w5 : (Jvm.Cond.privateMethod z).before a0 Z = true) (w6 : (Jvm.Cond.selects C2 x2 z2).before a0 Z = true) (hzz : z2.cls = z.cls) (w2 : (Jvm.Cond.instanceMethod z).before a0 Z = true) (w3 : (Jvm.Cond.initialized z.cls).before a0 Z = true) (w4 : (Jvm.Cond.code z bs mL rt).before a0 Z = true) (hz : z.cls ≠ "java/lang/invoke/MethodHandle" ∧ z.cls ≠ "java/lang/invoke/VarHandle") (hi : D.1[i]? = some (a, Cn, fs)) (C : Con l Z a0 n0 [] z bs mL rt rm (.ref a :: argsL).toArray D Φ) (hS : S = argsL.reverse ++ .ref a :: rest) (hsz : L.size = maxL) (hsg : parseMethodDescriptor z.desc = some sg) (hlen : argsL.length = sg.parameters.length) (hW : (rest.map fun v => v.category).sum = W) (hf : rm.frames + 1 ≤ R.frames) (hl : W + (mL + 11) + rm.locals ≤ R.locals) (e1 : cells + rm.cells = cells') (e2 : slots + rm.slots = slots') (hc : cells' ≤ R.cells) (hs : slots' ≤ R.slots) (k : ∀ (v : Option Value) (D' : HD), Φ v D' → Run Z a0 n0 p l e R s m args below meth c Ψ D' cells' slots' pc' L (v.toList ++ rest)) : Run Z a0 n0 p l e R s m args below meth c Ψ D cells slots pc L S := by
  subst hp e1 e2 hS
  intro T locs X N H
  have B := backOf (R := R) (p := p) (e := e) (below := below) (s := s) (args := args) (len := 3) (W := W) (Q := fun v h L => Fr n0 L ∧ ∃ D', Φ v D' ∧ Heaped Z a0 n0 h D') (C T.heap H) K.2.1 w4 w3 hf hl
  obtain ⟨cell, hcell, hobj⟩ := (H.2.1 _ (List.mem_of_getElem? hi)).2.1.cell
  obtain ⟨mk, methM, hnamed, hmethM, hstM, habM⟩ := Cond.instanceMethod_spec (args := args) (mvT K.2.1 w2)
  obtain ⟨methM', cM, hmethM', -, -, -, -, -, -, hsigM⟩ := Cond.code_spec (args := args) hnamed (mvT K.2.1 w4)
  cases hmethM.symm.trans hmethM'
  obtain ⟨c2, r2, m2, -, -, q3, -, kP, hkP, hkPi⟩ := Cond.selects_spec (mvT (args := args) K.2.1 w6)
  have ids : m2.cls = mk.cls := by
    have q1 := findClass_of_methodNamed q3
    have q2 := findClass_of_methodNamed hnamed
    rw [hzz] at q1
    exact Option.some.inj (q1.symm.trans q2)
  rw [ids] at hkP
  have hpr := Cond.privateMethod_at (mvP (args := args) K.2.1 w5) mk methM hnamed hmethM
  obtain ⟨vm₁, X₁, st₁⟩ := X.invokevirtual K.1 K.2.2.2.2.1 (mvT K.2.1 w1) hnamed hmethM hstM hkP hkPi hz hcell hobj (selectMethod_private hmethM hpr) hmethM habM hkP hkPi (g := mkF m pc L (argsL.reverse ++ .ref a :: rest)) rfl (argsL := argsL) (rest := rest) (by cases hsg.symm.trans hsigM; exact hlen) rfl (hb K.2.2.1 hd)
  obtain ⟨v, ⟨T', L', k', n'⟩, X', ⟨Lc, hQ, l', y', z'⟩, st'⟩ := B m meth c ⟨T.setVm vm₁, locs, cells, slots⟩ (mkF m pc L rest) (.invokevirtual idx) mk (.ref a :: argsL).toArray X₁ rfl (by show L.size = c.maxLocals; rw [K.2.2.2.1]; exact hsz) (hb K.2.2.1 hd) (by show 2 * 0 + _ ≤ _; rw [hW]; omega) (X₁.named hnamed) ⟨rfl, rfl, hc, hs⟩
  dsimp only [Pt.U, Pt.locs, Pt.cells, Pt.slots] at X' st' hQ l' y' z'
  subst l' y' z'
  obtain ⟨N', D', hΦ, H'⟩ := hQ
  obtain ⟨t, o, st, r⟩ := k v D' hΦ T' _ X' (Fr.app N N') H'
  exact ⟨t, o, (st₁ _ fun acts => by rw [doInvoke_state]; exact Steps.refl _).trans (st'.trans st), r⟩
theorem Run.retV (K : Ctx Z y bytes maxL ret p s m meth c)  (hd : decode bytes pc = .ok (.return_, 1)) (hret : ret = none) (hc : cells ≤ R.cells) (hs : slots ≤ R.slots) (q : Ψ none D) : Run Z a0 n0 p l e R s m args below meth c Ψ D cells slots pc L [] := by
  intro T locs X N H
  obtain ⟨fs, hr, hrun, hended, hW, hsame⟩ := X.leave (v := none) (fun _ => rfl) K.2.2.2.2.2.2.2
  exact ⟨_, _, X.returnOut K.1 (K.2.2.2.2.2.2.1.trans hret) (hb K.2.2.1 hd) hr, hrun, hended, _, _, rfl, ⟨N, D, q, H⟩, ⟨_, rfl⟩, hW, hsame.mono hc hs⟩
theorem Run.retI (K : Ctx Z y bytes maxL ret p s m meth c) {x : Int32} (hd : decode bytes pc = .ok (.ireturn, 1)) (hret : ret = some .int) (hc : cells ≤ R.cells) (hs : slots ≤ R.slots) (q : Ψ (some (.int x)) D) : Run Z a0 n0 p l e R s m args below meth c Ψ D cells slots pc L [.int x] := by
  intro T locs X N H
  obtain ⟨fs, hr, hrun, hended, hW, hsame⟩ := X.leave (v := (some (.int x))) (fun h => by rw [K.2.2.2.2.2.2.1, hret] at h; cases h) K.2.2.2.2.2.2.2
  exact ⟨_, _, X.ireturnOut K.1 (K.2.2.2.2.2.2.1.trans hret) rfl (Or.inl rfl) (hb K.2.2.1 hd) hr, hrun, hended, _, _, rfl, ⟨N, D, q, H⟩, ⟨_, rfl⟩, hW, hsame.mono hc hs⟩
theorem Run.retJ (K : Ctx Z y bytes maxL ret p s m meth c) {x : Int64} (hd : decode bytes pc = .ok (.lreturn, 1)) (hret : ret = some .long) (hc : cells ≤ R.cells) (hs : slots ≤ R.slots) (q : Ψ (some (.long x)) D) : Run Z a0 n0 p l e R s m args below meth c Ψ D cells slots pc L [.long x] := by
  intro T locs X N H
  obtain ⟨fs, hr, hrun, hended, hW, hsame⟩ := X.leave (v := (some (.long x))) (fun h => by rw [K.2.2.2.2.2.2.1, hret] at h; cases h) K.2.2.2.2.2.2.2
  exact ⟨_, _, X.lreturnOut K.1 (K.2.2.2.2.2.2.1.trans hret) (hb K.2.2.1 hd) hr, hrun, hended, _, _, rfl, ⟨N, D, q, H⟩, ⟨_, rfl⟩, hW, hsame.mono hc hs⟩
theorem Run.retN (K : Ctx Z y bytes maxL ret p s m meth c) {x w : Int32} {t : FieldType} (hd : decode bytes pc = .ok (.ireturn, 1)) (hret : ret = some t) (ht : t = .boolean ∨ t = .byte ∨ t = .char ∨ t = .short) (hw : nar t x = w) (hc : cells ≤ R.cells) (hs : slots ≤ R.slots) (q : Ψ (some (.int w)) D) : Run Z a0 n0 p l e R s m args below meth c Ψ D cells slots pc L [.int x] := by
  intro T locs X N H
  obtain ⟨fs, hr, hrun, hended, hW, hsame⟩ := X.leave (v := (some (.int w))) (fun h => by rw [K.2.2.2.2.2.2.1, hret] at h; cases h) K.2.2.2.2.2.2.2
  exact ⟨_, _, RoadKit.retN X K.1 (K.2.2.2.2.2.2.1.trans hret) ht (hb K.2.2.1 hd) (hw ▸ hr), hrun, hended, _, _, rfl, ⟨N, D, q, H⟩, ⟨_, rfl⟩, hW, hsame.mono hc hs⟩
theorem Run.retA (K : Ctx Z y bytes maxL ret p s m meth c) {x : Value} {t : FieldType} (hd : decode bytes pc = .ok (.areturn, 1)) (hret : ret = some t) (ht : t.isReference = true) (hx : x.isRef = true) (hc : cells ≤ R.cells) (hs : slots ≤ R.slots) (q : Ψ (some x) D) : Run Z a0 n0 p l e R s m args below meth c Ψ D cells slots pc L [x] := by
  intro T locs X N H
  obtain ⟨fs, hr, hrun, hended, hW, hsame⟩ := X.leave (v := (some x)) (fun h => by rw [K.2.2.2.2.2.2.1, hret] at h; cases h) K.2.2.2.2.2.2.2
  exact ⟨_, _, X.areturnOut K.1 hx (K.2.2.2.2.2.2.1.trans hret) ht (hb K.2.2.1 hd) hr, hrun, hended, _, _, rfl, ⟨N, D, q, H⟩, ⟨_, rfl⟩, hW, hsame.mono hc hs⟩
end Runs
end Jvm.Own

namespace Jvm.Pilot.@@N@@
open Jvm Jvm.ClassFile Sem Op Lib Jvm.Free Jvm.Stand Jvm.LawKit Jvm.RoadKit Jvm.Own Bundle Jvm.Pilot.@@N@@.Jvm.D
theorem own_n4 (p : Int32) : (p &&& (3 : Int32)) = (0 : Int32) ∨ (p &&& (3 : Int32)) = (1 : Int32) ∨ (p &&& (3 : Int32)) = (2 : Int32) ∨ (p &&& (3 : Int32)) = (3 : Int32) := by
  have m := c_mask p (3 : Int32) 2 (by decide) (by decide)
  have e : (p &&& (3 : Int32)).toInt = 0 ∨ (p &&& (3 : Int32)).toInt = 1 ∨ (p &&& (3 : Int32)).toInt = 2 ∨ (p &&& (3 : Int32)).toInt = 3 := by rw [m]; omega
  rcases e with e | e | e | e
  · exact Or.inl (Int32.toInt_inj.mp (e.trans (by decide)))
  · exact Or.inr (Or.inl (Int32.toInt_inj.mp (e.trans (by decide))))
  · exact Or.inr (Or.inr (Or.inl (Int32.toInt_inj.mp (e.trans (by decide)))))
  · exact Or.inr (Or.inr (Or.inr (Int32.toInt_inj.mp (e.trans (by decide)))))
theorem own_128 : ∀ i : Fin 32, (128#32).getLsbD i.val = decide (i.val = 7) := by decide
theorem own_bit (v : Int32) : (v &&& (128 : Int32)) = (0 : Int32) ↔ v.toBitVec.getLsbD 7 = false := by
  constructor
  · intro h
    have q := congrArg (fun z : Int32 => z.toBitVec.getLsbD 7) h
    simpa using q
  · intro h
    apply Int32.toBitVec_inj.mp
    apply BitVec.eq_of_getLsbD_eq
    intro i hi
    have q := own_128 ⟨i, hi⟩
    have e : ((128 : Int32).toBitVec).getLsbD i = decide (i = 7) := q
    rw [Int32.toBitVec_and, BitVec.getLsbD_and, e]
    by_cases z : i = 7
    · subst z; rw [h]; rfl
    · simp [z]
theorem own_hi (x : Int32) : (x ||| (128 : Int32)).toInt8.toInt32.toInt8.toInt32.toInt8.toInt32 &&& (128 : Int32) ≠ (0 : Int32) := by
  rw [Int8.toInt8_toInt32, Int8.toInt8_toInt32]
  intro h
  rw [own_bit] at h
  simp [BitVec.getLsbD_signExtend] at h
theorem own_lo (x : Int32) : (x &&& (127 : Int32)).toInt8.toInt32.toInt8.toInt32.toInt8.toInt32 &&& (128 : Int32) = (0 : Int32) := by
  rw [Int8.toInt8_toInt32, Int8.toInt8_toInt32, own_bit]
  simp [BitVec.getLsbD_signExtend]

theorem d1_0 : decode prog_7_method_1_code 0 = .ok (.aload_n 0, 1) := by decide +kernel
theorem d1_1 : decode prog_7_method_1_code 1 = .ok (.invokespecial 1, 3) := by decide +kernel
theorem d1_4 : decode prog_7_method_1_code 4 = .ok (.aload_n 0, 1) := by decide +kernel
theorem d1_5 : decode prog_7_method_1_code 5 = .ok (.lload_n 1, 1) := by decide +kernel
theorem d1_6 : decode prog_7_method_1_code 6 = .ok (.putfield 7, 3) := by decide +kernel
theorem d1_9 : decode prog_7_method_1_code 9 = .ok (.aload_n 0, 1) := by decide +kernel
theorem d1_10 : decode prog_7_method_1_code 10 = .ok (.aload_n 3, 1) := by decide +kernel
theorem d1_11 : decode prog_7_method_1_code 11 = .ok (.putfield 13, 3) := by decide +kernel
theorem d1_14 : decode prog_7_method_1_code 14 = .ok (.return_, 1) := by decide +kernel
theorem pn_0 : plainName "com/example/efcor/efcor/io/RecordReader" = true := by first | (simp [plainName, overriddenIn]; done) | decide +kernel
set_option maxRecDepth 65536 in
set_option maxHeartbeats 40000000 in
theorem rm1 (l : Launch) (Z : State) (a0 : Array Value) (n0 : Nat) (hw : ∀ d ∈ tables_1, d.before a0 Z = true) (ws : List Jvm.Cond) (a1 : Addr) (p1 : Int64) (p2 : Addr) (a1_number : Int64) (a1_bytes : Value) (a1_at : Int32) (Ob : List OObj) (Ax : List OArr) : Con l Z a0 n0 ws (⟨"com/example/efcor/efcor/io/RecordReader", "<init>", "(J[B)V"⟩ : MethodName) prog_7_method_1_code 4 none ({ frames := 1, cells := 0, slots := 0, locals := 12 } : Room) #[(.ref a1), (.long p1), (.ref p2)] ((a1, "com/example/efcor/efcor/io/RecordReader", [("com/example/efcor/efcor/io/RecordReader", "number", "J", (.long a1_number)), ("com/example/efcor/efcor/io/RecordReader", "bytes", "[B", a1_bytes), ("com/example/efcor/efcor/io/RecordReader", "at", "I", (.int a1_at))]) :: Ob, Ax) (Ret none ((a1, "com/example/efcor/efcor/io/RecordReader", [("com/example/efcor/efcor/io/RecordReader", "number", "J", (.long p1)), ("com/example/efcor/efcor/io/RecordReader", "bytes", "[B", (.ref p2)), ("com/example/efcor/efcor/io/RecordReader", "at", "I", (.int a1_at))]) :: Ob, Ax)) := by
  refine Con.of_run (plainFor_of_name pn_0) (L0 := #[.val (.ref a1), .val (.long p1), .second, .val (.ref p2)]) (fun m => by first | (simp [entryFrame, mkF, argsToLocals, Value.category]; done) | rfl) ?_
  intro p e s m below meth c K
  refine Run.aloadN K d1_0 (pc' := 1) rfl rfl rfl ?_
  refine Run.initO K d1_1 (pc' := 4) rfl (hw _ (List.mem_of_getElem? (i := 7) rfl)) (hw _ (List.mem_of_getElem? (i := 8) rfl)) (hw _ (List.mem_of_getElem? (i := 9) rfl)) rfl (by decide) (W := 0) rfl (by decide) ?_
  refine Run.aloadN K d1_4 (pc' := 5) rfl rfl rfl ?_
  refine Run.lloadN K d1_5 (pc' := 6) rfl rfl ?_
  refine Run.putF K d1_6 (pc' := 9) rfl (hw _ (List.mem_of_getElem? (i := 10) rfl)) (Or.inr ⟨(hw _ (List.mem_of_getElem? (i := 11) rfl)), rfl, rfl⟩) (hw _ (List.mem_of_getElem? (i := 2) rfl)) (ty := .long) (by decide) rfl rfl (i := 0) (j := 0) rfl rfl (D' := ((a1, "com/example/efcor/efcor/io/RecordReader", [("com/example/efcor/efcor/io/RecordReader", "number", "J", (.long p1)), ("com/example/efcor/efcor/io/RecordReader", "bytes", "[B", a1_bytes), ("com/example/efcor/efcor/io/RecordReader", "at", "I", (.int a1_at))]) :: Ob, Ax)) rfl ?_
  refine Run.aloadN K d1_9 (pc' := 10) rfl rfl rfl ?_
  refine Run.aloadN K d1_10 (pc' := 11) rfl rfl rfl ?_
  refine Run.putF K d1_11 (pc' := 14) rfl (hw _ (List.mem_of_getElem? (i := 12) rfl)) (Or.inr ⟨(hw _ (List.mem_of_getElem? (i := 13) rfl)), rfl, rfl⟩) (hw _ (List.mem_of_getElem? (i := 2) rfl)) (ty := (.array .byte)) (by decide) rfl rfl (i := 0) (j := 1) rfl rfl (D' := ((a1, "com/example/efcor/efcor/io/RecordReader", [("com/example/efcor/efcor/io/RecordReader", "number", "J", (.long p1)), ("com/example/efcor/efcor/io/RecordReader", "bytes", "[B", (.ref p2)), ("com/example/efcor/efcor/io/RecordReader", "at", "I", (.int a1_at))]) :: Ob, Ax)) rfl ?_
  exact Run.retV K d1_14 rfl (by decide) (by decide) ⟨rfl, rfl⟩
theorem d4_0 : decode prog_7_method_14_code 0 = .ok (.aload_n 0, 1) := by decide +kernel
theorem d4_1 : decode prog_7_method_14_code 1 = .ok (.getfield 51, 3) := by decide +kernel
theorem d4_4 : decode prog_7_method_14_code 4 = .ok (.aload_n 0, 1) := by decide +kernel
theorem d4_5 : decode prog_7_method_14_code 5 = .ok (.getfield 13, 3) := by decide +kernel
theorem d4_8 : decode prog_7_method_14_code 8 = .ok (.arraylength, 1) := by decide +kernel
theorem d4_9 : decode prog_7_method_14_code 9 = .ok (.if_icmp .ne 10, 3) := by decide +kernel
theorem d4_12 : decode prog_7_method_14_code 12 = .ok (.aload_n 0, 1) := by decide +kernel
theorem d4_13 : decode prog_7_method_14_code 13 = .ok (.ldc 142, 2) := by decide +kernel
theorem d4_15 : decode prog_7_method_14_code 15 = .ok (.invokevirtual 23, 3) := by decide +kernel
theorem d4_18 : decode prog_7_method_14_code 18 = .ok (.athrow, 1) := by decide +kernel
theorem d4_19 : decode prog_7_method_14_code 19 = .ok (.aload_n 0, 1) := by decide +kernel
theorem d4_20 : decode prog_7_method_14_code 20 = .ok (.getfield 13, 3) := by decide +kernel
theorem d4_23 : decode prog_7_method_14_code 23 = .ok (.aload_n 0, 1) := by decide +kernel
theorem d4_24 : decode prog_7_method_14_code 24 = .ok (.dup, 1) := by decide +kernel
theorem d4_25 : decode prog_7_method_14_code 25 = .ok (.getfield 51, 3) := by decide +kernel
theorem d4_28 : decode prog_7_method_14_code 28 = .ok (.dup_x1, 1) := by decide +kernel
theorem d4_29 : decode prog_7_method_14_code 29 = .ok (.iconst 1, 1) := by decide +kernel
theorem d4_30 : decode prog_7_method_14_code 30 = .ok (.iadd, 1) := by decide +kernel
theorem d4_31 : decode prog_7_method_14_code 31 = .ok (.putfield 51, 3) := by decide +kernel
theorem d4_34 : decode prog_7_method_14_code 34 = .ok (.baload, 1) := by decide +kernel
theorem d4_35 : decode prog_7_method_14_code 35 = .ok (.ireturn, 1) := by decide +kernel
set_option maxRecDepth 65536 in
set_option maxHeartbeats 40000000 in
theorem nx_1_0 (l : Launch) (Z : State) (a0 : Array Value) (n0 : Nat) (hw : ∀ d ∈ tables_1, d.before a0 Z = true) (ws : List Jvm.Cond) (a1 : Addr) (a1_number : Int64) (r1 : Addr) (b0 : Int32) (Ob : List OObj) (Ax : List OArr) : Con l Z a0 n0 ws (⟨"com/example/efcor/efcor/io/RecordReader", "next", "()B"⟩ : MethodName) prog_7_method_14_code 1 (some .byte) ({ frames := 0, cells := 0, slots := 0, locals := 0 } : Room) #[(.ref a1)] ((a1, "com/example/efcor/efcor/io/RecordReader", [("com/example/efcor/efcor/io/RecordReader", "number", "J", (.long a1_number)), ("com/example/efcor/efcor/io/RecordReader", "bytes", "[B", (.ref r1)), ("com/example/efcor/efcor/io/RecordReader", "at", "I", (.int (0 : Int32)))]) :: Ob, (r1, .byte, [(.int b0)]) :: Ax) (Ret (some (.int (b0.toInt8.toInt32))) ((a1, "com/example/efcor/efcor/io/RecordReader", [("com/example/efcor/efcor/io/RecordReader", "number", "J", (.long a1_number)), ("com/example/efcor/efcor/io/RecordReader", "bytes", "[B", (.ref r1)), ("com/example/efcor/efcor/io/RecordReader", "at", "I", (.int (1 : Int32)))]) :: Ob, (r1, .byte, [(.int b0)]) :: Ax)) := by
  refine Con.of_run (plainFor_of_name pn_0) (L0 := #[.val (.ref a1)]) (fun m => by first | (simp [entryFrame, mkF, argsToLocals, Value.category]; done) | rfl) ?_
  intro p e s m below meth c K
  refine Run.aloadN K d4_0 (pc' := 1) rfl rfl rfl ?_
  refine Run.getF K d4_1 (pc' := 4) rfl (hw _ (List.mem_of_getElem? (i := 23) rfl)) (i := 0) (j := 2) rfl rfl ?_
  refine Run.aloadN K d4_4 (pc' := 5) rfl rfl rfl ?_
  refine Run.getF K d4_5 (pc' := 8) rfl (hw _ (List.mem_of_getElem? (i := 12) rfl)) (i := 0) (j := 1) rfl rfl ?_
  refine Run.alen K d4_8 (pc' := 9) rfl (i := 0) rfl (w := (1 : Int32)) (rfl) ?_
  refine Run.icmpT K d4_9 (pT := 19) (pF := 12) (by decide) (by decide) rfl (show (0 : Int32) ≠ (1 : Int32) from by decide) ?_
  refine Run.aloadN K d4_19 (pc' := 20) rfl rfl rfl ?_
  refine Run.getF K d4_20 (pc' := 23) rfl (hw _ (List.mem_of_getElem? (i := 12) rfl)) (i := 0) (j := 1) rfl rfl ?_
  refine Run.aloadN K d4_23 (pc' := 24) rfl rfl rfl ?_
  refine Run.dup K d4_24 (pc' := 25) rfl rfl ?_
  refine Run.getF K d4_25 (pc' := 28) rfl (hw _ (List.mem_of_getElem? (i := 23) rfl)) (i := 0) (j := 2) rfl rfl ?_
  refine Run.dupX1 K d4_28 (pc' := 29) rfl rfl rfl ?_
  refine Run.iconst K d4_29 (pc' := 30) rfl (v := (1 : Int32)) rfl ?_
  refine Run.iaddV K d4_30 (pc' := 31) rfl (v := (1 : Int32)) (by decide) ?_
  refine Run.putF K d4_31 (pc' := 34) rfl (hw _ (List.mem_of_getElem? (i := 23) rfl)) (Or.inl (hw _ (List.mem_of_getElem? (i := 24) rfl))) (hw _ (List.mem_of_getElem? (i := 2) rfl)) (ty := .int) (by decide) rfl rfl (i := 0) (j := 2) rfl rfl (D' := ((a1, "com/example/efcor/efcor/io/RecordReader", [("com/example/efcor/efcor/io/RecordReader", "number", "J", (.long a1_number)), ("com/example/efcor/efcor/io/RecordReader", "bytes", "[B", (.ref r1)), ("com/example/efcor/efcor/io/RecordReader", "at", "I", (.int (1 : Int32)))]) :: Ob, (r1, .byte, [(.int b0)]) :: Ax)) rfl ?_
  refine Run.baload K d4_34 (pc' := 35) rfl (i := 0) (q := 0) rfl (by decide) (by decide) (v := (.int b0)) (rfl) ?_
  exact Run.retN K d4_35 (w := (b0.toInt8.toInt32)) rfl (by decide) (rfl) (by decide) (by decide) ⟨rfl, rfl⟩
theorem d3_0 : decode prog_7_method_5_code 0 = .ok (.aload_n 0, 1) := by decide +kernel
theorem d3_1 : decode prog_7_method_5_code 1 = .ok (.invokevirtual 29, 3) := by decide +kernel
theorem d3_4 : decode prog_7_method_5_code 4 = .ok (.ifCond .eq 7, 3) := by decide +kernel
theorem d3_7 : decode prog_7_method_5_code 7 = .ok (.iconst 1, 1) := by decide +kernel
theorem d3_8 : decode prog_7_method_5_code 8 = .ok (.goto 4, 3) := by decide +kernel
theorem d3_11 : decode prog_7_method_5_code 11 = .ok (.iconst 0, 1) := by decide +kernel
theorem d3_12 : decode prog_7_method_5_code 12 = .ok (.ireturn, 1) := by decide +kernel
theorem pd_0 : parseMethodDescriptor "()B" = some ⟨[], some .byte⟩ := by decide +kernel
set_option maxRecDepth 65536 in
set_option maxHeartbeats 40000000 in
theorem rb_1_0 (l : Launch) (Z : State) (a0 : Array Value) (n0 : Nat) (hw : ∀ d ∈ tables_1, d.before a0 Z = true) (ws : List Jvm.Cond) (a1 : Addr) (a1_number : Int64) (r1 : Addr) (b0 : Int32) (Ob : List OObj) (Ax : List OArr) : Con l Z a0 n0 ws (⟨"com/example/efcor/efcor/io/RecordReader", "readBoolean", "()Z"⟩ : MethodName) prog_7_method_5_code 1 (some .boolean) ({ frames := 1, cells := 0, slots := 0, locals := 12 } : Room) #[(.ref a1)] ((a1, "com/example/efcor/efcor/io/RecordReader", [("com/example/efcor/efcor/io/RecordReader", "number", "J", (.long a1_number)), ("com/example/efcor/efcor/io/RecordReader", "bytes", "[B", (.ref r1)), ("com/example/efcor/efcor/io/RecordReader", "at", "I", (.int (0 : Int32)))]) :: Ob, (r1, .byte, [(.int b0)]) :: Ax) (fun vq Dq => ∃ (j3 : Int32), (((((b0.toInt8.toInt32) = (0 : Int32)) ∧ j3 = (0 : Int32)) ∨ ((¬ ((b0.toInt8.toInt32) = (0 : Int32))) ∧ j3 = (1 : Int32)))) ∧ vq = (some (.int j3)) ∧ Dq = ((a1, "com/example/efcor/efcor/io/RecordReader", [("com/example/efcor/efcor/io/RecordReader", "number", "J", (.long a1_number)), ("com/example/efcor/efcor/io/RecordReader", "bytes", "[B", (.ref r1)), ("com/example/efcor/efcor/io/RecordReader", "at", "I", (.int (1 : Int32)))]) :: Ob, (r1, .byte, [(.int b0)]) :: Ax)) := by
  refine Con.of_run (plainFor_of_name pn_0) (L0 := #[.val (.ref a1)]) (fun m => by first | (simp [entryFrame, mkF, argsToLocals, Value.category]; done) | rfl) ?_
  intro p e s m below meth c K
  refine Run.aloadN K d3_0 (pc' := 1) rfl rfl rfl ?_
  refine Run.callP K d3_1 (pc' := 4) rfl (a := a1) (z := (⟨"com/example/efcor/efcor/io/RecordReader", "next", "()B"⟩ : MethodName)) (Cn := "com/example/efcor/efcor/io/RecordReader") (i := 0) (hw _ (List.mem_of_getElem? (i := 19) rfl)) (hw _ (List.mem_of_getElem? (i := 21) rfl)) (hw _ (List.mem_of_getElem? (i := 17) rfl)) rfl (hw _ (List.mem_of_getElem? (i := 20) rfl)) (hw _ (List.mem_of_getElem? (i := 3) rfl)) (hw _ (List.mem_of_getElem? (i := 22) rfl)) (by decide) rfl (nx_1_0 l Z a0 n0 hw [] (a1) (a1_number) (r1) (b0) (Ob) (Ax) ) (argsL := []) (rest := []) rfl rfl pd_0 rfl (W := 0) rfl (by decide) (by decide) (cells' := 0) (slots' := 0) rfl rfl (by decide) (by decide) (Ret.k (S' := [(.int (b0.toInt8.toInt32))]) rfl ?_)
  refine Run.as (D' := ((a1, "com/example/efcor/efcor/io/RecordReader", [("com/example/efcor/efcor/io/RecordReader", "number", "J", (.long a1_number)), ("com/example/efcor/efcor/io/RecordReader", "bytes", "[B", (.ref r1)), ("com/example/efcor/efcor/io/RecordReader", "at", "I", (.int (1 : Int32)))]) :: Ob, (r1, .byte, [(.int b0)]) :: Ax)) rfl ?_
  refine Run.join1 (F := fun (j7 : Int32) => (((b0.toInt8.toInt32) = (0 : Int32)) ∧ j7 = (0 : Int32)) ∨ ((¬ ((b0.toInt8.toInt32) = (0 : Int32))) ∧ j7 = (1 : Int32))) (D' := fun (j7 : Int32) => ((a1, "com/example/efcor/efcor/io/RecordReader", [("com/example/efcor/efcor/io/RecordReader", "number", "J", (.long a1_number)), ("com/example/efcor/efcor/io/RecordReader", "bytes", "[B", (.ref r1)), ("com/example/efcor/efcor/io/RecordReader", "at", "I", (.int (1 : Int32)))]) :: Ob, (r1, .byte, [(.int b0)]) :: Ax)) (cells' := 0) (slots' := 0) (pc' := 12) (L' := fun (j7 : Int32) => #[.val (.ref a1)]) (S' := fun (j7 : Int32) => [(.int j7)]) ?_ (fun J4 => ?_)
  · intro j7 hjj7
    exact Run.retN K d3_12 (w := j7) rfl (by decide) (own_bool (by rcases hjj7 with ⟨-, q⟩ | ⟨-, q⟩ <;> first | exact Or.inl q | exact Or.inr q)) (by decide) (by decide) ⟨j7, hjj7, rfl, rfl⟩
  · skip
    refine Run.ifc K d3_4 (pT := 11) (pF := 7) (by decide) (by decide) rfl (fun (h4_7 : (b0.toInt8.toInt32) = (0 : Int32)) => ?_) (fun (h4_7 : ¬ ((b0.toInt8.toInt32) = (0 : Int32))) => ?_)
    · skip
      refine Run.iconst K d3_11 (pc' := 12) rfl (v := (0 : Int32)) rfl ?_
      exact J4 _ (Or.inl ⟨h4_7, rfl⟩)
    · skip
      refine Run.iconst K d3_7 (pc' := 8) rfl (v := (1 : Int32)) rfl ?_
      refine Run.goto K d3_8 (pc' := 12) (by decide) (by decide) ?_
      exact J4 _ (Or.inr (⟨h4_7, rfl⟩))
theorem d7_0 : decode prog_7_method_4_code 0 = .ok (.lconst 0, 1) := by decide +kernel
theorem d7_1 : decode prog_7_method_4_code 1 = .ok (.lstore_n 1, 1) := by decide +kernel
theorem d7_2 : decode prog_7_method_4_code 2 = .ok (.iconst 0, 1) := by decide +kernel
theorem d7_3 : decode prog_7_method_4_code 3 = .ok (.istore_n 3, 1) := by decide +kernel
theorem d7_4 : decode prog_7_method_4_code 4 = .ok (.iload_n 3, 1) := by decide +kernel
theorem d7_5 : decode prog_7_method_4_code 5 = .ok (.bipush 63, 2) := by decide +kernel
theorem d7_7 : decode prog_7_method_4_code 7 = .ok (.if_icmp .le 10, 3) := by decide +kernel
theorem d7_10 : decode prog_7_method_4_code 10 = .ok (.aload_n 0, 1) := by decide +kernel
theorem d7_11 : decode prog_7_method_4_code 11 = .ok (.ldc 27, 2) := by decide +kernel
theorem d7_13 : decode prog_7_method_4_code 13 = .ok (.invokevirtual 23, 3) := by decide +kernel
theorem d7_16 : decode prog_7_method_4_code 16 = .ok (.athrow, 1) := by decide +kernel
theorem d7_17 : decode prog_7_method_4_code 17 = .ok (.aload_n 0, 1) := by decide +kernel
theorem d7_18 : decode prog_7_method_4_code 18 = .ok (.invokevirtual 29, 3) := by decide +kernel
theorem d7_21 : decode prog_7_method_4_code 21 = .ok (.istore 4, 2) := by decide +kernel
theorem d7_23 : decode prog_7_method_4_code 23 = .ok (.lload_n 1, 1) := by decide +kernel
theorem d7_24 : decode prog_7_method_4_code 24 = .ok (.iload 4, 2) := by decide +kernel
theorem d7_26 : decode prog_7_method_4_code 26 = .ok (.bipush 127, 2) := by decide +kernel
theorem d7_28 : decode prog_7_method_4_code 28 = .ok (.iand, 1) := by decide +kernel
theorem d7_29 : decode prog_7_method_4_code 29 = .ok (.i2l, 1) := by decide +kernel
theorem d7_30 : decode prog_7_method_4_code 30 = .ok (.iload_n 3, 1) := by decide +kernel
theorem d7_31 : decode prog_7_method_4_code 31 = .ok (.lshl, 1) := by decide +kernel
theorem d7_32 : decode prog_7_method_4_code 32 = .ok (.lor, 1) := by decide +kernel
theorem d7_33 : decode prog_7_method_4_code 33 = .ok (.lstore_n 1, 1) := by decide +kernel
theorem d7_34 : decode prog_7_method_4_code 34 = .ok (.iinc 3 7, 3) := by decide +kernel
theorem d7_37 : decode prog_7_method_4_code 37 = .ok (.iload 4, 2) := by decide +kernel
theorem d7_39 : decode prog_7_method_4_code 39 = .ok (.sipush 128, 3) := by decide +kernel
theorem d7_42 : decode prog_7_method_4_code 42 = .ok (.iand, 1) := by decide +kernel
theorem d7_43 : decode prog_7_method_4_code 43 = .ok (.ifCond .ne (-39), 3) := by decide +kernel
theorem d7_46 : decode prog_7_method_4_code 46 = .ok (.lload_n 1, 1) := by decide +kernel
theorem d7_47 : decode prog_7_method_4_code 47 = .ok (.lreturn, 1) := by decide +kernel
set_option maxRecDepth 65536 in
set_option maxHeartbeats 40000000 in
theorem rl_1 (l : Launch) (Z : State) (a0 : Array Value) (n0 : Nat) (hw : ∀ d ∈ tables_1, d.before a0 Z = true) (ws : List Jvm.Cond) (a1 : Addr) (a1_number : Int64) (r1 : Addr) (b0 : Int32) (Ob : List OObj) (Ax : List OArr) (h0 : ((b0.toInt8.toInt32) &&& (128 : Int32)) = (0 : Int32)) : Con l Z a0 n0 ws (⟨"com/example/efcor/efcor/io/RecordReader", "readLong", "()J"⟩ : MethodName) prog_7_method_4_code 5 (some .long) ({ frames := 1, cells := 0, slots := 0, locals := 12 } : Room) #[(.ref a1)] ((a1, "com/example/efcor/efcor/io/RecordReader", [("com/example/efcor/efcor/io/RecordReader", "number", "J", (.long a1_number)), ("com/example/efcor/efcor/io/RecordReader", "bytes", "[B", (.ref r1)), ("com/example/efcor/efcor/io/RecordReader", "at", "I", (.int (0 : Int32)))]) :: Ob, (r1, .byte, [(.int b0)]) :: Ax) (Ret (some (.long ((0 : Int64) ||| ((((b0.toInt8.toInt32) &&& (127 : Int32)).toInt64) <<< ((0 : Int32) &&& 0x3f).toInt64)))) ((a1, "com/example/efcor/efcor/io/RecordReader", [("com/example/efcor/efcor/io/RecordReader", "number", "J", (.long a1_number)), ("com/example/efcor/efcor/io/RecordReader", "bytes", "[B", (.ref r1)), ("com/example/efcor/efcor/io/RecordReader", "at", "I", (.int (1 : Int32)))]) :: Ob, (r1, .byte, [(.int b0)]) :: Ax)) := by
  refine Con.of_run (plainFor_of_name pn_0) (L0 := #[.val (.ref a1), .unset, .unset, .unset, .unset]) (fun m => by first | (simp [entryFrame, mkF, argsToLocals, Value.category]; done) | rfl) ?_
  intro p e s m below meth c K
  refine Run.lconst K d7_0 (pc' := 1) rfl (v := (0 : Int64)) rfl ?_
  refine Run.lstoreN K d7_1 (pc' := 2) rfl (L' := #[.val (.ref a1), .val (.long (0 : Int64)), .second, .unset, .unset]) rfl ?_
  refine Run.iconst K d7_2 (pc' := 3) rfl (v := (0 : Int32)) rfl ?_
  refine Run.istoreN K d7_3 (pc' := 4) rfl (L' := #[.val (.ref a1), .val (.long (0 : Int64)), .second, .val (.int (0 : Int32)), .unset]) rfl ?_
  refine Run.iloadN K d7_4 (pc' := 5) rfl rfl ?_
  refine Run.bipush K d7_5 (pc' := 7) rfl (v := (63 : Int32)) rfl ?_
  refine Run.icmpT K d7_7 (pT := 17) (pF := 10) (by decide) (by decide) rfl (show (0 : Int32) ≤ (63 : Int32) from by decide) ?_
  refine Run.aloadN K d7_17 (pc' := 18) rfl rfl rfl ?_
  refine Run.callP K d7_18 (pc' := 21) rfl (a := a1) (z := (⟨"com/example/efcor/efcor/io/RecordReader", "next", "()B"⟩ : MethodName)) (Cn := "com/example/efcor/efcor/io/RecordReader") (i := 0) (hw _ (List.mem_of_getElem? (i := 19) rfl)) (hw _ (List.mem_of_getElem? (i := 21) rfl)) (hw _ (List.mem_of_getElem? (i := 17) rfl)) rfl (hw _ (List.mem_of_getElem? (i := 20) rfl)) (hw _ (List.mem_of_getElem? (i := 3) rfl)) (hw _ (List.mem_of_getElem? (i := 22) rfl)) (by decide) rfl (nx_1_0 l Z a0 n0 hw [] (a1) (a1_number) (r1) (b0) (Ob) (Ax) ) (argsL := []) (rest := []) rfl rfl pd_0 rfl (W := 0) rfl (by decide) (by decide) (cells' := 0) (slots' := 0) rfl rfl (by decide) (by decide) (Ret.k (S' := [(.int (b0.toInt8.toInt32))]) rfl ?_)
  refine Run.as (D' := ((a1, "com/example/efcor/efcor/io/RecordReader", [("com/example/efcor/efcor/io/RecordReader", "number", "J", (.long a1_number)), ("com/example/efcor/efcor/io/RecordReader", "bytes", "[B", (.ref r1)), ("com/example/efcor/efcor/io/RecordReader", "at", "I", (.int (1 : Int32)))]) :: Ob, (r1, .byte, [(.int b0)]) :: Ax)) rfl ?_
  refine Run.istore K d7_21 (pc' := 23) rfl (L' := #[.val (.ref a1), .val (.long (0 : Int64)), .second, .val (.int (0 : Int32)), .val (.int (b0.toInt8.toInt32))]) rfl ?_
  refine Run.lloadN K d7_23 (pc' := 24) rfl rfl ?_
  refine Run.iload K d7_24 (pc' := 26) rfl rfl ?_
  refine Run.bipush K d7_26 (pc' := 28) rfl (v := (127 : Int32)) rfl ?_
  refine Run.iand K d7_28 (pc' := 29) rfl ?_
  refine Run.i2l K d7_29 (pc' := 30) rfl ?_
  refine Run.iloadN K d7_30 (pc' := 31) rfl rfl ?_
  refine Run.lshl K d7_31 (pc' := 32) rfl ?_
  refine Run.lor K d7_32 (pc' := 33) rfl ?_
  refine Run.lstoreN K d7_33 (pc' := 34) rfl (L' := #[.val (.ref a1), .val (.long ((0 : Int64) ||| ((((b0.toInt8.toInt32) &&& (127 : Int32)).toInt64) <<< ((0 : Int32) &&& 0x3f).toInt64))), .second, .val (.int (0 : Int32)), .val (.int (b0.toInt8.toInt32))]) rfl ?_
  refine Run.iinc K d7_34 (pc' := 37) rfl rfl (L' := #[.val (.ref a1), .val (.long ((0 : Int64) ||| ((((b0.toInt8.toInt32) &&& (127 : Int32)).toInt64) <<< ((0 : Int32) &&& 0x3f).toInt64))), .second, .val (.int (7 : Int32)), .val (.int (b0.toInt8.toInt32))]) rfl ?_
  refine Run.iload K d7_37 (pc' := 39) rfl rfl ?_
  refine Run.sipush K d7_39 (pc' := 42) rfl (v := (128 : Int32)) rfl ?_
  refine Run.iand K d7_42 (pc' := 43) rfl ?_
  refine Run.ifcF K d7_43 (pT := 4) (pF := 46) (by decide) (by decide) rfl (show ¬ (((b0.toInt8.toInt32) &&& (128 : Int32)) ≠ (0 : Int32)) from fun h => h h0) ?_
  refine Run.lloadN K d7_46 (pc' := 47) rfl rfl ?_
  exact Run.retJ K d7_47 rfl (by decide) (by decide) ⟨rfl, rfl⟩
set_option maxRecDepth 65536 in
set_option maxHeartbeats 40000000 in
theorem nx_2_0 (l : Launch) (Z : State) (a0 : Array Value) (n0 : Nat) (hw : ∀ d ∈ tables_1, d.before a0 Z = true) (ws : List Jvm.Cond) (a1 : Addr) (a1_number : Int64) (r1 : Addr) (b0 : Int32) (b1 : Int32) (Ob : List OObj) (Ax : List OArr) : Con l Z a0 n0 ws (⟨"com/example/efcor/efcor/io/RecordReader", "next", "()B"⟩ : MethodName) prog_7_method_14_code 1 (some .byte) ({ frames := 0, cells := 0, slots := 0, locals := 0 } : Room) #[(.ref a1)] ((a1, "com/example/efcor/efcor/io/RecordReader", [("com/example/efcor/efcor/io/RecordReader", "number", "J", (.long a1_number)), ("com/example/efcor/efcor/io/RecordReader", "bytes", "[B", (.ref r1)), ("com/example/efcor/efcor/io/RecordReader", "at", "I", (.int (0 : Int32)))]) :: Ob, (r1, .byte, [(.int b0), (.int b1)]) :: Ax) (Ret (some (.int (b0.toInt8.toInt32))) ((a1, "com/example/efcor/efcor/io/RecordReader", [("com/example/efcor/efcor/io/RecordReader", "number", "J", (.long a1_number)), ("com/example/efcor/efcor/io/RecordReader", "bytes", "[B", (.ref r1)), ("com/example/efcor/efcor/io/RecordReader", "at", "I", (.int (1 : Int32)))]) :: Ob, (r1, .byte, [(.int b0), (.int b1)]) :: Ax)) := by
  refine Con.of_run (plainFor_of_name pn_0) (L0 := #[.val (.ref a1)]) (fun m => by first | (simp [entryFrame, mkF, argsToLocals, Value.category]; done) | rfl) ?_
  intro p e s m below meth c K
  refine Run.aloadN K d4_0 (pc' := 1) rfl rfl rfl ?_
  refine Run.getF K d4_1 (pc' := 4) rfl (hw _ (List.mem_of_getElem? (i := 23) rfl)) (i := 0) (j := 2) rfl rfl ?_
  refine Run.aloadN K d4_4 (pc' := 5) rfl rfl rfl ?_
  refine Run.getF K d4_5 (pc' := 8) rfl (hw _ (List.mem_of_getElem? (i := 12) rfl)) (i := 0) (j := 1) rfl rfl ?_
  refine Run.alen K d4_8 (pc' := 9) rfl (i := 0) rfl (w := (2 : Int32)) (rfl) ?_
  refine Run.icmpT K d4_9 (pT := 19) (pF := 12) (by decide) (by decide) rfl (show (0 : Int32) ≠ (2 : Int32) from by decide) ?_
  refine Run.aloadN K d4_19 (pc' := 20) rfl rfl rfl ?_
  refine Run.getF K d4_20 (pc' := 23) rfl (hw _ (List.mem_of_getElem? (i := 12) rfl)) (i := 0) (j := 1) rfl rfl ?_
  refine Run.aloadN K d4_23 (pc' := 24) rfl rfl rfl ?_
  refine Run.dup K d4_24 (pc' := 25) rfl rfl ?_
  refine Run.getF K d4_25 (pc' := 28) rfl (hw _ (List.mem_of_getElem? (i := 23) rfl)) (i := 0) (j := 2) rfl rfl ?_
  refine Run.dupX1 K d4_28 (pc' := 29) rfl rfl rfl ?_
  refine Run.iconst K d4_29 (pc' := 30) rfl (v := (1 : Int32)) rfl ?_
  refine Run.iaddV K d4_30 (pc' := 31) rfl (v := (1 : Int32)) (by decide) ?_
  refine Run.putF K d4_31 (pc' := 34) rfl (hw _ (List.mem_of_getElem? (i := 23) rfl)) (Or.inl (hw _ (List.mem_of_getElem? (i := 24) rfl))) (hw _ (List.mem_of_getElem? (i := 2) rfl)) (ty := .int) (by decide) rfl rfl (i := 0) (j := 2) rfl rfl (D' := ((a1, "com/example/efcor/efcor/io/RecordReader", [("com/example/efcor/efcor/io/RecordReader", "number", "J", (.long a1_number)), ("com/example/efcor/efcor/io/RecordReader", "bytes", "[B", (.ref r1)), ("com/example/efcor/efcor/io/RecordReader", "at", "I", (.int (1 : Int32)))]) :: Ob, (r1, .byte, [(.int b0), (.int b1)]) :: Ax)) rfl ?_
  refine Run.baload K d4_34 (pc' := 35) rfl (i := 0) (q := 0) rfl (by decide) (by decide) (v := (.int b0)) (rfl) ?_
  exact Run.retN K d4_35 (w := (b0.toInt8.toInt32)) rfl (by decide) (rfl) (by decide) (by decide) ⟨rfl, rfl⟩
set_option maxRecDepth 65536 in
set_option maxHeartbeats 40000000 in
theorem rb_2_0 (l : Launch) (Z : State) (a0 : Array Value) (n0 : Nat) (hw : ∀ d ∈ tables_1, d.before a0 Z = true) (ws : List Jvm.Cond) (a1 : Addr) (a1_number : Int64) (r1 : Addr) (b0 : Int32) (b1 : Int32) (Ob : List OObj) (Ax : List OArr) : Con l Z a0 n0 ws (⟨"com/example/efcor/efcor/io/RecordReader", "readBoolean", "()Z"⟩ : MethodName) prog_7_method_5_code 1 (some .boolean) ({ frames := 1, cells := 0, slots := 0, locals := 12 } : Room) #[(.ref a1)] ((a1, "com/example/efcor/efcor/io/RecordReader", [("com/example/efcor/efcor/io/RecordReader", "number", "J", (.long a1_number)), ("com/example/efcor/efcor/io/RecordReader", "bytes", "[B", (.ref r1)), ("com/example/efcor/efcor/io/RecordReader", "at", "I", (.int (0 : Int32)))]) :: Ob, (r1, .byte, [(.int b0), (.int b1)]) :: Ax) (fun vq Dq => ∃ (j11 : Int32), (((((b0.toInt8.toInt32) = (0 : Int32)) ∧ j11 = (0 : Int32)) ∨ ((¬ ((b0.toInt8.toInt32) = (0 : Int32))) ∧ j11 = (1 : Int32)))) ∧ vq = (some (.int j11)) ∧ Dq = ((a1, "com/example/efcor/efcor/io/RecordReader", [("com/example/efcor/efcor/io/RecordReader", "number", "J", (.long a1_number)), ("com/example/efcor/efcor/io/RecordReader", "bytes", "[B", (.ref r1)), ("com/example/efcor/efcor/io/RecordReader", "at", "I", (.int (1 : Int32)))]) :: Ob, (r1, .byte, [(.int b0), (.int b1)]) :: Ax)) := by
  refine Con.of_run (plainFor_of_name pn_0) (L0 := #[.val (.ref a1)]) (fun m => by first | (simp [entryFrame, mkF, argsToLocals, Value.category]; done) | rfl) ?_
  intro p e s m below meth c K
  refine Run.aloadN K d3_0 (pc' := 1) rfl rfl rfl ?_
  refine Run.callP K d3_1 (pc' := 4) rfl (a := a1) (z := (⟨"com/example/efcor/efcor/io/RecordReader", "next", "()B"⟩ : MethodName)) (Cn := "com/example/efcor/efcor/io/RecordReader") (i := 0) (hw _ (List.mem_of_getElem? (i := 19) rfl)) (hw _ (List.mem_of_getElem? (i := 21) rfl)) (hw _ (List.mem_of_getElem? (i := 17) rfl)) rfl (hw _ (List.mem_of_getElem? (i := 20) rfl)) (hw _ (List.mem_of_getElem? (i := 3) rfl)) (hw _ (List.mem_of_getElem? (i := 22) rfl)) (by decide) rfl (nx_2_0 l Z a0 n0 hw [] (a1) (a1_number) (r1) (b0) (b1) (Ob) (Ax) ) (argsL := []) (rest := []) rfl rfl pd_0 rfl (W := 0) rfl (by decide) (by decide) (cells' := 0) (slots' := 0) rfl rfl (by decide) (by decide) (Ret.k (S' := [(.int (b0.toInt8.toInt32))]) rfl ?_)
  refine Run.as (D' := ((a1, "com/example/efcor/efcor/io/RecordReader", [("com/example/efcor/efcor/io/RecordReader", "number", "J", (.long a1_number)), ("com/example/efcor/efcor/io/RecordReader", "bytes", "[B", (.ref r1)), ("com/example/efcor/efcor/io/RecordReader", "at", "I", (.int (1 : Int32)))]) :: Ob, (r1, .byte, [(.int b0), (.int b1)]) :: Ax)) rfl ?_
  refine Run.join1 (F := fun (j15 : Int32) => (((b0.toInt8.toInt32) = (0 : Int32)) ∧ j15 = (0 : Int32)) ∨ ((¬ ((b0.toInt8.toInt32) = (0 : Int32))) ∧ j15 = (1 : Int32))) (D' := fun (j15 : Int32) => ((a1, "com/example/efcor/efcor/io/RecordReader", [("com/example/efcor/efcor/io/RecordReader", "number", "J", (.long a1_number)), ("com/example/efcor/efcor/io/RecordReader", "bytes", "[B", (.ref r1)), ("com/example/efcor/efcor/io/RecordReader", "at", "I", (.int (1 : Int32)))]) :: Ob, (r1, .byte, [(.int b0), (.int b1)]) :: Ax)) (cells' := 0) (slots' := 0) (pc' := 12) (L' := fun (j15 : Int32) => #[.val (.ref a1)]) (S' := fun (j15 : Int32) => [(.int j15)]) ?_ (fun J4 => ?_)
  · intro j15 hjj15
    exact Run.retN K d3_12 (w := j15) rfl (by decide) (own_bool (by rcases hjj15 with ⟨-, q⟩ | ⟨-, q⟩ <;> first | exact Or.inl q | exact Or.inr q)) (by decide) (by decide) ⟨j15, hjj15, rfl, rfl⟩
  · skip
    refine Run.ifc K d3_4 (pT := 11) (pF := 7) (by decide) (by decide) rfl (fun (h4_15 : (b0.toInt8.toInt32) = (0 : Int32)) => ?_) (fun (h4_15 : ¬ ((b0.toInt8.toInt32) = (0 : Int32))) => ?_)
    · skip
      refine Run.iconst K d3_11 (pc' := 12) rfl (v := (0 : Int32)) rfl ?_
      exact J4 _ (Or.inl ⟨h4_15, rfl⟩)
    · skip
      refine Run.iconst K d3_7 (pc' := 8) rfl (v := (1 : Int32)) rfl ?_
      refine Run.goto K d3_8 (pc' := 12) (by decide) (by decide) ?_
      exact J4 _ (Or.inr (⟨h4_15, rfl⟩))
set_option maxRecDepth 65536 in
set_option maxHeartbeats 40000000 in
theorem nx_2_1 (l : Launch) (Z : State) (a0 : Array Value) (n0 : Nat) (hw : ∀ d ∈ tables_1, d.before a0 Z = true) (ws : List Jvm.Cond) (a1 : Addr) (a1_number : Int64) (r1 : Addr) (b0 : Int32) (b1 : Int32) (Ob : List OObj) (Ax : List OArr) : Con l Z a0 n0 ws (⟨"com/example/efcor/efcor/io/RecordReader", "next", "()B"⟩ : MethodName) prog_7_method_14_code 1 (some .byte) ({ frames := 0, cells := 0, slots := 0, locals := 0 } : Room) #[(.ref a1)] ((a1, "com/example/efcor/efcor/io/RecordReader", [("com/example/efcor/efcor/io/RecordReader", "number", "J", (.long a1_number)), ("com/example/efcor/efcor/io/RecordReader", "bytes", "[B", (.ref r1)), ("com/example/efcor/efcor/io/RecordReader", "at", "I", (.int (1 : Int32)))]) :: Ob, (r1, .byte, [(.int b0), (.int b1)]) :: Ax) (Ret (some (.int (b1.toInt8.toInt32))) ((a1, "com/example/efcor/efcor/io/RecordReader", [("com/example/efcor/efcor/io/RecordReader", "number", "J", (.long a1_number)), ("com/example/efcor/efcor/io/RecordReader", "bytes", "[B", (.ref r1)), ("com/example/efcor/efcor/io/RecordReader", "at", "I", (.int (2 : Int32)))]) :: Ob, (r1, .byte, [(.int b0), (.int b1)]) :: Ax)) := by
  refine Con.of_run (plainFor_of_name pn_0) (L0 := #[.val (.ref a1)]) (fun m => by first | (simp [entryFrame, mkF, argsToLocals, Value.category]; done) | rfl) ?_
  intro p e s m below meth c K
  refine Run.aloadN K d4_0 (pc' := 1) rfl rfl rfl ?_
  refine Run.getF K d4_1 (pc' := 4) rfl (hw _ (List.mem_of_getElem? (i := 23) rfl)) (i := 0) (j := 2) rfl rfl ?_
  refine Run.aloadN K d4_4 (pc' := 5) rfl rfl rfl ?_
  refine Run.getF K d4_5 (pc' := 8) rfl (hw _ (List.mem_of_getElem? (i := 12) rfl)) (i := 0) (j := 1) rfl rfl ?_
  refine Run.alen K d4_8 (pc' := 9) rfl (i := 0) rfl (w := (2 : Int32)) (rfl) ?_
  refine Run.icmpT K d4_9 (pT := 19) (pF := 12) (by decide) (by decide) rfl (show (1 : Int32) ≠ (2 : Int32) from by decide) ?_
  refine Run.aloadN K d4_19 (pc' := 20) rfl rfl rfl ?_
  refine Run.getF K d4_20 (pc' := 23) rfl (hw _ (List.mem_of_getElem? (i := 12) rfl)) (i := 0) (j := 1) rfl rfl ?_
  refine Run.aloadN K d4_23 (pc' := 24) rfl rfl rfl ?_
  refine Run.dup K d4_24 (pc' := 25) rfl rfl ?_
  refine Run.getF K d4_25 (pc' := 28) rfl (hw _ (List.mem_of_getElem? (i := 23) rfl)) (i := 0) (j := 2) rfl rfl ?_
  refine Run.dupX1 K d4_28 (pc' := 29) rfl rfl rfl ?_
  refine Run.iconst K d4_29 (pc' := 30) rfl (v := (1 : Int32)) rfl ?_
  refine Run.iaddV K d4_30 (pc' := 31) rfl (v := (2 : Int32)) (by decide) ?_
  refine Run.putF K d4_31 (pc' := 34) rfl (hw _ (List.mem_of_getElem? (i := 23) rfl)) (Or.inl (hw _ (List.mem_of_getElem? (i := 24) rfl))) (hw _ (List.mem_of_getElem? (i := 2) rfl)) (ty := .int) (by decide) rfl rfl (i := 0) (j := 2) rfl rfl (D' := ((a1, "com/example/efcor/efcor/io/RecordReader", [("com/example/efcor/efcor/io/RecordReader", "number", "J", (.long a1_number)), ("com/example/efcor/efcor/io/RecordReader", "bytes", "[B", (.ref r1)), ("com/example/efcor/efcor/io/RecordReader", "at", "I", (.int (2 : Int32)))]) :: Ob, (r1, .byte, [(.int b0), (.int b1)]) :: Ax)) rfl ?_
  refine Run.baload K d4_34 (pc' := 35) rfl (i := 0) (q := 1) rfl (by decide) (by decide) (v := (.int b1)) (rfl) ?_
  exact Run.retN K d4_35 (w := (b1.toInt8.toInt32)) rfl (by decide) (rfl) (by decide) (by decide) ⟨rfl, rfl⟩
set_option maxRecDepth 65536 in
set_option maxHeartbeats 40000000 in
theorem rb_2_1 (l : Launch) (Z : State) (a0 : Array Value) (n0 : Nat) (hw : ∀ d ∈ tables_1, d.before a0 Z = true) (ws : List Jvm.Cond) (a1 : Addr) (a1_number : Int64) (r1 : Addr) (b0 : Int32) (b1 : Int32) (Ob : List OObj) (Ax : List OArr) : Con l Z a0 n0 ws (⟨"com/example/efcor/efcor/io/RecordReader", "readBoolean", "()Z"⟩ : MethodName) prog_7_method_5_code 1 (some .boolean) ({ frames := 1, cells := 0, slots := 0, locals := 12 } : Room) #[(.ref a1)] ((a1, "com/example/efcor/efcor/io/RecordReader", [("com/example/efcor/efcor/io/RecordReader", "number", "J", (.long a1_number)), ("com/example/efcor/efcor/io/RecordReader", "bytes", "[B", (.ref r1)), ("com/example/efcor/efcor/io/RecordReader", "at", "I", (.int (1 : Int32)))]) :: Ob, (r1, .byte, [(.int b0), (.int b1)]) :: Ax) (fun vq Dq => ∃ (j19 : Int32), (((((b1.toInt8.toInt32) = (0 : Int32)) ∧ j19 = (0 : Int32)) ∨ ((¬ ((b1.toInt8.toInt32) = (0 : Int32))) ∧ j19 = (1 : Int32)))) ∧ vq = (some (.int j19)) ∧ Dq = ((a1, "com/example/efcor/efcor/io/RecordReader", [("com/example/efcor/efcor/io/RecordReader", "number", "J", (.long a1_number)), ("com/example/efcor/efcor/io/RecordReader", "bytes", "[B", (.ref r1)), ("com/example/efcor/efcor/io/RecordReader", "at", "I", (.int (2 : Int32)))]) :: Ob, (r1, .byte, [(.int b0), (.int b1)]) :: Ax)) := by
  refine Con.of_run (plainFor_of_name pn_0) (L0 := #[.val (.ref a1)]) (fun m => by first | (simp [entryFrame, mkF, argsToLocals, Value.category]; done) | rfl) ?_
  intro p e s m below meth c K
  refine Run.aloadN K d3_0 (pc' := 1) rfl rfl rfl ?_
  refine Run.callP K d3_1 (pc' := 4) rfl (a := a1) (z := (⟨"com/example/efcor/efcor/io/RecordReader", "next", "()B"⟩ : MethodName)) (Cn := "com/example/efcor/efcor/io/RecordReader") (i := 0) (hw _ (List.mem_of_getElem? (i := 19) rfl)) (hw _ (List.mem_of_getElem? (i := 21) rfl)) (hw _ (List.mem_of_getElem? (i := 17) rfl)) rfl (hw _ (List.mem_of_getElem? (i := 20) rfl)) (hw _ (List.mem_of_getElem? (i := 3) rfl)) (hw _ (List.mem_of_getElem? (i := 22) rfl)) (by decide) rfl (nx_2_1 l Z a0 n0 hw [] (a1) (a1_number) (r1) (b0) (b1) (Ob) (Ax) ) (argsL := []) (rest := []) rfl rfl pd_0 rfl (W := 0) rfl (by decide) (by decide) (cells' := 0) (slots' := 0) rfl rfl (by decide) (by decide) (Ret.k (S' := [(.int (b1.toInt8.toInt32))]) rfl ?_)
  refine Run.as (D' := ((a1, "com/example/efcor/efcor/io/RecordReader", [("com/example/efcor/efcor/io/RecordReader", "number", "J", (.long a1_number)), ("com/example/efcor/efcor/io/RecordReader", "bytes", "[B", (.ref r1)), ("com/example/efcor/efcor/io/RecordReader", "at", "I", (.int (2 : Int32)))]) :: Ob, (r1, .byte, [(.int b0), (.int b1)]) :: Ax)) rfl ?_
  refine Run.join1 (F := fun (j23 : Int32) => (((b1.toInt8.toInt32) = (0 : Int32)) ∧ j23 = (0 : Int32)) ∨ ((¬ ((b1.toInt8.toInt32) = (0 : Int32))) ∧ j23 = (1 : Int32))) (D' := fun (j23 : Int32) => ((a1, "com/example/efcor/efcor/io/RecordReader", [("com/example/efcor/efcor/io/RecordReader", "number", "J", (.long a1_number)), ("com/example/efcor/efcor/io/RecordReader", "bytes", "[B", (.ref r1)), ("com/example/efcor/efcor/io/RecordReader", "at", "I", (.int (2 : Int32)))]) :: Ob, (r1, .byte, [(.int b0), (.int b1)]) :: Ax)) (cells' := 0) (slots' := 0) (pc' := 12) (L' := fun (j23 : Int32) => #[.val (.ref a1)]) (S' := fun (j23 : Int32) => [(.int j23)]) ?_ (fun J4 => ?_)
  · intro j23 hjj23
    exact Run.retN K d3_12 (w := j23) rfl (by decide) (own_bool (by rcases hjj23 with ⟨-, q⟩ | ⟨-, q⟩ <;> first | exact Or.inl q | exact Or.inr q)) (by decide) (by decide) ⟨j23, hjj23, rfl, rfl⟩
  · skip
    refine Run.ifc K d3_4 (pT := 11) (pF := 7) (by decide) (by decide) rfl (fun (h4_23 : (b1.toInt8.toInt32) = (0 : Int32)) => ?_) (fun (h4_23 : ¬ ((b1.toInt8.toInt32) = (0 : Int32))) => ?_)
    · skip
      refine Run.iconst K d3_11 (pc' := 12) rfl (v := (0 : Int32)) rfl ?_
      exact J4 _ (Or.inl ⟨h4_23, rfl⟩)
    · skip
      refine Run.iconst K d3_7 (pc' := 8) rfl (v := (1 : Int32)) rfl ?_
      refine Run.goto K d3_8 (pc' := 12) (by decide) (by decide) ?_
      exact J4 _ (Or.inr (⟨h4_23, rfl⟩))
set_option maxRecDepth 65536 in
set_option maxHeartbeats 40000000 in
theorem rl_2 (l : Launch) (Z : State) (a0 : Array Value) (n0 : Nat) (hw : ∀ d ∈ tables_1, d.before a0 Z = true) (ws : List Jvm.Cond) (a1 : Addr) (a1_number : Int64) (r1 : Addr) (b0 : Int32) (b1 : Int32) (Ob : List OObj) (Ax : List OArr) (h0 : ((b0.toInt8.toInt32) &&& (128 : Int32)) ≠ (0 : Int32)) (h1 : ((b1.toInt8.toInt32) &&& (128 : Int32)) = (0 : Int32)) : Con l Z a0 n0 ws (⟨"com/example/efcor/efcor/io/RecordReader", "readLong", "()J"⟩ : MethodName) prog_7_method_4_code 5 (some .long) ({ frames := 1, cells := 0, slots := 0, locals := 12 } : Room) #[(.ref a1)] ((a1, "com/example/efcor/efcor/io/RecordReader", [("com/example/efcor/efcor/io/RecordReader", "number", "J", (.long a1_number)), ("com/example/efcor/efcor/io/RecordReader", "bytes", "[B", (.ref r1)), ("com/example/efcor/efcor/io/RecordReader", "at", "I", (.int (0 : Int32)))]) :: Ob, (r1, .byte, [(.int b0), (.int b1)]) :: Ax) (Ret (some (.long (((0 : Int64) ||| ((((b0.toInt8.toInt32) &&& (127 : Int32)).toInt64) <<< ((0 : Int32) &&& 0x3f).toInt64)) ||| ((((b1.toInt8.toInt32) &&& (127 : Int32)).toInt64) <<< ((7 : Int32) &&& 0x3f).toInt64)))) ((a1, "com/example/efcor/efcor/io/RecordReader", [("com/example/efcor/efcor/io/RecordReader", "number", "J", (.long a1_number)), ("com/example/efcor/efcor/io/RecordReader", "bytes", "[B", (.ref r1)), ("com/example/efcor/efcor/io/RecordReader", "at", "I", (.int (2 : Int32)))]) :: Ob, (r1, .byte, [(.int b0), (.int b1)]) :: Ax)) := by
  refine Con.of_run (plainFor_of_name pn_0) (L0 := #[.val (.ref a1), .unset, .unset, .unset, .unset]) (fun m => by first | (simp [entryFrame, mkF, argsToLocals, Value.category]; done) | rfl) ?_
  intro p e s m below meth c K
  refine Run.lconst K d7_0 (pc' := 1) rfl (v := (0 : Int64)) rfl ?_
  refine Run.lstoreN K d7_1 (pc' := 2) rfl (L' := #[.val (.ref a1), .val (.long (0 : Int64)), .second, .unset, .unset]) rfl ?_
  refine Run.iconst K d7_2 (pc' := 3) rfl (v := (0 : Int32)) rfl ?_
  refine Run.istoreN K d7_3 (pc' := 4) rfl (L' := #[.val (.ref a1), .val (.long (0 : Int64)), .second, .val (.int (0 : Int32)), .unset]) rfl ?_
  refine Run.iloadN K d7_4 (pc' := 5) rfl rfl ?_
  refine Run.bipush K d7_5 (pc' := 7) rfl (v := (63 : Int32)) rfl ?_
  refine Run.icmpT K d7_7 (pT := 17) (pF := 10) (by decide) (by decide) rfl (show (0 : Int32) ≤ (63 : Int32) from by decide) ?_
  refine Run.aloadN K d7_17 (pc' := 18) rfl rfl rfl ?_
  refine Run.callP K d7_18 (pc' := 21) rfl (a := a1) (z := (⟨"com/example/efcor/efcor/io/RecordReader", "next", "()B"⟩ : MethodName)) (Cn := "com/example/efcor/efcor/io/RecordReader") (i := 0) (hw _ (List.mem_of_getElem? (i := 19) rfl)) (hw _ (List.mem_of_getElem? (i := 21) rfl)) (hw _ (List.mem_of_getElem? (i := 17) rfl)) rfl (hw _ (List.mem_of_getElem? (i := 20) rfl)) (hw _ (List.mem_of_getElem? (i := 3) rfl)) (hw _ (List.mem_of_getElem? (i := 22) rfl)) (by decide) rfl (nx_2_0 l Z a0 n0 hw [] (a1) (a1_number) (r1) (b0) (b1) (Ob) (Ax) ) (argsL := []) (rest := []) rfl rfl pd_0 rfl (W := 0) rfl (by decide) (by decide) (cells' := 0) (slots' := 0) rfl rfl (by decide) (by decide) (Ret.k (S' := [(.int (b0.toInt8.toInt32))]) rfl ?_)
  refine Run.as (D' := ((a1, "com/example/efcor/efcor/io/RecordReader", [("com/example/efcor/efcor/io/RecordReader", "number", "J", (.long a1_number)), ("com/example/efcor/efcor/io/RecordReader", "bytes", "[B", (.ref r1)), ("com/example/efcor/efcor/io/RecordReader", "at", "I", (.int (1 : Int32)))]) :: Ob, (r1, .byte, [(.int b0), (.int b1)]) :: Ax)) rfl ?_
  refine Run.istore K d7_21 (pc' := 23) rfl (L' := #[.val (.ref a1), .val (.long (0 : Int64)), .second, .val (.int (0 : Int32)), .val (.int (b0.toInt8.toInt32))]) rfl ?_
  refine Run.lloadN K d7_23 (pc' := 24) rfl rfl ?_
  refine Run.iload K d7_24 (pc' := 26) rfl rfl ?_
  refine Run.bipush K d7_26 (pc' := 28) rfl (v := (127 : Int32)) rfl ?_
  refine Run.iand K d7_28 (pc' := 29) rfl ?_
  refine Run.i2l K d7_29 (pc' := 30) rfl ?_
  refine Run.iloadN K d7_30 (pc' := 31) rfl rfl ?_
  refine Run.lshl K d7_31 (pc' := 32) rfl ?_
  refine Run.lor K d7_32 (pc' := 33) rfl ?_
  refine Run.lstoreN K d7_33 (pc' := 34) rfl (L' := #[.val (.ref a1), .val (.long ((0 : Int64) ||| ((((b0.toInt8.toInt32) &&& (127 : Int32)).toInt64) <<< ((0 : Int32) &&& 0x3f).toInt64))), .second, .val (.int (0 : Int32)), .val (.int (b0.toInt8.toInt32))]) rfl ?_
  refine Run.iinc K d7_34 (pc' := 37) rfl rfl (L' := #[.val (.ref a1), .val (.long ((0 : Int64) ||| ((((b0.toInt8.toInt32) &&& (127 : Int32)).toInt64) <<< ((0 : Int32) &&& 0x3f).toInt64))), .second, .val (.int (7 : Int32)), .val (.int (b0.toInt8.toInt32))]) rfl ?_
  refine Run.iload K d7_37 (pc' := 39) rfl rfl ?_
  refine Run.sipush K d7_39 (pc' := 42) rfl (v := (128 : Int32)) rfl ?_
  refine Run.iand K d7_42 (pc' := 43) rfl ?_
  refine Run.ifcT K d7_43 (pT := 4) (pF := 46) (by decide) (by decide) rfl (show ((b0.toInt8.toInt32) &&& (128 : Int32)) ≠ (0 : Int32) from h0) ?_
  refine Run.iloadN K d7_4 (pc' := 5) rfl rfl ?_
  refine Run.bipush K d7_5 (pc' := 7) rfl (v := (63 : Int32)) rfl ?_
  refine Run.icmpT K d7_7 (pT := 17) (pF := 10) (by decide) (by decide) rfl (show (7 : Int32) ≤ (63 : Int32) from by decide) ?_
  refine Run.aloadN K d7_17 (pc' := 18) rfl rfl rfl ?_
  refine Run.callP K d7_18 (pc' := 21) rfl (a := a1) (z := (⟨"com/example/efcor/efcor/io/RecordReader", "next", "()B"⟩ : MethodName)) (Cn := "com/example/efcor/efcor/io/RecordReader") (i := 0) (hw _ (List.mem_of_getElem? (i := 19) rfl)) (hw _ (List.mem_of_getElem? (i := 21) rfl)) (hw _ (List.mem_of_getElem? (i := 17) rfl)) rfl (hw _ (List.mem_of_getElem? (i := 20) rfl)) (hw _ (List.mem_of_getElem? (i := 3) rfl)) (hw _ (List.mem_of_getElem? (i := 22) rfl)) (by decide) rfl (nx_2_1 l Z a0 n0 hw [] (a1) (a1_number) (r1) (b0) (b1) (Ob) (Ax) ) (argsL := []) (rest := []) rfl rfl pd_0 rfl (W := 0) rfl (by decide) (by decide) (cells' := 0) (slots' := 0) rfl rfl (by decide) (by decide) (Ret.k (S' := [(.int (b1.toInt8.toInt32))]) rfl ?_)
  refine Run.as (D' := ((a1, "com/example/efcor/efcor/io/RecordReader", [("com/example/efcor/efcor/io/RecordReader", "number", "J", (.long a1_number)), ("com/example/efcor/efcor/io/RecordReader", "bytes", "[B", (.ref r1)), ("com/example/efcor/efcor/io/RecordReader", "at", "I", (.int (2 : Int32)))]) :: Ob, (r1, .byte, [(.int b0), (.int b1)]) :: Ax)) rfl ?_
  refine Run.istore K d7_21 (pc' := 23) rfl (L' := #[.val (.ref a1), .val (.long ((0 : Int64) ||| ((((b0.toInt8.toInt32) &&& (127 : Int32)).toInt64) <<< ((0 : Int32) &&& 0x3f).toInt64))), .second, .val (.int (7 : Int32)), .val (.int (b1.toInt8.toInt32))]) rfl ?_
  refine Run.lloadN K d7_23 (pc' := 24) rfl rfl ?_
  refine Run.iload K d7_24 (pc' := 26) rfl rfl ?_
  refine Run.bipush K d7_26 (pc' := 28) rfl (v := (127 : Int32)) rfl ?_
  refine Run.iand K d7_28 (pc' := 29) rfl ?_
  refine Run.i2l K d7_29 (pc' := 30) rfl ?_
  refine Run.iloadN K d7_30 (pc' := 31) rfl rfl ?_
  refine Run.lshl K d7_31 (pc' := 32) rfl ?_
  refine Run.lor K d7_32 (pc' := 33) rfl ?_
  refine Run.lstoreN K d7_33 (pc' := 34) rfl (L' := #[.val (.ref a1), .val (.long (((0 : Int64) ||| ((((b0.toInt8.toInt32) &&& (127 : Int32)).toInt64) <<< ((0 : Int32) &&& 0x3f).toInt64)) ||| ((((b1.toInt8.toInt32) &&& (127 : Int32)).toInt64) <<< ((7 : Int32) &&& 0x3f).toInt64))), .second, .val (.int (7 : Int32)), .val (.int (b1.toInt8.toInt32))]) rfl ?_
  refine Run.iinc K d7_34 (pc' := 37) rfl rfl (L' := #[.val (.ref a1), .val (.long (((0 : Int64) ||| ((((b0.toInt8.toInt32) &&& (127 : Int32)).toInt64) <<< ((0 : Int32) &&& 0x3f).toInt64)) ||| ((((b1.toInt8.toInt32) &&& (127 : Int32)).toInt64) <<< ((7 : Int32) &&& 0x3f).toInt64))), .second, .val (.int (14 : Int32)), .val (.int (b1.toInt8.toInt32))]) rfl ?_
  refine Run.iload K d7_37 (pc' := 39) rfl rfl ?_
  refine Run.sipush K d7_39 (pc' := 42) rfl (v := (128 : Int32)) rfl ?_
  refine Run.iand K d7_42 (pc' := 43) rfl ?_
  refine Run.ifcF K d7_43 (pT := 4) (pF := 46) (by decide) (by decide) rfl (show ¬ (((b1.toInt8.toInt32) &&& (128 : Int32)) ≠ (0 : Int32)) from fun h => h h1) ?_
  refine Run.lloadN K d7_46 (pc' := 47) rfl rfl ?_
  exact Run.retJ K d7_47 rfl (by decide) (by decide) ⟨rfl, rfl⟩
set_option maxRecDepth 65536 in
set_option maxHeartbeats 40000000 in
theorem nx_3_0 (l : Launch) (Z : State) (a0 : Array Value) (n0 : Nat) (hw : ∀ d ∈ tables_1, d.before a0 Z = true) (ws : List Jvm.Cond) (a1 : Addr) (a1_number : Int64) (r1 : Addr) (b0 : Int32) (b1 : Int32) (b2 : Int32) (Ob : List OObj) (Ax : List OArr) : Con l Z a0 n0 ws (⟨"com/example/efcor/efcor/io/RecordReader", "next", "()B"⟩ : MethodName) prog_7_method_14_code 1 (some .byte) ({ frames := 0, cells := 0, slots := 0, locals := 0 } : Room) #[(.ref a1)] ((a1, "com/example/efcor/efcor/io/RecordReader", [("com/example/efcor/efcor/io/RecordReader", "number", "J", (.long a1_number)), ("com/example/efcor/efcor/io/RecordReader", "bytes", "[B", (.ref r1)), ("com/example/efcor/efcor/io/RecordReader", "at", "I", (.int (0 : Int32)))]) :: Ob, (r1, .byte, [(.int b0), (.int b1), (.int b2)]) :: Ax) (Ret (some (.int (b0.toInt8.toInt32))) ((a1, "com/example/efcor/efcor/io/RecordReader", [("com/example/efcor/efcor/io/RecordReader", "number", "J", (.long a1_number)), ("com/example/efcor/efcor/io/RecordReader", "bytes", "[B", (.ref r1)), ("com/example/efcor/efcor/io/RecordReader", "at", "I", (.int (1 : Int32)))]) :: Ob, (r1, .byte, [(.int b0), (.int b1), (.int b2)]) :: Ax)) := by
  refine Con.of_run (plainFor_of_name pn_0) (L0 := #[.val (.ref a1)]) (fun m => by first | (simp [entryFrame, mkF, argsToLocals, Value.category]; done) | rfl) ?_
  intro p e s m below meth c K
  refine Run.aloadN K d4_0 (pc' := 1) rfl rfl rfl ?_
  refine Run.getF K d4_1 (pc' := 4) rfl (hw _ (List.mem_of_getElem? (i := 23) rfl)) (i := 0) (j := 2) rfl rfl ?_
  refine Run.aloadN K d4_4 (pc' := 5) rfl rfl rfl ?_
  refine Run.getF K d4_5 (pc' := 8) rfl (hw _ (List.mem_of_getElem? (i := 12) rfl)) (i := 0) (j := 1) rfl rfl ?_
  refine Run.alen K d4_8 (pc' := 9) rfl (i := 0) rfl (w := (3 : Int32)) (rfl) ?_
  refine Run.icmpT K d4_9 (pT := 19) (pF := 12) (by decide) (by decide) rfl (show (0 : Int32) ≠ (3 : Int32) from by decide) ?_
  refine Run.aloadN K d4_19 (pc' := 20) rfl rfl rfl ?_
  refine Run.getF K d4_20 (pc' := 23) rfl (hw _ (List.mem_of_getElem? (i := 12) rfl)) (i := 0) (j := 1) rfl rfl ?_
  refine Run.aloadN K d4_23 (pc' := 24) rfl rfl rfl ?_
  refine Run.dup K d4_24 (pc' := 25) rfl rfl ?_
  refine Run.getF K d4_25 (pc' := 28) rfl (hw _ (List.mem_of_getElem? (i := 23) rfl)) (i := 0) (j := 2) rfl rfl ?_
  refine Run.dupX1 K d4_28 (pc' := 29) rfl rfl rfl ?_
  refine Run.iconst K d4_29 (pc' := 30) rfl (v := (1 : Int32)) rfl ?_
  refine Run.iaddV K d4_30 (pc' := 31) rfl (v := (1 : Int32)) (by decide) ?_
  refine Run.putF K d4_31 (pc' := 34) rfl (hw _ (List.mem_of_getElem? (i := 23) rfl)) (Or.inl (hw _ (List.mem_of_getElem? (i := 24) rfl))) (hw _ (List.mem_of_getElem? (i := 2) rfl)) (ty := .int) (by decide) rfl rfl (i := 0) (j := 2) rfl rfl (D' := ((a1, "com/example/efcor/efcor/io/RecordReader", [("com/example/efcor/efcor/io/RecordReader", "number", "J", (.long a1_number)), ("com/example/efcor/efcor/io/RecordReader", "bytes", "[B", (.ref r1)), ("com/example/efcor/efcor/io/RecordReader", "at", "I", (.int (1 : Int32)))]) :: Ob, (r1, .byte, [(.int b0), (.int b1), (.int b2)]) :: Ax)) rfl ?_
  refine Run.baload K d4_34 (pc' := 35) rfl (i := 0) (q := 0) rfl (by decide) (by decide) (v := (.int b0)) (rfl) ?_
  exact Run.retN K d4_35 (w := (b0.toInt8.toInt32)) rfl (by decide) (rfl) (by decide) (by decide) ⟨rfl, rfl⟩
set_option maxRecDepth 65536 in
set_option maxHeartbeats 40000000 in
theorem rb_3_0 (l : Launch) (Z : State) (a0 : Array Value) (n0 : Nat) (hw : ∀ d ∈ tables_1, d.before a0 Z = true) (ws : List Jvm.Cond) (a1 : Addr) (a1_number : Int64) (r1 : Addr) (b0 : Int32) (b1 : Int32) (b2 : Int32) (Ob : List OObj) (Ax : List OArr) : Con l Z a0 n0 ws (⟨"com/example/efcor/efcor/io/RecordReader", "readBoolean", "()Z"⟩ : MethodName) prog_7_method_5_code 1 (some .boolean) ({ frames := 1, cells := 0, slots := 0, locals := 12 } : Room) #[(.ref a1)] ((a1, "com/example/efcor/efcor/io/RecordReader", [("com/example/efcor/efcor/io/RecordReader", "number", "J", (.long a1_number)), ("com/example/efcor/efcor/io/RecordReader", "bytes", "[B", (.ref r1)), ("com/example/efcor/efcor/io/RecordReader", "at", "I", (.int (0 : Int32)))]) :: Ob, (r1, .byte, [(.int b0), (.int b1), (.int b2)]) :: Ax) (fun vq Dq => ∃ (j27 : Int32), (((((b0.toInt8.toInt32) = (0 : Int32)) ∧ j27 = (0 : Int32)) ∨ ((¬ ((b0.toInt8.toInt32) = (0 : Int32))) ∧ j27 = (1 : Int32)))) ∧ vq = (some (.int j27)) ∧ Dq = ((a1, "com/example/efcor/efcor/io/RecordReader", [("com/example/efcor/efcor/io/RecordReader", "number", "J", (.long a1_number)), ("com/example/efcor/efcor/io/RecordReader", "bytes", "[B", (.ref r1)), ("com/example/efcor/efcor/io/RecordReader", "at", "I", (.int (1 : Int32)))]) :: Ob, (r1, .byte, [(.int b0), (.int b1), (.int b2)]) :: Ax)) := by
  refine Con.of_run (plainFor_of_name pn_0) (L0 := #[.val (.ref a1)]) (fun m => by first | (simp [entryFrame, mkF, argsToLocals, Value.category]; done) | rfl) ?_
  intro p e s m below meth c K
  refine Run.aloadN K d3_0 (pc' := 1) rfl rfl rfl ?_
  refine Run.callP K d3_1 (pc' := 4) rfl (a := a1) (z := (⟨"com/example/efcor/efcor/io/RecordReader", "next", "()B"⟩ : MethodName)) (Cn := "com/example/efcor/efcor/io/RecordReader") (i := 0) (hw _ (List.mem_of_getElem? (i := 19) rfl)) (hw _ (List.mem_of_getElem? (i := 21) rfl)) (hw _ (List.mem_of_getElem? (i := 17) rfl)) rfl (hw _ (List.mem_of_getElem? (i := 20) rfl)) (hw _ (List.mem_of_getElem? (i := 3) rfl)) (hw _ (List.mem_of_getElem? (i := 22) rfl)) (by decide) rfl (nx_3_0 l Z a0 n0 hw [] (a1) (a1_number) (r1) (b0) (b1) (b2) (Ob) (Ax) ) (argsL := []) (rest := []) rfl rfl pd_0 rfl (W := 0) rfl (by decide) (by decide) (cells' := 0) (slots' := 0) rfl rfl (by decide) (by decide) (Ret.k (S' := [(.int (b0.toInt8.toInt32))]) rfl ?_)
  refine Run.as (D' := ((a1, "com/example/efcor/efcor/io/RecordReader", [("com/example/efcor/efcor/io/RecordReader", "number", "J", (.long a1_number)), ("com/example/efcor/efcor/io/RecordReader", "bytes", "[B", (.ref r1)), ("com/example/efcor/efcor/io/RecordReader", "at", "I", (.int (1 : Int32)))]) :: Ob, (r1, .byte, [(.int b0), (.int b1), (.int b2)]) :: Ax)) rfl ?_
  refine Run.join1 (F := fun (j31 : Int32) => (((b0.toInt8.toInt32) = (0 : Int32)) ∧ j31 = (0 : Int32)) ∨ ((¬ ((b0.toInt8.toInt32) = (0 : Int32))) ∧ j31 = (1 : Int32))) (D' := fun (j31 : Int32) => ((a1, "com/example/efcor/efcor/io/RecordReader", [("com/example/efcor/efcor/io/RecordReader", "number", "J", (.long a1_number)), ("com/example/efcor/efcor/io/RecordReader", "bytes", "[B", (.ref r1)), ("com/example/efcor/efcor/io/RecordReader", "at", "I", (.int (1 : Int32)))]) :: Ob, (r1, .byte, [(.int b0), (.int b1), (.int b2)]) :: Ax)) (cells' := 0) (slots' := 0) (pc' := 12) (L' := fun (j31 : Int32) => #[.val (.ref a1)]) (S' := fun (j31 : Int32) => [(.int j31)]) ?_ (fun J4 => ?_)
  · intro j31 hjj31
    exact Run.retN K d3_12 (w := j31) rfl (by decide) (own_bool (by rcases hjj31 with ⟨-, q⟩ | ⟨-, q⟩ <;> first | exact Or.inl q | exact Or.inr q)) (by decide) (by decide) ⟨j31, hjj31, rfl, rfl⟩
  · skip
    refine Run.ifc K d3_4 (pT := 11) (pF := 7) (by decide) (by decide) rfl (fun (h4_31 : (b0.toInt8.toInt32) = (0 : Int32)) => ?_) (fun (h4_31 : ¬ ((b0.toInt8.toInt32) = (0 : Int32))) => ?_)
    · skip
      refine Run.iconst K d3_11 (pc' := 12) rfl (v := (0 : Int32)) rfl ?_
      exact J4 _ (Or.inl ⟨h4_31, rfl⟩)
    · skip
      refine Run.iconst K d3_7 (pc' := 8) rfl (v := (1 : Int32)) rfl ?_
      refine Run.goto K d3_8 (pc' := 12) (by decide) (by decide) ?_
      exact J4 _ (Or.inr (⟨h4_31, rfl⟩))
set_option maxRecDepth 65536 in
set_option maxHeartbeats 40000000 in
theorem nx_3_1 (l : Launch) (Z : State) (a0 : Array Value) (n0 : Nat) (hw : ∀ d ∈ tables_1, d.before a0 Z = true) (ws : List Jvm.Cond) (a1 : Addr) (a1_number : Int64) (r1 : Addr) (b0 : Int32) (b1 : Int32) (b2 : Int32) (Ob : List OObj) (Ax : List OArr) : Con l Z a0 n0 ws (⟨"com/example/efcor/efcor/io/RecordReader", "next", "()B"⟩ : MethodName) prog_7_method_14_code 1 (some .byte) ({ frames := 0, cells := 0, slots := 0, locals := 0 } : Room) #[(.ref a1)] ((a1, "com/example/efcor/efcor/io/RecordReader", [("com/example/efcor/efcor/io/RecordReader", "number", "J", (.long a1_number)), ("com/example/efcor/efcor/io/RecordReader", "bytes", "[B", (.ref r1)), ("com/example/efcor/efcor/io/RecordReader", "at", "I", (.int (1 : Int32)))]) :: Ob, (r1, .byte, [(.int b0), (.int b1), (.int b2)]) :: Ax) (Ret (some (.int (b1.toInt8.toInt32))) ((a1, "com/example/efcor/efcor/io/RecordReader", [("com/example/efcor/efcor/io/RecordReader", "number", "J", (.long a1_number)), ("com/example/efcor/efcor/io/RecordReader", "bytes", "[B", (.ref r1)), ("com/example/efcor/efcor/io/RecordReader", "at", "I", (.int (2 : Int32)))]) :: Ob, (r1, .byte, [(.int b0), (.int b1), (.int b2)]) :: Ax)) := by
  refine Con.of_run (plainFor_of_name pn_0) (L0 := #[.val (.ref a1)]) (fun m => by first | (simp [entryFrame, mkF, argsToLocals, Value.category]; done) | rfl) ?_
  intro p e s m below meth c K
  refine Run.aloadN K d4_0 (pc' := 1) rfl rfl rfl ?_
  refine Run.getF K d4_1 (pc' := 4) rfl (hw _ (List.mem_of_getElem? (i := 23) rfl)) (i := 0) (j := 2) rfl rfl ?_
  refine Run.aloadN K d4_4 (pc' := 5) rfl rfl rfl ?_
  refine Run.getF K d4_5 (pc' := 8) rfl (hw _ (List.mem_of_getElem? (i := 12) rfl)) (i := 0) (j := 1) rfl rfl ?_
  refine Run.alen K d4_8 (pc' := 9) rfl (i := 0) rfl (w := (3 : Int32)) (rfl) ?_
  refine Run.icmpT K d4_9 (pT := 19) (pF := 12) (by decide) (by decide) rfl (show (1 : Int32) ≠ (3 : Int32) from by decide) ?_
  refine Run.aloadN K d4_19 (pc' := 20) rfl rfl rfl ?_
  refine Run.getF K d4_20 (pc' := 23) rfl (hw _ (List.mem_of_getElem? (i := 12) rfl)) (i := 0) (j := 1) rfl rfl ?_
  refine Run.aloadN K d4_23 (pc' := 24) rfl rfl rfl ?_
  refine Run.dup K d4_24 (pc' := 25) rfl rfl ?_
  refine Run.getF K d4_25 (pc' := 28) rfl (hw _ (List.mem_of_getElem? (i := 23) rfl)) (i := 0) (j := 2) rfl rfl ?_
  refine Run.dupX1 K d4_28 (pc' := 29) rfl rfl rfl ?_
  refine Run.iconst K d4_29 (pc' := 30) rfl (v := (1 : Int32)) rfl ?_
  refine Run.iaddV K d4_30 (pc' := 31) rfl (v := (2 : Int32)) (by decide) ?_
  refine Run.putF K d4_31 (pc' := 34) rfl (hw _ (List.mem_of_getElem? (i := 23) rfl)) (Or.inl (hw _ (List.mem_of_getElem? (i := 24) rfl))) (hw _ (List.mem_of_getElem? (i := 2) rfl)) (ty := .int) (by decide) rfl rfl (i := 0) (j := 2) rfl rfl (D' := ((a1, "com/example/efcor/efcor/io/RecordReader", [("com/example/efcor/efcor/io/RecordReader", "number", "J", (.long a1_number)), ("com/example/efcor/efcor/io/RecordReader", "bytes", "[B", (.ref r1)), ("com/example/efcor/efcor/io/RecordReader", "at", "I", (.int (2 : Int32)))]) :: Ob, (r1, .byte, [(.int b0), (.int b1), (.int b2)]) :: Ax)) rfl ?_
  refine Run.baload K d4_34 (pc' := 35) rfl (i := 0) (q := 1) rfl (by decide) (by decide) (v := (.int b1)) (rfl) ?_
  exact Run.retN K d4_35 (w := (b1.toInt8.toInt32)) rfl (by decide) (rfl) (by decide) (by decide) ⟨rfl, rfl⟩
set_option maxRecDepth 65536 in
set_option maxHeartbeats 40000000 in
theorem rb_3_1 (l : Launch) (Z : State) (a0 : Array Value) (n0 : Nat) (hw : ∀ d ∈ tables_1, d.before a0 Z = true) (ws : List Jvm.Cond) (a1 : Addr) (a1_number : Int64) (r1 : Addr) (b0 : Int32) (b1 : Int32) (b2 : Int32) (Ob : List OObj) (Ax : List OArr) : Con l Z a0 n0 ws (⟨"com/example/efcor/efcor/io/RecordReader", "readBoolean", "()Z"⟩ : MethodName) prog_7_method_5_code 1 (some .boolean) ({ frames := 1, cells := 0, slots := 0, locals := 12 } : Room) #[(.ref a1)] ((a1, "com/example/efcor/efcor/io/RecordReader", [("com/example/efcor/efcor/io/RecordReader", "number", "J", (.long a1_number)), ("com/example/efcor/efcor/io/RecordReader", "bytes", "[B", (.ref r1)), ("com/example/efcor/efcor/io/RecordReader", "at", "I", (.int (1 : Int32)))]) :: Ob, (r1, .byte, [(.int b0), (.int b1), (.int b2)]) :: Ax) (fun vq Dq => ∃ (j35 : Int32), (((((b1.toInt8.toInt32) = (0 : Int32)) ∧ j35 = (0 : Int32)) ∨ ((¬ ((b1.toInt8.toInt32) = (0 : Int32))) ∧ j35 = (1 : Int32)))) ∧ vq = (some (.int j35)) ∧ Dq = ((a1, "com/example/efcor/efcor/io/RecordReader", [("com/example/efcor/efcor/io/RecordReader", "number", "J", (.long a1_number)), ("com/example/efcor/efcor/io/RecordReader", "bytes", "[B", (.ref r1)), ("com/example/efcor/efcor/io/RecordReader", "at", "I", (.int (2 : Int32)))]) :: Ob, (r1, .byte, [(.int b0), (.int b1), (.int b2)]) :: Ax)) := by
  refine Con.of_run (plainFor_of_name pn_0) (L0 := #[.val (.ref a1)]) (fun m => by first | (simp [entryFrame, mkF, argsToLocals, Value.category]; done) | rfl) ?_
  intro p e s m below meth c K
  refine Run.aloadN K d3_0 (pc' := 1) rfl rfl rfl ?_
  refine Run.callP K d3_1 (pc' := 4) rfl (a := a1) (z := (⟨"com/example/efcor/efcor/io/RecordReader", "next", "()B"⟩ : MethodName)) (Cn := "com/example/efcor/efcor/io/RecordReader") (i := 0) (hw _ (List.mem_of_getElem? (i := 19) rfl)) (hw _ (List.mem_of_getElem? (i := 21) rfl)) (hw _ (List.mem_of_getElem? (i := 17) rfl)) rfl (hw _ (List.mem_of_getElem? (i := 20) rfl)) (hw _ (List.mem_of_getElem? (i := 3) rfl)) (hw _ (List.mem_of_getElem? (i := 22) rfl)) (by decide) rfl (nx_3_1 l Z a0 n0 hw [] (a1) (a1_number) (r1) (b0) (b1) (b2) (Ob) (Ax) ) (argsL := []) (rest := []) rfl rfl pd_0 rfl (W := 0) rfl (by decide) (by decide) (cells' := 0) (slots' := 0) rfl rfl (by decide) (by decide) (Ret.k (S' := [(.int (b1.toInt8.toInt32))]) rfl ?_)
  refine Run.as (D' := ((a1, "com/example/efcor/efcor/io/RecordReader", [("com/example/efcor/efcor/io/RecordReader", "number", "J", (.long a1_number)), ("com/example/efcor/efcor/io/RecordReader", "bytes", "[B", (.ref r1)), ("com/example/efcor/efcor/io/RecordReader", "at", "I", (.int (2 : Int32)))]) :: Ob, (r1, .byte, [(.int b0), (.int b1), (.int b2)]) :: Ax)) rfl ?_
  refine Run.join1 (F := fun (j39 : Int32) => (((b1.toInt8.toInt32) = (0 : Int32)) ∧ j39 = (0 : Int32)) ∨ ((¬ ((b1.toInt8.toInt32) = (0 : Int32))) ∧ j39 = (1 : Int32))) (D' := fun (j39 : Int32) => ((a1, "com/example/efcor/efcor/io/RecordReader", [("com/example/efcor/efcor/io/RecordReader", "number", "J", (.long a1_number)), ("com/example/efcor/efcor/io/RecordReader", "bytes", "[B", (.ref r1)), ("com/example/efcor/efcor/io/RecordReader", "at", "I", (.int (2 : Int32)))]) :: Ob, (r1, .byte, [(.int b0), (.int b1), (.int b2)]) :: Ax)) (cells' := 0) (slots' := 0) (pc' := 12) (L' := fun (j39 : Int32) => #[.val (.ref a1)]) (S' := fun (j39 : Int32) => [(.int j39)]) ?_ (fun J4 => ?_)
  · intro j39 hjj39
    exact Run.retN K d3_12 (w := j39) rfl (by decide) (own_bool (by rcases hjj39 with ⟨-, q⟩ | ⟨-, q⟩ <;> first | exact Or.inl q | exact Or.inr q)) (by decide) (by decide) ⟨j39, hjj39, rfl, rfl⟩
  · skip
    refine Run.ifc K d3_4 (pT := 11) (pF := 7) (by decide) (by decide) rfl (fun (h4_39 : (b1.toInt8.toInt32) = (0 : Int32)) => ?_) (fun (h4_39 : ¬ ((b1.toInt8.toInt32) = (0 : Int32))) => ?_)
    · skip
      refine Run.iconst K d3_11 (pc' := 12) rfl (v := (0 : Int32)) rfl ?_
      exact J4 _ (Or.inl ⟨h4_39, rfl⟩)
    · skip
      refine Run.iconst K d3_7 (pc' := 8) rfl (v := (1 : Int32)) rfl ?_
      refine Run.goto K d3_8 (pc' := 12) (by decide) (by decide) ?_
      exact J4 _ (Or.inr (⟨h4_39, rfl⟩))
set_option maxRecDepth 65536 in
set_option maxHeartbeats 40000000 in
theorem nx_3_2 (l : Launch) (Z : State) (a0 : Array Value) (n0 : Nat) (hw : ∀ d ∈ tables_1, d.before a0 Z = true) (ws : List Jvm.Cond) (a1 : Addr) (a1_number : Int64) (r1 : Addr) (b0 : Int32) (b1 : Int32) (b2 : Int32) (Ob : List OObj) (Ax : List OArr) : Con l Z a0 n0 ws (⟨"com/example/efcor/efcor/io/RecordReader", "next", "()B"⟩ : MethodName) prog_7_method_14_code 1 (some .byte) ({ frames := 0, cells := 0, slots := 0, locals := 0 } : Room) #[(.ref a1)] ((a1, "com/example/efcor/efcor/io/RecordReader", [("com/example/efcor/efcor/io/RecordReader", "number", "J", (.long a1_number)), ("com/example/efcor/efcor/io/RecordReader", "bytes", "[B", (.ref r1)), ("com/example/efcor/efcor/io/RecordReader", "at", "I", (.int (2 : Int32)))]) :: Ob, (r1, .byte, [(.int b0), (.int b1), (.int b2)]) :: Ax) (Ret (some (.int (b2.toInt8.toInt32))) ((a1, "com/example/efcor/efcor/io/RecordReader", [("com/example/efcor/efcor/io/RecordReader", "number", "J", (.long a1_number)), ("com/example/efcor/efcor/io/RecordReader", "bytes", "[B", (.ref r1)), ("com/example/efcor/efcor/io/RecordReader", "at", "I", (.int (3 : Int32)))]) :: Ob, (r1, .byte, [(.int b0), (.int b1), (.int b2)]) :: Ax)) := by
  refine Con.of_run (plainFor_of_name pn_0) (L0 := #[.val (.ref a1)]) (fun m => by first | (simp [entryFrame, mkF, argsToLocals, Value.category]; done) | rfl) ?_
  intro p e s m below meth c K
  refine Run.aloadN K d4_0 (pc' := 1) rfl rfl rfl ?_
  refine Run.getF K d4_1 (pc' := 4) rfl (hw _ (List.mem_of_getElem? (i := 23) rfl)) (i := 0) (j := 2) rfl rfl ?_
  refine Run.aloadN K d4_4 (pc' := 5) rfl rfl rfl ?_
  refine Run.getF K d4_5 (pc' := 8) rfl (hw _ (List.mem_of_getElem? (i := 12) rfl)) (i := 0) (j := 1) rfl rfl ?_
  refine Run.alen K d4_8 (pc' := 9) rfl (i := 0) rfl (w := (3 : Int32)) (rfl) ?_
  refine Run.icmpT K d4_9 (pT := 19) (pF := 12) (by decide) (by decide) rfl (show (2 : Int32) ≠ (3 : Int32) from by decide) ?_
  refine Run.aloadN K d4_19 (pc' := 20) rfl rfl rfl ?_
  refine Run.getF K d4_20 (pc' := 23) rfl (hw _ (List.mem_of_getElem? (i := 12) rfl)) (i := 0) (j := 1) rfl rfl ?_
  refine Run.aloadN K d4_23 (pc' := 24) rfl rfl rfl ?_
  refine Run.dup K d4_24 (pc' := 25) rfl rfl ?_
  refine Run.getF K d4_25 (pc' := 28) rfl (hw _ (List.mem_of_getElem? (i := 23) rfl)) (i := 0) (j := 2) rfl rfl ?_
  refine Run.dupX1 K d4_28 (pc' := 29) rfl rfl rfl ?_
  refine Run.iconst K d4_29 (pc' := 30) rfl (v := (1 : Int32)) rfl ?_
  refine Run.iaddV K d4_30 (pc' := 31) rfl (v := (3 : Int32)) (by decide) ?_
  refine Run.putF K d4_31 (pc' := 34) rfl (hw _ (List.mem_of_getElem? (i := 23) rfl)) (Or.inl (hw _ (List.mem_of_getElem? (i := 24) rfl))) (hw _ (List.mem_of_getElem? (i := 2) rfl)) (ty := .int) (by decide) rfl rfl (i := 0) (j := 2) rfl rfl (D' := ((a1, "com/example/efcor/efcor/io/RecordReader", [("com/example/efcor/efcor/io/RecordReader", "number", "J", (.long a1_number)), ("com/example/efcor/efcor/io/RecordReader", "bytes", "[B", (.ref r1)), ("com/example/efcor/efcor/io/RecordReader", "at", "I", (.int (3 : Int32)))]) :: Ob, (r1, .byte, [(.int b0), (.int b1), (.int b2)]) :: Ax)) rfl ?_
  refine Run.baload K d4_34 (pc' := 35) rfl (i := 0) (q := 2) rfl (by decide) (by decide) (v := (.int b2)) (rfl) ?_
  exact Run.retN K d4_35 (w := (b2.toInt8.toInt32)) rfl (by decide) (rfl) (by decide) (by decide) ⟨rfl, rfl⟩
set_option maxRecDepth 65536 in
set_option maxHeartbeats 40000000 in
theorem rb_3_2 (l : Launch) (Z : State) (a0 : Array Value) (n0 : Nat) (hw : ∀ d ∈ tables_1, d.before a0 Z = true) (ws : List Jvm.Cond) (a1 : Addr) (a1_number : Int64) (r1 : Addr) (b0 : Int32) (b1 : Int32) (b2 : Int32) (Ob : List OObj) (Ax : List OArr) : Con l Z a0 n0 ws (⟨"com/example/efcor/efcor/io/RecordReader", "readBoolean", "()Z"⟩ : MethodName) prog_7_method_5_code 1 (some .boolean) ({ frames := 1, cells := 0, slots := 0, locals := 12 } : Room) #[(.ref a1)] ((a1, "com/example/efcor/efcor/io/RecordReader", [("com/example/efcor/efcor/io/RecordReader", "number", "J", (.long a1_number)), ("com/example/efcor/efcor/io/RecordReader", "bytes", "[B", (.ref r1)), ("com/example/efcor/efcor/io/RecordReader", "at", "I", (.int (2 : Int32)))]) :: Ob, (r1, .byte, [(.int b0), (.int b1), (.int b2)]) :: Ax) (fun vq Dq => ∃ (j43 : Int32), (((((b2.toInt8.toInt32) = (0 : Int32)) ∧ j43 = (0 : Int32)) ∨ ((¬ ((b2.toInt8.toInt32) = (0 : Int32))) ∧ j43 = (1 : Int32)))) ∧ vq = (some (.int j43)) ∧ Dq = ((a1, "com/example/efcor/efcor/io/RecordReader", [("com/example/efcor/efcor/io/RecordReader", "number", "J", (.long a1_number)), ("com/example/efcor/efcor/io/RecordReader", "bytes", "[B", (.ref r1)), ("com/example/efcor/efcor/io/RecordReader", "at", "I", (.int (3 : Int32)))]) :: Ob, (r1, .byte, [(.int b0), (.int b1), (.int b2)]) :: Ax)) := by
  refine Con.of_run (plainFor_of_name pn_0) (L0 := #[.val (.ref a1)]) (fun m => by first | (simp [entryFrame, mkF, argsToLocals, Value.category]; done) | rfl) ?_
  intro p e s m below meth c K
  refine Run.aloadN K d3_0 (pc' := 1) rfl rfl rfl ?_
  refine Run.callP K d3_1 (pc' := 4) rfl (a := a1) (z := (⟨"com/example/efcor/efcor/io/RecordReader", "next", "()B"⟩ : MethodName)) (Cn := "com/example/efcor/efcor/io/RecordReader") (i := 0) (hw _ (List.mem_of_getElem? (i := 19) rfl)) (hw _ (List.mem_of_getElem? (i := 21) rfl)) (hw _ (List.mem_of_getElem? (i := 17) rfl)) rfl (hw _ (List.mem_of_getElem? (i := 20) rfl)) (hw _ (List.mem_of_getElem? (i := 3) rfl)) (hw _ (List.mem_of_getElem? (i := 22) rfl)) (by decide) rfl (nx_3_2 l Z a0 n0 hw [] (a1) (a1_number) (r1) (b0) (b1) (b2) (Ob) (Ax) ) (argsL := []) (rest := []) rfl rfl pd_0 rfl (W := 0) rfl (by decide) (by decide) (cells' := 0) (slots' := 0) rfl rfl (by decide) (by decide) (Ret.k (S' := [(.int (b2.toInt8.toInt32))]) rfl ?_)
  refine Run.as (D' := ((a1, "com/example/efcor/efcor/io/RecordReader", [("com/example/efcor/efcor/io/RecordReader", "number", "J", (.long a1_number)), ("com/example/efcor/efcor/io/RecordReader", "bytes", "[B", (.ref r1)), ("com/example/efcor/efcor/io/RecordReader", "at", "I", (.int (3 : Int32)))]) :: Ob, (r1, .byte, [(.int b0), (.int b1), (.int b2)]) :: Ax)) rfl ?_
  refine Run.join1 (F := fun (j47 : Int32) => (((b2.toInt8.toInt32) = (0 : Int32)) ∧ j47 = (0 : Int32)) ∨ ((¬ ((b2.toInt8.toInt32) = (0 : Int32))) ∧ j47 = (1 : Int32))) (D' := fun (j47 : Int32) => ((a1, "com/example/efcor/efcor/io/RecordReader", [("com/example/efcor/efcor/io/RecordReader", "number", "J", (.long a1_number)), ("com/example/efcor/efcor/io/RecordReader", "bytes", "[B", (.ref r1)), ("com/example/efcor/efcor/io/RecordReader", "at", "I", (.int (3 : Int32)))]) :: Ob, (r1, .byte, [(.int b0), (.int b1), (.int b2)]) :: Ax)) (cells' := 0) (slots' := 0) (pc' := 12) (L' := fun (j47 : Int32) => #[.val (.ref a1)]) (S' := fun (j47 : Int32) => [(.int j47)]) ?_ (fun J4 => ?_)
  · intro j47 hjj47
    exact Run.retN K d3_12 (w := j47) rfl (by decide) (own_bool (by rcases hjj47 with ⟨-, q⟩ | ⟨-, q⟩ <;> first | exact Or.inl q | exact Or.inr q)) (by decide) (by decide) ⟨j47, hjj47, rfl, rfl⟩
  · skip
    refine Run.ifc K d3_4 (pT := 11) (pF := 7) (by decide) (by decide) rfl (fun (h4_47 : (b2.toInt8.toInt32) = (0 : Int32)) => ?_) (fun (h4_47 : ¬ ((b2.toInt8.toInt32) = (0 : Int32))) => ?_)
    · skip
      refine Run.iconst K d3_11 (pc' := 12) rfl (v := (0 : Int32)) rfl ?_
      exact J4 _ (Or.inl ⟨h4_47, rfl⟩)
    · skip
      refine Run.iconst K d3_7 (pc' := 8) rfl (v := (1 : Int32)) rfl ?_
      refine Run.goto K d3_8 (pc' := 12) (by decide) (by decide) ?_
      exact J4 _ (Or.inr (⟨h4_47, rfl⟩))
set_option maxRecDepth 65536 in
set_option maxHeartbeats 40000000 in
theorem rl_3 (l : Launch) (Z : State) (a0 : Array Value) (n0 : Nat) (hw : ∀ d ∈ tables_1, d.before a0 Z = true) (ws : List Jvm.Cond) (a1 : Addr) (a1_number : Int64) (r1 : Addr) (b0 : Int32) (b1 : Int32) (b2 : Int32) (Ob : List OObj) (Ax : List OArr) (h0 : ((b0.toInt8.toInt32) &&& (128 : Int32)) ≠ (0 : Int32)) (h1 : ((b1.toInt8.toInt32) &&& (128 : Int32)) ≠ (0 : Int32)) (h2 : ((b2.toInt8.toInt32) &&& (128 : Int32)) = (0 : Int32)) : Con l Z a0 n0 ws (⟨"com/example/efcor/efcor/io/RecordReader", "readLong", "()J"⟩ : MethodName) prog_7_method_4_code 5 (some .long) ({ frames := 1, cells := 0, slots := 0, locals := 12 } : Room) #[(.ref a1)] ((a1, "com/example/efcor/efcor/io/RecordReader", [("com/example/efcor/efcor/io/RecordReader", "number", "J", (.long a1_number)), ("com/example/efcor/efcor/io/RecordReader", "bytes", "[B", (.ref r1)), ("com/example/efcor/efcor/io/RecordReader", "at", "I", (.int (0 : Int32)))]) :: Ob, (r1, .byte, [(.int b0), (.int b1), (.int b2)]) :: Ax) (Ret (some (.long ((((0 : Int64) ||| ((((b0.toInt8.toInt32) &&& (127 : Int32)).toInt64) <<< ((0 : Int32) &&& 0x3f).toInt64)) ||| ((((b1.toInt8.toInt32) &&& (127 : Int32)).toInt64) <<< ((7 : Int32) &&& 0x3f).toInt64)) ||| ((((b2.toInt8.toInt32) &&& (127 : Int32)).toInt64) <<< ((14 : Int32) &&& 0x3f).toInt64)))) ((a1, "com/example/efcor/efcor/io/RecordReader", [("com/example/efcor/efcor/io/RecordReader", "number", "J", (.long a1_number)), ("com/example/efcor/efcor/io/RecordReader", "bytes", "[B", (.ref r1)), ("com/example/efcor/efcor/io/RecordReader", "at", "I", (.int (3 : Int32)))]) :: Ob, (r1, .byte, [(.int b0), (.int b1), (.int b2)]) :: Ax)) := by
  refine Con.of_run (plainFor_of_name pn_0) (L0 := #[.val (.ref a1), .unset, .unset, .unset, .unset]) (fun m => by first | (simp [entryFrame, mkF, argsToLocals, Value.category]; done) | rfl) ?_
  intro p e s m below meth c K
  refine Run.lconst K d7_0 (pc' := 1) rfl (v := (0 : Int64)) rfl ?_
  refine Run.lstoreN K d7_1 (pc' := 2) rfl (L' := #[.val (.ref a1), .val (.long (0 : Int64)), .second, .unset, .unset]) rfl ?_
  refine Run.iconst K d7_2 (pc' := 3) rfl (v := (0 : Int32)) rfl ?_
  refine Run.istoreN K d7_3 (pc' := 4) rfl (L' := #[.val (.ref a1), .val (.long (0 : Int64)), .second, .val (.int (0 : Int32)), .unset]) rfl ?_
  refine Run.iloadN K d7_4 (pc' := 5) rfl rfl ?_
  refine Run.bipush K d7_5 (pc' := 7) rfl (v := (63 : Int32)) rfl ?_
  refine Run.icmpT K d7_7 (pT := 17) (pF := 10) (by decide) (by decide) rfl (show (0 : Int32) ≤ (63 : Int32) from by decide) ?_
  refine Run.aloadN K d7_17 (pc' := 18) rfl rfl rfl ?_
  refine Run.callP K d7_18 (pc' := 21) rfl (a := a1) (z := (⟨"com/example/efcor/efcor/io/RecordReader", "next", "()B"⟩ : MethodName)) (Cn := "com/example/efcor/efcor/io/RecordReader") (i := 0) (hw _ (List.mem_of_getElem? (i := 19) rfl)) (hw _ (List.mem_of_getElem? (i := 21) rfl)) (hw _ (List.mem_of_getElem? (i := 17) rfl)) rfl (hw _ (List.mem_of_getElem? (i := 20) rfl)) (hw _ (List.mem_of_getElem? (i := 3) rfl)) (hw _ (List.mem_of_getElem? (i := 22) rfl)) (by decide) rfl (nx_3_0 l Z a0 n0 hw [] (a1) (a1_number) (r1) (b0) (b1) (b2) (Ob) (Ax) ) (argsL := []) (rest := []) rfl rfl pd_0 rfl (W := 0) rfl (by decide) (by decide) (cells' := 0) (slots' := 0) rfl rfl (by decide) (by decide) (Ret.k (S' := [(.int (b0.toInt8.toInt32))]) rfl ?_)
  refine Run.as (D' := ((a1, "com/example/efcor/efcor/io/RecordReader", [("com/example/efcor/efcor/io/RecordReader", "number", "J", (.long a1_number)), ("com/example/efcor/efcor/io/RecordReader", "bytes", "[B", (.ref r1)), ("com/example/efcor/efcor/io/RecordReader", "at", "I", (.int (1 : Int32)))]) :: Ob, (r1, .byte, [(.int b0), (.int b1), (.int b2)]) :: Ax)) rfl ?_
  refine Run.istore K d7_21 (pc' := 23) rfl (L' := #[.val (.ref a1), .val (.long (0 : Int64)), .second, .val (.int (0 : Int32)), .val (.int (b0.toInt8.toInt32))]) rfl ?_
  refine Run.lloadN K d7_23 (pc' := 24) rfl rfl ?_
  refine Run.iload K d7_24 (pc' := 26) rfl rfl ?_
  refine Run.bipush K d7_26 (pc' := 28) rfl (v := (127 : Int32)) rfl ?_
  refine Run.iand K d7_28 (pc' := 29) rfl ?_
  refine Run.i2l K d7_29 (pc' := 30) rfl ?_
  refine Run.iloadN K d7_30 (pc' := 31) rfl rfl ?_
  refine Run.lshl K d7_31 (pc' := 32) rfl ?_
  refine Run.lor K d7_32 (pc' := 33) rfl ?_
  refine Run.lstoreN K d7_33 (pc' := 34) rfl (L' := #[.val (.ref a1), .val (.long ((0 : Int64) ||| ((((b0.toInt8.toInt32) &&& (127 : Int32)).toInt64) <<< ((0 : Int32) &&& 0x3f).toInt64))), .second, .val (.int (0 : Int32)), .val (.int (b0.toInt8.toInt32))]) rfl ?_
  refine Run.iinc K d7_34 (pc' := 37) rfl rfl (L' := #[.val (.ref a1), .val (.long ((0 : Int64) ||| ((((b0.toInt8.toInt32) &&& (127 : Int32)).toInt64) <<< ((0 : Int32) &&& 0x3f).toInt64))), .second, .val (.int (7 : Int32)), .val (.int (b0.toInt8.toInt32))]) rfl ?_
  refine Run.iload K d7_37 (pc' := 39) rfl rfl ?_
  refine Run.sipush K d7_39 (pc' := 42) rfl (v := (128 : Int32)) rfl ?_
  refine Run.iand K d7_42 (pc' := 43) rfl ?_
  refine Run.ifcT K d7_43 (pT := 4) (pF := 46) (by decide) (by decide) rfl (show ((b0.toInt8.toInt32) &&& (128 : Int32)) ≠ (0 : Int32) from h0) ?_
  refine Run.iloadN K d7_4 (pc' := 5) rfl rfl ?_
  refine Run.bipush K d7_5 (pc' := 7) rfl (v := (63 : Int32)) rfl ?_
  refine Run.icmpT K d7_7 (pT := 17) (pF := 10) (by decide) (by decide) rfl (show (7 : Int32) ≤ (63 : Int32) from by decide) ?_
  refine Run.aloadN K d7_17 (pc' := 18) rfl rfl rfl ?_
  refine Run.callP K d7_18 (pc' := 21) rfl (a := a1) (z := (⟨"com/example/efcor/efcor/io/RecordReader", "next", "()B"⟩ : MethodName)) (Cn := "com/example/efcor/efcor/io/RecordReader") (i := 0) (hw _ (List.mem_of_getElem? (i := 19) rfl)) (hw _ (List.mem_of_getElem? (i := 21) rfl)) (hw _ (List.mem_of_getElem? (i := 17) rfl)) rfl (hw _ (List.mem_of_getElem? (i := 20) rfl)) (hw _ (List.mem_of_getElem? (i := 3) rfl)) (hw _ (List.mem_of_getElem? (i := 22) rfl)) (by decide) rfl (nx_3_1 l Z a0 n0 hw [] (a1) (a1_number) (r1) (b0) (b1) (b2) (Ob) (Ax) ) (argsL := []) (rest := []) rfl rfl pd_0 rfl (W := 0) rfl (by decide) (by decide) (cells' := 0) (slots' := 0) rfl rfl (by decide) (by decide) (Ret.k (S' := [(.int (b1.toInt8.toInt32))]) rfl ?_)
  refine Run.as (D' := ((a1, "com/example/efcor/efcor/io/RecordReader", [("com/example/efcor/efcor/io/RecordReader", "number", "J", (.long a1_number)), ("com/example/efcor/efcor/io/RecordReader", "bytes", "[B", (.ref r1)), ("com/example/efcor/efcor/io/RecordReader", "at", "I", (.int (2 : Int32)))]) :: Ob, (r1, .byte, [(.int b0), (.int b1), (.int b2)]) :: Ax)) rfl ?_
  refine Run.istore K d7_21 (pc' := 23) rfl (L' := #[.val (.ref a1), .val (.long ((0 : Int64) ||| ((((b0.toInt8.toInt32) &&& (127 : Int32)).toInt64) <<< ((0 : Int32) &&& 0x3f).toInt64))), .second, .val (.int (7 : Int32)), .val (.int (b1.toInt8.toInt32))]) rfl ?_
  refine Run.lloadN K d7_23 (pc' := 24) rfl rfl ?_
  refine Run.iload K d7_24 (pc' := 26) rfl rfl ?_
  refine Run.bipush K d7_26 (pc' := 28) rfl (v := (127 : Int32)) rfl ?_
  refine Run.iand K d7_28 (pc' := 29) rfl ?_
  refine Run.i2l K d7_29 (pc' := 30) rfl ?_
  refine Run.iloadN K d7_30 (pc' := 31) rfl rfl ?_
  refine Run.lshl K d7_31 (pc' := 32) rfl ?_
  refine Run.lor K d7_32 (pc' := 33) rfl ?_
  refine Run.lstoreN K d7_33 (pc' := 34) rfl (L' := #[.val (.ref a1), .val (.long (((0 : Int64) ||| ((((b0.toInt8.toInt32) &&& (127 : Int32)).toInt64) <<< ((0 : Int32) &&& 0x3f).toInt64)) ||| ((((b1.toInt8.toInt32) &&& (127 : Int32)).toInt64) <<< ((7 : Int32) &&& 0x3f).toInt64))), .second, .val (.int (7 : Int32)), .val (.int (b1.toInt8.toInt32))]) rfl ?_
  refine Run.iinc K d7_34 (pc' := 37) rfl rfl (L' := #[.val (.ref a1), .val (.long (((0 : Int64) ||| ((((b0.toInt8.toInt32) &&& (127 : Int32)).toInt64) <<< ((0 : Int32) &&& 0x3f).toInt64)) ||| ((((b1.toInt8.toInt32) &&& (127 : Int32)).toInt64) <<< ((7 : Int32) &&& 0x3f).toInt64))), .second, .val (.int (14 : Int32)), .val (.int (b1.toInt8.toInt32))]) rfl ?_
  refine Run.iload K d7_37 (pc' := 39) rfl rfl ?_
  refine Run.sipush K d7_39 (pc' := 42) rfl (v := (128 : Int32)) rfl ?_
  refine Run.iand K d7_42 (pc' := 43) rfl ?_
  refine Run.ifcT K d7_43 (pT := 4) (pF := 46) (by decide) (by decide) rfl (show ((b1.toInt8.toInt32) &&& (128 : Int32)) ≠ (0 : Int32) from h1) ?_
  refine Run.iloadN K d7_4 (pc' := 5) rfl rfl ?_
  refine Run.bipush K d7_5 (pc' := 7) rfl (v := (63 : Int32)) rfl ?_
  refine Run.icmpT K d7_7 (pT := 17) (pF := 10) (by decide) (by decide) rfl (show (14 : Int32) ≤ (63 : Int32) from by decide) ?_
  refine Run.aloadN K d7_17 (pc' := 18) rfl rfl rfl ?_
  refine Run.callP K d7_18 (pc' := 21) rfl (a := a1) (z := (⟨"com/example/efcor/efcor/io/RecordReader", "next", "()B"⟩ : MethodName)) (Cn := "com/example/efcor/efcor/io/RecordReader") (i := 0) (hw _ (List.mem_of_getElem? (i := 19) rfl)) (hw _ (List.mem_of_getElem? (i := 21) rfl)) (hw _ (List.mem_of_getElem? (i := 17) rfl)) rfl (hw _ (List.mem_of_getElem? (i := 20) rfl)) (hw _ (List.mem_of_getElem? (i := 3) rfl)) (hw _ (List.mem_of_getElem? (i := 22) rfl)) (by decide) rfl (nx_3_2 l Z a0 n0 hw [] (a1) (a1_number) (r1) (b0) (b1) (b2) (Ob) (Ax) ) (argsL := []) (rest := []) rfl rfl pd_0 rfl (W := 0) rfl (by decide) (by decide) (cells' := 0) (slots' := 0) rfl rfl (by decide) (by decide) (Ret.k (S' := [(.int (b2.toInt8.toInt32))]) rfl ?_)
  refine Run.as (D' := ((a1, "com/example/efcor/efcor/io/RecordReader", [("com/example/efcor/efcor/io/RecordReader", "number", "J", (.long a1_number)), ("com/example/efcor/efcor/io/RecordReader", "bytes", "[B", (.ref r1)), ("com/example/efcor/efcor/io/RecordReader", "at", "I", (.int (3 : Int32)))]) :: Ob, (r1, .byte, [(.int b0), (.int b1), (.int b2)]) :: Ax)) rfl ?_
  refine Run.istore K d7_21 (pc' := 23) rfl (L' := #[.val (.ref a1), .val (.long (((0 : Int64) ||| ((((b0.toInt8.toInt32) &&& (127 : Int32)).toInt64) <<< ((0 : Int32) &&& 0x3f).toInt64)) ||| ((((b1.toInt8.toInt32) &&& (127 : Int32)).toInt64) <<< ((7 : Int32) &&& 0x3f).toInt64))), .second, .val (.int (14 : Int32)), .val (.int (b2.toInt8.toInt32))]) rfl ?_
  refine Run.lloadN K d7_23 (pc' := 24) rfl rfl ?_
  refine Run.iload K d7_24 (pc' := 26) rfl rfl ?_
  refine Run.bipush K d7_26 (pc' := 28) rfl (v := (127 : Int32)) rfl ?_
  refine Run.iand K d7_28 (pc' := 29) rfl ?_
  refine Run.i2l K d7_29 (pc' := 30) rfl ?_
  refine Run.iloadN K d7_30 (pc' := 31) rfl rfl ?_
  refine Run.lshl K d7_31 (pc' := 32) rfl ?_
  refine Run.lor K d7_32 (pc' := 33) rfl ?_
  refine Run.lstoreN K d7_33 (pc' := 34) rfl (L' := #[.val (.ref a1), .val (.long ((((0 : Int64) ||| ((((b0.toInt8.toInt32) &&& (127 : Int32)).toInt64) <<< ((0 : Int32) &&& 0x3f).toInt64)) ||| ((((b1.toInt8.toInt32) &&& (127 : Int32)).toInt64) <<< ((7 : Int32) &&& 0x3f).toInt64)) ||| ((((b2.toInt8.toInt32) &&& (127 : Int32)).toInt64) <<< ((14 : Int32) &&& 0x3f).toInt64))), .second, .val (.int (14 : Int32)), .val (.int (b2.toInt8.toInt32))]) rfl ?_
  refine Run.iinc K d7_34 (pc' := 37) rfl rfl (L' := #[.val (.ref a1), .val (.long ((((0 : Int64) ||| ((((b0.toInt8.toInt32) &&& (127 : Int32)).toInt64) <<< ((0 : Int32) &&& 0x3f).toInt64)) ||| ((((b1.toInt8.toInt32) &&& (127 : Int32)).toInt64) <<< ((7 : Int32) &&& 0x3f).toInt64)) ||| ((((b2.toInt8.toInt32) &&& (127 : Int32)).toInt64) <<< ((14 : Int32) &&& 0x3f).toInt64))), .second, .val (.int (21 : Int32)), .val (.int (b2.toInt8.toInt32))]) rfl ?_
  refine Run.iload K d7_37 (pc' := 39) rfl rfl ?_
  refine Run.sipush K d7_39 (pc' := 42) rfl (v := (128 : Int32)) rfl ?_
  refine Run.iand K d7_42 (pc' := 43) rfl ?_
  refine Run.ifcF K d7_43 (pT := 4) (pF := 46) (by decide) (by decide) rfl (show ¬ (((b2.toInt8.toInt32) &&& (128 : Int32)) ≠ (0 : Int32)) from fun h => h h2) ?_
  refine Run.lloadN K d7_46 (pc' := 47) rfl rfl ?_
  exact Run.retJ K d7_47 rfl (by decide) (by decide) ⟨rfl, rfl⟩
theorem d5_0 : decode prog_7_method_13_code 0 = .ok (.aload_n 0, 1) := by decide +kernel
theorem d5_1 : decode prog_7_method_13_code 1 = .ok (.getfield 51, 3) := by decide +kernel
theorem d5_4 : decode prog_7_method_13_code 4 = .ok (.aload_n 0, 1) := by decide +kernel
theorem d5_5 : decode prog_7_method_13_code 5 = .ok (.getfield 13, 3) := by decide +kernel
theorem d5_8 : decode prog_7_method_13_code 8 = .ok (.arraylength, 1) := by decide +kernel
theorem d5_9 : decode prog_7_method_13_code 9 = .ok (.if_icmp .eq 10, 3) := by decide +kernel
theorem d5_12 : decode prog_7_method_13_code 12 = .ok (.aload_n 0, 1) := by decide +kernel
theorem d5_13 : decode prog_7_method_13_code 13 = .ok (.ldc 140, 2) := by decide +kernel
theorem d5_15 : decode prog_7_method_13_code 15 = .ok (.invokevirtual 23, 3) := by decide +kernel
theorem d5_18 : decode prog_7_method_13_code 18 = .ok (.athrow, 1) := by decide +kernel
theorem d5_19 : decode prog_7_method_13_code 19 = .ok (.return_, 1) := by decide +kernel
set_option maxRecDepth 65536 in
set_option maxHeartbeats 40000000 in
theorem en_0 (l : Launch) (Z : State) (a0 : Array Value) (n0 : Nat) (hw : ∀ d ∈ tables_1, d.before a0 Z = true) (ws : List Jvm.Cond) (a1 : Addr) (a1_number : Int64) (r1 : Addr) (Ob : List OObj) (Ax : List OArr) : Con l Z a0 n0 ws (⟨"com/example/efcor/efcor/io/RecordReader", "end", "()V"⟩ : MethodName) prog_7_method_13_code 1 none ({ frames := 0, cells := 0, slots := 0, locals := 0 } : Room) #[(.ref a1)] ((a1, "com/example/efcor/efcor/io/RecordReader", [("com/example/efcor/efcor/io/RecordReader", "number", "J", (.long a1_number)), ("com/example/efcor/efcor/io/RecordReader", "bytes", "[B", (.ref r1)), ("com/example/efcor/efcor/io/RecordReader", "at", "I", (.int (0 : Int32)))]) :: Ob, (r1, .byte, []) :: Ax) (Ret none ((a1, "com/example/efcor/efcor/io/RecordReader", [("com/example/efcor/efcor/io/RecordReader", "number", "J", (.long a1_number)), ("com/example/efcor/efcor/io/RecordReader", "bytes", "[B", (.ref r1)), ("com/example/efcor/efcor/io/RecordReader", "at", "I", (.int (0 : Int32)))]) :: Ob, (r1, .byte, []) :: Ax)) := by
  refine Con.of_run (plainFor_of_name pn_0) (L0 := #[.val (.ref a1)]) (fun m => by first | (simp [entryFrame, mkF, argsToLocals, Value.category]; done) | rfl) ?_
  intro p e s m below meth c K
  refine Run.aloadN K d5_0 (pc' := 1) rfl rfl rfl ?_
  refine Run.getF K d5_1 (pc' := 4) rfl (hw _ (List.mem_of_getElem? (i := 23) rfl)) (i := 0) (j := 2) rfl rfl ?_
  refine Run.aloadN K d5_4 (pc' := 5) rfl rfl rfl ?_
  refine Run.getF K d5_5 (pc' := 8) rfl (hw _ (List.mem_of_getElem? (i := 12) rfl)) (i := 0) (j := 1) rfl rfl ?_
  refine Run.alen K d5_8 (pc' := 9) rfl (i := 0) rfl (w := (0 : Int32)) (rfl) ?_
  refine Run.icmpT K d5_9 (pT := 19) (pF := 12) (by decide) (by decide) rfl (show (0 : Int32) = (0 : Int32) from by decide) ?_
  exact Run.retV K d5_19 rfl (by decide) (by decide) ⟨rfl, rfl⟩
set_option maxRecDepth 65536 in
set_option maxHeartbeats 40000000 in
theorem en_1 (l : Launch) (Z : State) (a0 : Array Value) (n0 : Nat) (hw : ∀ d ∈ tables_1, d.before a0 Z = true) (ws : List Jvm.Cond) (a1 : Addr) (a1_number : Int64) (r1 : Addr) (b0 : Int32) (Ob : List OObj) (Ax : List OArr) : Con l Z a0 n0 ws (⟨"com/example/efcor/efcor/io/RecordReader", "end", "()V"⟩ : MethodName) prog_7_method_13_code 1 none ({ frames := 0, cells := 0, slots := 0, locals := 0 } : Room) #[(.ref a1)] ((a1, "com/example/efcor/efcor/io/RecordReader", [("com/example/efcor/efcor/io/RecordReader", "number", "J", (.long a1_number)), ("com/example/efcor/efcor/io/RecordReader", "bytes", "[B", (.ref r1)), ("com/example/efcor/efcor/io/RecordReader", "at", "I", (.int (1 : Int32)))]) :: Ob, (r1, .byte, [(.int b0)]) :: Ax) (Ret none ((a1, "com/example/efcor/efcor/io/RecordReader", [("com/example/efcor/efcor/io/RecordReader", "number", "J", (.long a1_number)), ("com/example/efcor/efcor/io/RecordReader", "bytes", "[B", (.ref r1)), ("com/example/efcor/efcor/io/RecordReader", "at", "I", (.int (1 : Int32)))]) :: Ob, (r1, .byte, [(.int b0)]) :: Ax)) := by
  refine Con.of_run (plainFor_of_name pn_0) (L0 := #[.val (.ref a1)]) (fun m => by first | (simp [entryFrame, mkF, argsToLocals, Value.category]; done) | rfl) ?_
  intro p e s m below meth c K
  refine Run.aloadN K d5_0 (pc' := 1) rfl rfl rfl ?_
  refine Run.getF K d5_1 (pc' := 4) rfl (hw _ (List.mem_of_getElem? (i := 23) rfl)) (i := 0) (j := 2) rfl rfl ?_
  refine Run.aloadN K d5_4 (pc' := 5) rfl rfl rfl ?_
  refine Run.getF K d5_5 (pc' := 8) rfl (hw _ (List.mem_of_getElem? (i := 12) rfl)) (i := 0) (j := 1) rfl rfl ?_
  refine Run.alen K d5_8 (pc' := 9) rfl (i := 0) rfl (w := (1 : Int32)) (rfl) ?_
  refine Run.icmpT K d5_9 (pT := 19) (pF := 12) (by decide) (by decide) rfl (show (1 : Int32) = (1 : Int32) from by decide) ?_
  exact Run.retV K d5_19 rfl (by decide) (by decide) ⟨rfl, rfl⟩
set_option maxRecDepth 65536 in
set_option maxHeartbeats 40000000 in
theorem en_2 (l : Launch) (Z : State) (a0 : Array Value) (n0 : Nat) (hw : ∀ d ∈ tables_1, d.before a0 Z = true) (ws : List Jvm.Cond) (a1 : Addr) (a1_number : Int64) (r1 : Addr) (b0 : Int32) (b1 : Int32) (Ob : List OObj) (Ax : List OArr) : Con l Z a0 n0 ws (⟨"com/example/efcor/efcor/io/RecordReader", "end", "()V"⟩ : MethodName) prog_7_method_13_code 1 none ({ frames := 0, cells := 0, slots := 0, locals := 0 } : Room) #[(.ref a1)] ((a1, "com/example/efcor/efcor/io/RecordReader", [("com/example/efcor/efcor/io/RecordReader", "number", "J", (.long a1_number)), ("com/example/efcor/efcor/io/RecordReader", "bytes", "[B", (.ref r1)), ("com/example/efcor/efcor/io/RecordReader", "at", "I", (.int (2 : Int32)))]) :: Ob, (r1, .byte, [(.int b0), (.int b1)]) :: Ax) (Ret none ((a1, "com/example/efcor/efcor/io/RecordReader", [("com/example/efcor/efcor/io/RecordReader", "number", "J", (.long a1_number)), ("com/example/efcor/efcor/io/RecordReader", "bytes", "[B", (.ref r1)), ("com/example/efcor/efcor/io/RecordReader", "at", "I", (.int (2 : Int32)))]) :: Ob, (r1, .byte, [(.int b0), (.int b1)]) :: Ax)) := by
  refine Con.of_run (plainFor_of_name pn_0) (L0 := #[.val (.ref a1)]) (fun m => by first | (simp [entryFrame, mkF, argsToLocals, Value.category]; done) | rfl) ?_
  intro p e s m below meth c K
  refine Run.aloadN K d5_0 (pc' := 1) rfl rfl rfl ?_
  refine Run.getF K d5_1 (pc' := 4) rfl (hw _ (List.mem_of_getElem? (i := 23) rfl)) (i := 0) (j := 2) rfl rfl ?_
  refine Run.aloadN K d5_4 (pc' := 5) rfl rfl rfl ?_
  refine Run.getF K d5_5 (pc' := 8) rfl (hw _ (List.mem_of_getElem? (i := 12) rfl)) (i := 0) (j := 1) rfl rfl ?_
  refine Run.alen K d5_8 (pc' := 9) rfl (i := 0) rfl (w := (2 : Int32)) (rfl) ?_
  refine Run.icmpT K d5_9 (pT := 19) (pF := 12) (by decide) (by decide) rfl (show (2 : Int32) = (2 : Int32) from by decide) ?_
  exact Run.retV K d5_19 rfl (by decide) (by decide) ⟨rfl, rfl⟩
set_option maxRecDepth 65536 in
set_option maxHeartbeats 40000000 in
theorem en_3 (l : Launch) (Z : State) (a0 : Array Value) (n0 : Nat) (hw : ∀ d ∈ tables_1, d.before a0 Z = true) (ws : List Jvm.Cond) (a1 : Addr) (a1_number : Int64) (r1 : Addr) (b0 : Int32) (b1 : Int32) (b2 : Int32) (Ob : List OObj) (Ax : List OArr) : Con l Z a0 n0 ws (⟨"com/example/efcor/efcor/io/RecordReader", "end", "()V"⟩ : MethodName) prog_7_method_13_code 1 none ({ frames := 0, cells := 0, slots := 0, locals := 0 } : Room) #[(.ref a1)] ((a1, "com/example/efcor/efcor/io/RecordReader", [("com/example/efcor/efcor/io/RecordReader", "number", "J", (.long a1_number)), ("com/example/efcor/efcor/io/RecordReader", "bytes", "[B", (.ref r1)), ("com/example/efcor/efcor/io/RecordReader", "at", "I", (.int (3 : Int32)))]) :: Ob, (r1, .byte, [(.int b0), (.int b1), (.int b2)]) :: Ax) (Ret none ((a1, "com/example/efcor/efcor/io/RecordReader", [("com/example/efcor/efcor/io/RecordReader", "number", "J", (.long a1_number)), ("com/example/efcor/efcor/io/RecordReader", "bytes", "[B", (.ref r1)), ("com/example/efcor/efcor/io/RecordReader", "at", "I", (.int (3 : Int32)))]) :: Ob, (r1, .byte, [(.int b0), (.int b1), (.int b2)]) :: Ax)) := by
  refine Con.of_run (plainFor_of_name pn_0) (L0 := #[.val (.ref a1)]) (fun m => by first | (simp [entryFrame, mkF, argsToLocals, Value.category]; done) | rfl) ?_
  intro p e s m below meth c K
  refine Run.aloadN K d5_0 (pc' := 1) rfl rfl rfl ?_
  refine Run.getF K d5_1 (pc' := 4) rfl (hw _ (List.mem_of_getElem? (i := 23) rfl)) (i := 0) (j := 2) rfl rfl ?_
  refine Run.aloadN K d5_4 (pc' := 5) rfl rfl rfl ?_
  refine Run.getF K d5_5 (pc' := 8) rfl (hw _ (List.mem_of_getElem? (i := 12) rfl)) (i := 0) (j := 1) rfl rfl ?_
  refine Run.alen K d5_8 (pc' := 9) rfl (i := 0) rfl (w := (3 : Int32)) (rfl) ?_
  refine Run.icmpT K d5_9 (pT := 19) (pF := 12) (by decide) (by decide) rfl (show (3 : Int32) = (3 : Int32) from by decide) ?_
  exact Run.retV K d5_19 rfl (by decide) (by decide) ⟨rfl, rfl⟩
theorem d6_0 : decode prog_7_method_2_code 0 = .ok (.aload_n 0, 1) := by decide +kernel
theorem d6_1 : decode prog_7_method_2_code 1 = .ok (.getfield 7, 3) := by decide +kernel
theorem d6_4 : decode prog_7_method_2_code 4 = .ok (.lreturn, 1) := by decide +kernel
set_option maxRecDepth 65536 in
set_option maxHeartbeats 40000000 in
theorem rm6 (l : Launch) (Z : State) (a0 : Array Value) (n0 : Nat) (hw : ∀ d ∈ tables_1, d.before a0 Z = true) (ws : List Jvm.Cond) (a1 : Addr) (a1_number : Int64) (a1_bytes : Value) (a1_at : Int32) (Ob : List OObj) (Ax : List OArr) : Con l Z a0 n0 ws (⟨"com/example/efcor/efcor/io/RecordReader", "number", "()J"⟩ : MethodName) prog_7_method_2_code 1 (some .long) ({ frames := 0, cells := 0, slots := 0, locals := 0 } : Room) #[(.ref a1)] ((a1, "com/example/efcor/efcor/io/RecordReader", [("com/example/efcor/efcor/io/RecordReader", "number", "J", (.long a1_number)), ("com/example/efcor/efcor/io/RecordReader", "bytes", "[B", a1_bytes), ("com/example/efcor/efcor/io/RecordReader", "at", "I", (.int a1_at))]) :: Ob, Ax) (Ret (some (.long a1_number)) ((a1, "com/example/efcor/efcor/io/RecordReader", [("com/example/efcor/efcor/io/RecordReader", "number", "J", (.long a1_number)), ("com/example/efcor/efcor/io/RecordReader", "bytes", "[B", a1_bytes), ("com/example/efcor/efcor/io/RecordReader", "at", "I", (.int a1_at))]) :: Ob, Ax)) := by
  refine Con.of_run (plainFor_of_name pn_0) (L0 := #[.val (.ref a1)]) (fun m => by first | (simp [entryFrame, mkF, argsToLocals, Value.category]; done) | rfl) ?_
  intro p e s m below meth c K
  refine Run.aloadN K d6_0 (pc' := 1) rfl rfl rfl ?_
  refine Run.getF K d6_1 (pc' := 4) rfl (hw _ (List.mem_of_getElem? (i := 10) rfl)) (i := 0) (j := 0) rfl rfl ?_
  exact Run.retJ K d6_4 rfl (by decide) (by decide) ⟨rfl, rfl⟩
theorem fs_0 {Z : State} {a0 : Array Value} (hw : ∀ d ∈ tables_1, d.before a0 Z = true) : FieldsOk Z a0 "com/example/efcor/efcor/io/RecordReader" [("com/example/efcor/efcor/io/RecordReader", "number", "J", (.long (0 : Int64))), ("com/example/efcor/efcor/io/RecordReader", "bytes", "[B", .null), ("com/example/efcor/efcor/io/RecordReader", "at", "I", (.int (0 : Int32)))] := (FieldsOk.cons (Or.inr (hw _ (List.mem_of_getElem? (i := 11) rfl))) (ty := .long) (by decide) rfl (by decide) (FieldsOk.cons (Or.inr (hw _ (List.mem_of_getElem? (i := 13) rfl))) (ty := (.array .byte)) (by decide) rfl (by decide) (FieldsOk.cons (Or.inl (hw _ (List.mem_of_getElem? (i := 24) rfl))) (ty := .int) (by decide) rfl (by decide) (FieldsOk.nil _))))
theorem pd_1 : parseMethodDescriptor "(J[B)V" = some ⟨[.long, (.array .byte)], none⟩ := by decide +kernel
theorem pd_2 : parseMethodDescriptor "()V" = some ⟨[], none⟩ := by decide +kernel
theorem pd_3 : parseMethodDescriptor "()J" = some ⟨[], some .long⟩ := by decide +kernel
theorem pd_4 : parseMethodDescriptor "()Z" = some ⟨[], some .boolean⟩ := by decide +kernel
theorem pn_1 : plainName "com/example/efcor/efcor/io/RecordReaderEndPinLaw" = true := by first | (simp [plainName, overriddenIn]; done) | decide +kernel
set_option maxRecDepth 65536 in
set_option maxHeartbeats 40000000 in
theorem rm0 (l : Launch) (Z : State) (a0 : Array Value) (n0 : Nat) (hw : ∀ d ∈ tables_1, d.before a0 Z = true) (ws : List Jvm.Cond) (p1 : Int64) (p2 : Int32) (p3 : Int32) (p4 : Int32) : Con l Z a0 n0 ws x code maxLocals ret room_1 #[(.long p1), (.int p2), (.int p3), (.int p4)] ([], []) (fun vq _ => vq = some (.int 1)) := by
  refine Con.of_run (plainFor_of_name pn_1) (L0 := #[.val (.long p1), .second, .val (.int p2), .val (.int p3), .val (.int p4), .unset, .unset, .unset, .unset]) (fun m => by first | (simp [entryFrame, mkF, argsToLocals, Value.category, maxLocals]; done) | rfl) ?_
  intro p e s m below meth c K
  refine Run.iloadN K at_0 (pc' := 1) rfl rfl ?_
  refine Run.iconst K at_1 (pc' := 2) rfl (v := (3 : Int32)) rfl ?_
  refine Run.iand K at_2 (pc' := 3) rfl ?_
  rcases (own_n4 p2 : (p2 &&& (3 : Int32)) = (0 : Int32) ∨ (p2 &&& (3 : Int32)) = (1 : Int32) ∨ (p2 &&& (3 : Int32)) = (2 : Int32) ∨ (p2 &&& (3 : Int32)) = (3 : Int32)) with hq49 | hq49 | hq49 | hq49
  · rw [hq49]
    refine Run.istore K at_3 (pc' := 5) rfl (L' := #[.val (.long p1), .second, .val (.int p2), .val (.int p3), .val (.int p4), .val (.int (0 : Int32)), .unset, .unset, .unset]) rfl ?_
    refine Run.iload K at_5 (pc' := 7) rfl rfl ?_
    refine Run.newA K at_7 (pc' := 9) rfl (ty := .byte) rfl (hw _ (List.mem_of_getElem? (i := 0) rfl)) (by decide) (vs := []) (rfl) (cap := 0) (by decide) (by decide) (cells' := 1) (slots' := 0) rfl rfl (by decide) (by decide) rfl (fun r50 => ?_)
    refine Run.as (D' := ([], [(r50, .byte, [])])) rfl ?_
    refine Run.astore K at_9 (pc' := 11) rfl rfl (L' := #[.val (.long p1), .second, .val (.int p2), .val (.int p3), .val (.int p4), .val (.int (0 : Int32)), .val (.ref r50), .unset, .unset]) rfl ?_
    refine Run.iload K at_11 (pc' := 13) rfl rfl ?_
    refine Run.iconst K at_13 (pc' := 14) rfl (v := (1 : Int32)) rfl ?_
    refine Run.iand K at_14 (pc' := 15) rfl ?_
    refine Run.ifc K at_15 (pT := 22) (pF := 18) (by decide) (by decide) rfl (fun (h15_50 : (p4 &&& (1 : Int32)) = (0 : Int32)) => ?_) (fun (h15_50 : ¬ ((p4 &&& (1 : Int32)) = (0 : Int32))) => ?_)
    · skip
      refine Run.iconst K at_22 (pc' := 23) rfl (v := (0 : Int32)) rfl ?_
      refine Run.istore K at_23 (pc' := 25) rfl (L' := #[.val (.long p1), .second, .val (.int p2), .val (.int p3), .val (.int p4), .val (.int (0 : Int32)), .val (.ref r50), .val (.int (0 : Int32)), .unset]) rfl ?_
      refine Run.iload K at_25 (pc' := 27) rfl rfl ?_
      refine Run.ifcT K at_27 (pT := 36) (pF := 30) (by decide) (by decide) rfl (show (0 : Int32) ≤ (0 : Int32) from by decide) ?_
      refine Run.iload K at_36 (pc' := 38) rfl rfl ?_
      refine Run.iconst K at_38 (pc' := 39) rfl (v := (1 : Int32)) rfl ?_
      refine Run.icmpT K at_39 (pT := 51) (pF := 42) (by decide) (by decide) rfl (show (0 : Int32) ≤ (1 : Int32) from by decide) ?_
      refine Run.iload K at_51 (pc' := 53) rfl rfl ?_
      refine Run.iconst K at_53 (pc' := 54) rfl (v := (2 : Int32)) rfl ?_
      refine Run.icmpT K at_54 (pT := 66) (pF := 57) (by decide) (by decide) rfl (show (0 : Int32) ≤ (2 : Int32) from by decide) ?_
      refine Run.iload K at_66 (pc' := 68) rfl rfl ?_
      refine Run.ifcT K at_68 (pT := 132) (pF := 71) (by decide) (by decide) rfl (show (0 : Int32) = (0 : Int32) from by decide) ?_
      refine Run.newO K at_132 (pc' := 135) rfl (hw _ (List.mem_of_getElem? (i := 1) rfl)) (hw _ (List.mem_of_getElem? (i := 2) rfl)) (hw _ (List.mem_of_getElem? (i := 3) rfl)) (fs_0 hw) (cells' := 2) (slots' := 3) rfl rfl (by decide) (by decide) (fun n52 => ?_)
      refine Run.as (D' := ([(n52, "com/example/efcor/efcor/io/RecordReader", [("com/example/efcor/efcor/io/RecordReader", "number", "J", (.long (0 : Int64))), ("com/example/efcor/efcor/io/RecordReader", "bytes", "[B", .null), ("com/example/efcor/efcor/io/RecordReader", "at", "I", (.int (0 : Int32)))])], [(r50, .byte, [])])) rfl ?_
      refine Run.dup K at_135 (pc' := 136) rfl rfl ?_
      refine Run.lloadN K at_136 (pc' := 137) rfl rfl ?_
      refine Run.aload K at_137 (pc' := 139) rfl rfl rfl ?_
      refine Run.callI K at_139 (pc' := 142) rfl rfl (hw _ (List.mem_of_getElem? (i := 4) rfl)) (hw _ (List.mem_of_getElem? (i := 5) rfl)) (hw _ (List.mem_of_getElem? (i := 3) rfl)) (hw _ (List.mem_of_getElem? (i := 6) rfl)) (by decide) (a := n52) (rm1 l Z a0 n0 hw [] (n52) (p1) (r50) ((0 : Int64)) (.null) ((0 : Int32)) ([]) ([(r50, .byte, [])]) ) (argsL := [(.long p1), (.ref r50)]) (rest := [(.ref n52)]) rfl rfl pd_1 rfl (W := 1) rfl (by decide) (by decide) (cells' := 2) (slots' := 3) rfl rfl (by decide) (by decide) (Ret.k (S' := [(.ref n52)]) rfl ?_)
      refine Run.as (D' := ([(n52, "com/example/efcor/efcor/io/RecordReader", [("com/example/efcor/efcor/io/RecordReader", "number", "J", (.long p1)), ("com/example/efcor/efcor/io/RecordReader", "bytes", "[B", (.ref r50)), ("com/example/efcor/efcor/io/RecordReader", "at", "I", (.int (0 : Int32)))])], [(r50, .byte, [])])) rfl ?_
      refine Run.astore K at_142 (pc' := 144) rfl rfl (L' := #[.val (.long p1), .second, .val (.int p2), .val (.int p3), .val (.int p4), .val (.int (0 : Int32)), .val (.ref r50), .val (.int (0 : Int32)), .val (.ref n52)]) rfl ?_
      refine Run.iload K at_144 (pc' := 146) rfl rfl ?_
      refine Run.ifcT K at_146 (pT := 163) (pF := 149) (by decide) (by decide) rfl (show (0 : Int32) = (0 : Int32) from by decide) ?_
      refine Run.iload K at_163 (pc' := 165) rfl rfl ?_
      refine Run.ifcT K at_165 (pT := 174) (pF := 168) (by decide) (by decide) rfl (show (0 : Int32) ≤ (0 : Int32) from by decide) ?_
      refine Run.iload K at_174 (pc' := 176) rfl rfl ?_
      refine Run.iconst K at_176 (pc' := 177) rfl (v := (1 : Int32)) rfl ?_
      refine Run.icmpT K at_177 (pT := 186) (pF := 180) (by decide) (by decide) rfl (show (0 : Int32) ≤ (1 : Int32) from by decide) ?_
      refine Run.iload K at_186 (pc' := 188) rfl rfl ?_
      refine Run.iconst K at_188 (pc' := 189) rfl (v := (2 : Int32)) rfl ?_
      refine Run.icmpT K at_189 (pT := 198) (pF := 192) (by decide) (by decide) rfl (show (0 : Int32) ≤ (2 : Int32) from by decide) ?_
      refine Run.aload K at_198 (pc' := 200) rfl rfl rfl ?_
      refine Run.callV K at_200 (pc' := 203) rfl (a := n52) (z := (⟨"com/example/efcor/efcor/io/RecordReader", "end", "()V"⟩ : MethodName)) (Cn := "com/example/efcor/efcor/io/RecordReader") (i := 0) (hw _ (List.mem_of_getElem? (i := 25) rfl)) (hw _ (List.mem_of_getElem? (i := 26) rfl)) (hw _ (List.mem_of_getElem? (i := 28) rfl)) (hw _ (List.mem_of_getElem? (i := 27) rfl)) (hw _ (List.mem_of_getElem? (i := 3) rfl)) (hw _ (List.mem_of_getElem? (i := 29) rfl)) (by decide) rfl (en_0 l Z a0 n0 hw [] (n52) (p1) (r50) ([]) ([]) ) (argsL := []) (rest := []) rfl rfl pd_2 rfl (W := 0) rfl (by decide) (by decide) (cells' := 2) (slots' := 3) rfl rfl (by decide) (by decide) (Ret.k (S' := []) rfl ?_)
      refine Run.as (D' := ([(n52, "com/example/efcor/efcor/io/RecordReader", [("com/example/efcor/efcor/io/RecordReader", "number", "J", (.long p1)), ("com/example/efcor/efcor/io/RecordReader", "bytes", "[B", (.ref r50)), ("com/example/efcor/efcor/io/RecordReader", "at", "I", (.int (0 : Int32)))])], [(r50, .byte, [])])) rfl ?_
      refine Run.aload K at_203 (pc' := 205) rfl rfl rfl ?_
      refine Run.callV K at_205 (pc' := 208) rfl (a := n52) (z := (⟨"com/example/efcor/efcor/io/RecordReader", "end", "()V"⟩ : MethodName)) (Cn := "com/example/efcor/efcor/io/RecordReader") (i := 0) (hw _ (List.mem_of_getElem? (i := 25) rfl)) (hw _ (List.mem_of_getElem? (i := 26) rfl)) (hw _ (List.mem_of_getElem? (i := 28) rfl)) (hw _ (List.mem_of_getElem? (i := 27) rfl)) (hw _ (List.mem_of_getElem? (i := 3) rfl)) (hw _ (List.mem_of_getElem? (i := 29) rfl)) (by decide) rfl (en_0 l Z a0 n0 hw [] (n52) (p1) (r50) ([]) ([]) ) (argsL := []) (rest := []) rfl rfl pd_2 rfl (W := 0) rfl (by decide) (by decide) (cells' := 2) (slots' := 3) rfl rfl (by decide) (by decide) (Ret.k (S' := []) rfl ?_)
      refine Run.as (D' := ([(n52, "com/example/efcor/efcor/io/RecordReader", [("com/example/efcor/efcor/io/RecordReader", "number", "J", (.long p1)), ("com/example/efcor/efcor/io/RecordReader", "bytes", "[B", (.ref r50)), ("com/example/efcor/efcor/io/RecordReader", "at", "I", (.int (0 : Int32)))])], [(r50, .byte, [])])) rfl ?_
      refine Run.aload K at_208 (pc' := 210) rfl rfl rfl ?_
      refine Run.callV K at_210 (pc' := 213) rfl (a := n52) (z := (⟨"com/example/efcor/efcor/io/RecordReader", "number", "()J"⟩ : MethodName)) (Cn := "com/example/efcor/efcor/io/RecordReader") (i := 0) (hw _ (List.mem_of_getElem? (i := 30) rfl)) (hw _ (List.mem_of_getElem? (i := 31) rfl)) (hw _ (List.mem_of_getElem? (i := 33) rfl)) (hw _ (List.mem_of_getElem? (i := 32) rfl)) (hw _ (List.mem_of_getElem? (i := 3) rfl)) (hw _ (List.mem_of_getElem? (i := 34) rfl)) (by decide) rfl (rm6 l Z a0 n0 hw [] (n52) (p1) ((.ref r50)) ((0 : Int32)) ([]) ([(r50, .byte, [])]) ) (argsL := []) (rest := []) rfl rfl pd_3 rfl (W := 0) rfl (by decide) (by decide) (cells' := 2) (slots' := 3) rfl rfl (by decide) (by decide) (Ret.k (S' := [(.long p1)]) rfl ?_)
      refine Run.as (D' := ([(n52, "com/example/efcor/efcor/io/RecordReader", [("com/example/efcor/efcor/io/RecordReader", "number", "J", (.long p1)), ("com/example/efcor/efcor/io/RecordReader", "bytes", "[B", (.ref r50)), ("com/example/efcor/efcor/io/RecordReader", "at", "I", (.int (0 : Int32)))])], [(r50, .byte, [])])) rfl ?_
      refine Run.lloadN K at_213 (pc' := 214) rfl rfl ?_
      refine Run.lcmp K at_214 (pc' := 215) rfl ?_
      refine Run.ifLF K at_215 (pT := 222) (pF := 218) (by decide) (by decide) rfl (show ¬ (p1 ≠ p1) from fun h => h rfl) ?_
      refine Run.iconst K at_218 (pc' := 219) rfl (v := (1 : Int32)) rfl ?_
      refine Run.goto K at_219 (pc' := 223) (by decide) (by decide) ?_
      exact Run.retN K at_223 (w := (1 : Int32)) rfl (by decide) (by decide) (by decide) (by decide) rfl
    · skip
      refine Run.iconst K at_18 (pc' := 19) rfl (v := (1 : Int32)) rfl ?_
      refine Run.goto K at_19 (pc' := 23) (by decide) (by decide) ?_
      refine Run.istore K at_23 (pc' := 25) rfl (L' := #[.val (.long p1), .second, .val (.int p2), .val (.int p3), .val (.int p4), .val (.int (0 : Int32)), .val (.ref r50), .val (.int (1 : Int32)), .unset]) rfl ?_
      refine Run.iload K at_25 (pc' := 27) rfl rfl ?_
      refine Run.ifcT K at_27 (pT := 36) (pF := 30) (by decide) (by decide) rfl (show (0 : Int32) ≤ (0 : Int32) from by decide) ?_
      refine Run.iload K at_36 (pc' := 38) rfl rfl ?_
      refine Run.iconst K at_38 (pc' := 39) rfl (v := (1 : Int32)) rfl ?_
      refine Run.icmpT K at_39 (pT := 51) (pF := 42) (by decide) (by decide) rfl (show (0 : Int32) ≤ (1 : Int32) from by decide) ?_
      refine Run.iload K at_51 (pc' := 53) rfl rfl ?_
      refine Run.iconst K at_53 (pc' := 54) rfl (v := (2 : Int32)) rfl ?_
      refine Run.icmpT K at_54 (pT := 66) (pF := 57) (by decide) (by decide) rfl (show (0 : Int32) ≤ (2 : Int32) from by decide) ?_
      refine Run.iload K at_66 (pc' := 68) rfl rfl ?_
      refine Run.ifcF K at_68 (pT := 132) (pF := 71) (by decide) (by decide) rfl (show ¬ ((1 : Int32) = (0 : Int32)) from by decide) ?_
      refine Run.iload K at_71 (pc' := 73) rfl rfl ?_
      refine Run.ifcT K at_73 (pT := 132) (pF := 76) (by decide) (by decide) rfl (show (0 : Int32) ≤ (0 : Int32) from by decide) ?_
      refine Run.newO K at_132 (pc' := 135) rfl (hw _ (List.mem_of_getElem? (i := 1) rfl)) (hw _ (List.mem_of_getElem? (i := 2) rfl)) (hw _ (List.mem_of_getElem? (i := 3) rfl)) (fs_0 hw) (cells' := 2) (slots' := 3) rfl rfl (by decide) (by decide) (fun n53 => ?_)
      refine Run.as (D' := ([(n53, "com/example/efcor/efcor/io/RecordReader", [("com/example/efcor/efcor/io/RecordReader", "number", "J", (.long (0 : Int64))), ("com/example/efcor/efcor/io/RecordReader", "bytes", "[B", .null), ("com/example/efcor/efcor/io/RecordReader", "at", "I", (.int (0 : Int32)))])], [(r50, .byte, [])])) rfl ?_
      refine Run.dup K at_135 (pc' := 136) rfl rfl ?_
      refine Run.lloadN K at_136 (pc' := 137) rfl rfl ?_
      refine Run.aload K at_137 (pc' := 139) rfl rfl rfl ?_
      refine Run.callI K at_139 (pc' := 142) rfl rfl (hw _ (List.mem_of_getElem? (i := 4) rfl)) (hw _ (List.mem_of_getElem? (i := 5) rfl)) (hw _ (List.mem_of_getElem? (i := 3) rfl)) (hw _ (List.mem_of_getElem? (i := 6) rfl)) (by decide) (a := n53) (rm1 l Z a0 n0 hw [] (n53) (p1) (r50) ((0 : Int64)) (.null) ((0 : Int32)) ([]) ([(r50, .byte, [])]) ) (argsL := [(.long p1), (.ref r50)]) (rest := [(.ref n53)]) rfl rfl pd_1 rfl (W := 1) rfl (by decide) (by decide) (cells' := 2) (slots' := 3) rfl rfl (by decide) (by decide) (Ret.k (S' := [(.ref n53)]) rfl ?_)
      refine Run.as (D' := ([(n53, "com/example/efcor/efcor/io/RecordReader", [("com/example/efcor/efcor/io/RecordReader", "number", "J", (.long p1)), ("com/example/efcor/efcor/io/RecordReader", "bytes", "[B", (.ref r50)), ("com/example/efcor/efcor/io/RecordReader", "at", "I", (.int (0 : Int32)))])], [(r50, .byte, [])])) rfl ?_
      refine Run.astore K at_142 (pc' := 144) rfl rfl (L' := #[.val (.long p1), .second, .val (.int p2), .val (.int p3), .val (.int p4), .val (.int (0 : Int32)), .val (.ref r50), .val (.int (1 : Int32)), .val (.ref n53)]) rfl ?_
      refine Run.iload K at_144 (pc' := 146) rfl rfl ?_
      refine Run.ifcF K at_146 (pT := 163) (pF := 149) (by decide) (by decide) rfl (show ¬ ((1 : Int32) = (0 : Int32)) from by decide) ?_
      refine Run.iload K at_149 (pc' := 151) rfl rfl ?_
      refine Run.ifcT K at_151 (pT := 198) (pF := 154) (by decide) (by decide) rfl (show (0 : Int32) ≤ (0 : Int32) from by decide) ?_
      refine Run.aload K at_198 (pc' := 200) rfl rfl rfl ?_
      refine Run.callV K at_200 (pc' := 203) rfl (a := n53) (z := (⟨"com/example/efcor/efcor/io/RecordReader", "end", "()V"⟩ : MethodName)) (Cn := "com/example/efcor/efcor/io/RecordReader") (i := 0) (hw _ (List.mem_of_getElem? (i := 25) rfl)) (hw _ (List.mem_of_getElem? (i := 26) rfl)) (hw _ (List.mem_of_getElem? (i := 28) rfl)) (hw _ (List.mem_of_getElem? (i := 27) rfl)) (hw _ (List.mem_of_getElem? (i := 3) rfl)) (hw _ (List.mem_of_getElem? (i := 29) rfl)) (by decide) rfl (en_0 l Z a0 n0 hw [] (n53) (p1) (r50) ([]) ([]) ) (argsL := []) (rest := []) rfl rfl pd_2 rfl (W := 0) rfl (by decide) (by decide) (cells' := 2) (slots' := 3) rfl rfl (by decide) (by decide) (Ret.k (S' := []) rfl ?_)
      refine Run.as (D' := ([(n53, "com/example/efcor/efcor/io/RecordReader", [("com/example/efcor/efcor/io/RecordReader", "number", "J", (.long p1)), ("com/example/efcor/efcor/io/RecordReader", "bytes", "[B", (.ref r50)), ("com/example/efcor/efcor/io/RecordReader", "at", "I", (.int (0 : Int32)))])], [(r50, .byte, [])])) rfl ?_
      refine Run.aload K at_203 (pc' := 205) rfl rfl rfl ?_
      refine Run.callV K at_205 (pc' := 208) rfl (a := n53) (z := (⟨"com/example/efcor/efcor/io/RecordReader", "end", "()V"⟩ : MethodName)) (Cn := "com/example/efcor/efcor/io/RecordReader") (i := 0) (hw _ (List.mem_of_getElem? (i := 25) rfl)) (hw _ (List.mem_of_getElem? (i := 26) rfl)) (hw _ (List.mem_of_getElem? (i := 28) rfl)) (hw _ (List.mem_of_getElem? (i := 27) rfl)) (hw _ (List.mem_of_getElem? (i := 3) rfl)) (hw _ (List.mem_of_getElem? (i := 29) rfl)) (by decide) rfl (en_0 l Z a0 n0 hw [] (n53) (p1) (r50) ([]) ([]) ) (argsL := []) (rest := []) rfl rfl pd_2 rfl (W := 0) rfl (by decide) (by decide) (cells' := 2) (slots' := 3) rfl rfl (by decide) (by decide) (Ret.k (S' := []) rfl ?_)
      refine Run.as (D' := ([(n53, "com/example/efcor/efcor/io/RecordReader", [("com/example/efcor/efcor/io/RecordReader", "number", "J", (.long p1)), ("com/example/efcor/efcor/io/RecordReader", "bytes", "[B", (.ref r50)), ("com/example/efcor/efcor/io/RecordReader", "at", "I", (.int (0 : Int32)))])], [(r50, .byte, [])])) rfl ?_
      refine Run.aload K at_208 (pc' := 210) rfl rfl rfl ?_
      refine Run.callV K at_210 (pc' := 213) rfl (a := n53) (z := (⟨"com/example/efcor/efcor/io/RecordReader", "number", "()J"⟩ : MethodName)) (Cn := "com/example/efcor/efcor/io/RecordReader") (i := 0) (hw _ (List.mem_of_getElem? (i := 30) rfl)) (hw _ (List.mem_of_getElem? (i := 31) rfl)) (hw _ (List.mem_of_getElem? (i := 33) rfl)) (hw _ (List.mem_of_getElem? (i := 32) rfl)) (hw _ (List.mem_of_getElem? (i := 3) rfl)) (hw _ (List.mem_of_getElem? (i := 34) rfl)) (by decide) rfl (rm6 l Z a0 n0 hw [] (n53) (p1) ((.ref r50)) ((0 : Int32)) ([]) ([(r50, .byte, [])]) ) (argsL := []) (rest := []) rfl rfl pd_3 rfl (W := 0) rfl (by decide) (by decide) (cells' := 2) (slots' := 3) rfl rfl (by decide) (by decide) (Ret.k (S' := [(.long p1)]) rfl ?_)
      refine Run.as (D' := ([(n53, "com/example/efcor/efcor/io/RecordReader", [("com/example/efcor/efcor/io/RecordReader", "number", "J", (.long p1)), ("com/example/efcor/efcor/io/RecordReader", "bytes", "[B", (.ref r50)), ("com/example/efcor/efcor/io/RecordReader", "at", "I", (.int (0 : Int32)))])], [(r50, .byte, [])])) rfl ?_
      refine Run.lloadN K at_213 (pc' := 214) rfl rfl ?_
      refine Run.lcmp K at_214 (pc' := 215) rfl ?_
      refine Run.ifLF K at_215 (pT := 222) (pF := 218) (by decide) (by decide) rfl (show ¬ (p1 ≠ p1) from fun h => h rfl) ?_
      refine Run.iconst K at_218 (pc' := 219) rfl (v := (1 : Int32)) rfl ?_
      refine Run.goto K at_219 (pc' := 223) (by decide) (by decide) ?_
      exact Run.retN K at_223 (w := (1 : Int32)) rfl (by decide) (by decide) (by decide) (by decide) rfl
  · rw [hq49]
    refine Run.istore K at_3 (pc' := 5) rfl (L' := #[.val (.long p1), .second, .val (.int p2), .val (.int p3), .val (.int p4), .val (.int (1 : Int32)), .unset, .unset, .unset]) rfl ?_
    refine Run.iload K at_5 (pc' := 7) rfl rfl ?_
    refine Run.newA K at_7 (pc' := 9) rfl (ty := .byte) rfl (hw _ (List.mem_of_getElem? (i := 0) rfl)) (by decide) (vs := [(.int (0 : Int32))]) (rfl) (cap := 1) (by decide) (by decide) (cells' := 1) (slots' := 1) rfl rfl (by decide) (by decide) rfl (fun r54 => ?_)
    refine Run.as (D' := ([], [(r54, .byte, [(.int (0 : Int32))])])) rfl ?_
    refine Run.astore K at_9 (pc' := 11) rfl rfl (L' := #[.val (.long p1), .second, .val (.int p2), .val (.int p3), .val (.int p4), .val (.int (1 : Int32)), .val (.ref r54), .unset, .unset]) rfl ?_
    refine Run.iload K at_11 (pc' := 13) rfl rfl ?_
    refine Run.iconst K at_13 (pc' := 14) rfl (v := (1 : Int32)) rfl ?_
    refine Run.iand K at_14 (pc' := 15) rfl ?_
    refine Run.ifc K at_15 (pT := 22) (pF := 18) (by decide) (by decide) rfl (fun (h15_54 : (p4 &&& (1 : Int32)) = (0 : Int32)) => ?_) (fun (h15_54 : ¬ ((p4 &&& (1 : Int32)) = (0 : Int32))) => ?_)
    · skip
      refine Run.iconst K at_22 (pc' := 23) rfl (v := (0 : Int32)) rfl ?_
      refine Run.istore K at_23 (pc' := 25) rfl (L' := #[.val (.long p1), .second, .val (.int p2), .val (.int p3), .val (.int p4), .val (.int (1 : Int32)), .val (.ref r54), .val (.int (0 : Int32)), .unset]) rfl ?_
      refine Run.iload K at_25 (pc' := 27) rfl rfl ?_
      refine Run.ifcF K at_27 (pT := 36) (pF := 30) (by decide) (by decide) rfl (show ¬ ((1 : Int32) ≤ (0 : Int32)) from by decide) ?_
      refine Run.aload K at_30 (pc' := 32) rfl rfl rfl ?_
      refine Run.iconst K at_32 (pc' := 33) rfl (v := (0 : Int32)) rfl ?_
      refine Run.iloadN K at_33 (pc' := 34) rfl rfl ?_
      refine Run.i2b K at_34 (pc' := 35) rfl ?_
      refine Run.bastore K at_35 (pc' := 36) rfl (i := 0) (q := 0) rfl (by decide) (by decide) (v := (.int (0 : Int32))) (rfl) (D' := ([], [(r54, .byte, [(.int (p3.toInt8.toInt32).toInt8.toInt32)])])) rfl ?_
      refine Run.iload K at_36 (pc' := 38) rfl rfl ?_
      refine Run.iconst K at_38 (pc' := 39) rfl (v := (1 : Int32)) rfl ?_
      refine Run.icmpT K at_39 (pT := 51) (pF := 42) (by decide) (by decide) rfl (show (1 : Int32) ≤ (1 : Int32) from by decide) ?_
      refine Run.iload K at_51 (pc' := 53) rfl rfl ?_
      refine Run.iconst K at_53 (pc' := 54) rfl (v := (2 : Int32)) rfl ?_
      refine Run.icmpT K at_54 (pT := 66) (pF := 57) (by decide) (by decide) rfl (show (1 : Int32) ≤ (2 : Int32) from by decide) ?_
      refine Run.iload K at_66 (pc' := 68) rfl rfl ?_
      refine Run.ifcT K at_68 (pT := 132) (pF := 71) (by decide) (by decide) rfl (show (0 : Int32) = (0 : Int32) from by decide) ?_
      refine Run.newO K at_132 (pc' := 135) rfl (hw _ (List.mem_of_getElem? (i := 1) rfl)) (hw _ (List.mem_of_getElem? (i := 2) rfl)) (hw _ (List.mem_of_getElem? (i := 3) rfl)) (fs_0 hw) (cells' := 2) (slots' := 4) rfl rfl (by decide) (by decide) (fun n56 => ?_)
      refine Run.as (D' := ([(n56, "com/example/efcor/efcor/io/RecordReader", [("com/example/efcor/efcor/io/RecordReader", "number", "J", (.long (0 : Int64))), ("com/example/efcor/efcor/io/RecordReader", "bytes", "[B", .null), ("com/example/efcor/efcor/io/RecordReader", "at", "I", (.int (0 : Int32)))])], [(r54, .byte, [(.int (p3.toInt8.toInt32).toInt8.toInt32)])])) rfl ?_
      refine Run.dup K at_135 (pc' := 136) rfl rfl ?_
      refine Run.lloadN K at_136 (pc' := 137) rfl rfl ?_
      refine Run.aload K at_137 (pc' := 139) rfl rfl rfl ?_
      refine Run.callI K at_139 (pc' := 142) rfl rfl (hw _ (List.mem_of_getElem? (i := 4) rfl)) (hw _ (List.mem_of_getElem? (i := 5) rfl)) (hw _ (List.mem_of_getElem? (i := 3) rfl)) (hw _ (List.mem_of_getElem? (i := 6) rfl)) (by decide) (a := n56) (rm1 l Z a0 n0 hw [] (n56) (p1) (r54) ((0 : Int64)) (.null) ((0 : Int32)) ([]) ([(r54, .byte, [(.int (p3.toInt8.toInt32).toInt8.toInt32)])]) ) (argsL := [(.long p1), (.ref r54)]) (rest := [(.ref n56)]) rfl rfl pd_1 rfl (W := 1) rfl (by decide) (by decide) (cells' := 2) (slots' := 4) rfl rfl (by decide) (by decide) (Ret.k (S' := [(.ref n56)]) rfl ?_)
      refine Run.as (D' := ([(n56, "com/example/efcor/efcor/io/RecordReader", [("com/example/efcor/efcor/io/RecordReader", "number", "J", (.long p1)), ("com/example/efcor/efcor/io/RecordReader", "bytes", "[B", (.ref r54)), ("com/example/efcor/efcor/io/RecordReader", "at", "I", (.int (0 : Int32)))])], [(r54, .byte, [(.int (p3.toInt8.toInt32).toInt8.toInt32)])])) rfl ?_
      refine Run.astore K at_142 (pc' := 144) rfl rfl (L' := #[.val (.long p1), .second, .val (.int p2), .val (.int p3), .val (.int p4), .val (.int (1 : Int32)), .val (.ref r54), .val (.int (0 : Int32)), .val (.ref n56)]) rfl ?_
      refine Run.iload K at_144 (pc' := 146) rfl rfl ?_
      refine Run.ifcT K at_146 (pT := 163) (pF := 149) (by decide) (by decide) rfl (show (0 : Int32) = (0 : Int32) from by decide) ?_
      refine Run.iload K at_163 (pc' := 165) rfl rfl ?_
      refine Run.ifcF K at_165 (pT := 174) (pF := 168) (by decide) (by decide) rfl (show ¬ ((1 : Int32) ≤ (0 : Int32)) from by decide) ?_
      refine Run.aload K at_168 (pc' := 170) rfl rfl rfl ?_
      refine Run.callV K at_170 (pc' := 173) rfl (a := n56) (z := (⟨"com/example/efcor/efcor/io/RecordReader", "readBoolean", "()Z"⟩ : MethodName)) (Cn := "com/example/efcor/efcor/io/RecordReader") (i := 0) (hw _ (List.mem_of_getElem? (i := 14) rfl)) (hw _ (List.mem_of_getElem? (i := 15) rfl)) (hw _ (List.mem_of_getElem? (i := 17) rfl)) (hw _ (List.mem_of_getElem? (i := 16) rfl)) (hw _ (List.mem_of_getElem? (i := 3) rfl)) (hw _ (List.mem_of_getElem? (i := 18) rfl)) (by decide) rfl (rb_1_0 l Z a0 n0 hw [] (n56) (p1) (r54) ((p3.toInt8.toInt32).toInt8.toInt32) ([]) ([]) ) (argsL := []) (rest := []) rfl rfl pd_4 rfl (W := 0) rfl (by decide) (by decide) (cells' := 2) (slots' := 4) rfl rfl (by decide) (by decide) ?_
      intro vq Dq hq
      obtain ⟨c57, hc58, rfl, rfl⟩ := hq
      refine Run.as2 (D' := ([(n56, "com/example/efcor/efcor/io/RecordReader", [("com/example/efcor/efcor/io/RecordReader", "number", "J", (.long p1)), ("com/example/efcor/efcor/io/RecordReader", "bytes", "[B", (.ref r54)), ("com/example/efcor/efcor/io/RecordReader", "at", "I", (.int (1 : Int32)))])], [(r54, .byte, [(.int (p3.toInt8.toInt32).toInt8.toInt32)])])) (S' := [(.int c57)]) rfl rfl ?_
      refine Run.pop K at_173 (pc' := 174) rfl rfl ?_
      refine Run.iload K at_174 (pc' := 176) rfl rfl ?_
      refine Run.iconst K at_176 (pc' := 177) rfl (v := (1 : Int32)) rfl ?_
      refine Run.icmpT K at_177 (pT := 186) (pF := 180) (by decide) (by decide) rfl (show (1 : Int32) ≤ (1 : Int32) from by decide) ?_
      refine Run.iload K at_186 (pc' := 188) rfl rfl ?_
      refine Run.iconst K at_188 (pc' := 189) rfl (v := (2 : Int32)) rfl ?_
      refine Run.icmpT K at_189 (pT := 198) (pF := 192) (by decide) (by decide) rfl (show (1 : Int32) ≤ (2 : Int32) from by decide) ?_
      refine Run.aload K at_198 (pc' := 200) rfl rfl rfl ?_
      refine Run.callV K at_200 (pc' := 203) rfl (a := n56) (z := (⟨"com/example/efcor/efcor/io/RecordReader", "end", "()V"⟩ : MethodName)) (Cn := "com/example/efcor/efcor/io/RecordReader") (i := 0) (hw _ (List.mem_of_getElem? (i := 25) rfl)) (hw _ (List.mem_of_getElem? (i := 26) rfl)) (hw _ (List.mem_of_getElem? (i := 28) rfl)) (hw _ (List.mem_of_getElem? (i := 27) rfl)) (hw _ (List.mem_of_getElem? (i := 3) rfl)) (hw _ (List.mem_of_getElem? (i := 29) rfl)) (by decide) rfl (en_1 l Z a0 n0 hw [] (n56) (p1) (r54) ((p3.toInt8.toInt32).toInt8.toInt32) ([]) ([]) ) (argsL := []) (rest := []) rfl rfl pd_2 rfl (W := 0) rfl (by decide) (by decide) (cells' := 2) (slots' := 4) rfl rfl (by decide) (by decide) (Ret.k (S' := []) rfl ?_)
      refine Run.as (D' := ([(n56, "com/example/efcor/efcor/io/RecordReader", [("com/example/efcor/efcor/io/RecordReader", "number", "J", (.long p1)), ("com/example/efcor/efcor/io/RecordReader", "bytes", "[B", (.ref r54)), ("com/example/efcor/efcor/io/RecordReader", "at", "I", (.int (1 : Int32)))])], [(r54, .byte, [(.int (p3.toInt8.toInt32).toInt8.toInt32)])])) rfl ?_
      refine Run.aload K at_203 (pc' := 205) rfl rfl rfl ?_
      refine Run.callV K at_205 (pc' := 208) rfl (a := n56) (z := (⟨"com/example/efcor/efcor/io/RecordReader", "end", "()V"⟩ : MethodName)) (Cn := "com/example/efcor/efcor/io/RecordReader") (i := 0) (hw _ (List.mem_of_getElem? (i := 25) rfl)) (hw _ (List.mem_of_getElem? (i := 26) rfl)) (hw _ (List.mem_of_getElem? (i := 28) rfl)) (hw _ (List.mem_of_getElem? (i := 27) rfl)) (hw _ (List.mem_of_getElem? (i := 3) rfl)) (hw _ (List.mem_of_getElem? (i := 29) rfl)) (by decide) rfl (en_1 l Z a0 n0 hw [] (n56) (p1) (r54) ((p3.toInt8.toInt32).toInt8.toInt32) ([]) ([]) ) (argsL := []) (rest := []) rfl rfl pd_2 rfl (W := 0) rfl (by decide) (by decide) (cells' := 2) (slots' := 4) rfl rfl (by decide) (by decide) (Ret.k (S' := []) rfl ?_)
      refine Run.as (D' := ([(n56, "com/example/efcor/efcor/io/RecordReader", [("com/example/efcor/efcor/io/RecordReader", "number", "J", (.long p1)), ("com/example/efcor/efcor/io/RecordReader", "bytes", "[B", (.ref r54)), ("com/example/efcor/efcor/io/RecordReader", "at", "I", (.int (1 : Int32)))])], [(r54, .byte, [(.int (p3.toInt8.toInt32).toInt8.toInt32)])])) rfl ?_
      refine Run.aload K at_208 (pc' := 210) rfl rfl rfl ?_
      refine Run.callV K at_210 (pc' := 213) rfl (a := n56) (z := (⟨"com/example/efcor/efcor/io/RecordReader", "number", "()J"⟩ : MethodName)) (Cn := "com/example/efcor/efcor/io/RecordReader") (i := 0) (hw _ (List.mem_of_getElem? (i := 30) rfl)) (hw _ (List.mem_of_getElem? (i := 31) rfl)) (hw _ (List.mem_of_getElem? (i := 33) rfl)) (hw _ (List.mem_of_getElem? (i := 32) rfl)) (hw _ (List.mem_of_getElem? (i := 3) rfl)) (hw _ (List.mem_of_getElem? (i := 34) rfl)) (by decide) rfl (rm6 l Z a0 n0 hw [] (n56) (p1) ((.ref r54)) ((1 : Int32)) ([]) ([(r54, .byte, [(.int (p3.toInt8.toInt32).toInt8.toInt32)])]) ) (argsL := []) (rest := []) rfl rfl pd_3 rfl (W := 0) rfl (by decide) (by decide) (cells' := 2) (slots' := 4) rfl rfl (by decide) (by decide) (Ret.k (S' := [(.long p1)]) rfl ?_)
      refine Run.as (D' := ([(n56, "com/example/efcor/efcor/io/RecordReader", [("com/example/efcor/efcor/io/RecordReader", "number", "J", (.long p1)), ("com/example/efcor/efcor/io/RecordReader", "bytes", "[B", (.ref r54)), ("com/example/efcor/efcor/io/RecordReader", "at", "I", (.int (1 : Int32)))])], [(r54, .byte, [(.int (p3.toInt8.toInt32).toInt8.toInt32)])])) rfl ?_
      refine Run.lloadN K at_213 (pc' := 214) rfl rfl ?_
      refine Run.lcmp K at_214 (pc' := 215) rfl ?_
      refine Run.ifLF K at_215 (pT := 222) (pF := 218) (by decide) (by decide) rfl (show ¬ (p1 ≠ p1) from fun h => h rfl) ?_
      refine Run.iconst K at_218 (pc' := 219) rfl (v := (1 : Int32)) rfl ?_
      refine Run.goto K at_219 (pc' := 223) (by decide) (by decide) ?_
      exact Run.retN K at_223 (w := (1 : Int32)) rfl (by decide) (by decide) (by decide) (by decide) rfl
    · skip
      refine Run.iconst K at_18 (pc' := 19) rfl (v := (1 : Int32)) rfl ?_
      refine Run.goto K at_19 (pc' := 23) (by decide) (by decide) ?_
      refine Run.istore K at_23 (pc' := 25) rfl (L' := #[.val (.long p1), .second, .val (.int p2), .val (.int p3), .val (.int p4), .val (.int (1 : Int32)), .val (.ref r54), .val (.int (1 : Int32)), .unset]) rfl ?_
      refine Run.iload K at_25 (pc' := 27) rfl rfl ?_
      refine Run.ifcF K at_27 (pT := 36) (pF := 30) (by decide) (by decide) rfl (show ¬ ((1 : Int32) ≤ (0 : Int32)) from by decide) ?_
      refine Run.aload K at_30 (pc' := 32) rfl rfl rfl ?_
      refine Run.iconst K at_32 (pc' := 33) rfl (v := (0 : Int32)) rfl ?_
      refine Run.iloadN K at_33 (pc' := 34) rfl rfl ?_
      refine Run.i2b K at_34 (pc' := 35) rfl ?_
      refine Run.bastore K at_35 (pc' := 36) rfl (i := 0) (q := 0) rfl (by decide) (by decide) (v := (.int (0 : Int32))) (rfl) (D' := ([], [(r54, .byte, [(.int (p3.toInt8.toInt32).toInt8.toInt32)])])) rfl ?_
      refine Run.iload K at_36 (pc' := 38) rfl rfl ?_
      refine Run.iconst K at_38 (pc' := 39) rfl (v := (1 : Int32)) rfl ?_
      refine Run.icmpT K at_39 (pT := 51) (pF := 42) (by decide) (by decide) rfl (show (1 : Int32) ≤ (1 : Int32) from by decide) ?_
      refine Run.iload K at_51 (pc' := 53) rfl rfl ?_
      refine Run.iconst K at_53 (pc' := 54) rfl (v := (2 : Int32)) rfl ?_
      refine Run.icmpT K at_54 (pT := 66) (pF := 57) (by decide) (by decide) rfl (show (1 : Int32) ≤ (2 : Int32) from by decide) ?_
      refine Run.iload K at_66 (pc' := 68) rfl rfl ?_
      refine Run.ifcF K at_68 (pT := 132) (pF := 71) (by decide) (by decide) rfl (show ¬ ((1 : Int32) = (0 : Int32)) from by decide) ?_
      refine Run.iload K at_71 (pc' := 73) rfl rfl ?_
      refine Run.ifcF K at_73 (pT := 132) (pF := 76) (by decide) (by decide) rfl (show ¬ ((1 : Int32) ≤ (0 : Int32)) from by decide) ?_
      refine Run.iload K at_76 (pc' := 78) rfl rfl ?_
      refine Run.iconst K at_78 (pc' := 79) rfl (v := (1 : Int32)) rfl ?_
      refine Run.icmpT K at_79 (pT := 95) (pF := 82) (by decide) (by decide) rfl (show (1 : Int32) ≤ (1 : Int32) from by decide) ?_
      refine Run.iload K at_95 (pc' := 97) rfl rfl ?_
      refine Run.iconst K at_97 (pc' := 98) rfl (v := (2 : Int32)) rfl ?_
      refine Run.icmpT K at_98 (pT := 114) (pF := 101) (by decide) (by decide) rfl (show (1 : Int32) ≤ (2 : Int32) from by decide) ?_
      refine Run.aload K at_114 (pc' := 116) rfl rfl rfl ?_
      refine Run.iload K at_116 (pc' := 118) rfl rfl ?_
      refine Run.iconst K at_118 (pc' := 119) rfl (v := (1 : Int32)) rfl ?_
      refine Run.isubV K at_119 (pc' := 120) rfl (v := (0 : Int32)) (by decide) ?_
      refine Run.aload K at_120 (pc' := 122) rfl rfl rfl ?_
      refine Run.iload K at_122 (pc' := 124) rfl rfl ?_
      refine Run.iconst K at_124 (pc' := 125) rfl (v := (1 : Int32)) rfl ?_
      refine Run.isubV K at_125 (pc' := 126) rfl (v := (0 : Int32)) (by decide) ?_
      refine Run.baload K at_126 (pc' := 127) rfl (i := 0) (q := 0) rfl (by decide) (by decide) (v := (.int (p3.toInt8.toInt32).toInt8.toInt32)) (rfl) ?_
      refine Run.bipush K at_127 (pc' := 129) rfl (v := (127 : Int32)) rfl ?_
      refine Run.iand K at_129 (pc' := 130) rfl ?_
      refine Run.i2b K at_130 (pc' := 131) rfl ?_
      refine Run.bastore K at_131 (pc' := 132) rfl (i := 0) (q := 0) rfl (by decide) (by decide) (v := (.int (p3.toInt8.toInt32).toInt8.toInt32)) (rfl) (D' := ([], [(r54, .byte, [(.int (((p3.toInt8.toInt32).toInt8.toInt32 &&& (127 : Int32)).toInt8.toInt32).toInt8.toInt32)])])) rfl ?_
      refine Run.newO K at_132 (pc' := 135) rfl (hw _ (List.mem_of_getElem? (i := 1) rfl)) (hw _ (List.mem_of_getElem? (i := 2) rfl)) (hw _ (List.mem_of_getElem? (i := 3) rfl)) (fs_0 hw) (cells' := 2) (slots' := 4) rfl rfl (by decide) (by decide) (fun n59 => ?_)
      refine Run.as (D' := ([(n59, "com/example/efcor/efcor/io/RecordReader", [("com/example/efcor/efcor/io/RecordReader", "number", "J", (.long (0 : Int64))), ("com/example/efcor/efcor/io/RecordReader", "bytes", "[B", .null), ("com/example/efcor/efcor/io/RecordReader", "at", "I", (.int (0 : Int32)))])], [(r54, .byte, [(.int (((p3.toInt8.toInt32).toInt8.toInt32 &&& (127 : Int32)).toInt8.toInt32).toInt8.toInt32)])])) rfl ?_
      refine Run.dup K at_135 (pc' := 136) rfl rfl ?_
      refine Run.lloadN K at_136 (pc' := 137) rfl rfl ?_
      refine Run.aload K at_137 (pc' := 139) rfl rfl rfl ?_
      refine Run.callI K at_139 (pc' := 142) rfl rfl (hw _ (List.mem_of_getElem? (i := 4) rfl)) (hw _ (List.mem_of_getElem? (i := 5) rfl)) (hw _ (List.mem_of_getElem? (i := 3) rfl)) (hw _ (List.mem_of_getElem? (i := 6) rfl)) (by decide) (a := n59) (rm1 l Z a0 n0 hw [] (n59) (p1) (r54) ((0 : Int64)) (.null) ((0 : Int32)) ([]) ([(r54, .byte, [(.int (((p3.toInt8.toInt32).toInt8.toInt32 &&& (127 : Int32)).toInt8.toInt32).toInt8.toInt32)])]) ) (argsL := [(.long p1), (.ref r54)]) (rest := [(.ref n59)]) rfl rfl pd_1 rfl (W := 1) rfl (by decide) (by decide) (cells' := 2) (slots' := 4) rfl rfl (by decide) (by decide) (Ret.k (S' := [(.ref n59)]) rfl ?_)
      refine Run.as (D' := ([(n59, "com/example/efcor/efcor/io/RecordReader", [("com/example/efcor/efcor/io/RecordReader", "number", "J", (.long p1)), ("com/example/efcor/efcor/io/RecordReader", "bytes", "[B", (.ref r54)), ("com/example/efcor/efcor/io/RecordReader", "at", "I", (.int (0 : Int32)))])], [(r54, .byte, [(.int (((p3.toInt8.toInt32).toInt8.toInt32 &&& (127 : Int32)).toInt8.toInt32).toInt8.toInt32)])])) rfl ?_
      refine Run.astore K at_142 (pc' := 144) rfl rfl (L' := #[.val (.long p1), .second, .val (.int p2), .val (.int p3), .val (.int p4), .val (.int (1 : Int32)), .val (.ref r54), .val (.int (1 : Int32)), .val (.ref n59)]) rfl ?_
      refine Run.iload K at_144 (pc' := 146) rfl rfl ?_
      refine Run.ifcF K at_146 (pT := 163) (pF := 149) (by decide) (by decide) rfl (show ¬ ((1 : Int32) = (0 : Int32)) from by decide) ?_
      refine Run.iload K at_149 (pc' := 151) rfl rfl ?_
      refine Run.ifcF K at_151 (pT := 198) (pF := 154) (by decide) (by decide) rfl (show ¬ ((1 : Int32) ≤ (0 : Int32)) from by decide) ?_
      refine Run.aload K at_154 (pc' := 156) rfl rfl rfl ?_
      refine Run.callV K at_156 (pc' := 159) rfl (a := n59) (z := (⟨"com/example/efcor/efcor/io/RecordReader", "readLong", "()J"⟩ : MethodName)) (Cn := "com/example/efcor/efcor/io/RecordReader") (i := 0) (hw _ (List.mem_of_getElem? (i := 35) rfl)) (hw _ (List.mem_of_getElem? (i := 36) rfl)) (hw _ (List.mem_of_getElem? (i := 38) rfl)) (hw _ (List.mem_of_getElem? (i := 37) rfl)) (hw _ (List.mem_of_getElem? (i := 3) rfl)) (hw _ (List.mem_of_getElem? (i := 39) rfl)) (by decide) rfl (rl_1 l Z a0 n0 hw [] (n59) (p1) (r54) ((((p3.toInt8.toInt32).toInt8.toInt32 &&& (127 : Int32)).toInt8.toInt32).toInt8.toInt32) ([]) ([]) (own_lo _)) (argsL := []) (rest := []) rfl rfl pd_3 rfl (W := 0) rfl (by decide) (by decide) (cells' := 2) (slots' := 4) rfl rfl (by decide) (by decide) (Ret.k (S' := [(.long ((0 : Int64) ||| (((((((p3.toInt8.toInt32).toInt8.toInt32 &&& (127 : Int32)).toInt8.toInt32).toInt8.toInt32.toInt8.toInt32) &&& (127 : Int32)).toInt64) <<< ((0 : Int32) &&& 0x3f).toInt64)))]) rfl ?_)
      refine Run.as (D' := ([(n59, "com/example/efcor/efcor/io/RecordReader", [("com/example/efcor/efcor/io/RecordReader", "number", "J", (.long p1)), ("com/example/efcor/efcor/io/RecordReader", "bytes", "[B", (.ref r54)), ("com/example/efcor/efcor/io/RecordReader", "at", "I", (.int (1 : Int32)))])], [(r54, .byte, [(.int (((p3.toInt8.toInt32).toInt8.toInt32 &&& (127 : Int32)).toInt8.toInt32).toInt8.toInt32)])])) rfl ?_
      refine Run.pop2L K at_159 (pc' := 160) rfl ?_
      refine Run.goto K at_160 (pc' := 198) (by decide) (by decide) ?_
      refine Run.aload K at_198 (pc' := 200) rfl rfl rfl ?_
      refine Run.callV K at_200 (pc' := 203) rfl (a := n59) (z := (⟨"com/example/efcor/efcor/io/RecordReader", "end", "()V"⟩ : MethodName)) (Cn := "com/example/efcor/efcor/io/RecordReader") (i := 0) (hw _ (List.mem_of_getElem? (i := 25) rfl)) (hw _ (List.mem_of_getElem? (i := 26) rfl)) (hw _ (List.mem_of_getElem? (i := 28) rfl)) (hw _ (List.mem_of_getElem? (i := 27) rfl)) (hw _ (List.mem_of_getElem? (i := 3) rfl)) (hw _ (List.mem_of_getElem? (i := 29) rfl)) (by decide) rfl (en_1 l Z a0 n0 hw [] (n59) (p1) (r54) ((((p3.toInt8.toInt32).toInt8.toInt32 &&& (127 : Int32)).toInt8.toInt32).toInt8.toInt32) ([]) ([]) ) (argsL := []) (rest := []) rfl rfl pd_2 rfl (W := 0) rfl (by decide) (by decide) (cells' := 2) (slots' := 4) rfl rfl (by decide) (by decide) (Ret.k (S' := []) rfl ?_)
      refine Run.as (D' := ([(n59, "com/example/efcor/efcor/io/RecordReader", [("com/example/efcor/efcor/io/RecordReader", "number", "J", (.long p1)), ("com/example/efcor/efcor/io/RecordReader", "bytes", "[B", (.ref r54)), ("com/example/efcor/efcor/io/RecordReader", "at", "I", (.int (1 : Int32)))])], [(r54, .byte, [(.int (((p3.toInt8.toInt32).toInt8.toInt32 &&& (127 : Int32)).toInt8.toInt32).toInt8.toInt32)])])) rfl ?_
      refine Run.aload K at_203 (pc' := 205) rfl rfl rfl ?_
      refine Run.callV K at_205 (pc' := 208) rfl (a := n59) (z := (⟨"com/example/efcor/efcor/io/RecordReader", "end", "()V"⟩ : MethodName)) (Cn := "com/example/efcor/efcor/io/RecordReader") (i := 0) (hw _ (List.mem_of_getElem? (i := 25) rfl)) (hw _ (List.mem_of_getElem? (i := 26) rfl)) (hw _ (List.mem_of_getElem? (i := 28) rfl)) (hw _ (List.mem_of_getElem? (i := 27) rfl)) (hw _ (List.mem_of_getElem? (i := 3) rfl)) (hw _ (List.mem_of_getElem? (i := 29) rfl)) (by decide) rfl (en_1 l Z a0 n0 hw [] (n59) (p1) (r54) ((((p3.toInt8.toInt32).toInt8.toInt32 &&& (127 : Int32)).toInt8.toInt32).toInt8.toInt32) ([]) ([]) ) (argsL := []) (rest := []) rfl rfl pd_2 rfl (W := 0) rfl (by decide) (by decide) (cells' := 2) (slots' := 4) rfl rfl (by decide) (by decide) (Ret.k (S' := []) rfl ?_)
      refine Run.as (D' := ([(n59, "com/example/efcor/efcor/io/RecordReader", [("com/example/efcor/efcor/io/RecordReader", "number", "J", (.long p1)), ("com/example/efcor/efcor/io/RecordReader", "bytes", "[B", (.ref r54)), ("com/example/efcor/efcor/io/RecordReader", "at", "I", (.int (1 : Int32)))])], [(r54, .byte, [(.int (((p3.toInt8.toInt32).toInt8.toInt32 &&& (127 : Int32)).toInt8.toInt32).toInt8.toInt32)])])) rfl ?_
      refine Run.aload K at_208 (pc' := 210) rfl rfl rfl ?_
      refine Run.callV K at_210 (pc' := 213) rfl (a := n59) (z := (⟨"com/example/efcor/efcor/io/RecordReader", "number", "()J"⟩ : MethodName)) (Cn := "com/example/efcor/efcor/io/RecordReader") (i := 0) (hw _ (List.mem_of_getElem? (i := 30) rfl)) (hw _ (List.mem_of_getElem? (i := 31) rfl)) (hw _ (List.mem_of_getElem? (i := 33) rfl)) (hw _ (List.mem_of_getElem? (i := 32) rfl)) (hw _ (List.mem_of_getElem? (i := 3) rfl)) (hw _ (List.mem_of_getElem? (i := 34) rfl)) (by decide) rfl (rm6 l Z a0 n0 hw [] (n59) (p1) ((.ref r54)) ((1 : Int32)) ([]) ([(r54, .byte, [(.int (((p3.toInt8.toInt32).toInt8.toInt32 &&& (127 : Int32)).toInt8.toInt32).toInt8.toInt32)])]) ) (argsL := []) (rest := []) rfl rfl pd_3 rfl (W := 0) rfl (by decide) (by decide) (cells' := 2) (slots' := 4) rfl rfl (by decide) (by decide) (Ret.k (S' := [(.long p1)]) rfl ?_)
      refine Run.as (D' := ([(n59, "com/example/efcor/efcor/io/RecordReader", [("com/example/efcor/efcor/io/RecordReader", "number", "J", (.long p1)), ("com/example/efcor/efcor/io/RecordReader", "bytes", "[B", (.ref r54)), ("com/example/efcor/efcor/io/RecordReader", "at", "I", (.int (1 : Int32)))])], [(r54, .byte, [(.int (((p3.toInt8.toInt32).toInt8.toInt32 &&& (127 : Int32)).toInt8.toInt32).toInt8.toInt32)])])) rfl ?_
      refine Run.lloadN K at_213 (pc' := 214) rfl rfl ?_
      refine Run.lcmp K at_214 (pc' := 215) rfl ?_
      refine Run.ifLF K at_215 (pT := 222) (pF := 218) (by decide) (by decide) rfl (show ¬ (p1 ≠ p1) from fun h => h rfl) ?_
      refine Run.iconst K at_218 (pc' := 219) rfl (v := (1 : Int32)) rfl ?_
      refine Run.goto K at_219 (pc' := 223) (by decide) (by decide) ?_
      exact Run.retN K at_223 (w := (1 : Int32)) rfl (by decide) (by decide) (by decide) (by decide) rfl
  · rw [hq49]
    refine Run.istore K at_3 (pc' := 5) rfl (L' := #[.val (.long p1), .second, .val (.int p2), .val (.int p3), .val (.int p4), .val (.int (2 : Int32)), .unset, .unset, .unset]) rfl ?_
    refine Run.iload K at_5 (pc' := 7) rfl rfl ?_
    refine Run.newA K at_7 (pc' := 9) rfl (ty := .byte) rfl (hw _ (List.mem_of_getElem? (i := 0) rfl)) (by decide) (vs := [(.int (0 : Int32)), (.int (0 : Int32))]) (rfl) (cap := 2) (by decide) (by decide) (cells' := 1) (slots' := 2) rfl rfl (by decide) (by decide) rfl (fun r60 => ?_)
    refine Run.as (D' := ([], [(r60, .byte, [(.int (0 : Int32)), (.int (0 : Int32))])])) rfl ?_
    refine Run.astore K at_9 (pc' := 11) rfl rfl (L' := #[.val (.long p1), .second, .val (.int p2), .val (.int p3), .val (.int p4), .val (.int (2 : Int32)), .val (.ref r60), .unset, .unset]) rfl ?_
    refine Run.iload K at_11 (pc' := 13) rfl rfl ?_
    refine Run.iconst K at_13 (pc' := 14) rfl (v := (1 : Int32)) rfl ?_
    refine Run.iand K at_14 (pc' := 15) rfl ?_
    refine Run.ifc K at_15 (pT := 22) (pF := 18) (by decide) (by decide) rfl (fun (h15_60 : (p4 &&& (1 : Int32)) = (0 : Int32)) => ?_) (fun (h15_60 : ¬ ((p4 &&& (1 : Int32)) = (0 : Int32))) => ?_)
    · skip
      refine Run.iconst K at_22 (pc' := 23) rfl (v := (0 : Int32)) rfl ?_
      refine Run.istore K at_23 (pc' := 25) rfl (L' := #[.val (.long p1), .second, .val (.int p2), .val (.int p3), .val (.int p4), .val (.int (2 : Int32)), .val (.ref r60), .val (.int (0 : Int32)), .unset]) rfl ?_
      refine Run.iload K at_25 (pc' := 27) rfl rfl ?_
      refine Run.ifcF K at_27 (pT := 36) (pF := 30) (by decide) (by decide) rfl (show ¬ ((2 : Int32) ≤ (0 : Int32)) from by decide) ?_
      refine Run.aload K at_30 (pc' := 32) rfl rfl rfl ?_
      refine Run.iconst K at_32 (pc' := 33) rfl (v := (0 : Int32)) rfl ?_
      refine Run.iloadN K at_33 (pc' := 34) rfl rfl ?_
      refine Run.i2b K at_34 (pc' := 35) rfl ?_
      refine Run.bastore K at_35 (pc' := 36) rfl (i := 0) (q := 0) rfl (by decide) (by decide) (v := (.int (0 : Int32))) (rfl) (D' := ([], [(r60, .byte, [(.int (p3.toInt8.toInt32).toInt8.toInt32), (.int (0 : Int32))])])) rfl ?_
      refine Run.iload K at_36 (pc' := 38) rfl rfl ?_
      refine Run.iconst K at_38 (pc' := 39) rfl (v := (1 : Int32)) rfl ?_
      refine Run.icmpF K at_39 (pT := 51) (pF := 42) (by decide) (by decide) rfl (show ¬ ((2 : Int32) ≤ (1 : Int32)) from by decide) ?_
      refine Run.aload K at_42 (pc' := 44) rfl rfl rfl ?_
      refine Run.iconst K at_44 (pc' := 45) rfl (v := (1 : Int32)) rfl ?_
      refine Run.iloadN K at_45 (pc' := 46) rfl rfl ?_
      refine Run.bipush K at_46 (pc' := 48) rfl (v := (8 : Int32)) rfl ?_
      refine Run.iushr K at_48 (pc' := 49) rfl ?_
      refine Run.i2b K at_49 (pc' := 50) rfl ?_
      refine Run.bastore K at_50 (pc' := 51) rfl (i := 0) (q := 1) rfl (by decide) (by decide) (v := (.int (0 : Int32))) (rfl) (D' := ([], [(r60, .byte, [(.int (p3.toInt8.toInt32).toInt8.toInt32), (.int (((p3.toUInt32 >>> ((8 : Int32) &&& 31).toUInt32).toInt32).toInt8.toInt32).toInt8.toInt32)])])) rfl ?_
      refine Run.iload K at_51 (pc' := 53) rfl rfl ?_
      refine Run.iconst K at_53 (pc' := 54) rfl (v := (2 : Int32)) rfl ?_
      refine Run.icmpT K at_54 (pT := 66) (pF := 57) (by decide) (by decide) rfl (show (2 : Int32) ≤ (2 : Int32) from by decide) ?_
      refine Run.iload K at_66 (pc' := 68) rfl rfl ?_
      refine Run.ifcT K at_68 (pT := 132) (pF := 71) (by decide) (by decide) rfl (show (0 : Int32) = (0 : Int32) from by decide) ?_
      refine Run.newO K at_132 (pc' := 135) rfl (hw _ (List.mem_of_getElem? (i := 1) rfl)) (hw _ (List.mem_of_getElem? (i := 2) rfl)) (hw _ (List.mem_of_getElem? (i := 3) rfl)) (fs_0 hw) (cells' := 2) (slots' := 5) rfl rfl (by decide) (by decide) (fun n62 => ?_)
      refine Run.as (D' := ([(n62, "com/example/efcor/efcor/io/RecordReader", [("com/example/efcor/efcor/io/RecordReader", "number", "J", (.long (0 : Int64))), ("com/example/efcor/efcor/io/RecordReader", "bytes", "[B", .null), ("com/example/efcor/efcor/io/RecordReader", "at", "I", (.int (0 : Int32)))])], [(r60, .byte, [(.int (p3.toInt8.toInt32).toInt8.toInt32), (.int (((p3.toUInt32 >>> ((8 : Int32) &&& 31).toUInt32).toInt32).toInt8.toInt32).toInt8.toInt32)])])) rfl ?_
      refine Run.dup K at_135 (pc' := 136) rfl rfl ?_
      refine Run.lloadN K at_136 (pc' := 137) rfl rfl ?_
      refine Run.aload K at_137 (pc' := 139) rfl rfl rfl ?_
      refine Run.callI K at_139 (pc' := 142) rfl rfl (hw _ (List.mem_of_getElem? (i := 4) rfl)) (hw _ (List.mem_of_getElem? (i := 5) rfl)) (hw _ (List.mem_of_getElem? (i := 3) rfl)) (hw _ (List.mem_of_getElem? (i := 6) rfl)) (by decide) (a := n62) (rm1 l Z a0 n0 hw [] (n62) (p1) (r60) ((0 : Int64)) (.null) ((0 : Int32)) ([]) ([(r60, .byte, [(.int (p3.toInt8.toInt32).toInt8.toInt32), (.int (((p3.toUInt32 >>> ((8 : Int32) &&& 31).toUInt32).toInt32).toInt8.toInt32).toInt8.toInt32)])]) ) (argsL := [(.long p1), (.ref r60)]) (rest := [(.ref n62)]) rfl rfl pd_1 rfl (W := 1) rfl (by decide) (by decide) (cells' := 2) (slots' := 5) rfl rfl (by decide) (by decide) (Ret.k (S' := [(.ref n62)]) rfl ?_)
      refine Run.as (D' := ([(n62, "com/example/efcor/efcor/io/RecordReader", [("com/example/efcor/efcor/io/RecordReader", "number", "J", (.long p1)), ("com/example/efcor/efcor/io/RecordReader", "bytes", "[B", (.ref r60)), ("com/example/efcor/efcor/io/RecordReader", "at", "I", (.int (0 : Int32)))])], [(r60, .byte, [(.int (p3.toInt8.toInt32).toInt8.toInt32), (.int (((p3.toUInt32 >>> ((8 : Int32) &&& 31).toUInt32).toInt32).toInt8.toInt32).toInt8.toInt32)])])) rfl ?_
      refine Run.astore K at_142 (pc' := 144) rfl rfl (L' := #[.val (.long p1), .second, .val (.int p2), .val (.int p3), .val (.int p4), .val (.int (2 : Int32)), .val (.ref r60), .val (.int (0 : Int32)), .val (.ref n62)]) rfl ?_
      refine Run.iload K at_144 (pc' := 146) rfl rfl ?_
      refine Run.ifcT K at_146 (pT := 163) (pF := 149) (by decide) (by decide) rfl (show (0 : Int32) = (0 : Int32) from by decide) ?_
      refine Run.iload K at_163 (pc' := 165) rfl rfl ?_
      refine Run.ifcF K at_165 (pT := 174) (pF := 168) (by decide) (by decide) rfl (show ¬ ((2 : Int32) ≤ (0 : Int32)) from by decide) ?_
      refine Run.aload K at_168 (pc' := 170) rfl rfl rfl ?_
      refine Run.callV K at_170 (pc' := 173) rfl (a := n62) (z := (⟨"com/example/efcor/efcor/io/RecordReader", "readBoolean", "()Z"⟩ : MethodName)) (Cn := "com/example/efcor/efcor/io/RecordReader") (i := 0) (hw _ (List.mem_of_getElem? (i := 14) rfl)) (hw _ (List.mem_of_getElem? (i := 15) rfl)) (hw _ (List.mem_of_getElem? (i := 17) rfl)) (hw _ (List.mem_of_getElem? (i := 16) rfl)) (hw _ (List.mem_of_getElem? (i := 3) rfl)) (hw _ (List.mem_of_getElem? (i := 18) rfl)) (by decide) rfl (rb_2_0 l Z a0 n0 hw [] (n62) (p1) (r60) ((p3.toInt8.toInt32).toInt8.toInt32) ((((p3.toUInt32 >>> ((8 : Int32) &&& 31).toUInt32).toInt32).toInt8.toInt32).toInt8.toInt32) ([]) ([]) ) (argsL := []) (rest := []) rfl rfl pd_4 rfl (W := 0) rfl (by decide) (by decide) (cells' := 2) (slots' := 5) rfl rfl (by decide) (by decide) ?_
      intro vq Dq hq
      obtain ⟨c63, hc64, rfl, rfl⟩ := hq
      refine Run.as2 (D' := ([(n62, "com/example/efcor/efcor/io/RecordReader", [("com/example/efcor/efcor/io/RecordReader", "number", "J", (.long p1)), ("com/example/efcor/efcor/io/RecordReader", "bytes", "[B", (.ref r60)), ("com/example/efcor/efcor/io/RecordReader", "at", "I", (.int (1 : Int32)))])], [(r60, .byte, [(.int (p3.toInt8.toInt32).toInt8.toInt32), (.int (((p3.toUInt32 >>> ((8 : Int32) &&& 31).toUInt32).toInt32).toInt8.toInt32).toInt8.toInt32)])])) (S' := [(.int c63)]) rfl rfl ?_
      refine Run.pop K at_173 (pc' := 174) rfl rfl ?_
      refine Run.iload K at_174 (pc' := 176) rfl rfl ?_
      refine Run.iconst K at_176 (pc' := 177) rfl (v := (1 : Int32)) rfl ?_
      refine Run.icmpF K at_177 (pT := 186) (pF := 180) (by decide) (by decide) rfl (show ¬ ((2 : Int32) ≤ (1 : Int32)) from by decide) ?_
      refine Run.aload K at_180 (pc' := 182) rfl rfl rfl ?_
      refine Run.callV K at_182 (pc' := 185) rfl (a := n62) (z := (⟨"com/example/efcor/efcor/io/RecordReader", "readBoolean", "()Z"⟩ : MethodName)) (Cn := "com/example/efcor/efcor/io/RecordReader") (i := 0) (hw _ (List.mem_of_getElem? (i := 14) rfl)) (hw _ (List.mem_of_getElem? (i := 15) rfl)) (hw _ (List.mem_of_getElem? (i := 17) rfl)) (hw _ (List.mem_of_getElem? (i := 16) rfl)) (hw _ (List.mem_of_getElem? (i := 3) rfl)) (hw _ (List.mem_of_getElem? (i := 18) rfl)) (by decide) rfl (rb_2_1 l Z a0 n0 hw [] (n62) (p1) (r60) ((p3.toInt8.toInt32).toInt8.toInt32) ((((p3.toUInt32 >>> ((8 : Int32) &&& 31).toUInt32).toInt32).toInt8.toInt32).toInt8.toInt32) ([]) ([]) ) (argsL := []) (rest := []) rfl rfl pd_4 rfl (W := 0) rfl (by decide) (by decide) (cells' := 2) (slots' := 5) rfl rfl (by decide) (by decide) ?_
      intro vq Dq hq
      obtain ⟨c65, hc66, rfl, rfl⟩ := hq
      refine Run.as2 (D' := ([(n62, "com/example/efcor/efcor/io/RecordReader", [("com/example/efcor/efcor/io/RecordReader", "number", "J", (.long p1)), ("com/example/efcor/efcor/io/RecordReader", "bytes", "[B", (.ref r60)), ("com/example/efcor/efcor/io/RecordReader", "at", "I", (.int (2 : Int32)))])], [(r60, .byte, [(.int (p3.toInt8.toInt32).toInt8.toInt32), (.int (((p3.toUInt32 >>> ((8 : Int32) &&& 31).toUInt32).toInt32).toInt8.toInt32).toInt8.toInt32)])])) (S' := [(.int c65)]) rfl rfl ?_
      refine Run.pop K at_185 (pc' := 186) rfl rfl ?_
      refine Run.iload K at_186 (pc' := 188) rfl rfl ?_
      refine Run.iconst K at_188 (pc' := 189) rfl (v := (2 : Int32)) rfl ?_
      refine Run.icmpT K at_189 (pT := 198) (pF := 192) (by decide) (by decide) rfl (show (2 : Int32) ≤ (2 : Int32) from by decide) ?_
      refine Run.aload K at_198 (pc' := 200) rfl rfl rfl ?_
      refine Run.callV K at_200 (pc' := 203) rfl (a := n62) (z := (⟨"com/example/efcor/efcor/io/RecordReader", "end", "()V"⟩ : MethodName)) (Cn := "com/example/efcor/efcor/io/RecordReader") (i := 0) (hw _ (List.mem_of_getElem? (i := 25) rfl)) (hw _ (List.mem_of_getElem? (i := 26) rfl)) (hw _ (List.mem_of_getElem? (i := 28) rfl)) (hw _ (List.mem_of_getElem? (i := 27) rfl)) (hw _ (List.mem_of_getElem? (i := 3) rfl)) (hw _ (List.mem_of_getElem? (i := 29) rfl)) (by decide) rfl (en_2 l Z a0 n0 hw [] (n62) (p1) (r60) ((p3.toInt8.toInt32).toInt8.toInt32) ((((p3.toUInt32 >>> ((8 : Int32) &&& 31).toUInt32).toInt32).toInt8.toInt32).toInt8.toInt32) ([]) ([]) ) (argsL := []) (rest := []) rfl rfl pd_2 rfl (W := 0) rfl (by decide) (by decide) (cells' := 2) (slots' := 5) rfl rfl (by decide) (by decide) (Ret.k (S' := []) rfl ?_)
      refine Run.as (D' := ([(n62, "com/example/efcor/efcor/io/RecordReader", [("com/example/efcor/efcor/io/RecordReader", "number", "J", (.long p1)), ("com/example/efcor/efcor/io/RecordReader", "bytes", "[B", (.ref r60)), ("com/example/efcor/efcor/io/RecordReader", "at", "I", (.int (2 : Int32)))])], [(r60, .byte, [(.int (p3.toInt8.toInt32).toInt8.toInt32), (.int (((p3.toUInt32 >>> ((8 : Int32) &&& 31).toUInt32).toInt32).toInt8.toInt32).toInt8.toInt32)])])) rfl ?_
      refine Run.aload K at_203 (pc' := 205) rfl rfl rfl ?_
      refine Run.callV K at_205 (pc' := 208) rfl (a := n62) (z := (⟨"com/example/efcor/efcor/io/RecordReader", "end", "()V"⟩ : MethodName)) (Cn := "com/example/efcor/efcor/io/RecordReader") (i := 0) (hw _ (List.mem_of_getElem? (i := 25) rfl)) (hw _ (List.mem_of_getElem? (i := 26) rfl)) (hw _ (List.mem_of_getElem? (i := 28) rfl)) (hw _ (List.mem_of_getElem? (i := 27) rfl)) (hw _ (List.mem_of_getElem? (i := 3) rfl)) (hw _ (List.mem_of_getElem? (i := 29) rfl)) (by decide) rfl (en_2 l Z a0 n0 hw [] (n62) (p1) (r60) ((p3.toInt8.toInt32).toInt8.toInt32) ((((p3.toUInt32 >>> ((8 : Int32) &&& 31).toUInt32).toInt32).toInt8.toInt32).toInt8.toInt32) ([]) ([]) ) (argsL := []) (rest := []) rfl rfl pd_2 rfl (W := 0) rfl (by decide) (by decide) (cells' := 2) (slots' := 5) rfl rfl (by decide) (by decide) (Ret.k (S' := []) rfl ?_)
      refine Run.as (D' := ([(n62, "com/example/efcor/efcor/io/RecordReader", [("com/example/efcor/efcor/io/RecordReader", "number", "J", (.long p1)), ("com/example/efcor/efcor/io/RecordReader", "bytes", "[B", (.ref r60)), ("com/example/efcor/efcor/io/RecordReader", "at", "I", (.int (2 : Int32)))])], [(r60, .byte, [(.int (p3.toInt8.toInt32).toInt8.toInt32), (.int (((p3.toUInt32 >>> ((8 : Int32) &&& 31).toUInt32).toInt32).toInt8.toInt32).toInt8.toInt32)])])) rfl ?_
      refine Run.aload K at_208 (pc' := 210) rfl rfl rfl ?_
      refine Run.callV K at_210 (pc' := 213) rfl (a := n62) (z := (⟨"com/example/efcor/efcor/io/RecordReader", "number", "()J"⟩ : MethodName)) (Cn := "com/example/efcor/efcor/io/RecordReader") (i := 0) (hw _ (List.mem_of_getElem? (i := 30) rfl)) (hw _ (List.mem_of_getElem? (i := 31) rfl)) (hw _ (List.mem_of_getElem? (i := 33) rfl)) (hw _ (List.mem_of_getElem? (i := 32) rfl)) (hw _ (List.mem_of_getElem? (i := 3) rfl)) (hw _ (List.mem_of_getElem? (i := 34) rfl)) (by decide) rfl (rm6 l Z a0 n0 hw [] (n62) (p1) ((.ref r60)) ((2 : Int32)) ([]) ([(r60, .byte, [(.int (p3.toInt8.toInt32).toInt8.toInt32), (.int (((p3.toUInt32 >>> ((8 : Int32) &&& 31).toUInt32).toInt32).toInt8.toInt32).toInt8.toInt32)])]) ) (argsL := []) (rest := []) rfl rfl pd_3 rfl (W := 0) rfl (by decide) (by decide) (cells' := 2) (slots' := 5) rfl rfl (by decide) (by decide) (Ret.k (S' := [(.long p1)]) rfl ?_)
      refine Run.as (D' := ([(n62, "com/example/efcor/efcor/io/RecordReader", [("com/example/efcor/efcor/io/RecordReader", "number", "J", (.long p1)), ("com/example/efcor/efcor/io/RecordReader", "bytes", "[B", (.ref r60)), ("com/example/efcor/efcor/io/RecordReader", "at", "I", (.int (2 : Int32)))])], [(r60, .byte, [(.int (p3.toInt8.toInt32).toInt8.toInt32), (.int (((p3.toUInt32 >>> ((8 : Int32) &&& 31).toUInt32).toInt32).toInt8.toInt32).toInt8.toInt32)])])) rfl ?_
      refine Run.lloadN K at_213 (pc' := 214) rfl rfl ?_
      refine Run.lcmp K at_214 (pc' := 215) rfl ?_
      refine Run.ifLF K at_215 (pT := 222) (pF := 218) (by decide) (by decide) rfl (show ¬ (p1 ≠ p1) from fun h => h rfl) ?_
      refine Run.iconst K at_218 (pc' := 219) rfl (v := (1 : Int32)) rfl ?_
      refine Run.goto K at_219 (pc' := 223) (by decide) (by decide) ?_
      exact Run.retN K at_223 (w := (1 : Int32)) rfl (by decide) (by decide) (by decide) (by decide) rfl
    · skip
      refine Run.iconst K at_18 (pc' := 19) rfl (v := (1 : Int32)) rfl ?_
      refine Run.goto K at_19 (pc' := 23) (by decide) (by decide) ?_
      refine Run.istore K at_23 (pc' := 25) rfl (L' := #[.val (.long p1), .second, .val (.int p2), .val (.int p3), .val (.int p4), .val (.int (2 : Int32)), .val (.ref r60), .val (.int (1 : Int32)), .unset]) rfl ?_
      refine Run.iload K at_25 (pc' := 27) rfl rfl ?_
      refine Run.ifcF K at_27 (pT := 36) (pF := 30) (by decide) (by decide) rfl (show ¬ ((2 : Int32) ≤ (0 : Int32)) from by decide) ?_
      refine Run.aload K at_30 (pc' := 32) rfl rfl rfl ?_
      refine Run.iconst K at_32 (pc' := 33) rfl (v := (0 : Int32)) rfl ?_
      refine Run.iloadN K at_33 (pc' := 34) rfl rfl ?_
      refine Run.i2b K at_34 (pc' := 35) rfl ?_
      refine Run.bastore K at_35 (pc' := 36) rfl (i := 0) (q := 0) rfl (by decide) (by decide) (v := (.int (0 : Int32))) (rfl) (D' := ([], [(r60, .byte, [(.int (p3.toInt8.toInt32).toInt8.toInt32), (.int (0 : Int32))])])) rfl ?_
      refine Run.iload K at_36 (pc' := 38) rfl rfl ?_
      refine Run.iconst K at_38 (pc' := 39) rfl (v := (1 : Int32)) rfl ?_
      refine Run.icmpF K at_39 (pT := 51) (pF := 42) (by decide) (by decide) rfl (show ¬ ((2 : Int32) ≤ (1 : Int32)) from by decide) ?_
      refine Run.aload K at_42 (pc' := 44) rfl rfl rfl ?_
      refine Run.iconst K at_44 (pc' := 45) rfl (v := (1 : Int32)) rfl ?_
      refine Run.iloadN K at_45 (pc' := 46) rfl rfl ?_
      refine Run.bipush K at_46 (pc' := 48) rfl (v := (8 : Int32)) rfl ?_
      refine Run.iushr K at_48 (pc' := 49) rfl ?_
      refine Run.i2b K at_49 (pc' := 50) rfl ?_
      refine Run.bastore K at_50 (pc' := 51) rfl (i := 0) (q := 1) rfl (by decide) (by decide) (v := (.int (0 : Int32))) (rfl) (D' := ([], [(r60, .byte, [(.int (p3.toInt8.toInt32).toInt8.toInt32), (.int (((p3.toUInt32 >>> ((8 : Int32) &&& 31).toUInt32).toInt32).toInt8.toInt32).toInt8.toInt32)])])) rfl ?_
      refine Run.iload K at_51 (pc' := 53) rfl rfl ?_
      refine Run.iconst K at_53 (pc' := 54) rfl (v := (2 : Int32)) rfl ?_
      refine Run.icmpT K at_54 (pT := 66) (pF := 57) (by decide) (by decide) rfl (show (2 : Int32) ≤ (2 : Int32) from by decide) ?_
      refine Run.iload K at_66 (pc' := 68) rfl rfl ?_
      refine Run.ifcF K at_68 (pT := 132) (pF := 71) (by decide) (by decide) rfl (show ¬ ((1 : Int32) = (0 : Int32)) from by decide) ?_
      refine Run.iload K at_71 (pc' := 73) rfl rfl ?_
      refine Run.ifcF K at_73 (pT := 132) (pF := 76) (by decide) (by decide) rfl (show ¬ ((2 : Int32) ≤ (0 : Int32)) from by decide) ?_
      refine Run.iload K at_76 (pc' := 78) rfl rfl ?_
      refine Run.iconst K at_78 (pc' := 79) rfl (v := (1 : Int32)) rfl ?_
      refine Run.icmpF K at_79 (pT := 95) (pF := 82) (by decide) (by decide) rfl (show ¬ ((2 : Int32) ≤ (1 : Int32)) from by decide) ?_
      refine Run.aload K at_82 (pc' := 84) rfl rfl rfl ?_
      refine Run.iconst K at_84 (pc' := 85) rfl (v := (0 : Int32)) rfl ?_
      refine Run.aload K at_85 (pc' := 87) rfl rfl rfl ?_
      refine Run.iconst K at_87 (pc' := 88) rfl (v := (0 : Int32)) rfl ?_
      refine Run.baload K at_88 (pc' := 89) rfl (i := 0) (q := 0) rfl (by decide) (by decide) (v := (.int (p3.toInt8.toInt32).toInt8.toInt32)) (rfl) ?_
      refine Run.sipush K at_89 (pc' := 92) rfl (v := (128 : Int32)) rfl ?_
      refine Run.ior K at_92 (pc' := 93) rfl ?_
      refine Run.i2b K at_93 (pc' := 94) rfl ?_
      refine Run.bastore K at_94 (pc' := 95) rfl (i := 0) (q := 0) rfl (by decide) (by decide) (v := (.int (p3.toInt8.toInt32).toInt8.toInt32)) (rfl) (D' := ([], [(r60, .byte, [(.int (((p3.toInt8.toInt32).toInt8.toInt32 ||| (128 : Int32)).toInt8.toInt32).toInt8.toInt32), (.int (((p3.toUInt32 >>> ((8 : Int32) &&& 31).toUInt32).toInt32).toInt8.toInt32).toInt8.toInt32)])])) rfl ?_
      refine Run.iload K at_95 (pc' := 97) rfl rfl ?_
      refine Run.iconst K at_97 (pc' := 98) rfl (v := (2 : Int32)) rfl ?_
      refine Run.icmpT K at_98 (pT := 114) (pF := 101) (by decide) (by decide) rfl (show (2 : Int32) ≤ (2 : Int32) from by decide) ?_
      refine Run.aload K at_114 (pc' := 116) rfl rfl rfl ?_
      refine Run.iload K at_116 (pc' := 118) rfl rfl ?_
      refine Run.iconst K at_118 (pc' := 119) rfl (v := (1 : Int32)) rfl ?_
      refine Run.isubV K at_119 (pc' := 120) rfl (v := (1 : Int32)) (by decide) ?_
      refine Run.aload K at_120 (pc' := 122) rfl rfl rfl ?_
      refine Run.iload K at_122 (pc' := 124) rfl rfl ?_
      refine Run.iconst K at_124 (pc' := 125) rfl (v := (1 : Int32)) rfl ?_
      refine Run.isubV K at_125 (pc' := 126) rfl (v := (1 : Int32)) (by decide) ?_
      refine Run.baload K at_126 (pc' := 127) rfl (i := 0) (q := 1) rfl (by decide) (by decide) (v := (.int (((p3.toUInt32 >>> ((8 : Int32) &&& 31).toUInt32).toInt32).toInt8.toInt32).toInt8.toInt32)) (rfl) ?_
      refine Run.bipush K at_127 (pc' := 129) rfl (v := (127 : Int32)) rfl ?_
      refine Run.iand K at_129 (pc' := 130) rfl ?_
      refine Run.i2b K at_130 (pc' := 131) rfl ?_
      refine Run.bastore K at_131 (pc' := 132) rfl (i := 0) (q := 1) rfl (by decide) (by decide) (v := (.int (((p3.toUInt32 >>> ((8 : Int32) &&& 31).toUInt32).toInt32).toInt8.toInt32).toInt8.toInt32)) (rfl) (D' := ([], [(r60, .byte, [(.int (((p3.toInt8.toInt32).toInt8.toInt32 ||| (128 : Int32)).toInt8.toInt32).toInt8.toInt32), (.int (((((p3.toUInt32 >>> ((8 : Int32) &&& 31).toUInt32).toInt32).toInt8.toInt32).toInt8.toInt32 &&& (127 : Int32)).toInt8.toInt32).toInt8.toInt32)])])) rfl ?_
      refine Run.newO K at_132 (pc' := 135) rfl (hw _ (List.mem_of_getElem? (i := 1) rfl)) (hw _ (List.mem_of_getElem? (i := 2) rfl)) (hw _ (List.mem_of_getElem? (i := 3) rfl)) (fs_0 hw) (cells' := 2) (slots' := 5) rfl rfl (by decide) (by decide) (fun n67 => ?_)
      refine Run.as (D' := ([(n67, "com/example/efcor/efcor/io/RecordReader", [("com/example/efcor/efcor/io/RecordReader", "number", "J", (.long (0 : Int64))), ("com/example/efcor/efcor/io/RecordReader", "bytes", "[B", .null), ("com/example/efcor/efcor/io/RecordReader", "at", "I", (.int (0 : Int32)))])], [(r60, .byte, [(.int (((p3.toInt8.toInt32).toInt8.toInt32 ||| (128 : Int32)).toInt8.toInt32).toInt8.toInt32), (.int (((((p3.toUInt32 >>> ((8 : Int32) &&& 31).toUInt32).toInt32).toInt8.toInt32).toInt8.toInt32 &&& (127 : Int32)).toInt8.toInt32).toInt8.toInt32)])])) rfl ?_
      refine Run.dup K at_135 (pc' := 136) rfl rfl ?_
      refine Run.lloadN K at_136 (pc' := 137) rfl rfl ?_
      refine Run.aload K at_137 (pc' := 139) rfl rfl rfl ?_
      refine Run.callI K at_139 (pc' := 142) rfl rfl (hw _ (List.mem_of_getElem? (i := 4) rfl)) (hw _ (List.mem_of_getElem? (i := 5) rfl)) (hw _ (List.mem_of_getElem? (i := 3) rfl)) (hw _ (List.mem_of_getElem? (i := 6) rfl)) (by decide) (a := n67) (rm1 l Z a0 n0 hw [] (n67) (p1) (r60) ((0 : Int64)) (.null) ((0 : Int32)) ([]) ([(r60, .byte, [(.int (((p3.toInt8.toInt32).toInt8.toInt32 ||| (128 : Int32)).toInt8.toInt32).toInt8.toInt32), (.int (((((p3.toUInt32 >>> ((8 : Int32) &&& 31).toUInt32).toInt32).toInt8.toInt32).toInt8.toInt32 &&& (127 : Int32)).toInt8.toInt32).toInt8.toInt32)])]) ) (argsL := [(.long p1), (.ref r60)]) (rest := [(.ref n67)]) rfl rfl pd_1 rfl (W := 1) rfl (by decide) (by decide) (cells' := 2) (slots' := 5) rfl rfl (by decide) (by decide) (Ret.k (S' := [(.ref n67)]) rfl ?_)
      refine Run.as (D' := ([(n67, "com/example/efcor/efcor/io/RecordReader", [("com/example/efcor/efcor/io/RecordReader", "number", "J", (.long p1)), ("com/example/efcor/efcor/io/RecordReader", "bytes", "[B", (.ref r60)), ("com/example/efcor/efcor/io/RecordReader", "at", "I", (.int (0 : Int32)))])], [(r60, .byte, [(.int (((p3.toInt8.toInt32).toInt8.toInt32 ||| (128 : Int32)).toInt8.toInt32).toInt8.toInt32), (.int (((((p3.toUInt32 >>> ((8 : Int32) &&& 31).toUInt32).toInt32).toInt8.toInt32).toInt8.toInt32 &&& (127 : Int32)).toInt8.toInt32).toInt8.toInt32)])])) rfl ?_
      refine Run.astore K at_142 (pc' := 144) rfl rfl (L' := #[.val (.long p1), .second, .val (.int p2), .val (.int p3), .val (.int p4), .val (.int (2 : Int32)), .val (.ref r60), .val (.int (1 : Int32)), .val (.ref n67)]) rfl ?_
      refine Run.iload K at_144 (pc' := 146) rfl rfl ?_
      refine Run.ifcF K at_146 (pT := 163) (pF := 149) (by decide) (by decide) rfl (show ¬ ((1 : Int32) = (0 : Int32)) from by decide) ?_
      refine Run.iload K at_149 (pc' := 151) rfl rfl ?_
      refine Run.ifcF K at_151 (pT := 198) (pF := 154) (by decide) (by decide) rfl (show ¬ ((2 : Int32) ≤ (0 : Int32)) from by decide) ?_
      refine Run.aload K at_154 (pc' := 156) rfl rfl rfl ?_
      refine Run.callV K at_156 (pc' := 159) rfl (a := n67) (z := (⟨"com/example/efcor/efcor/io/RecordReader", "readLong", "()J"⟩ : MethodName)) (Cn := "com/example/efcor/efcor/io/RecordReader") (i := 0) (hw _ (List.mem_of_getElem? (i := 35) rfl)) (hw _ (List.mem_of_getElem? (i := 36) rfl)) (hw _ (List.mem_of_getElem? (i := 38) rfl)) (hw _ (List.mem_of_getElem? (i := 37) rfl)) (hw _ (List.mem_of_getElem? (i := 3) rfl)) (hw _ (List.mem_of_getElem? (i := 39) rfl)) (by decide) rfl (rl_2 l Z a0 n0 hw [] (n67) (p1) (r60) ((((p3.toInt8.toInt32).toInt8.toInt32 ||| (128 : Int32)).toInt8.toInt32).toInt8.toInt32) ((((((p3.toUInt32 >>> ((8 : Int32) &&& 31).toUInt32).toInt32).toInt8.toInt32).toInt8.toInt32 &&& (127 : Int32)).toInt8.toInt32).toInt8.toInt32) ([]) ([]) (own_hi _) (own_lo _)) (argsL := []) (rest := []) rfl rfl pd_3 rfl (W := 0) rfl (by decide) (by decide) (cells' := 2) (slots' := 5) rfl rfl (by decide) (by decide) (Ret.k (S' := [(.long (((0 : Int64) ||| (((((((p3.toInt8.toInt32).toInt8.toInt32 ||| (128 : Int32)).toInt8.toInt32).toInt8.toInt32.toInt8.toInt32) &&& (127 : Int32)).toInt64) <<< ((0 : Int32) &&& 0x3f).toInt64)) ||| (((((((((p3.toUInt32 >>> ((8 : Int32) &&& 31).toUInt32).toInt32).toInt8.toInt32).toInt8.toInt32 &&& (127 : Int32)).toInt8.toInt32).toInt8.toInt32.toInt8.toInt32) &&& (127 : Int32)).toInt64) <<< ((7 : Int32) &&& 0x3f).toInt64)))]) rfl ?_)
      refine Run.as (D' := ([(n67, "com/example/efcor/efcor/io/RecordReader", [("com/example/efcor/efcor/io/RecordReader", "number", "J", (.long p1)), ("com/example/efcor/efcor/io/RecordReader", "bytes", "[B", (.ref r60)), ("com/example/efcor/efcor/io/RecordReader", "at", "I", (.int (2 : Int32)))])], [(r60, .byte, [(.int (((p3.toInt8.toInt32).toInt8.toInt32 ||| (128 : Int32)).toInt8.toInt32).toInt8.toInt32), (.int (((((p3.toUInt32 >>> ((8 : Int32) &&& 31).toUInt32).toInt32).toInt8.toInt32).toInt8.toInt32 &&& (127 : Int32)).toInt8.toInt32).toInt8.toInt32)])])) rfl ?_
      refine Run.pop2L K at_159 (pc' := 160) rfl ?_
      refine Run.goto K at_160 (pc' := 198) (by decide) (by decide) ?_
      refine Run.aload K at_198 (pc' := 200) rfl rfl rfl ?_
      refine Run.callV K at_200 (pc' := 203) rfl (a := n67) (z := (⟨"com/example/efcor/efcor/io/RecordReader", "end", "()V"⟩ : MethodName)) (Cn := "com/example/efcor/efcor/io/RecordReader") (i := 0) (hw _ (List.mem_of_getElem? (i := 25) rfl)) (hw _ (List.mem_of_getElem? (i := 26) rfl)) (hw _ (List.mem_of_getElem? (i := 28) rfl)) (hw _ (List.mem_of_getElem? (i := 27) rfl)) (hw _ (List.mem_of_getElem? (i := 3) rfl)) (hw _ (List.mem_of_getElem? (i := 29) rfl)) (by decide) rfl (en_2 l Z a0 n0 hw [] (n67) (p1) (r60) ((((p3.toInt8.toInt32).toInt8.toInt32 ||| (128 : Int32)).toInt8.toInt32).toInt8.toInt32) ((((((p3.toUInt32 >>> ((8 : Int32) &&& 31).toUInt32).toInt32).toInt8.toInt32).toInt8.toInt32 &&& (127 : Int32)).toInt8.toInt32).toInt8.toInt32) ([]) ([]) ) (argsL := []) (rest := []) rfl rfl pd_2 rfl (W := 0) rfl (by decide) (by decide) (cells' := 2) (slots' := 5) rfl rfl (by decide) (by decide) (Ret.k (S' := []) rfl ?_)
      refine Run.as (D' := ([(n67, "com/example/efcor/efcor/io/RecordReader", [("com/example/efcor/efcor/io/RecordReader", "number", "J", (.long p1)), ("com/example/efcor/efcor/io/RecordReader", "bytes", "[B", (.ref r60)), ("com/example/efcor/efcor/io/RecordReader", "at", "I", (.int (2 : Int32)))])], [(r60, .byte, [(.int (((p3.toInt8.toInt32).toInt8.toInt32 ||| (128 : Int32)).toInt8.toInt32).toInt8.toInt32), (.int (((((p3.toUInt32 >>> ((8 : Int32) &&& 31).toUInt32).toInt32).toInt8.toInt32).toInt8.toInt32 &&& (127 : Int32)).toInt8.toInt32).toInt8.toInt32)])])) rfl ?_
      refine Run.aload K at_203 (pc' := 205) rfl rfl rfl ?_
      refine Run.callV K at_205 (pc' := 208) rfl (a := n67) (z := (⟨"com/example/efcor/efcor/io/RecordReader", "end", "()V"⟩ : MethodName)) (Cn := "com/example/efcor/efcor/io/RecordReader") (i := 0) (hw _ (List.mem_of_getElem? (i := 25) rfl)) (hw _ (List.mem_of_getElem? (i := 26) rfl)) (hw _ (List.mem_of_getElem? (i := 28) rfl)) (hw _ (List.mem_of_getElem? (i := 27) rfl)) (hw _ (List.mem_of_getElem? (i := 3) rfl)) (hw _ (List.mem_of_getElem? (i := 29) rfl)) (by decide) rfl (en_2 l Z a0 n0 hw [] (n67) (p1) (r60) ((((p3.toInt8.toInt32).toInt8.toInt32 ||| (128 : Int32)).toInt8.toInt32).toInt8.toInt32) ((((((p3.toUInt32 >>> ((8 : Int32) &&& 31).toUInt32).toInt32).toInt8.toInt32).toInt8.toInt32 &&& (127 : Int32)).toInt8.toInt32).toInt8.toInt32) ([]) ([]) ) (argsL := []) (rest := []) rfl rfl pd_2 rfl (W := 0) rfl (by decide) (by decide) (cells' := 2) (slots' := 5) rfl rfl (by decide) (by decide) (Ret.k (S' := []) rfl ?_)
      refine Run.as (D' := ([(n67, "com/example/efcor/efcor/io/RecordReader", [("com/example/efcor/efcor/io/RecordReader", "number", "J", (.long p1)), ("com/example/efcor/efcor/io/RecordReader", "bytes", "[B", (.ref r60)), ("com/example/efcor/efcor/io/RecordReader", "at", "I", (.int (2 : Int32)))])], [(r60, .byte, [(.int (((p3.toInt8.toInt32).toInt8.toInt32 ||| (128 : Int32)).toInt8.toInt32).toInt8.toInt32), (.int (((((p3.toUInt32 >>> ((8 : Int32) &&& 31).toUInt32).toInt32).toInt8.toInt32).toInt8.toInt32 &&& (127 : Int32)).toInt8.toInt32).toInt8.toInt32)])])) rfl ?_
      refine Run.aload K at_208 (pc' := 210) rfl rfl rfl ?_
      refine Run.callV K at_210 (pc' := 213) rfl (a := n67) (z := (⟨"com/example/efcor/efcor/io/RecordReader", "number", "()J"⟩ : MethodName)) (Cn := "com/example/efcor/efcor/io/RecordReader") (i := 0) (hw _ (List.mem_of_getElem? (i := 30) rfl)) (hw _ (List.mem_of_getElem? (i := 31) rfl)) (hw _ (List.mem_of_getElem? (i := 33) rfl)) (hw _ (List.mem_of_getElem? (i := 32) rfl)) (hw _ (List.mem_of_getElem? (i := 3) rfl)) (hw _ (List.mem_of_getElem? (i := 34) rfl)) (by decide) rfl (rm6 l Z a0 n0 hw [] (n67) (p1) ((.ref r60)) ((2 : Int32)) ([]) ([(r60, .byte, [(.int (((p3.toInt8.toInt32).toInt8.toInt32 ||| (128 : Int32)).toInt8.toInt32).toInt8.toInt32), (.int (((((p3.toUInt32 >>> ((8 : Int32) &&& 31).toUInt32).toInt32).toInt8.toInt32).toInt8.toInt32 &&& (127 : Int32)).toInt8.toInt32).toInt8.toInt32)])]) ) (argsL := []) (rest := []) rfl rfl pd_3 rfl (W := 0) rfl (by decide) (by decide) (cells' := 2) (slots' := 5) rfl rfl (by decide) (by decide) (Ret.k (S' := [(.long p1)]) rfl ?_)
      refine Run.as (D' := ([(n67, "com/example/efcor/efcor/io/RecordReader", [("com/example/efcor/efcor/io/RecordReader", "number", "J", (.long p1)), ("com/example/efcor/efcor/io/RecordReader", "bytes", "[B", (.ref r60)), ("com/example/efcor/efcor/io/RecordReader", "at", "I", (.int (2 : Int32)))])], [(r60, .byte, [(.int (((p3.toInt8.toInt32).toInt8.toInt32 ||| (128 : Int32)).toInt8.toInt32).toInt8.toInt32), (.int (((((p3.toUInt32 >>> ((8 : Int32) &&& 31).toUInt32).toInt32).toInt8.toInt32).toInt8.toInt32 &&& (127 : Int32)).toInt8.toInt32).toInt8.toInt32)])])) rfl ?_
      refine Run.lloadN K at_213 (pc' := 214) rfl rfl ?_
      refine Run.lcmp K at_214 (pc' := 215) rfl ?_
      refine Run.ifLF K at_215 (pT := 222) (pF := 218) (by decide) (by decide) rfl (show ¬ (p1 ≠ p1) from fun h => h rfl) ?_
      refine Run.iconst K at_218 (pc' := 219) rfl (v := (1 : Int32)) rfl ?_
      refine Run.goto K at_219 (pc' := 223) (by decide) (by decide) ?_
      exact Run.retN K at_223 (w := (1 : Int32)) rfl (by decide) (by decide) (by decide) (by decide) rfl
  · rw [hq49]
    refine Run.istore K at_3 (pc' := 5) rfl (L' := #[.val (.long p1), .second, .val (.int p2), .val (.int p3), .val (.int p4), .val (.int (3 : Int32)), .unset, .unset, .unset]) rfl ?_
    refine Run.iload K at_5 (pc' := 7) rfl rfl ?_
    refine Run.newA K at_7 (pc' := 9) rfl (ty := .byte) rfl (hw _ (List.mem_of_getElem? (i := 0) rfl)) (by decide) (vs := [(.int (0 : Int32)), (.int (0 : Int32)), (.int (0 : Int32))]) (rfl) (cap := 3) (by decide) (by decide) (cells' := 1) (slots' := 3) rfl rfl (by decide) (by decide) rfl (fun r68 => ?_)
    refine Run.as (D' := ([], [(r68, .byte, [(.int (0 : Int32)), (.int (0 : Int32)), (.int (0 : Int32))])])) rfl ?_
    refine Run.astore K at_9 (pc' := 11) rfl rfl (L' := #[.val (.long p1), .second, .val (.int p2), .val (.int p3), .val (.int p4), .val (.int (3 : Int32)), .val (.ref r68), .unset, .unset]) rfl ?_
    refine Run.iload K at_11 (pc' := 13) rfl rfl ?_
    refine Run.iconst K at_13 (pc' := 14) rfl (v := (1 : Int32)) rfl ?_
    refine Run.iand K at_14 (pc' := 15) rfl ?_
    refine Run.ifc K at_15 (pT := 22) (pF := 18) (by decide) (by decide) rfl (fun (h15_68 : (p4 &&& (1 : Int32)) = (0 : Int32)) => ?_) (fun (h15_68 : ¬ ((p4 &&& (1 : Int32)) = (0 : Int32))) => ?_)
    · skip
      refine Run.iconst K at_22 (pc' := 23) rfl (v := (0 : Int32)) rfl ?_
      refine Run.istore K at_23 (pc' := 25) rfl (L' := #[.val (.long p1), .second, .val (.int p2), .val (.int p3), .val (.int p4), .val (.int (3 : Int32)), .val (.ref r68), .val (.int (0 : Int32)), .unset]) rfl ?_
      refine Run.iload K at_25 (pc' := 27) rfl rfl ?_
      refine Run.ifcF K at_27 (pT := 36) (pF := 30) (by decide) (by decide) rfl (show ¬ ((3 : Int32) ≤ (0 : Int32)) from by decide) ?_
      refine Run.aload K at_30 (pc' := 32) rfl rfl rfl ?_
      refine Run.iconst K at_32 (pc' := 33) rfl (v := (0 : Int32)) rfl ?_
      refine Run.iloadN K at_33 (pc' := 34) rfl rfl ?_
      refine Run.i2b K at_34 (pc' := 35) rfl ?_
      refine Run.bastore K at_35 (pc' := 36) rfl (i := 0) (q := 0) rfl (by decide) (by decide) (v := (.int (0 : Int32))) (rfl) (D' := ([], [(r68, .byte, [(.int (p3.toInt8.toInt32).toInt8.toInt32), (.int (0 : Int32)), (.int (0 : Int32))])])) rfl ?_
      refine Run.iload K at_36 (pc' := 38) rfl rfl ?_
      refine Run.iconst K at_38 (pc' := 39) rfl (v := (1 : Int32)) rfl ?_
      refine Run.icmpF K at_39 (pT := 51) (pF := 42) (by decide) (by decide) rfl (show ¬ ((3 : Int32) ≤ (1 : Int32)) from by decide) ?_
      refine Run.aload K at_42 (pc' := 44) rfl rfl rfl ?_
      refine Run.iconst K at_44 (pc' := 45) rfl (v := (1 : Int32)) rfl ?_
      refine Run.iloadN K at_45 (pc' := 46) rfl rfl ?_
      refine Run.bipush K at_46 (pc' := 48) rfl (v := (8 : Int32)) rfl ?_
      refine Run.iushr K at_48 (pc' := 49) rfl ?_
      refine Run.i2b K at_49 (pc' := 50) rfl ?_
      refine Run.bastore K at_50 (pc' := 51) rfl (i := 0) (q := 1) rfl (by decide) (by decide) (v := (.int (0 : Int32))) (rfl) (D' := ([], [(r68, .byte, [(.int (p3.toInt8.toInt32).toInt8.toInt32), (.int (((p3.toUInt32 >>> ((8 : Int32) &&& 31).toUInt32).toInt32).toInt8.toInt32).toInt8.toInt32), (.int (0 : Int32))])])) rfl ?_
      refine Run.iload K at_51 (pc' := 53) rfl rfl ?_
      refine Run.iconst K at_53 (pc' := 54) rfl (v := (2 : Int32)) rfl ?_
      refine Run.icmpF K at_54 (pT := 66) (pF := 57) (by decide) (by decide) rfl (show ¬ ((3 : Int32) ≤ (2 : Int32)) from by decide) ?_
      refine Run.aload K at_57 (pc' := 59) rfl rfl rfl ?_
      refine Run.iconst K at_59 (pc' := 60) rfl (v := (2 : Int32)) rfl ?_
      refine Run.iloadN K at_60 (pc' := 61) rfl rfl ?_
      refine Run.bipush K at_61 (pc' := 63) rfl (v := (16 : Int32)) rfl ?_
      refine Run.iushr K at_63 (pc' := 64) rfl ?_
      refine Run.i2b K at_64 (pc' := 65) rfl ?_
      refine Run.bastore K at_65 (pc' := 66) rfl (i := 0) (q := 2) rfl (by decide) (by decide) (v := (.int (0 : Int32))) (rfl) (D' := ([], [(r68, .byte, [(.int (p3.toInt8.toInt32).toInt8.toInt32), (.int (((p3.toUInt32 >>> ((8 : Int32) &&& 31).toUInt32).toInt32).toInt8.toInt32).toInt8.toInt32), (.int (((p3.toUInt32 >>> ((16 : Int32) &&& 31).toUInt32).toInt32).toInt8.toInt32).toInt8.toInt32)])])) rfl ?_
      refine Run.iload K at_66 (pc' := 68) rfl rfl ?_
      refine Run.ifcT K at_68 (pT := 132) (pF := 71) (by decide) (by decide) rfl (show (0 : Int32) = (0 : Int32) from by decide) ?_
      refine Run.newO K at_132 (pc' := 135) rfl (hw _ (List.mem_of_getElem? (i := 1) rfl)) (hw _ (List.mem_of_getElem? (i := 2) rfl)) (hw _ (List.mem_of_getElem? (i := 3) rfl)) (fs_0 hw) (cells' := 2) (slots' := 6) rfl rfl (by decide) (by decide) (fun n70 => ?_)
      refine Run.as (D' := ([(n70, "com/example/efcor/efcor/io/RecordReader", [("com/example/efcor/efcor/io/RecordReader", "number", "J", (.long (0 : Int64))), ("com/example/efcor/efcor/io/RecordReader", "bytes", "[B", .null), ("com/example/efcor/efcor/io/RecordReader", "at", "I", (.int (0 : Int32)))])], [(r68, .byte, [(.int (p3.toInt8.toInt32).toInt8.toInt32), (.int (((p3.toUInt32 >>> ((8 : Int32) &&& 31).toUInt32).toInt32).toInt8.toInt32).toInt8.toInt32), (.int (((p3.toUInt32 >>> ((16 : Int32) &&& 31).toUInt32).toInt32).toInt8.toInt32).toInt8.toInt32)])])) rfl ?_
      refine Run.dup K at_135 (pc' := 136) rfl rfl ?_
      refine Run.lloadN K at_136 (pc' := 137) rfl rfl ?_
      refine Run.aload K at_137 (pc' := 139) rfl rfl rfl ?_
      refine Run.callI K at_139 (pc' := 142) rfl rfl (hw _ (List.mem_of_getElem? (i := 4) rfl)) (hw _ (List.mem_of_getElem? (i := 5) rfl)) (hw _ (List.mem_of_getElem? (i := 3) rfl)) (hw _ (List.mem_of_getElem? (i := 6) rfl)) (by decide) (a := n70) (rm1 l Z a0 n0 hw [] (n70) (p1) (r68) ((0 : Int64)) (.null) ((0 : Int32)) ([]) ([(r68, .byte, [(.int (p3.toInt8.toInt32).toInt8.toInt32), (.int (((p3.toUInt32 >>> ((8 : Int32) &&& 31).toUInt32).toInt32).toInt8.toInt32).toInt8.toInt32), (.int (((p3.toUInt32 >>> ((16 : Int32) &&& 31).toUInt32).toInt32).toInt8.toInt32).toInt8.toInt32)])]) ) (argsL := [(.long p1), (.ref r68)]) (rest := [(.ref n70)]) rfl rfl pd_1 rfl (W := 1) rfl (by decide) (by decide) (cells' := 2) (slots' := 6) rfl rfl (by decide) (by decide) (Ret.k (S' := [(.ref n70)]) rfl ?_)
      refine Run.as (D' := ([(n70, "com/example/efcor/efcor/io/RecordReader", [("com/example/efcor/efcor/io/RecordReader", "number", "J", (.long p1)), ("com/example/efcor/efcor/io/RecordReader", "bytes", "[B", (.ref r68)), ("com/example/efcor/efcor/io/RecordReader", "at", "I", (.int (0 : Int32)))])], [(r68, .byte, [(.int (p3.toInt8.toInt32).toInt8.toInt32), (.int (((p3.toUInt32 >>> ((8 : Int32) &&& 31).toUInt32).toInt32).toInt8.toInt32).toInt8.toInt32), (.int (((p3.toUInt32 >>> ((16 : Int32) &&& 31).toUInt32).toInt32).toInt8.toInt32).toInt8.toInt32)])])) rfl ?_
      refine Run.astore K at_142 (pc' := 144) rfl rfl (L' := #[.val (.long p1), .second, .val (.int p2), .val (.int p3), .val (.int p4), .val (.int (3 : Int32)), .val (.ref r68), .val (.int (0 : Int32)), .val (.ref n70)]) rfl ?_
      refine Run.iload K at_144 (pc' := 146) rfl rfl ?_
      refine Run.ifcT K at_146 (pT := 163) (pF := 149) (by decide) (by decide) rfl (show (0 : Int32) = (0 : Int32) from by decide) ?_
      refine Run.iload K at_163 (pc' := 165) rfl rfl ?_
      refine Run.ifcF K at_165 (pT := 174) (pF := 168) (by decide) (by decide) rfl (show ¬ ((3 : Int32) ≤ (0 : Int32)) from by decide) ?_
      refine Run.aload K at_168 (pc' := 170) rfl rfl rfl ?_
      refine Run.callV K at_170 (pc' := 173) rfl (a := n70) (z := (⟨"com/example/efcor/efcor/io/RecordReader", "readBoolean", "()Z"⟩ : MethodName)) (Cn := "com/example/efcor/efcor/io/RecordReader") (i := 0) (hw _ (List.mem_of_getElem? (i := 14) rfl)) (hw _ (List.mem_of_getElem? (i := 15) rfl)) (hw _ (List.mem_of_getElem? (i := 17) rfl)) (hw _ (List.mem_of_getElem? (i := 16) rfl)) (hw _ (List.mem_of_getElem? (i := 3) rfl)) (hw _ (List.mem_of_getElem? (i := 18) rfl)) (by decide) rfl (rb_3_0 l Z a0 n0 hw [] (n70) (p1) (r68) ((p3.toInt8.toInt32).toInt8.toInt32) ((((p3.toUInt32 >>> ((8 : Int32) &&& 31).toUInt32).toInt32).toInt8.toInt32).toInt8.toInt32) ((((p3.toUInt32 >>> ((16 : Int32) &&& 31).toUInt32).toInt32).toInt8.toInt32).toInt8.toInt32) ([]) ([]) ) (argsL := []) (rest := []) rfl rfl pd_4 rfl (W := 0) rfl (by decide) (by decide) (cells' := 2) (slots' := 6) rfl rfl (by decide) (by decide) ?_
      intro vq Dq hq
      obtain ⟨c71, hc72, rfl, rfl⟩ := hq
      refine Run.as2 (D' := ([(n70, "com/example/efcor/efcor/io/RecordReader", [("com/example/efcor/efcor/io/RecordReader", "number", "J", (.long p1)), ("com/example/efcor/efcor/io/RecordReader", "bytes", "[B", (.ref r68)), ("com/example/efcor/efcor/io/RecordReader", "at", "I", (.int (1 : Int32)))])], [(r68, .byte, [(.int (p3.toInt8.toInt32).toInt8.toInt32), (.int (((p3.toUInt32 >>> ((8 : Int32) &&& 31).toUInt32).toInt32).toInt8.toInt32).toInt8.toInt32), (.int (((p3.toUInt32 >>> ((16 : Int32) &&& 31).toUInt32).toInt32).toInt8.toInt32).toInt8.toInt32)])])) (S' := [(.int c71)]) rfl rfl ?_
      refine Run.pop K at_173 (pc' := 174) rfl rfl ?_
      refine Run.iload K at_174 (pc' := 176) rfl rfl ?_
      refine Run.iconst K at_176 (pc' := 177) rfl (v := (1 : Int32)) rfl ?_
      refine Run.icmpF K at_177 (pT := 186) (pF := 180) (by decide) (by decide) rfl (show ¬ ((3 : Int32) ≤ (1 : Int32)) from by decide) ?_
      refine Run.aload K at_180 (pc' := 182) rfl rfl rfl ?_
      refine Run.callV K at_182 (pc' := 185) rfl (a := n70) (z := (⟨"com/example/efcor/efcor/io/RecordReader", "readBoolean", "()Z"⟩ : MethodName)) (Cn := "com/example/efcor/efcor/io/RecordReader") (i := 0) (hw _ (List.mem_of_getElem? (i := 14) rfl)) (hw _ (List.mem_of_getElem? (i := 15) rfl)) (hw _ (List.mem_of_getElem? (i := 17) rfl)) (hw _ (List.mem_of_getElem? (i := 16) rfl)) (hw _ (List.mem_of_getElem? (i := 3) rfl)) (hw _ (List.mem_of_getElem? (i := 18) rfl)) (by decide) rfl (rb_3_1 l Z a0 n0 hw [] (n70) (p1) (r68) ((p3.toInt8.toInt32).toInt8.toInt32) ((((p3.toUInt32 >>> ((8 : Int32) &&& 31).toUInt32).toInt32).toInt8.toInt32).toInt8.toInt32) ((((p3.toUInt32 >>> ((16 : Int32) &&& 31).toUInt32).toInt32).toInt8.toInt32).toInt8.toInt32) ([]) ([]) ) (argsL := []) (rest := []) rfl rfl pd_4 rfl (W := 0) rfl (by decide) (by decide) (cells' := 2) (slots' := 6) rfl rfl (by decide) (by decide) ?_
      intro vq Dq hq
      obtain ⟨c73, hc74, rfl, rfl⟩ := hq
      refine Run.as2 (D' := ([(n70, "com/example/efcor/efcor/io/RecordReader", [("com/example/efcor/efcor/io/RecordReader", "number", "J", (.long p1)), ("com/example/efcor/efcor/io/RecordReader", "bytes", "[B", (.ref r68)), ("com/example/efcor/efcor/io/RecordReader", "at", "I", (.int (2 : Int32)))])], [(r68, .byte, [(.int (p3.toInt8.toInt32).toInt8.toInt32), (.int (((p3.toUInt32 >>> ((8 : Int32) &&& 31).toUInt32).toInt32).toInt8.toInt32).toInt8.toInt32), (.int (((p3.toUInt32 >>> ((16 : Int32) &&& 31).toUInt32).toInt32).toInt8.toInt32).toInt8.toInt32)])])) (S' := [(.int c73)]) rfl rfl ?_
      refine Run.pop K at_185 (pc' := 186) rfl rfl ?_
      refine Run.iload K at_186 (pc' := 188) rfl rfl ?_
      refine Run.iconst K at_188 (pc' := 189) rfl (v := (2 : Int32)) rfl ?_
      refine Run.icmpF K at_189 (pT := 198) (pF := 192) (by decide) (by decide) rfl (show ¬ ((3 : Int32) ≤ (2 : Int32)) from by decide) ?_
      refine Run.aload K at_192 (pc' := 194) rfl rfl rfl ?_
      refine Run.callV K at_194 (pc' := 197) rfl (a := n70) (z := (⟨"com/example/efcor/efcor/io/RecordReader", "readBoolean", "()Z"⟩ : MethodName)) (Cn := "com/example/efcor/efcor/io/RecordReader") (i := 0) (hw _ (List.mem_of_getElem? (i := 14) rfl)) (hw _ (List.mem_of_getElem? (i := 15) rfl)) (hw _ (List.mem_of_getElem? (i := 17) rfl)) (hw _ (List.mem_of_getElem? (i := 16) rfl)) (hw _ (List.mem_of_getElem? (i := 3) rfl)) (hw _ (List.mem_of_getElem? (i := 18) rfl)) (by decide) rfl (rb_3_2 l Z a0 n0 hw [] (n70) (p1) (r68) ((p3.toInt8.toInt32).toInt8.toInt32) ((((p3.toUInt32 >>> ((8 : Int32) &&& 31).toUInt32).toInt32).toInt8.toInt32).toInt8.toInt32) ((((p3.toUInt32 >>> ((16 : Int32) &&& 31).toUInt32).toInt32).toInt8.toInt32).toInt8.toInt32) ([]) ([]) ) (argsL := []) (rest := []) rfl rfl pd_4 rfl (W := 0) rfl (by decide) (by decide) (cells' := 2) (slots' := 6) rfl rfl (by decide) (by decide) ?_
      intro vq Dq hq
      obtain ⟨c75, hc76, rfl, rfl⟩ := hq
      refine Run.as2 (D' := ([(n70, "com/example/efcor/efcor/io/RecordReader", [("com/example/efcor/efcor/io/RecordReader", "number", "J", (.long p1)), ("com/example/efcor/efcor/io/RecordReader", "bytes", "[B", (.ref r68)), ("com/example/efcor/efcor/io/RecordReader", "at", "I", (.int (3 : Int32)))])], [(r68, .byte, [(.int (p3.toInt8.toInt32).toInt8.toInt32), (.int (((p3.toUInt32 >>> ((8 : Int32) &&& 31).toUInt32).toInt32).toInt8.toInt32).toInt8.toInt32), (.int (((p3.toUInt32 >>> ((16 : Int32) &&& 31).toUInt32).toInt32).toInt8.toInt32).toInt8.toInt32)])])) (S' := [(.int c75)]) rfl rfl ?_
      refine Run.pop K at_197 (pc' := 198) rfl rfl ?_
      refine Run.aload K at_198 (pc' := 200) rfl rfl rfl ?_
      refine Run.callV K at_200 (pc' := 203) rfl (a := n70) (z := (⟨"com/example/efcor/efcor/io/RecordReader", "end", "()V"⟩ : MethodName)) (Cn := "com/example/efcor/efcor/io/RecordReader") (i := 0) (hw _ (List.mem_of_getElem? (i := 25) rfl)) (hw _ (List.mem_of_getElem? (i := 26) rfl)) (hw _ (List.mem_of_getElem? (i := 28) rfl)) (hw _ (List.mem_of_getElem? (i := 27) rfl)) (hw _ (List.mem_of_getElem? (i := 3) rfl)) (hw _ (List.mem_of_getElem? (i := 29) rfl)) (by decide) rfl (en_3 l Z a0 n0 hw [] (n70) (p1) (r68) ((p3.toInt8.toInt32).toInt8.toInt32) ((((p3.toUInt32 >>> ((8 : Int32) &&& 31).toUInt32).toInt32).toInt8.toInt32).toInt8.toInt32) ((((p3.toUInt32 >>> ((16 : Int32) &&& 31).toUInt32).toInt32).toInt8.toInt32).toInt8.toInt32) ([]) ([]) ) (argsL := []) (rest := []) rfl rfl pd_2 rfl (W := 0) rfl (by decide) (by decide) (cells' := 2) (slots' := 6) rfl rfl (by decide) (by decide) (Ret.k (S' := []) rfl ?_)
      refine Run.as (D' := ([(n70, "com/example/efcor/efcor/io/RecordReader", [("com/example/efcor/efcor/io/RecordReader", "number", "J", (.long p1)), ("com/example/efcor/efcor/io/RecordReader", "bytes", "[B", (.ref r68)), ("com/example/efcor/efcor/io/RecordReader", "at", "I", (.int (3 : Int32)))])], [(r68, .byte, [(.int (p3.toInt8.toInt32).toInt8.toInt32), (.int (((p3.toUInt32 >>> ((8 : Int32) &&& 31).toUInt32).toInt32).toInt8.toInt32).toInt8.toInt32), (.int (((p3.toUInt32 >>> ((16 : Int32) &&& 31).toUInt32).toInt32).toInt8.toInt32).toInt8.toInt32)])])) rfl ?_
      refine Run.aload K at_203 (pc' := 205) rfl rfl rfl ?_
      refine Run.callV K at_205 (pc' := 208) rfl (a := n70) (z := (⟨"com/example/efcor/efcor/io/RecordReader", "end", "()V"⟩ : MethodName)) (Cn := "com/example/efcor/efcor/io/RecordReader") (i := 0) (hw _ (List.mem_of_getElem? (i := 25) rfl)) (hw _ (List.mem_of_getElem? (i := 26) rfl)) (hw _ (List.mem_of_getElem? (i := 28) rfl)) (hw _ (List.mem_of_getElem? (i := 27) rfl)) (hw _ (List.mem_of_getElem? (i := 3) rfl)) (hw _ (List.mem_of_getElem? (i := 29) rfl)) (by decide) rfl (en_3 l Z a0 n0 hw [] (n70) (p1) (r68) ((p3.toInt8.toInt32).toInt8.toInt32) ((((p3.toUInt32 >>> ((8 : Int32) &&& 31).toUInt32).toInt32).toInt8.toInt32).toInt8.toInt32) ((((p3.toUInt32 >>> ((16 : Int32) &&& 31).toUInt32).toInt32).toInt8.toInt32).toInt8.toInt32) ([]) ([]) ) (argsL := []) (rest := []) rfl rfl pd_2 rfl (W := 0) rfl (by decide) (by decide) (cells' := 2) (slots' := 6) rfl rfl (by decide) (by decide) (Ret.k (S' := []) rfl ?_)
      refine Run.as (D' := ([(n70, "com/example/efcor/efcor/io/RecordReader", [("com/example/efcor/efcor/io/RecordReader", "number", "J", (.long p1)), ("com/example/efcor/efcor/io/RecordReader", "bytes", "[B", (.ref r68)), ("com/example/efcor/efcor/io/RecordReader", "at", "I", (.int (3 : Int32)))])], [(r68, .byte, [(.int (p3.toInt8.toInt32).toInt8.toInt32), (.int (((p3.toUInt32 >>> ((8 : Int32) &&& 31).toUInt32).toInt32).toInt8.toInt32).toInt8.toInt32), (.int (((p3.toUInt32 >>> ((16 : Int32) &&& 31).toUInt32).toInt32).toInt8.toInt32).toInt8.toInt32)])])) rfl ?_
      refine Run.aload K at_208 (pc' := 210) rfl rfl rfl ?_
      refine Run.callV K at_210 (pc' := 213) rfl (a := n70) (z := (⟨"com/example/efcor/efcor/io/RecordReader", "number", "()J"⟩ : MethodName)) (Cn := "com/example/efcor/efcor/io/RecordReader") (i := 0) (hw _ (List.mem_of_getElem? (i := 30) rfl)) (hw _ (List.mem_of_getElem? (i := 31) rfl)) (hw _ (List.mem_of_getElem? (i := 33) rfl)) (hw _ (List.mem_of_getElem? (i := 32) rfl)) (hw _ (List.mem_of_getElem? (i := 3) rfl)) (hw _ (List.mem_of_getElem? (i := 34) rfl)) (by decide) rfl (rm6 l Z a0 n0 hw [] (n70) (p1) ((.ref r68)) ((3 : Int32)) ([]) ([(r68, .byte, [(.int (p3.toInt8.toInt32).toInt8.toInt32), (.int (((p3.toUInt32 >>> ((8 : Int32) &&& 31).toUInt32).toInt32).toInt8.toInt32).toInt8.toInt32), (.int (((p3.toUInt32 >>> ((16 : Int32) &&& 31).toUInt32).toInt32).toInt8.toInt32).toInt8.toInt32)])]) ) (argsL := []) (rest := []) rfl rfl pd_3 rfl (W := 0) rfl (by decide) (by decide) (cells' := 2) (slots' := 6) rfl rfl (by decide) (by decide) (Ret.k (S' := [(.long p1)]) rfl ?_)
      refine Run.as (D' := ([(n70, "com/example/efcor/efcor/io/RecordReader", [("com/example/efcor/efcor/io/RecordReader", "number", "J", (.long p1)), ("com/example/efcor/efcor/io/RecordReader", "bytes", "[B", (.ref r68)), ("com/example/efcor/efcor/io/RecordReader", "at", "I", (.int (3 : Int32)))])], [(r68, .byte, [(.int (p3.toInt8.toInt32).toInt8.toInt32), (.int (((p3.toUInt32 >>> ((8 : Int32) &&& 31).toUInt32).toInt32).toInt8.toInt32).toInt8.toInt32), (.int (((p3.toUInt32 >>> ((16 : Int32) &&& 31).toUInt32).toInt32).toInt8.toInt32).toInt8.toInt32)])])) rfl ?_
      refine Run.lloadN K at_213 (pc' := 214) rfl rfl ?_
      refine Run.lcmp K at_214 (pc' := 215) rfl ?_
      refine Run.ifLF K at_215 (pT := 222) (pF := 218) (by decide) (by decide) rfl (show ¬ (p1 ≠ p1) from fun h => h rfl) ?_
      refine Run.iconst K at_218 (pc' := 219) rfl (v := (1 : Int32)) rfl ?_
      refine Run.goto K at_219 (pc' := 223) (by decide) (by decide) ?_
      exact Run.retN K at_223 (w := (1 : Int32)) rfl (by decide) (by decide) (by decide) (by decide) rfl
    · skip
      refine Run.iconst K at_18 (pc' := 19) rfl (v := (1 : Int32)) rfl ?_
      refine Run.goto K at_19 (pc' := 23) (by decide) (by decide) ?_
      refine Run.istore K at_23 (pc' := 25) rfl (L' := #[.val (.long p1), .second, .val (.int p2), .val (.int p3), .val (.int p4), .val (.int (3 : Int32)), .val (.ref r68), .val (.int (1 : Int32)), .unset]) rfl ?_
      refine Run.iload K at_25 (pc' := 27) rfl rfl ?_
      refine Run.ifcF K at_27 (pT := 36) (pF := 30) (by decide) (by decide) rfl (show ¬ ((3 : Int32) ≤ (0 : Int32)) from by decide) ?_
      refine Run.aload K at_30 (pc' := 32) rfl rfl rfl ?_
      refine Run.iconst K at_32 (pc' := 33) rfl (v := (0 : Int32)) rfl ?_
      refine Run.iloadN K at_33 (pc' := 34) rfl rfl ?_
      refine Run.i2b K at_34 (pc' := 35) rfl ?_
      refine Run.bastore K at_35 (pc' := 36) rfl (i := 0) (q := 0) rfl (by decide) (by decide) (v := (.int (0 : Int32))) (rfl) (D' := ([], [(r68, .byte, [(.int (p3.toInt8.toInt32).toInt8.toInt32), (.int (0 : Int32)), (.int (0 : Int32))])])) rfl ?_
      refine Run.iload K at_36 (pc' := 38) rfl rfl ?_
      refine Run.iconst K at_38 (pc' := 39) rfl (v := (1 : Int32)) rfl ?_
      refine Run.icmpF K at_39 (pT := 51) (pF := 42) (by decide) (by decide) rfl (show ¬ ((3 : Int32) ≤ (1 : Int32)) from by decide) ?_
      refine Run.aload K at_42 (pc' := 44) rfl rfl rfl ?_
      refine Run.iconst K at_44 (pc' := 45) rfl (v := (1 : Int32)) rfl ?_
      refine Run.iloadN K at_45 (pc' := 46) rfl rfl ?_
      refine Run.bipush K at_46 (pc' := 48) rfl (v := (8 : Int32)) rfl ?_
      refine Run.iushr K at_48 (pc' := 49) rfl ?_
      refine Run.i2b K at_49 (pc' := 50) rfl ?_
      refine Run.bastore K at_50 (pc' := 51) rfl (i := 0) (q := 1) rfl (by decide) (by decide) (v := (.int (0 : Int32))) (rfl) (D' := ([], [(r68, .byte, [(.int (p3.toInt8.toInt32).toInt8.toInt32), (.int (((p3.toUInt32 >>> ((8 : Int32) &&& 31).toUInt32).toInt32).toInt8.toInt32).toInt8.toInt32), (.int (0 : Int32))])])) rfl ?_
      refine Run.iload K at_51 (pc' := 53) rfl rfl ?_
      refine Run.iconst K at_53 (pc' := 54) rfl (v := (2 : Int32)) rfl ?_
      refine Run.icmpF K at_54 (pT := 66) (pF := 57) (by decide) (by decide) rfl (show ¬ ((3 : Int32) ≤ (2 : Int32)) from by decide) ?_
      refine Run.aload K at_57 (pc' := 59) rfl rfl rfl ?_
      refine Run.iconst K at_59 (pc' := 60) rfl (v := (2 : Int32)) rfl ?_
      refine Run.iloadN K at_60 (pc' := 61) rfl rfl ?_
      refine Run.bipush K at_61 (pc' := 63) rfl (v := (16 : Int32)) rfl ?_
      refine Run.iushr K at_63 (pc' := 64) rfl ?_
      refine Run.i2b K at_64 (pc' := 65) rfl ?_
      refine Run.bastore K at_65 (pc' := 66) rfl (i := 0) (q := 2) rfl (by decide) (by decide) (v := (.int (0 : Int32))) (rfl) (D' := ([], [(r68, .byte, [(.int (p3.toInt8.toInt32).toInt8.toInt32), (.int (((p3.toUInt32 >>> ((8 : Int32) &&& 31).toUInt32).toInt32).toInt8.toInt32).toInt8.toInt32), (.int (((p3.toUInt32 >>> ((16 : Int32) &&& 31).toUInt32).toInt32).toInt8.toInt32).toInt8.toInt32)])])) rfl ?_
      refine Run.iload K at_66 (pc' := 68) rfl rfl ?_
      refine Run.ifcF K at_68 (pT := 132) (pF := 71) (by decide) (by decide) rfl (show ¬ ((1 : Int32) = (0 : Int32)) from by decide) ?_
      refine Run.iload K at_71 (pc' := 73) rfl rfl ?_
      refine Run.ifcF K at_73 (pT := 132) (pF := 76) (by decide) (by decide) rfl (show ¬ ((3 : Int32) ≤ (0 : Int32)) from by decide) ?_
      refine Run.iload K at_76 (pc' := 78) rfl rfl ?_
      refine Run.iconst K at_78 (pc' := 79) rfl (v := (1 : Int32)) rfl ?_
      refine Run.icmpF K at_79 (pT := 95) (pF := 82) (by decide) (by decide) rfl (show ¬ ((3 : Int32) ≤ (1 : Int32)) from by decide) ?_
      refine Run.aload K at_82 (pc' := 84) rfl rfl rfl ?_
      refine Run.iconst K at_84 (pc' := 85) rfl (v := (0 : Int32)) rfl ?_
      refine Run.aload K at_85 (pc' := 87) rfl rfl rfl ?_
      refine Run.iconst K at_87 (pc' := 88) rfl (v := (0 : Int32)) rfl ?_
      refine Run.baload K at_88 (pc' := 89) rfl (i := 0) (q := 0) rfl (by decide) (by decide) (v := (.int (p3.toInt8.toInt32).toInt8.toInt32)) (rfl) ?_
      refine Run.sipush K at_89 (pc' := 92) rfl (v := (128 : Int32)) rfl ?_
      refine Run.ior K at_92 (pc' := 93) rfl ?_
      refine Run.i2b K at_93 (pc' := 94) rfl ?_
      refine Run.bastore K at_94 (pc' := 95) rfl (i := 0) (q := 0) rfl (by decide) (by decide) (v := (.int (p3.toInt8.toInt32).toInt8.toInt32)) (rfl) (D' := ([], [(r68, .byte, [(.int (((p3.toInt8.toInt32).toInt8.toInt32 ||| (128 : Int32)).toInt8.toInt32).toInt8.toInt32), (.int (((p3.toUInt32 >>> ((8 : Int32) &&& 31).toUInt32).toInt32).toInt8.toInt32).toInt8.toInt32), (.int (((p3.toUInt32 >>> ((16 : Int32) &&& 31).toUInt32).toInt32).toInt8.toInt32).toInt8.toInt32)])])) rfl ?_
      refine Run.iload K at_95 (pc' := 97) rfl rfl ?_
      refine Run.iconst K at_97 (pc' := 98) rfl (v := (2 : Int32)) rfl ?_
      refine Run.icmpF K at_98 (pT := 114) (pF := 101) (by decide) (by decide) rfl (show ¬ ((3 : Int32) ≤ (2 : Int32)) from by decide) ?_
      refine Run.aload K at_101 (pc' := 103) rfl rfl rfl ?_
      refine Run.iconst K at_103 (pc' := 104) rfl (v := (1 : Int32)) rfl ?_
      refine Run.aload K at_104 (pc' := 106) rfl rfl rfl ?_
      refine Run.iconst K at_106 (pc' := 107) rfl (v := (1 : Int32)) rfl ?_
      refine Run.baload K at_107 (pc' := 108) rfl (i := 0) (q := 1) rfl (by decide) (by decide) (v := (.int (((p3.toUInt32 >>> ((8 : Int32) &&& 31).toUInt32).toInt32).toInt8.toInt32).toInt8.toInt32)) (rfl) ?_
      refine Run.sipush K at_108 (pc' := 111) rfl (v := (128 : Int32)) rfl ?_
      refine Run.ior K at_111 (pc' := 112) rfl ?_
      refine Run.i2b K at_112 (pc' := 113) rfl ?_
      refine Run.bastore K at_113 (pc' := 114) rfl (i := 0) (q := 1) rfl (by decide) (by decide) (v := (.int (((p3.toUInt32 >>> ((8 : Int32) &&& 31).toUInt32).toInt32).toInt8.toInt32).toInt8.toInt32)) (rfl) (D' := ([], [(r68, .byte, [(.int (((p3.toInt8.toInt32).toInt8.toInt32 ||| (128 : Int32)).toInt8.toInt32).toInt8.toInt32), (.int (((((p3.toUInt32 >>> ((8 : Int32) &&& 31).toUInt32).toInt32).toInt8.toInt32).toInt8.toInt32 ||| (128 : Int32)).toInt8.toInt32).toInt8.toInt32), (.int (((p3.toUInt32 >>> ((16 : Int32) &&& 31).toUInt32).toInt32).toInt8.toInt32).toInt8.toInt32)])])) rfl ?_
      refine Run.aload K at_114 (pc' := 116) rfl rfl rfl ?_
      refine Run.iload K at_116 (pc' := 118) rfl rfl ?_
      refine Run.iconst K at_118 (pc' := 119) rfl (v := (1 : Int32)) rfl ?_
      refine Run.isubV K at_119 (pc' := 120) rfl (v := (2 : Int32)) (by decide) ?_
      refine Run.aload K at_120 (pc' := 122) rfl rfl rfl ?_
      refine Run.iload K at_122 (pc' := 124) rfl rfl ?_
      refine Run.iconst K at_124 (pc' := 125) rfl (v := (1 : Int32)) rfl ?_
      refine Run.isubV K at_125 (pc' := 126) rfl (v := (2 : Int32)) (by decide) ?_
      refine Run.baload K at_126 (pc' := 127) rfl (i := 0) (q := 2) rfl (by decide) (by decide) (v := (.int (((p3.toUInt32 >>> ((16 : Int32) &&& 31).toUInt32).toInt32).toInt8.toInt32).toInt8.toInt32)) (rfl) ?_
      refine Run.bipush K at_127 (pc' := 129) rfl (v := (127 : Int32)) rfl ?_
      refine Run.iand K at_129 (pc' := 130) rfl ?_
      refine Run.i2b K at_130 (pc' := 131) rfl ?_
      refine Run.bastore K at_131 (pc' := 132) rfl (i := 0) (q := 2) rfl (by decide) (by decide) (v := (.int (((p3.toUInt32 >>> ((16 : Int32) &&& 31).toUInt32).toInt32).toInt8.toInt32).toInt8.toInt32)) (rfl) (D' := ([], [(r68, .byte, [(.int (((p3.toInt8.toInt32).toInt8.toInt32 ||| (128 : Int32)).toInt8.toInt32).toInt8.toInt32), (.int (((((p3.toUInt32 >>> ((8 : Int32) &&& 31).toUInt32).toInt32).toInt8.toInt32).toInt8.toInt32 ||| (128 : Int32)).toInt8.toInt32).toInt8.toInt32), (.int (((((p3.toUInt32 >>> ((16 : Int32) &&& 31).toUInt32).toInt32).toInt8.toInt32).toInt8.toInt32 &&& (127 : Int32)).toInt8.toInt32).toInt8.toInt32)])])) rfl ?_
      refine Run.newO K at_132 (pc' := 135) rfl (hw _ (List.mem_of_getElem? (i := 1) rfl)) (hw _ (List.mem_of_getElem? (i := 2) rfl)) (hw _ (List.mem_of_getElem? (i := 3) rfl)) (fs_0 hw) (cells' := 2) (slots' := 6) rfl rfl (by decide) (by decide) (fun n77 => ?_)
      refine Run.as (D' := ([(n77, "com/example/efcor/efcor/io/RecordReader", [("com/example/efcor/efcor/io/RecordReader", "number", "J", (.long (0 : Int64))), ("com/example/efcor/efcor/io/RecordReader", "bytes", "[B", .null), ("com/example/efcor/efcor/io/RecordReader", "at", "I", (.int (0 : Int32)))])], [(r68, .byte, [(.int (((p3.toInt8.toInt32).toInt8.toInt32 ||| (128 : Int32)).toInt8.toInt32).toInt8.toInt32), (.int (((((p3.toUInt32 >>> ((8 : Int32) &&& 31).toUInt32).toInt32).toInt8.toInt32).toInt8.toInt32 ||| (128 : Int32)).toInt8.toInt32).toInt8.toInt32), (.int (((((p3.toUInt32 >>> ((16 : Int32) &&& 31).toUInt32).toInt32).toInt8.toInt32).toInt8.toInt32 &&& (127 : Int32)).toInt8.toInt32).toInt8.toInt32)])])) rfl ?_
      refine Run.dup K at_135 (pc' := 136) rfl rfl ?_
      refine Run.lloadN K at_136 (pc' := 137) rfl rfl ?_
      refine Run.aload K at_137 (pc' := 139) rfl rfl rfl ?_
      refine Run.callI K at_139 (pc' := 142) rfl rfl (hw _ (List.mem_of_getElem? (i := 4) rfl)) (hw _ (List.mem_of_getElem? (i := 5) rfl)) (hw _ (List.mem_of_getElem? (i := 3) rfl)) (hw _ (List.mem_of_getElem? (i := 6) rfl)) (by decide) (a := n77) (rm1 l Z a0 n0 hw [] (n77) (p1) (r68) ((0 : Int64)) (.null) ((0 : Int32)) ([]) ([(r68, .byte, [(.int (((p3.toInt8.toInt32).toInt8.toInt32 ||| (128 : Int32)).toInt8.toInt32).toInt8.toInt32), (.int (((((p3.toUInt32 >>> ((8 : Int32) &&& 31).toUInt32).toInt32).toInt8.toInt32).toInt8.toInt32 ||| (128 : Int32)).toInt8.toInt32).toInt8.toInt32), (.int (((((p3.toUInt32 >>> ((16 : Int32) &&& 31).toUInt32).toInt32).toInt8.toInt32).toInt8.toInt32 &&& (127 : Int32)).toInt8.toInt32).toInt8.toInt32)])]) ) (argsL := [(.long p1), (.ref r68)]) (rest := [(.ref n77)]) rfl rfl pd_1 rfl (W := 1) rfl (by decide) (by decide) (cells' := 2) (slots' := 6) rfl rfl (by decide) (by decide) (Ret.k (S' := [(.ref n77)]) rfl ?_)
      refine Run.as (D' := ([(n77, "com/example/efcor/efcor/io/RecordReader", [("com/example/efcor/efcor/io/RecordReader", "number", "J", (.long p1)), ("com/example/efcor/efcor/io/RecordReader", "bytes", "[B", (.ref r68)), ("com/example/efcor/efcor/io/RecordReader", "at", "I", (.int (0 : Int32)))])], [(r68, .byte, [(.int (((p3.toInt8.toInt32).toInt8.toInt32 ||| (128 : Int32)).toInt8.toInt32).toInt8.toInt32), (.int (((((p3.toUInt32 >>> ((8 : Int32) &&& 31).toUInt32).toInt32).toInt8.toInt32).toInt8.toInt32 ||| (128 : Int32)).toInt8.toInt32).toInt8.toInt32), (.int (((((p3.toUInt32 >>> ((16 : Int32) &&& 31).toUInt32).toInt32).toInt8.toInt32).toInt8.toInt32 &&& (127 : Int32)).toInt8.toInt32).toInt8.toInt32)])])) rfl ?_
      refine Run.astore K at_142 (pc' := 144) rfl rfl (L' := #[.val (.long p1), .second, .val (.int p2), .val (.int p3), .val (.int p4), .val (.int (3 : Int32)), .val (.ref r68), .val (.int (1 : Int32)), .val (.ref n77)]) rfl ?_
      refine Run.iload K at_144 (pc' := 146) rfl rfl ?_
      refine Run.ifcF K at_146 (pT := 163) (pF := 149) (by decide) (by decide) rfl (show ¬ ((1 : Int32) = (0 : Int32)) from by decide) ?_
      refine Run.iload K at_149 (pc' := 151) rfl rfl ?_
      refine Run.ifcF K at_151 (pT := 198) (pF := 154) (by decide) (by decide) rfl (show ¬ ((3 : Int32) ≤ (0 : Int32)) from by decide) ?_
      refine Run.aload K at_154 (pc' := 156) rfl rfl rfl ?_
      refine Run.callV K at_156 (pc' := 159) rfl (a := n77) (z := (⟨"com/example/efcor/efcor/io/RecordReader", "readLong", "()J"⟩ : MethodName)) (Cn := "com/example/efcor/efcor/io/RecordReader") (i := 0) (hw _ (List.mem_of_getElem? (i := 35) rfl)) (hw _ (List.mem_of_getElem? (i := 36) rfl)) (hw _ (List.mem_of_getElem? (i := 38) rfl)) (hw _ (List.mem_of_getElem? (i := 37) rfl)) (hw _ (List.mem_of_getElem? (i := 3) rfl)) (hw _ (List.mem_of_getElem? (i := 39) rfl)) (by decide) rfl (rl_3 l Z a0 n0 hw [] (n77) (p1) (r68) ((((p3.toInt8.toInt32).toInt8.toInt32 ||| (128 : Int32)).toInt8.toInt32).toInt8.toInt32) ((((((p3.toUInt32 >>> ((8 : Int32) &&& 31).toUInt32).toInt32).toInt8.toInt32).toInt8.toInt32 ||| (128 : Int32)).toInt8.toInt32).toInt8.toInt32) ((((((p3.toUInt32 >>> ((16 : Int32) &&& 31).toUInt32).toInt32).toInt8.toInt32).toInt8.toInt32 &&& (127 : Int32)).toInt8.toInt32).toInt8.toInt32) ([]) ([]) (own_hi _) (own_hi _) (own_lo _)) (argsL := []) (rest := []) rfl rfl pd_3 rfl (W := 0) rfl (by decide) (by decide) (cells' := 2) (slots' := 6) rfl rfl (by decide) (by decide) (Ret.k (S' := [(.long ((((0 : Int64) ||| (((((((p3.toInt8.toInt32).toInt8.toInt32 ||| (128 : Int32)).toInt8.toInt32).toInt8.toInt32.toInt8.toInt32) &&& (127 : Int32)).toInt64) <<< ((0 : Int32) &&& 0x3f).toInt64)) ||| (((((((((p3.toUInt32 >>> ((8 : Int32) &&& 31).toUInt32).toInt32).toInt8.toInt32).toInt8.toInt32 ||| (128 : Int32)).toInt8.toInt32).toInt8.toInt32.toInt8.toInt32) &&& (127 : Int32)).toInt64) <<< ((7 : Int32) &&& 0x3f).toInt64)) ||| (((((((((p3.toUInt32 >>> ((16 : Int32) &&& 31).toUInt32).toInt32).toInt8.toInt32).toInt8.toInt32 &&& (127 : Int32)).toInt8.toInt32).toInt8.toInt32.toInt8.toInt32) &&& (127 : Int32)).toInt64) <<< ((14 : Int32) &&& 0x3f).toInt64)))]) rfl ?_)
      refine Run.as (D' := ([(n77, "com/example/efcor/efcor/io/RecordReader", [("com/example/efcor/efcor/io/RecordReader", "number", "J", (.long p1)), ("com/example/efcor/efcor/io/RecordReader", "bytes", "[B", (.ref r68)), ("com/example/efcor/efcor/io/RecordReader", "at", "I", (.int (3 : Int32)))])], [(r68, .byte, [(.int (((p3.toInt8.toInt32).toInt8.toInt32 ||| (128 : Int32)).toInt8.toInt32).toInt8.toInt32), (.int (((((p3.toUInt32 >>> ((8 : Int32) &&& 31).toUInt32).toInt32).toInt8.toInt32).toInt8.toInt32 ||| (128 : Int32)).toInt8.toInt32).toInt8.toInt32), (.int (((((p3.toUInt32 >>> ((16 : Int32) &&& 31).toUInt32).toInt32).toInt8.toInt32).toInt8.toInt32 &&& (127 : Int32)).toInt8.toInt32).toInt8.toInt32)])])) rfl ?_
      refine Run.pop2L K at_159 (pc' := 160) rfl ?_
      refine Run.goto K at_160 (pc' := 198) (by decide) (by decide) ?_
      refine Run.aload K at_198 (pc' := 200) rfl rfl rfl ?_
      refine Run.callV K at_200 (pc' := 203) rfl (a := n77) (z := (⟨"com/example/efcor/efcor/io/RecordReader", "end", "()V"⟩ : MethodName)) (Cn := "com/example/efcor/efcor/io/RecordReader") (i := 0) (hw _ (List.mem_of_getElem? (i := 25) rfl)) (hw _ (List.mem_of_getElem? (i := 26) rfl)) (hw _ (List.mem_of_getElem? (i := 28) rfl)) (hw _ (List.mem_of_getElem? (i := 27) rfl)) (hw _ (List.mem_of_getElem? (i := 3) rfl)) (hw _ (List.mem_of_getElem? (i := 29) rfl)) (by decide) rfl (en_3 l Z a0 n0 hw [] (n77) (p1) (r68) ((((p3.toInt8.toInt32).toInt8.toInt32 ||| (128 : Int32)).toInt8.toInt32).toInt8.toInt32) ((((((p3.toUInt32 >>> ((8 : Int32) &&& 31).toUInt32).toInt32).toInt8.toInt32).toInt8.toInt32 ||| (128 : Int32)).toInt8.toInt32).toInt8.toInt32) ((((((p3.toUInt32 >>> ((16 : Int32) &&& 31).toUInt32).toInt32).toInt8.toInt32).toInt8.toInt32 &&& (127 : Int32)).toInt8.toInt32).toInt8.toInt32) ([]) ([]) ) (argsL := []) (rest := []) rfl rfl pd_2 rfl (W := 0) rfl (by decide) (by decide) (cells' := 2) (slots' := 6) rfl rfl (by decide) (by decide) (Ret.k (S' := []) rfl ?_)
      refine Run.as (D' := ([(n77, "com/example/efcor/efcor/io/RecordReader", [("com/example/efcor/efcor/io/RecordReader", "number", "J", (.long p1)), ("com/example/efcor/efcor/io/RecordReader", "bytes", "[B", (.ref r68)), ("com/example/efcor/efcor/io/RecordReader", "at", "I", (.int (3 : Int32)))])], [(r68, .byte, [(.int (((p3.toInt8.toInt32).toInt8.toInt32 ||| (128 : Int32)).toInt8.toInt32).toInt8.toInt32), (.int (((((p3.toUInt32 >>> ((8 : Int32) &&& 31).toUInt32).toInt32).toInt8.toInt32).toInt8.toInt32 ||| (128 : Int32)).toInt8.toInt32).toInt8.toInt32), (.int (((((p3.toUInt32 >>> ((16 : Int32) &&& 31).toUInt32).toInt32).toInt8.toInt32).toInt8.toInt32 &&& (127 : Int32)).toInt8.toInt32).toInt8.toInt32)])])) rfl ?_
      refine Run.aload K at_203 (pc' := 205) rfl rfl rfl ?_
      refine Run.callV K at_205 (pc' := 208) rfl (a := n77) (z := (⟨"com/example/efcor/efcor/io/RecordReader", "end", "()V"⟩ : MethodName)) (Cn := "com/example/efcor/efcor/io/RecordReader") (i := 0) (hw _ (List.mem_of_getElem? (i := 25) rfl)) (hw _ (List.mem_of_getElem? (i := 26) rfl)) (hw _ (List.mem_of_getElem? (i := 28) rfl)) (hw _ (List.mem_of_getElem? (i := 27) rfl)) (hw _ (List.mem_of_getElem? (i := 3) rfl)) (hw _ (List.mem_of_getElem? (i := 29) rfl)) (by decide) rfl (en_3 l Z a0 n0 hw [] (n77) (p1) (r68) ((((p3.toInt8.toInt32).toInt8.toInt32 ||| (128 : Int32)).toInt8.toInt32).toInt8.toInt32) ((((((p3.toUInt32 >>> ((8 : Int32) &&& 31).toUInt32).toInt32).toInt8.toInt32).toInt8.toInt32 ||| (128 : Int32)).toInt8.toInt32).toInt8.toInt32) ((((((p3.toUInt32 >>> ((16 : Int32) &&& 31).toUInt32).toInt32).toInt8.toInt32).toInt8.toInt32 &&& (127 : Int32)).toInt8.toInt32).toInt8.toInt32) ([]) ([]) ) (argsL := []) (rest := []) rfl rfl pd_2 rfl (W := 0) rfl (by decide) (by decide) (cells' := 2) (slots' := 6) rfl rfl (by decide) (by decide) (Ret.k (S' := []) rfl ?_)
      refine Run.as (D' := ([(n77, "com/example/efcor/efcor/io/RecordReader", [("com/example/efcor/efcor/io/RecordReader", "number", "J", (.long p1)), ("com/example/efcor/efcor/io/RecordReader", "bytes", "[B", (.ref r68)), ("com/example/efcor/efcor/io/RecordReader", "at", "I", (.int (3 : Int32)))])], [(r68, .byte, [(.int (((p3.toInt8.toInt32).toInt8.toInt32 ||| (128 : Int32)).toInt8.toInt32).toInt8.toInt32), (.int (((((p3.toUInt32 >>> ((8 : Int32) &&& 31).toUInt32).toInt32).toInt8.toInt32).toInt8.toInt32 ||| (128 : Int32)).toInt8.toInt32).toInt8.toInt32), (.int (((((p3.toUInt32 >>> ((16 : Int32) &&& 31).toUInt32).toInt32).toInt8.toInt32).toInt8.toInt32 &&& (127 : Int32)).toInt8.toInt32).toInt8.toInt32)])])) rfl ?_
      refine Run.aload K at_208 (pc' := 210) rfl rfl rfl ?_
      refine Run.callV K at_210 (pc' := 213) rfl (a := n77) (z := (⟨"com/example/efcor/efcor/io/RecordReader", "number", "()J"⟩ : MethodName)) (Cn := "com/example/efcor/efcor/io/RecordReader") (i := 0) (hw _ (List.mem_of_getElem? (i := 30) rfl)) (hw _ (List.mem_of_getElem? (i := 31) rfl)) (hw _ (List.mem_of_getElem? (i := 33) rfl)) (hw _ (List.mem_of_getElem? (i := 32) rfl)) (hw _ (List.mem_of_getElem? (i := 3) rfl)) (hw _ (List.mem_of_getElem? (i := 34) rfl)) (by decide) rfl (rm6 l Z a0 n0 hw [] (n77) (p1) ((.ref r68)) ((3 : Int32)) ([]) ([(r68, .byte, [(.int (((p3.toInt8.toInt32).toInt8.toInt32 ||| (128 : Int32)).toInt8.toInt32).toInt8.toInt32), (.int (((((p3.toUInt32 >>> ((8 : Int32) &&& 31).toUInt32).toInt32).toInt8.toInt32).toInt8.toInt32 ||| (128 : Int32)).toInt8.toInt32).toInt8.toInt32), (.int (((((p3.toUInt32 >>> ((16 : Int32) &&& 31).toUInt32).toInt32).toInt8.toInt32).toInt8.toInt32 &&& (127 : Int32)).toInt8.toInt32).toInt8.toInt32)])]) ) (argsL := []) (rest := []) rfl rfl pd_3 rfl (W := 0) rfl (by decide) (by decide) (cells' := 2) (slots' := 6) rfl rfl (by decide) (by decide) (Ret.k (S' := [(.long p1)]) rfl ?_)
      refine Run.as (D' := ([(n77, "com/example/efcor/efcor/io/RecordReader", [("com/example/efcor/efcor/io/RecordReader", "number", "J", (.long p1)), ("com/example/efcor/efcor/io/RecordReader", "bytes", "[B", (.ref r68)), ("com/example/efcor/efcor/io/RecordReader", "at", "I", (.int (3 : Int32)))])], [(r68, .byte, [(.int (((p3.toInt8.toInt32).toInt8.toInt32 ||| (128 : Int32)).toInt8.toInt32).toInt8.toInt32), (.int (((((p3.toUInt32 >>> ((8 : Int32) &&& 31).toUInt32).toInt32).toInt8.toInt32).toInt8.toInt32 ||| (128 : Int32)).toInt8.toInt32).toInt8.toInt32), (.int (((((p3.toUInt32 >>> ((16 : Int32) &&& 31).toUInt32).toInt32).toInt8.toInt32).toInt8.toInt32 &&& (127 : Int32)).toInt8.toInt32).toInt8.toInt32)])])) rfl ?_
      refine Run.lloadN K at_213 (pc' := 214) rfl rfl ?_
      refine Run.lcmp K at_214 (pc' := 215) rfl ?_
      refine Run.ifLF K at_215 (pT := 222) (pF := 218) (by decide) (by decide) rfl (show ¬ (p1 ≠ p1) from fun h => h rfl) ?_
      refine Run.iconst K at_218 (pc' := 219) rfl (v := (1 : Int32)) rfl ?_
      refine Run.goto K at_219 (pc' := 223) (by decide) (by decide) ?_
      exact Run.retN K at_223 (w := (1 : Int32)) rfl (by decide) (by decide) (by decide) (by decide) rfl
set_option maxRecDepth 65536 in
set_option maxHeartbeats 40000000 in
theorem comes_1 {Post : Tables → Env → Array Value → State → Outcome → State → Prop} (hpost : ∀ tb e args s v u, (limb_1_1.after args s (.returned v) u = true ∧ limb_1_2.after args s (.returned v) u = true ∧ True) → FrameEnd s (.returned v) u (Jvm.fieldLocs frame_1_writes args s ++ Jvm.arrayLocs frame_1_arrays args s ++ Jvm.staticLocs frame_1_statics s) 16 128 → Post tb e args s (.returned v) u) :
    ArmFor flags0 classFile x code maxLocals ret World_1 tables_1 room_1 Calls_1 rest_1 Pre_1 Post := by
  intro l hfl _ _ p e ha hc hk s m args below hf hA hF happ hP
  obtain ⟨hcalls, hrest, hpre⟩ := hP
  obtain ⟨-, -, -, hnamed, -, -, -, hat⟩ := (Spec.applies_iff hf).mp happ
  obtain ⟨hg, hn⟩ := and_e (Cond.before_iff.mp (show (Jvm.Cond.and given_1 narrow_1).before args s = true from hpre))
  obtain ⟨g0, q0⟩ := and_e hg
  obtain ⟨w0, w1, w2, w3, rfl⟩ : ∃ w0 w1 w2 w3 : Value, args = #[w0, w1, w2, w3] := by
    have hs : args.size = 4 := by simpa [Cond.value, given_1] using g0
    obtain ⟨L⟩ := args
    match L, hs with
    | [w0, w1, w2, w3], _ => exact ⟨w0, w1, w2, w3, rfl⟩
  have hw := fun d (hd : d ∈ tables_1) => atoms_spec (ws := Jvm.Cond.code x code maxLocals ret :: tables_1) hat d (List.mem_cons_of_mem _ hd)
  obtain ⟨f0, q1⟩ := and_e q0
  obtain ⟨i0, e0⟩ := isL_v f0
  obtain rfl : w0 = (.long i0) := Option.some.inj e0
  obtain ⟨f1, q2⟩ := and_e q1
  obtain ⟨i1, e1⟩ := is_v f1
  obtain rfl : w1 = (.int i1) := Option.some.inj e1
  obtain ⟨f2, q3⟩ := and_e q2
  obtain ⟨i2, e2⟩ := is_v f2
  obtain rfl : w2 = (.int i2) := Option.some.inj e2
  obtain ⟨i3, e3⟩ := is_v q3
  obtain rfl : w3 = (.int i3) := Option.some.inj e3
  obtain ⟨n, o, h1, h2, h3, _, L, rfl, ⟨N, D', rfl, -⟩, hq⟩ := rm0 l s _ s.heap.size hw tables_1 i0 i1 i2 i3 s.heap ⟨Old.start s, fun _ h => (nomatch h), fun _ h => (nomatch h), List.nodup_nil⟩ p e ha hc hk s m _ below hf ((Spec.applies_iff_loose hf).mp happ).1 ⟨rfl, State.Warmed39.refl s, rfl⟩ trivial
  refine ⟨n, _, h1, h2, h3, hpost _ _ _ _ _ _ ⟨Cond.after_iff.mpr rfl, Cond.after_iff.mpr (eq_i res_at (Term.int_eval (1)) rfl), trivial⟩ ⟨hq.1, hq.2.1, (hq.2.2.sift fun y hy => Or.inr (N y hy)).mono (by decide) (by decide)⟩⟩
theorem main_1_1 : Claimed_1_1 := comes_1 fun _ _ _ _ _ _ h hF => ⟨h.1, hF⟩
theorem main_1_2 : Claimed_1_2 := comes_1 fun _ _ _ _ _ _ h hF => ⟨h.2.1, hF⟩
end Jvm.Pilot.@@N@@
namespace Jvm.Pilot.@@N@@
open Jvm Jvm.ClassFile Sem Op Lib Jvm.Free Jvm.Stand Jvm.Pilot.@@N@@.Jvm.D
/-! MADE BY PROGRAM (witnessworld.py) out of the Statement's table words and the real class files: 9 classes; the members and pool entries that the words name. The judged class is class 1, her method 1. -/
namespace start1
open Jvm.ClassFile
def u (s : String) : CpInfo := .utf8 (stringToUtf16 s)
/-- a pool by its gaps: so many unusable entries, then the entry; so many at the end -/
def gap : Nat → List CpInfo → List CpInfo
  | 0, r => r
  | n + 1, r => .unusable :: gap n r
def poolList (es : List (Nat × CpInfo)) (last : Nat) : List CpInfo := es.foldr (fun e r => gap e.1 (e.2 :: r)) (gap last [])
def pool (es : List (Nat × CpInfo)) (last : Nat) : Array CpInfo := ⟨poolList es last⟩
def fileOf (pool : Array CpInfo) (this : Nat) (attrs : Array Attribute := #[]) (ms : Array MethodInfo := #[]) (fl : Nat := 33) (sup : Nat := 0) (ifs : Array Nat := #[]) (fds : Array FieldInfo := #[]) : ClassFile where
  minorVersion := 0
  majorVersion := 65
  constantPool := pool
  accessFlags := fl
  thisClass := this
  superClass := sup
  interfaces := ifs
  fields := fds
  methods := ms
  attributes := attrs
def plain (name : String) (sup : Option ClassId) : Class where
  name := name
  kind := .ordinary
  loader := none
  accessFlags := 33
  super := sup
  interfaces := #[]
  cf := none
  fields := #[]
  methods := #[]
  instanceTypes := #[]
  staticTypes := #[]
  resolved := #[]
  callSites := []
  init := .initialized
  statics := none
  mirror := none

def pool0 : Array CpInfo := pool [(5, u "<init>"), (0, u "()V"), (1, .class_ 10), (1, u "java/lang/Object")] 113

def k0c0 : Code := { maxStack := 0, maxLocals := 1, code := object_method_1_code, exceptionTable := #[], attributes := #[] }
def k0m0 : Method := { name := "<init>", desc := "()V", sig := { parameters := [], returnType := none }, accessFlags := 1, code := some k0c0 }
/-- java/lang/Object -/
def k0 : Class := { plain "java/lang/Object" none with
  accessFlags := 33
  interfaces := #[]
  cf := some (fileOf pool0 8 #[] #[{ accessFlags := 1, nameIndex := 5, descriptorIndex := 6, attributes := #[] }] 33 0 #[] #[])
  fields := #[]
  methods := #[k0m0]
  instanceTypes := #[]
  staticTypes := #[]
  resolved := Array.replicate 124 none
  statics := none }

def pool1 : Array CpInfo := pool [(2, .class_ 4), (1, u "java/lang/Object"), (0, u "<init>"), (0, u "()V"), (0, .class_ 8), (0, u "com/example/efcor/efcor/io/RecordReader"), (0, .methodref 7 10), (0, .nameAndType 5 11), (0, u "(J[B)V"), (0, .methodref 7 13), (0, .nameAndType 14 15), (0, u "readLong"), (0, u "()J"), (0, .methodref 7 17), (0, .nameAndType 18 19), (0, u "readBoolean"), (0, u "()Z"), (0, .methodref 7 21), (0, .nameAndType 22 6), (0, u "end"), (0, .methodref 7 24), (0, .nameAndType 25 15), (0, u "number"), (0, .class_ 27), (0, u "com/example/efcor/efcor/io/RecordReaderEndPinLaw"), (2, u "law"), (0, u "(JIII)Z")] 5

def k1m0 : Method := { name := "<init>", desc := "()V", sig := { parameters := [], returnType := none }, accessFlags := 1, code := none }
def k1c1 : Code := { maxStack := 5, maxLocals := 9, code := code, exceptionTable := #[], attributes := #[] }
def k1m1 : Method := { name := "law", desc := "(JIII)Z", sig := { parameters := [.long, .int, .int, .int], returnType := some .boolean }, accessFlags := 9, code := some k1c1 }
/-- com/example/efcor/efcor/io/RecordReaderEndPinLaw -/
def k1 : Class := { plain "com/example/efcor/efcor/io/RecordReaderEndPinLaw" (some 0) with
  accessFlags := 49
  interfaces := #[]
  cf := some (fileOf pool1 26 #[] #[{ accessFlags := 1, nameIndex := 5, descriptorIndex := 6, attributes := #[] }, { accessFlags := 9, nameIndex := 30, descriptorIndex := 31, attributes := #[] }] 49 2 #[] #[])
  fields := #[]
  methods := #[k1m0, k1m1]
  instanceTypes := #[]
  staticTypes := #[]
  resolved := Array.replicate 37 none
  statics := none }

def pool2 : Array CpInfo := pool [(1, .methodref 2 3), (0, .class_ 4), (0, .nameAndType 5 6), (0, u "java/lang/Object"), (0, u "<init>"), (0, u "()V"), (0, .fieldref 8 9), (0, .class_ 10), (0, .nameAndType 11 12), (0, u "com/example/efcor/efcor/io/RecordReader"), (0, u "number"), (0, u "J"), (0, .fieldref 8 14), (0, .nameAndType 15 16), (0, u "bytes"), (0, u "[B"), (2, u "readLong"), (0, u "()J"), (8, .methodref 8 30), (0, .nameAndType 31 32), (0, u "next"), (0, u "()B"), (2, u "readBoolean"), (0, u "()Z"), (14, .fieldref 8 52), (0, .nameAndType 53 54), (0, u "at"), (0, u "I"), (100, u "(J[B)V"), (18, u "end")] 42

def k2c0 : Code := { maxStack := 3, maxLocals := 4, code := prog_7_method_1_code, exceptionTable := #[], attributes := #[] }
def k2m0 : Method := { name := "<init>", desc := "(J[B)V", sig := { parameters := [.long, (.array .byte)], returnType := none }, accessFlags := 1, code := some k2c0 }
def k2c1 : Code := { maxStack := 2, maxLocals := 1, code := prog_7_method_2_code, exceptionTable := #[], attributes := #[] }
def k2m1 : Method := { name := "number", desc := "()J", sig := { parameters := [], returnType := some .long }, accessFlags := 1, code := some k2c1 }
def k2c2 : Code := { maxStack := 5, maxLocals := 5, code := prog_7_method_4_code, exceptionTable := #[], attributes := #[] }
def k2m2 : Method := { name := "readLong", desc := "()J", sig := { parameters := [], returnType := some .long }, accessFlags := 1, code := some k2c2 }
def k2c3 : Code := { maxStack := 1, maxLocals := 1, code := prog_7_method_5_code, exceptionTable := #[], attributes := #[] }
def k2m3 : Method := { name := "readBoolean", desc := "()Z", sig := { parameters := [], returnType := some .boolean }, accessFlags := 1, code := some k2c3 }
def k2c4 : Code := { maxStack := 2, maxLocals := 1, code := prog_7_method_13_code, exceptionTable := #[], attributes := #[] }
def k2m4 : Method := { name := "end", desc := "()V", sig := { parameters := [], returnType := none }, accessFlags := 1, code := some k2c4 }
def k2c5 : Code := { maxStack := 5, maxLocals := 1, code := prog_7_method_14_code, exceptionTable := #[], attributes := #[] }
def k2m5 : Method := { name := "next", desc := "()B", sig := { parameters := [], returnType := some .byte }, accessFlags := 2, code := some k2c5 }
/-- com/example/efcor/efcor/io/RecordReader -/
def k2 : Class := { plain "com/example/efcor/efcor/io/RecordReader" (some 0) with
  accessFlags := 49
  interfaces := #[]
  cf := some (fileOf pool2 8 #[] #[{ accessFlags := 1, nameIndex := 5, descriptorIndex := 155, attributes := #[] }, { accessFlags := 1, nameIndex := 11, descriptorIndex := 20, attributes := #[] }, { accessFlags := 1, nameIndex := 19, descriptorIndex := 20, attributes := #[] }, { accessFlags := 1, nameIndex := 35, descriptorIndex := 36, attributes := #[] }, { accessFlags := 1, nameIndex := 174, descriptorIndex := 6, attributes := #[] }, { accessFlags := 2, nameIndex := 31, descriptorIndex := 32, attributes := #[] }] 49 2 #[] #[{ accessFlags := 18, nameIndex := 11, descriptorIndex := 12, attributes := #[] }, { accessFlags := 18, nameIndex := 15, descriptorIndex := 16, attributes := #[] }, { accessFlags := 2, nameIndex := 53, descriptorIndex := 54, attributes := #[] }])
  fields := #[{ name := "number", type := .long, accessFlags := 18, slot := 0, constantValue := 0 }, { name := "bytes", type := (.array .byte), accessFlags := 18, slot := 1, constantValue := 0 }, { name := "at", type := .int, accessFlags := 2, slot := 2, constantValue := 0 }]
  methods := #[k2m0, k2m1, k2m2, k2m3, k2m4, k2m5]
  instanceTypes := #[.long, (.array .byte), .int]
  staticTypes := #[]
  resolved := Array.replicate 217 none
  statics := none }

def pool3 : Array CpInfo := pool [(1, u "java/lang/Cloneable"), (0, .class_ 1), (0, u "java/lang/Object"), (0, .class_ 3)] 3

/-- java/lang/Cloneable -/
def k3 : Class := { plain "java/lang/Cloneable" (some 0) with
  accessFlags := 1537
  interfaces := #[]
  cf := some (fileOf pool3 2 #[] #[] 1537 4 #[] #[])
  fields := #[]
  methods := #[]
  instanceTypes := #[]
  staticTypes := #[]
  resolved := Array.replicate 8 none
  statics := none }

def pool4 : Array CpInfo := pool [(1, u "java/io/Serializable"), (0, .class_ 1), (0, u "java/lang/Object"), (0, .class_ 3)] 3

/-- java/io/Serializable -/
def k4 : Class := { plain "java/io/Serializable" (some 0) with
  accessFlags := 1537
  interfaces := #[]
  cf := some (fileOf pool4 2 #[] #[] 1537 4 #[] #[])
  fields := #[]
  methods := #[]
  instanceTypes := #[]
  staticTypes := #[]
  resolved := Array.replicate 8 none
  statics := none }

/-- the primitive byte -/
def k5 : Class := { plain "byte" none with kind := .primitive 'B', accessFlags := 0x411 }
/-- [B -/
def k6 : Class := { plain "[B" (some 0) with kind := .array 5 .byte, interfaces := #[3, 4], accessFlags := 1041 }

/-- the primitive int -/
def k7 : Class := { plain "int" none with kind := .primitive 'I', accessFlags := 0x411 }
/-- [I -/
def k8 : Class := { plain "[I" (some 0) with kind := .array 7 .int, interfaces := #[3, 4], accessFlags := 1041 }

def heap : Heap := #[]
def classes : Array Class := #[k0, k1, k2, k3, k4, k5, k6, k7, k8]
def interned : List (Array UInt16 × Addr) := []
def slotsUsed : Nat := 0
def theMethod : MethodId := ⟨1, 1⟩
def args0 : Array Value := #[.long 5, .int 5, .int 5, .int 5]
def aboutOver (below : List Frame) : State where
  vm := { classes := classes, interned := interned.toArray }
  heap := heap
  slotsUsed := slotsUsed
  threads := #[{ frames := .invoking theMethod args0 :: below }]
def below0 : List Frame := [.native { method := ⟨0, 0⟩, args := #[] }]
def about1 : State := aboutOver below0
def p0 : Program := .bare "" "" ""
def e0 : Env := launch0.env 0 0 0
theorem w_frames : about1.frames = Frame.invoking theMethod args0 :: below0 := rfl
set_option maxRecDepth 65536 in
theorem w_args : argsFit about1.vm theMethod args0 = true := by decide +kernel
set_option maxRecDepth 65536 in
theorem w_heap : heapFits about1 = true := by decide +kernel
set_option maxRecDepth 65536 in
theorem w_runnable : about1.curStatus? = some .runnable := by decide +kernel
set_option maxRecDepth 65536 in
theorem w_alone : about1.alone = true := by decide +kernel
set_option maxRecDepth 65536 in
theorem w_named : about1.methodNamed? x = some theMethod := by decide +kernel
set_option maxRecDepth 65536 in
theorem w_hears : about1.hears theMethod below0 = true := by decide +kernel
set_option maxRecDepth 65536 in
theorem w_ripe : about1.ripe theMethod args0 below0 = true := by decide +kernel
theorem w_running : about1.status = .running := rfl
set_option maxRecDepth 65536 in
theorem w_room : about1.hasRoom e0.platform room_1 = true :=
  launch0.hasRoom_least _ room_1 (by decide +kernel) (by decide +kernel) (by decide +kernel) (by decide +kernel) (by decide +kernel) (by decide +kernel)
theorem allAtoms_all (ts : List Jvm.Cond) (a : Array Jvm.Value) (st : Jvm.State) : (allAtoms ts).before a st = ts.all (fun c => c.before a st) := by
  induction ts with
  | nil => rfl
  | cons c t ih =>
    show (Jvm.Cond.and c (allAtoms t)).before a st = _
    rw [Jvm.Cond.before_and, ih, List.all_cons]
def words1 : List Jvm.Cond := Jvm.Cond.code x code maxLocals ret :: tables_1
/-- a 'code' word, met by the world's own term for the bytes: nothing is compared byte by byte -/
theorem code_word {y : MethodName} {bytes : ByteArray} {mx : Nat} {rt : Option FieldType} {a : Array Value} {s : State} {m : MethodId} {meth : Method} {c : Code} (h1 : s.methodNamed? y = some m) (h2 : s.vm.method? m = some meth) (h3 : meth.code = some c) (h4 : c.code = bytes)
    (h5 : (c.maxLocals == mx && c.exceptionTable.isEmpty && decide (c.maxStack ≤ mostOperands) && decide (meth.sig.returnType = rt) && !meth.locks && decide (parseMethodDescriptor y.desc = some meth.sig)) = true) : (Jvm.Cond.code y bytes mx rt).before a s = true := by
  simp only [Bool.and_eq_true, beq_iff_eq, Bool.not_eq_true', decide_eq_true_eq] at h5
  obtain ⟨⟨⟨⟨⟨g1, g2⟩, g3⟩, g4⟩, g5⟩, g6⟩ := h5
  simp [Cond.before, Cond.holds, Cond.value, h1, h2, h3, h4, g1, g2, g3, g4, g5, g6]
def isCode : Jvm.Cond → Bool
  | .code _ _ _ _ => true
  | _ => false
theorem all_split {L : List Jvm.Cond} {P : Jvm.Cond → Bool} (h1 : L.all (fun c => isCode c || P c) = true) (h2 : ∀ c ∈ L.filter isCode, P c = true) : L.all P = true := by
  refine List.all_eq_true.mpr fun c hc => ?_
  have h := List.all_eq_true.mp h1 c hc
  rcases Bool.eq_false_or_eq_true (isCode c) with hi | hi
  · exact h2 c (List.mem_filter.mpr ⟨hc, hi⟩)
  · simpa [hi] using h
set_option maxRecDepth 65536 in
theorem w_c0 : (Jvm.Cond.code x code maxLocals ret).before args0 about1 = true := code_word (m := ⟨1, 1⟩) (meth := k1m1) (c := k1c1) (by decide +kernel) rfl rfl rfl (by decide +kernel)
set_option maxRecDepth 65536 in
theorem w_c1 : (Jvm.Cond.code ({ cls := "com/example/efcor/efcor/io/RecordReader", name := "<init>", desc := "(J[B)V" } : Jvm.MethodName) prog_7_method_1_code (4 : Nat) (Option.none : Option Jvm.ClassFile.FieldType)).before args0 about1 = true := code_word (m := ⟨2, 0⟩) (meth := k2m0) (c := k2c0) (by decide +kernel) rfl rfl rfl (by decide +kernel)
set_option maxRecDepth 65536 in
theorem w_c2 : (Jvm.Cond.code ({ cls := "java/lang/Object", name := "<init>", desc := "()V" } : Jvm.MethodName) object_method_1_code (1 : Nat) (Option.none : Option Jvm.ClassFile.FieldType)).before args0 about1 = true := code_word (m := ⟨0, 0⟩) (meth := k0m0) (c := k0c0) (by decide +kernel) rfl rfl rfl (by decide +kernel)
set_option maxRecDepth 65536 in
theorem w_c3 : (Jvm.Cond.code ({ cls := "com/example/efcor/efcor/io/RecordReader", name := "readBoolean", desc := "()Z" } : Jvm.MethodName) prog_7_method_5_code (1 : Nat) (Option.some Jvm.ClassFile.FieldType.boolean)).before args0 about1 = true := code_word (m := ⟨2, 3⟩) (meth := k2m3) (c := k2c3) (by decide +kernel) rfl rfl rfl (by decide +kernel)
set_option maxRecDepth 65536 in
theorem w_c4 : (Jvm.Cond.code ({ cls := "com/example/efcor/efcor/io/RecordReader", name := "next", desc := "()B" } : Jvm.MethodName) prog_7_method_14_code (1 : Nat) (Option.some Jvm.ClassFile.FieldType.byte)).before args0 about1 = true := code_word (m := ⟨2, 5⟩) (meth := k2m5) (c := k2c5) (by decide +kernel) rfl rfl rfl (by decide +kernel)
set_option maxRecDepth 65536 in
theorem w_c5 : (Jvm.Cond.code ({ cls := "com/example/efcor/efcor/io/RecordReader", name := "end", desc := "()V" } : Jvm.MethodName) prog_7_method_13_code (1 : Nat) (Option.none : Option Jvm.ClassFile.FieldType)).before args0 about1 = true := code_word (m := ⟨2, 4⟩) (meth := k2m4) (c := k2c4) (by decide +kernel) rfl rfl rfl (by decide +kernel)
set_option maxRecDepth 65536 in
theorem w_c6 : (Jvm.Cond.code ({ cls := "com/example/efcor/efcor/io/RecordReader", name := "number", desc := "()J" } : Jvm.MethodName) prog_7_method_2_code (1 : Nat) (Option.some Jvm.ClassFile.FieldType.long)).before args0 about1 = true := code_word (m := ⟨2, 1⟩) (meth := k2m1) (c := k2c1) (by decide +kernel) rfl rfl rfl (by decide +kernel)
set_option maxRecDepth 65536 in
theorem w_c7 : (Jvm.Cond.code ({ cls := "com/example/efcor/efcor/io/RecordReader", name := "readLong", desc := "()J" } : Jvm.MethodName) prog_7_method_4_code (5 : Nat) (Option.some Jvm.ClassFile.FieldType.long)).before args0 about1 = true := code_word (m := ⟨2, 2⟩) (meth := k2m2) (c := k2c2) (by decide +kernel) rfl rfl rfl (by decide +kernel)
def codes1 : List Jvm.Cond := [Jvm.Cond.code x code maxLocals ret, Jvm.Cond.code ({ cls := "com/example/efcor/efcor/io/RecordReader", name := "<init>", desc := "(J[B)V" } : Jvm.MethodName) prog_7_method_1_code (4 : Nat) (Option.none : Option Jvm.ClassFile.FieldType), Jvm.Cond.code ({ cls := "java/lang/Object", name := "<init>", desc := "()V" } : Jvm.MethodName) object_method_1_code (1 : Nat) (Option.none : Option Jvm.ClassFile.FieldType), Jvm.Cond.code ({ cls := "com/example/efcor/efcor/io/RecordReader", name := "readBoolean", desc := "()Z" } : Jvm.MethodName) prog_7_method_5_code (1 : Nat) (Option.some Jvm.ClassFile.FieldType.boolean), Jvm.Cond.code ({ cls := "com/example/efcor/efcor/io/RecordReader", name := "next", desc := "()B" } : Jvm.MethodName) prog_7_method_14_code (1 : Nat) (Option.some Jvm.ClassFile.FieldType.byte), Jvm.Cond.code ({ cls := "com/example/efcor/efcor/io/RecordReader", name := "end", desc := "()V" } : Jvm.MethodName) prog_7_method_13_code (1 : Nat) (Option.none : Option Jvm.ClassFile.FieldType), Jvm.Cond.code ({ cls := "com/example/efcor/efcor/io/RecordReader", name := "number", desc := "()J" } : Jvm.MethodName) prog_7_method_2_code (1 : Nat) (Option.some Jvm.ClassFile.FieldType.long), Jvm.Cond.code ({ cls := "com/example/efcor/efcor/io/RecordReader", name := "readLong", desc := "()J" } : Jvm.MethodName) prog_7_method_4_code (5 : Nat) (Option.some Jvm.ClassFile.FieldType.long)]
set_option maxRecDepth 65536 in
theorem codes_eq : words1.filter isCode = codes1 := rfl
theorem w_codes : ∀ c ∈ words1.filter isCode, c.before args0 about1 = true := by
  rw [codes_eq]
  intro c hc
  simp only [codes1, List.mem_cons, List.not_mem_nil, or_false] at hc
  rcases hc with rfl | rfl | rfl | rfl | rfl | rfl | rfl | rfl
  · exact w_c0
  · exact w_c1
  · exact w_c2
  · exact w_c3
  · exact w_c4
  · exact w_c5
  · exact w_c6
  · exact w_c7
set_option maxRecDepth 65536 in
theorem w_t1 : (words1.take 24).all (fun c => isCode c || c.before args0 about1) = true := by decide +kernel
set_option maxRecDepth 65536 in
theorem w_t2 : (words1.drop 24).all (fun c => isCode c || c.before args0 about1) = true := by decide +kernel
theorem w_tables : (allAtoms (Jvm.Cond.code x code maxLocals ret :: tables_1)).before args0 about1 = true := by
  rw [allAtoms_all]
  show words1.all (fun c => c.before args0 about1) = true
  refine all_split ?_ w_codes
  rw [← List.take_append_drop 24 words1, List.all_append, w_t1, w_t2]
  rfl
set_option maxRecDepth 65536 in
theorem w_case : (Jvm.Cond.and given_1 narrow_1).before args0 about1 = true := by decide +kernel
theorem w_applies : (headSpec (Jvm.Cond.code x code maxLocals ret :: tables_1) room_1).applies x e0.platform about1 = true :=
  (Spec.applies_iff w_frames).mpr ⟨w_running, w_runnable, w_alone, w_named, w_hears, w_ripe, w_room, w_tables⟩
theorem atStart : AtStart classFile x code maxLocals ret World_1 tables_1 room_1 Calls_1 rest_1 Pre_1 launch0 p0 e0 about1 theMethod args0 below0 :=
  ⟨lists_1, trivial, launch0.admits_env _ _ _, launch0.least_env, fairChoices_fair.cas, fairChoices_fair.clock, w_frames, w_args, w_heap, w_applies, trivial, trivial, w_case⟩
end start1
theorem witness_1 : WitnessClaimed_1 := ⟨start1.p0, start1.e0, start1.about1, start1.theMethod, start1.args0, start1.below0, start1.atStart⟩
end Jvm.Pilot.@@N@@
